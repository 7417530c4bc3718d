/-
  The walk of the law FnDecodeMore (with the bound of the second form): it returns true and changes nothing that was there. FnDecodeMore, where the arguments hold at most 1048576 values: of a text that goes on, the whole groups are decoded and consumed, and a group that is begun is not.
-/
import Derived.Test.YthhbcnjbnfjiiaaDoorProg
import Derived.Test.YthhbcnjbnfjiiaaDoorOpenArgs
import Derived.WalkKit
import Derived.Below
import Derived.WalkSmall
import Derived.Lib.Hide
import Derived.Test.YthhbcnjbnfjiiaaDoorSpecOver
import Derived.Test.YthhbcnjbnfjiiaaDoorSame
import Derived.Test.YthhbcnjbnfjiiaaDoorPlainDec3
namespace Go.Proofs.YthhbcnjbnfjiiaaDoor.fnDecodeMoreUpto
open Go.RowKit
set_option linter.unusedVariables false

theorem decM_used {l : List Nat} {flush : Bool} {o : List Nat} {u : Nat} (h : decM l flush = .ok o u) : (flush = true → u = l.length) ∧ u ≤ l.length ∧ o.length ≤ 4 * l.length + 4 :=
  PlainDec.dgo_used l 0 PlainDec.init o u (PlainDec.inv_init _) (by simp) (Nat.le_refl _) h

set_option maxRecDepth 100000 in
set_option maxHeartbeats 1000000 in
theorem walk (A0 : Option Addr) (n0 c0 : Nat) (l0 : List Nat) (w : World) (b0 : BS w w.heap.size A0 n0 l0) (nc0 : n0 ≤ c0) (r0 : c0 ≤ 1048576) (hg : ErrType w) :
    Calls Tryd.prog 10 #[.slice A0 n0 c0] w fun e w' => e = .returned (.bool true) ∧ Below w.heap.size w w' := by
  obtain rfl : l0.length = n0 := b0.len
  have hm : c0 ≤ maxLen := by unfold maxLen; omega
  have hpos := hg.pos
  have HG := Lib.hid hg
  clear hg
  obtain ⟨R, hR⟩ : ∃ R, decM l0 false = R := ⟨_, rfl⟩
  have HR := Lib.hid hR
  clear hR
  go_enter Tryd.func10, Tryd.ntmps10
  go_wp2_with fail
  refine (decoded_any A0 l0.length c0 l0 false w w.heap.size (Nat.le_refl _) (by omega) b0).mono ?_
  rintro e w1 ⟨v1, u1, rfl, hok, hb1⟩
  rw [HR.out] at hok ⊢
  have hw1 := hb1.size
  cases R with
  | bad a =>
    clear hok HR
    simp only [badInt]
    have ea : decide (0 ≤ (a : Int)) = true := decide_eq_true (by omega)
    go_wp2
    go_ret
    exact ⟨rfl, hb1⟩
  | ok o u =>
    obtain ⟨rfl, hown⟩ := hok o u rfl
    obtain ⟨hu1, hu2, ho⟩ := decM_used HR.out
    have HOW := Lib.hid hown
    clear hok hown hu1
    simp only [badInt]
    go_wp2_with fail
    refine (overflows_any A0 l0.length c0 l0 false w1 w.heap.size hw1 (by omega) (b0.below hb1)).mono ?_
    rintro e w2 ⟨⟨r, rfl⟩, hb2⟩
    have hb02 : Below w.heap.size w w2 := hb1.trans (hb2.mono hw1)
    have hown2 := HOW.out.below hb2
    cases r with
    | true =>
      go_wp2
      go_ret
      exact ⟨rfl, hb02⟩
    | false =>
      have HO2 := Lib.hid hown2
      clear hown2
      go_wp2_with fail
      refine (implDecode_any A0 l0.length c0 l0 false w2 w.heap.size hb02.size nc0 hm (by omega) (b0.below hb02) (HG.out.below hb02 hpos)).mono ?_
      rintro e w3 ⟨v3, rfl, hv3, hb3⟩
      rw [HR.out] at hv3 ⊢
      simp only [outOf, usedOf, badOf, atOf] at hv3 ⊢
      obtain ⟨L, hL⟩ : ∃ L, o.length = L := ⟨_, rfl⟩
      obtain ⟨A3, c3, rfl, hc3, hm3, bs3⟩ := hv3.at_ hL
      obtain ⟨A1, c1, rfl, hc1, hm1, bs1⟩ := (HO2.out.below hb3).at_ hL
      have hb03 : Below w.heap.size w w3 := hb02.trans (hb3.mono hb02.size)
      have b03 := b0.below hb03
      have hLle : L ≤ 9223372036854775807 := by omega
      clear hv3 hL HR ho
      go_wp2_with fail
      refine (same_true A3 L c3 A1 L c1 o w3 _ _ hLle bs3 bs1).mono ?_
      rintro e w4 ⟨rfl, rfl⟩
      go_wp2_with fail
      all_goals
        refine (blank_true _ 0 _ [] w3 0 (by omega) (BS.nil _ _ _) (by simp)).mono ?_
        rintro e w5 ⟨rfl, rfl⟩
        go_wp2
        go_ret
        exact ⟨rfl, hb03⟩

end Go.Proofs.YthhbcnjbnfjiiaaDoor.fnDecodeMoreUpto

/-
  The walk of the law FnCorrupt (with the bound of the second form): it returns true and changes nothing that was there. FnCorrupt, where the arguments hold at most 1048576 values: a text with a byte that is no digit, or with one digit alone at its end, is corrupt, whether it goes on or not.
-/
import Derived.Test.YthhbcnjbnfjiiaaDoorProg
import Derived.Test.YthhbcnjbnfjiiaaDoorOpenArgs
import Derived.WalkKit
import Derived.Below
import Derived.WalkSmall
import Derived.Lib.Hide
import Derived.Test.YthhbcnjbnfjiiaaDoorSpecOver
import Derived.Test.YthhbcnjbnfjiiaaDoorSame
import Derived.Test.YthhbcnjbnfjiiaaDoorPlainDec3
namespace Go.Proofs.YthhbcnjbnfjiiaaDoor.fnCorruptUpto
open Go.RowKit
set_option linter.unusedVariables false

theorem decM_used {l : List Nat} {flush : Bool} {o : List Nat} {u : Nat} (h : decM l flush = .ok o u) : (flush = true → u = l.length) ∧ u ≤ l.length ∧ o.length ≤ 4 * l.length + 4 :=
  PlainDec.dgo_used l 0 PlainDec.init o u (PlainDec.inv_init _) (by simp) (Nat.le_refl _) h

set_option maxRecDepth 100000 in
set_option maxHeartbeats 1000000 in
theorem walk (A0 : Option Addr) (n0 c0 : Nat) (l0 : List Nat) (a1 : Bool) (w : World) (b0 : BS w w.heap.size A0 n0 l0) (nc0 : n0 ≤ c0) (r0 : c0 ≤ 1048576) (hg : ErrType w) :
    Calls Tryd.prog 7 #[.slice A0 n0 c0, .bool a1] w fun e w' => e = .returned (.bool true) ∧ Below w.heap.size w w' := by
  obtain rfl : l0.length = n0 := b0.len
  have hm : c0 ≤ maxLen := by unfold maxLen; omega
  have hpos := hg.pos
  have HG := Lib.hid hg
  clear hg
  obtain ⟨R, hR⟩ : ∃ R, decM l0 a1 = R := ⟨_, rfl⟩
  have HR := Lib.hid hR
  clear hR
  go_enter Tryd.func7, Tryd.ntmps7
  go_wp2_with fail
  refine (decoded_any A0 l0.length c0 l0 a1 w w.heap.size (Nat.le_refl _) (by omega) b0).mono ?_
  rintro e w1 ⟨v1, u1, rfl, _, hb1⟩
  rw [HR.out]
  have hw1 := hb1.size
  go_wp2_with fail
  refine (implDecode_any A0 l0.length c0 l0 a1 w1 w.heap.size hb1.size nc0 hm (by omega) (b0.below hb1) (HG.out.below hb1 hpos)).mono ?_
  rintro e w2 ⟨v2, rfl, _, hb2⟩
  rw [HR.out]
  have hb02 : Below w.heap.size w w2 := hb1.trans (hb2.mono hw1)
  go_wp2_with fail
  refine (has127_any A0 l0.length c0 l0 w2 w.heap.size (by omega) (b0.below hb02)).mono ?_
  rintro e w3 ⟨⟨r, rfl⟩, rfl⟩
  cases r with
  | true =>
    go_wp2
    go_ret
    exact ⟨rfl, hb02⟩
  | false =>
    go_wp2_with fail
    refine (overflows_any A0 l0.length c0 l0 a1 w2 w.heap.size hb02.size (by omega) (b0.below hb02)).mono ?_
    rintro e w4 ⟨⟨r, rfl⟩, hb4⟩
    have hb04 : Below w.heap.size w w4 := hb02.trans (hb4.mono hb02.size)
    cases r with
    | true =>
      go_wp2
      go_ret
      exact ⟨rfl, hb04⟩
    | false =>
      cases R with
      | bad a =>
        simp only [badInt, badOf]
        have ea : decide (0 ≤ (a : Int)) = true := decide_eq_true (by omega)
        go_wp2
        go_ret
        exact ⟨rfl, hb04⟩
      | ok o u =>
        simp only [badInt, badOf]
        go_wp2
        go_ret
        exact ⟨rfl, hb04⟩

end Go.Proofs.YthhbcnjbnfjiiaaDoor.fnCorruptUpto

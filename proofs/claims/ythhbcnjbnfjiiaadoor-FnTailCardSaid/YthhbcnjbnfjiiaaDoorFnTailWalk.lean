/-
  The walk of the law FnTail (in full): it returns true and changes nothing that was there. Proved: for all byte slices a and rest the law FnTail returns true (without the flush, whole groups are decoded and what begins another group is left), and the arguments read afterwards as before; errors.errorType is tied to the program's text by the given tie. Conditions: none but those of the given card.
-/
import Derived.Test.YthhbcnjbnfjiiaaDoorProg
import Derived.Test.YthhbcnjbnfjiiaaDoorOpenArgs
import Derived.WalkKit
import Derived.Below
import Derived.WalkSmall
import Derived.Lib.Hide
import Derived.Test.YthhbcnjbnfjiiaaDoorImplDec
import Derived.Test.YthhbcnjbnfjiiaaDoorEqual
import Derived.Test.YthhbcnjbnfjiiaaDoorPlainDec2
namespace Go.Proofs.YthhbcnjbnfjiiaaDoor.fnTail
open Go.RowKit
set_option linter.unusedVariables false

open Plain85 (enc)
theorem dec_tail_more (m : Nat) (a r : List Nat) (ha : a.length = 4 * m) (h4 : r.length < 4) (hb : ∀ x ∈ a, x < 256) (hr : ∀ x ∈ r, x < 256) : decM (enc a ++ enc r) false = .ok a (enc a).length := by
  unfold decM
  have hle := PlainDec.enc_len_ge a
  have hg := PlainDec.dgo_groups m (room := 4 * (enc a ++ enc r).length + 4) (n := (enc a ++ enc r).length) (flush := false) (t := enc r) a [] 0 ha hb (by rw [List.length_append]; simp; omega)
  show PlainDec.dgo _ false _ (enc a ++ enc r) 0 ⟨[], 0, 0, 0⟩ = _
  rw [hg, PlainDec.dgo_rest_more h4 hr (by rw [List.length_append, List.length_append]; simp; omega)]
  simp

set_option maxRecDepth 100000 in
set_option maxHeartbeats 1000000 in
theorem walk (A0 : Option Addr) (n0 c0 : Nat) (l0 : List Nat) (A1 : Option Addr) (n1 c1 : Nat) (l1 : List Nat) (w : World) (b0 : BS w w.heap.size A0 n0 l0) (nc0 : n0 ≤ c0) (r0 : c0 ≤ 140737488351232) (b1 : BS w w.heap.size A1 n1 l1) (nc1 : n1 ≤ c1) (r1 : c1 ≤ 140737488351232) (hg : ErrType w) :
    Calls Tryd.prog 4 #[.slice A0 n0 c0, .slice A1 n1 c1] w fun e w' => e = .returned (.bool true) ∧ Below w.heap.size w w' := by
  have hm : c0 ≤ maxLen := by unfold maxLen; omega
  have hm1 : c1 ≤ maxLen := by unfold maxLen; omega
  obtain ⟨k, hk⟩ : ∃ k, n0 - n0 % 4 = 4 * k := ⟨n0 / 4, by omega⟩
  have hk0 : 4 * k ≤ n0 := by omega
  have hsub : (n0 : Int) - (n0 : Int) % 4 = ((4 * k : Nat) : Int) := by omega
  have b0k := b0.take hk0
  by_cases hbig : 100000 < 4 * k
  · have e1 : decide (100000 < 4 * (k : Int)) = true := decide_eq_true (by omega)
    go_enter Tryd.func4, Tryd.ntmps4
    go_wp2
    go_ret
    exact ⟨rfl, Below.refl _ _⟩
  · have e1 : decide (100000 < 4 * (k : Int)) = false := decide_eq_false (by omega)
    by_cases hr3 : 3 < n1
    · have e2 : decide (3 < (n1 : Int)) = true := decide_eq_true (by omega)
      go_enter Tryd.func4, Tryd.ntmps4
      go_wp2
      go_ret
      exact ⟨rfl, Below.refl _ _⟩
    · have e2 : decide (3 < (n1 : Int)) = false := decide_eq_false (by omega)
      have hke : (l0.take (4 * k)).length = 4 * k := b0k.len
      have HKE := Lib.hid hke
      have hpos := hg.pos
      have HG := Lib.hid hg
      clear hg hke
      generalize l0.take (4 * k) = la at *
      go_enter Tryd.func4, Tryd.ntmps4
      go_wp2_with fail
      refine (implEncode_any A0 (4 * k) c0 la w w.heap.size (Nat.le_refl _) (by omega) hm (by omega) b0k).mono ?_
      rintro e w1 ⟨v1, rfl, hv1, hb1⟩
      obtain ⟨L, hL⟩ : ∃ L, (enc la).length = L := ⟨_, rfl⟩
      obtain ⟨A2, c2, rfl, hc2, hm2, bs2⟩ := hv1.at_ hL
      have hLle : L ≤ 200000 := by rw [← hL]; have := Plain85.enc_le la; rw [b0k.len] at this; omega
      have hw1 := hb1.size
      have HL := Lib.hid hL
      clear hL hv1 e1 e2 hsub
      go_wp2_with fail
      refine (implEncode_any A1 n1 c1 l1 w1 w.heap.size hw1 nc1 hm1 (by omega) (b1.below hb1)).mono ?_
      rintro e w2 ⟨v2, rfl, hv2, hb2⟩
      obtain ⟨L2, hL2⟩ : ∃ L, (enc l1).length = L := ⟨_, rfl⟩
      obtain ⟨A3, c3, rfl, hc3, hm3, bs3⟩ := hv2.at_ hL2
      have hL2le : L2 ≤ 200000 := by rw [← hL2]; have := Plain85.enc_le l1; rw [b1.len] at this; omega
      have hw2 := hb2.size
      have bs2' := (bs2.below hb2).mono hw2
      have hb02 : Below w.heap.size w w2 := hb1.trans (hb2.mono hw1)
      clear hv2
      go_wp2_with fail
      refine (both_any w2 w2.heap.size A2 L c2 (enc la) A3 L2 c3 (enc l1) (Nat.le_refl _) bs2' bs3 (by omega)).mono ?_
      rintro e w3 ⟨v3, rfl, hv3, hb3⟩
      obtain ⟨A4, c4, rfl, hc4, hm4, bs4⟩ := hv3.at_ (n := L + L2) (by rw [List.length_append, HL.out, hL2])
      have hb03 : Below w.heap.size w w3 := hb02.trans (hb3.mono (by omega))
      have hdm := dec_tail_more k la l1 HKE.out (by have := b1.len; omega) b0k.lt b1.lt
      rw [HL.out] at hdm
      have HDM := Lib.hid hdm
      clear hv3 hdm hL2
      go_wp2_with fail
      refine (implDecode_any A4 (L + L2) c4 (enc la ++ enc l1) false w3 w3.heap.size (Nat.le_refl _) hc4 hm4 (by omega) bs4 (HG.out.below hb03 hpos)).mono ?_
      rintro e w4 ⟨v4, rfl, hv4, hb4⟩
      rw [HDM.out] at hv4 ⊢
      simp only [outOf, usedOf, badOf, atOf] at hv4 ⊢
      obtain ⟨A5, c5, rfl, hc5, hm5, bs5⟩ := hv4.at_ HKE.out
      have hb04 : Below w.heap.size w w4 := hb03.trans (hb4.mono hb03.size)
      have b04 := b0k.below hb04
      clear HDM hv4
      go_wp2_with fail
      refine (equal_any A5 (4 * k) c5 A0 (4 * k) c0 la la w4 _ _ bs5 b04).mono ?_
      rintro e w5 ⟨rfl, rfl⟩
      rw [decide_eq_true rfl]
      go_wp2
      go_ret
      exact ⟨by simp, hb04⟩

end Go.Proofs.YthhbcnjbnfjiiaaDoor.fnTail

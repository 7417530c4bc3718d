/-
  The walk of the law FnEncodeDecode (in full): it returns true and changes nothing that was there. Proved: for every byte slice the law FnEncodeDecode returns true (what is encoded is decoded again, whole and without an error), and the argument reads afterwards as before; errors.errorType is tied to the program's text by the given tie. Conditions: none but those of the given card.
-/
import Derived.Test.YthhbcnjbnfjiiaaDoorProg
import Derived.Test.YthhbcnjbnfjiiaaDoorOpenArgs
import Derived.WalkKit
import Derived.Below
import Derived.WalkSmall
import Derived.Lib.Hide
import Derived.Test.YthhbcnjbnfjiiaaDoorImplDec
import Derived.Test.YthhbcnjbnfjiiaaDoorEqual
import Derived.Test.YthhbcnjbnfjiiaaDoorPlainDec2
namespace Go.Proofs.YthhbcnjbnfjiiaaDoor.fnEncodeDecode
open Go.RowKit
set_option linter.unusedVariables false

open Plain85 (enc)
theorem dec_enc (l : List Nat) (hb : ∀ x ∈ l, x < 256) : decM (enc l) true = .ok l (enc l).length := by
  unfold decM
  exact PlainDec.dgo_enc l hb (by have := PlainDec.enc_len_ge l; omega)

set_option maxRecDepth 100000 in
set_option maxHeartbeats 1000000 in
theorem walk (A0 : Option Addr) (n0 c0 : Nat) (l0 : List Nat) (w : World) (b0 : BS w w.heap.size A0 n0 l0) (nc0 : n0 ≤ c0) (r0 : c0 ≤ 140737488351232) (hg : ErrType w) :
    Calls Tryd.prog 12 #[.slice A0 n0 c0] w fun e w' => e = .returned (.bool true) ∧ Below w.heap.size w w' := by
  have hm : c0 ≤ maxLen := by unfold maxLen; omega
  by_cases hbig : 100000 < n0
  · go_enter Tryd.func12, Tryd.ntmps12
    go_wp2
    go_ret
    exact ⟨rfl, Below.refl _ _⟩
  · have hpos := hg.pos
    have HG := Lib.hid hg
    clear hg
    go_enter Tryd.func12, Tryd.ntmps12
    go_wp2_with fail
    refine (implEncode_any A0 n0 c0 l0 w w.heap.size (Nat.le_refl _) nc0 hm (by omega) b0).mono ?_
    rintro e w1 ⟨v1, rfl, hv1, hb1⟩
    obtain ⟨L, hL⟩ : ∃ L, (enc l0).length = L := ⟨_, rfl⟩
    obtain ⟨A1, c1, rfl, hc1, hm1, bs1⟩ := hv1.at_ hL
    have hLle : L ≤ 200000 := by rw [← hL]; have := Plain85.enc_le l0; rw [b0.len] at this; omega
    have hw1 := hb1.size
    have hde := dec_enc l0 b0.lt
    rw [hL] at hde
    have HDE := Lib.hid hde
    clear hde hL hv1
    go_wp2_with fail
    refine (implDecode_any A1 L c1 (enc l0) true w1 w1.heap.size (Nat.le_refl _) hc1 hm1 (by omega) bs1 (HG.out.below hb1 hpos)).mono ?_
    rintro e w2 ⟨v2, rfl, hv2, hb2⟩
    rw [HDE.out] at hv2 ⊢
    simp only [outOf, usedOf, badOf, atOf] at hv2 ⊢
    obtain ⟨A2, c2, rfl, hc2, hm2, bs2⟩ := hv2.at_ b0.len
    have hb02 : Below w.heap.size w w2 := hb1.trans (hb2.mono hw1)
    have b02 := b0.below hb02
    clear HDE hv2
    go_wp2_with fail
    refine (equal_any A2 n0 c2 A0 n0 c0 l0 l0 w2 _ _ bs2 b02).mono ?_
    rintro e w3 ⟨rfl, rfl⟩
    rw [decide_eq_true rfl]
    go_wp2
    go_ret
    exact ⟨by simp, hb02⟩

end Go.Proofs.YthhbcnjbnfjiiaaDoor.fnEncodeDecode

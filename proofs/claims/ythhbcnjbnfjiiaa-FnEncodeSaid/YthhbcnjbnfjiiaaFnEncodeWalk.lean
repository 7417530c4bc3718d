/-
  The walk of the law FnEncode (in full): it returns true and changes nothing that was there. Proved: for every byte slice the law FnEncode returns true (the text of some bytes is that of their groups), and the argument reads afterwards as before. Conditions: none but those of the given row.
-/
import Derived.Test.YthhbcnjbnfjiiaaProg
import Derived.Test.YthhbcnjbnfjiiaaOpenArgs
import Derived.WalkKit
import Derived.Below
import Derived.WalkSmall
import Derived.Lib.Hide
import Derived.Test.YthhbcnjbnfjiiaaImplEnc
import Derived.Test.YthhbcnjbnfjiiaaEncoded
import Derived.Test.YthhbcnjbnfjiiaaSame
namespace Go.Proofs.Ythhbcnjbnfjiiaa.fnEncode
open Go.RowKit
set_option linter.unusedVariables false


theorem walk (A0 : Option Addr) (n0 c0 : Nat) (l0 : List Nat) (w : World) (b0 : BS w w.heap.size A0 n0 l0) (nc0 : n0 ≤ c0) (r0 : c0 ≤ 140737488351232) :
    Calls Try.prog 5 #[.slice A0 n0 c0] w fun e w' => e = .returned (.bool true) ∧ Below w.heap.size w w' := by
  have hm : c0 ≤ maxLen := by unfold maxLen; omega
  go_enter Try.func5, Try.ntmps5
  go_wp2_with fail
  refine (implEncode_any A0 n0 c0 l0 w w.heap.size (Nat.le_refl _) nc0 hm (by omega) b0).mono ?_
  rintro e w1 ⟨v1, rfl, hv1, hb1⟩
  go_wp2_with fail
  refine (encoded_any A0 n0 c0 l0 w1 w.heap.size hb1.size nc0 hm (by omega) (b0.below hb1)).mono ?_
  rintro e w2 ⟨v2, rfl, hv2, hb2⟩
  have hv1' := hv1.below hb2
  obtain ⟨A1, c1, rfl, hc1, hm1, hbs1, -⟩ := hv1'.bs
  obtain ⟨A2, c2, rfl, hc2, hm2, hbs2, -⟩ := hv2.bs
  have hle := Plain85.enc_le l0
  rw [b0.len] at hle
  generalize hL : (Plain85.enc l0).length = L at *
  have HL := Lib.hid hL
  clear hL
  go_wp2_with fail
  refine (same_true A1 L c1 A2 L c2 (Plain85.enc l0) w2 _ _ (by omega) hbs1 hbs2).mono ?_
  rintro e w3 ⟨rfl, rfl⟩
  go_wp2
  go_ret
  exact ⟨rfl, hb1.trans (hb2.mono hb1.size)⟩

end Go.Proofs.Ythhbcnjbnfjiiaa.fnEncode

/-
  The walk of impl.Encode: a new byte slice with the text of the bytes. Conditions: the argument reads as a list of at most 2^47 - 4096 bytes.
-/
import Derived.Test.YthhbcnjbnfjiiaaDoorEnc
import Derived.Test.YthhbcnjbnfjiiaaDoorBoth
namespace Go.Proofs.YthhbcnjbnfjiiaaDoor
open Go.RowKit
open Plain85 (enc grp digits num4)

theorem own_of_row {w1 : World} {g M : Nat} {f : Nat → Value} (h : w1.rowIs g 5 M f) {base : Nat} (hb : base ≤ g) (t : List Nat) (ht : t.length ≤ M) (hM : M ≤ maxLen) (hlt : ∀ x ∈ t, x < 256)
    (hat : ∀ j, j < t.length → f (0 + j) = .int .u8 ((t.getD j 0 : Nat) : Int)) : Own w1 base (.slice (some ⟨g, 0, none⟩) t.length M) t := by
  obtain ⟨cur, hc, hs, hcur⟩ := h
  refine ⟨⟨by simp [bv_length], .inr ⟨g, M, cur, rfl, hb, hc, ht, hM, by omega, ?_⟩⟩, hlt⟩
  apply List.ext_getElem?
  intro i
  rw [List.getElem?_take]
  by_cases hi : i < t.length
  · rw [if_pos (by omega), Array.getElem?_toList, hcur i (by omega), bv_at _ _ hi, ← hat i hi, Nat.zero_add]
  · rw [if_neg (by omega), List.getElem?_eq_none (by rw [bv_length]; omega)]

set_option maxRecDepth 100000 in
set_option maxHeartbeats 400000 in
theorem implEncode_any (A : Option Addr) (n c : Nat) (l : List Nat) (w : World) (B : Nat) (hB : B ≤ w.heap.size) (hc : n ≤ c) (hm : c ≤ maxLen) (hn : n ≤ 140737488351232) (hl : BS w B A n l) :
    Calls Tryd.prog 13 #[.slice A n c] w fun e w' => RetOwn w (enc l) e w' := by
  have hmk := fun W => run_make_row' (P := Tryd.prog) 22 5 (.int .u8 0) 1 Tryd.underlying22 Tryd.infoByte rfl .i64 .i64 (2 * n + 5) (by omega) (by omega) W
  rw [show ((2 * n + 5 : Nat) : Int) = 2 * (n : Int) + 5 by omega] at hmk
  have hle := Plain85.enc_le l
  rw [hl.len] at hle
  have hrow := World.rowIs_made w (.int .u8 0) (2 * n + 5) 5
  have hb : Below w.heap.size w (w.alloc (.cells (madeCells #[.int .u8 0] (2 * n + 5)) 5)) := (Below.refl _ _).alloc (Nat.le_refl _) _
  have hl' := hl.alloc hB (.cells (madeCells #[.int .u8 0] (2 * n + 5)) 5)
  go_enter Tryd.func13, Tryd.ntmps13
  go_wp2_with fail
  refine (encode_any w.heap.size 0 (2 * n + 5) (2 * n + 5) (2 * n + 5) 5 _ A n c l _ B hrow (by omega) (by omega) (by unfold maxLen; omega) (by omega) hl' hc hm (fun h0 b o e hb => ?_)).mono ?_
  · obtain ⟨b', o', e', hb', _⟩ := hl.spot h0
    rw [e] at e'
    injection e' with e'
    injection e' with e1
    omega
  · rintro e w' ⟨f', rfl, hrow', honly, _, _, htxt⟩
    have hbel : Below w.heap.size w w' := hb.trans (honly.below (Nat.le_refl _))
    have hown := own_of_row hrow' (base := w.heap.size) (Nat.le_refl _) (enc l) (by omega) (by unfold maxLen; omega) (Plain85.enc_lt l) htxt
    have HOWN := Lib.hid hown
    clear hown htxt
    generalize hL : (enc l).length = L at *
    clear hL
    go_wp2
    go_ret
    exact ⟨_, rfl, HOWN.out, hbel⟩

end Go.Proofs.YthhbcnjbnfjiiaaDoor

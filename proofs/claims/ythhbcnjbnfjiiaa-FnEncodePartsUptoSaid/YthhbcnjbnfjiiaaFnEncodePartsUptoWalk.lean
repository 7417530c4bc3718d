/-
  The walk of the law FnEncodeParts (with the bound of the second form): it returns true and changes nothing that was there. An encoder that is closed has written the text of all that was written to it, however it was divided.
-/
import Derived.Test.YthhbcnjbnfjiiaaProg
import Derived.Test.YthhbcnjbnfjiiaaOpenArgs
import Derived.WalkKit
import Derived.Below
import Derived.WalkSmall
import Derived.Lib.Hide
import Derived.Test.YthhbcnjbnfjiiaaEncParts
import Derived.Test.YthhbcnjbnfjiiaaJoined
import Derived.Test.YthhbcnjbnfjiiaaEncoded
import Derived.Test.YthhbcnjbnfjiiaaSame
import Derived.Test.YthhbcnjbnfjiiaaOpenParts
namespace Go.Proofs.Ythhbcnjbnfjiiaa.fnEncodePartsUpto
open Go.RowKit
set_option linter.unusedVariables false

open Plain85 (enc)
structure EpR (w : World) (L : List (List Nat)) (n : Nat) (wr : World) (v : Value) (k : Nat) : Prop where
  kn : k ≤ n
  own : Own wr w.heap.size v (L.take k).flatten
  bel : Below w.heap.size w wr
def EpRel (w : World) (L : List (List Nat)) (n : Nat) (v i : Value) (wr : World) : Prop := ∃ k, EpR w L n wr v k ∧ i = .int .i64 (k : Int)

set_option maxRecDepth 100000 in
set_option maxHeartbeats 4000000 in
theorem walk (A0 : Option Addr) (n0 c0 : Nat) (L0 : List (List Nat)) (w : World) (b0 : RS2 w w.heap.size A0 n0 L0) (nc0 : n0 ≤ c0) (r0 : c0 ≤ 1048576) (t0 : (L0.map (·.length)).sum ≤ 1048576) :
    Calls Try.prog 4 #[.slice A0 n0 c0] w fun e w' => e = .returned (.bool true) ∧ Below w.heap.size w w' := by
  have hLn := b0.len
  have hfl : L0.flatten.length ≤ 1048576 := by rw [flat_len]; exact t0
  have HB := Lib.hid b0
  clear b0 t0
  go_enter Try.func4, Try.ntmps4
  go_wp2
  go_loopw [3, 9] (fun v i wr => EpRel w L0 n0 v i wr) (fun _ i _ => n0 - (intOf i).toNat)
  case atStart => exact ⟨0, ⟨Nat.zero_le _, by simpa using Own.empty w, (Below.refl _ _).alloc (Nat.le_refl _) _⟩, rfl⟩
  case round =>
    obtain ⟨k, hR, rfl⟩ := hrel
    have hkn := hR.kn
    have hBr := hR.bel.size
    have HBEL := Lib.hid hR.bel
    have HOWN := Lib.hid hR.own
    clear hR
    by_cases hlt : k < n0
    · obtain ⟨g, o, rfl, hg, hsp⟩ := (HB.out.below HBEL.out).spot (by omega)
      obtain ⟨Ai, ni, ci, cK, hbk, hnc, hcm⟩ := hsp k hlt
      obtain ⟨lk, hlk⟩ : ∃ lk, L0.getD k [] = lk := ⟨_, rfl⟩
      rw [hlk] at hbk
      have hfk : (L0.take k).flatten.length + lk.length ≤ 1048576 := by
        have := flat_take_le L0 k (by omega)
        rw [hlk] at this
        omega
      have hni : lk.length = ni := hbk.len
      obtain ⟨N, hN⟩ : ∃ N, (L0.take k).flatten.length = N := ⟨_, rfl⟩
      obtain ⟨A1, c1, rfl, hc1, hm1, bs1⟩ := HOWN.out.at_ hN
      have HBK := Lib.hid hbk
      have HFL := Lib.hid (show (L0.take (k + 1)).flatten = (L0.take k).flatten ++ lk by rw [flat_take L0 k (by omega), hlk])
      have HBS1 := Lib.hid bs1
      have hNn : N + ni ≤ 1048576 := by omega
      clear hsp hbk hlk bs1 hfk hN hni
      go_wp2_with fail
      refine (joined_any wr wr.heap.size A1 N c1 (L0.take k).flatten Ai ni ci lk (Nat.le_refl _) HBS1.out (HBK.out.mono hBr) (by omega)).mono ?_
      rintro e w1 ⟨v1, rfl, hv1, hb1⟩
      have HV1 := Lib.hid hv1
      have HB1 := Lib.hid hb1
      clear hv1 hb1
      go_wp2
      exact ⟨⟨k + 1, ⟨hlt, by rw [HFL.out]; exact HV1.out.mono hBr, HBEL.out.trans (HB1.out.mono hBr)⟩, by simp⟩, by simp [intOf]; omega⟩
    · obtain rfl : k = n0 := by omega
      have hall : (L0.take k).flatten = L0.flatten := by rw [List.take_of_length_le (by omega)]
      have hown := HOWN.out
      rw [hall] at hown
      have HOW := Lib.hid hown
      clear hown hall HOWN
      obtain ⟨N, hN⟩ : ∃ N, L0.flatten.length = N := ⟨_, rfl⟩
      obtain ⟨A1, c1, rfl, hc1, hm1, bs1⟩ := HOW.out.at_ hN
      have HBS1 := Lib.hid bs1
      have hN1 : N ≤ 1048576 := by omega
      have hRS : RS2 wr wr.heap.size A0 k L0 := by
        have h := HB.out.below HBEL.out
        refine ⟨h.len, fun h0 => ?_⟩
        obtain ⟨g, o, e, hg, hs⟩ := h.spot h0
        refine ⟨g, o, e, by omega, fun i hi => ?_⟩
        obtain ⟨Ai, ni, ci, hc, hbs, q1, q2⟩ := hs i hi
        exact ⟨Ai, ni, ci, hc, hbs.mono hBr, q1, q2⟩
      have HRS := Lib.hid hRS
      clear hRS bs1 hN
      go_wp2_with fail
      refine (encodeParts_any A0 k c0 L0 wr HRS.out (by omega) (by omega)).mono ?_
      rintro e w1 ⟨v1, rfl, hv1, hb1⟩
      have hw1 := hb1.size
      have bs2 := HBS1.out.below hb1
      have HV1 := Lib.hid hv1
      have HB1 := Lib.hid hb1
      have HBS2 := Lib.hid bs2
      clear hv1 hb1 bs2
      go_wp2_with fail
      refine (encoded_any A1 N c1 L0.flatten w1 wr.heap.size hw1 hc1 hm1 (by omega) HBS2.out).mono ?_
      rintro e w2 ⟨v2, rfl, hv2, hb2⟩
      have hv1' := HV1.out.below hb2
      obtain ⟨A3, c3, rfl, hc3, hm3, hbs3, -⟩ := hv1'.bs
      obtain ⟨A4, c4, rfl, hc4, hm4, hbs4, -⟩ := hv2.bs
      have hle := Plain85.enc_le L0.flatten
      have hT : (enc L0.flatten).length ≤ 2000000 := by omega
      have HB2 := Lib.hid hb2
      clear hv2 hv1' hb2 hle
      generalize hL : (enc L0.flatten).length = T at *
      have HL := Lib.hid hL
      clear hL
      go_wp2_with fail
      refine (same_true A3 T c3 A4 T c4 (enc L0.flatten) w2 _ _ (by omega) hbs3 hbs4).mono ?_
      rintro e w3 ⟨rfl, rfl⟩
      go_wp2
      go_ret
      exact ⟨rfl, HBEL.out.trans ((HB1.out.mono hBr).trans (HB2.out.mono (Nat.le_trans hBr hw1)))⟩

end Go.Proofs.Ythhbcnjbnfjiiaa.fnEncodePartsUpto

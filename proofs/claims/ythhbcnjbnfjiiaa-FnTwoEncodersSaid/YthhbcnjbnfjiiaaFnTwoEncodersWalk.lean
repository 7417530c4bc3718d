/-
  The walk of the law FnTwoEncoders (in full): it returns true and changes nothing that was there. The encoder of streams writes, however the data come in parts, what encoding at once gives.
-/
import Derived.Test.YthhbcnjbnfjiiaaProg
import Derived.Test.YthhbcnjbnfjiiaaOpenArgs
import Derived.WalkKit
import Derived.Below
import Derived.WalkSmall
import Derived.Lib.Hide
import Derived.Test.YthhbcnjbnfjiiaaCut
import Derived.Test.YthhbcnjbnfjiiaaEqual
import Derived.Test.YthhbcnjbnfjiiaaEncParts
import Derived.Test.YthhbcnjbnfjiiaaOpenArgs
import Derived.Test.YthhbcnjbnfjiiaaImplEnc
namespace Go.Proofs.Ythhbcnjbnfjiiaa.fnTwoEncoders
open Go.RowKit
set_option linter.unusedVariables false

open Plain85 (enc)

set_option maxRecDepth 100000 in
set_option maxHeartbeats 4000000 in
theorem walk (A0 : Option Addr) (n0 c0 : Nat) (l0 : List Nat) (A1 : Option Addr) (n1 c1 : Nat) (l1 : List Nat) (w : World) (b0 : BS w w.heap.size A0 n0 l0) (nc0 : n0 ≤ c0) (r0 : c0 ≤ 140737488351232) (b1 : BS w w.heap.size A1 n1 l1) (nc1 : n1 ≤ c1) (r1 : c1 ≤ 140737488351232) :
    Calls Try.prog 10 #[.slice A0 n0 c0, .slice A1 n1 c1] w fun e w' => e = .returned (.bool true) ∧ Below w.heap.size w w' := by
  have hm0 : c0 ≤ maxLen := by unfold maxLen; omega
  by_cases hbig : 100000 < n0
  · have e0 : decide (100000 < (n0 : Int)) = true := decide_eq_true (by omega)
    go_enter Try.func10, Try.ntmps10
    go_wp2
    go_ret
    exact ⟨rfl, Below.refl _ _⟩
  have e0 : decide (100000 < (n0 : Int)) = false := decide_eq_false (by omega)
  by_cases hbig1 : 1000 < n1
  · have e1 : decide (1000 < (n1 : Int)) = true := decide_eq_true (by omega)
    go_enter Try.func10, Try.ntmps10
    go_wp2
    go_ret
    exact ⟨rfl, Below.refl _ _⟩
  have e1 : decide (1000 < (n1 : Int)) = false := decide_eq_false (by omega)
  have HB0 := Lib.hid b0
  have HB1 := Lib.hid b1
  have hn0 := b0.len
  have hn1 := b1.len
  clear b0 b1
  go_enter Try.func10, Try.ntmps10
  go_wp2_with fail
  refine (cut_any A0 n0 c0 l0 A1 n1 c1 l1 w w.heap.size (Nat.le_refl _) nc0 hm0 HB0.out HB1.out (by omega)).mono ?_
  rintro e w1 ⟨v1, P, rfl, hrow, hmap, hps, hb1⟩
  obtain ⟨A2, c2, rfl, hc2, hm2, hRS⟩ := RetCut.parts hrow hmap hps hb1.size
  have hflat := cutM_flat l1 l0
  have hlen := cutM_len l1 l0
  have HRS := Lib.hid hRS
  have HFLAT := Lib.hid hflat
  clear hrow hmap hps hRS
  generalize cutM l0 l1 = L at *
  obtain ⟨N, hN⟩ : ∃ N, L.length = N := ⟨_, rfl⟩
  rw [hN] at HRS hlen ⊢
  have hN0 : N ≤ 1001 := by omega
  clear hflat hN hlen
  go_wp2_with fail
  refine (encodeParts_any A2 N c2 L w1 HRS.out (by omega) (by rw [HFLAT.out]; omega)).mono ?_
  rintro e w2 ⟨v2, rfl, hv2, hb2⟩
  rw [HFLAT.out] at hv2
  obtain ⟨T, hT⟩ : ∃ T, (enc l0).length = T := ⟨_, rfl⟩
  obtain ⟨A3, c3, rfl, hc3, hm3, bs3⟩ := hv2.at_ hT
  have hw1 := hb1.size
  have hb02 : Below w.heap.size w w2 := hb1.trans (hb2.mono hw1)
  have hw2 := hb02.size
  have hTp : 0 < n0 → 0 < T := fun h => by rw [← hT]; exact Plain85.enc_pos _ (by omega)
  have hT0 : n0 = 0 → T = 0 := fun h => by have := Plain85.enc_le l0; rw [hT, hn0] at this; omega
  have HV2 := Lib.hid hv2
  have HTP := Lib.hid hTp
  have HT0 := Lib.hid hT0
  have HBS3 := Lib.hid bs3
  have HB02 := Lib.hid hb02
  clear hT hv2 bs3 hTp hT0 hb02 hb1 hb2
  by_cases h0 : 0 < n0
  · have hp := HTP.out h0
    have d1 : decide (0 < T) = true := decide_eq_true hp
    have d2 : decide ((0 : Int) < (T : Int)) = true := decide_eq_true (by omega)
    go_wp2_with fail
    refine (implEncode_any A0 n0 c0 l0 w2 w.heap.size hw2 nc0 hm0 (by omega) (HB0.out.below HB02.out)).mono ?_
    rintro e w3 ⟨v3, rfl, hv3, hb3⟩
    obtain ⟨n3, hn3⟩ : ∃ n3, (enc l0).length = n3 := ⟨_, rfl⟩
    obtain ⟨A4, c4, rfl, hc4, hm4, bs4⟩ := hv3.at_ hn3
    have bs3' := HBS3.out.below hb3
    have hb03 : Below w.heap.size w w3 := HB02.out.trans (hb3.mono hw2)
    clear hn3 hv3 hb3
    go_wp2_with fail
    refine (equal_any A3 T c3 A4 n3 c4 _ _ w3 _ _ bs3' bs4).mono ?_
    rintro e w4 ⟨rfl, rfl⟩
    rw [decide_eq_true rfl]
    go_wp2
    go_ret
    exact ⟨rfl, hb03⟩
  · obtain rfl : n0 = 0 := by omega
    obtain rfl : T = 0 := HT0.out rfl
    go_wp2_with fail
    refine (implEncode_any A0 0 c0 l0 w2 w.heap.size hw2 nc0 hm0 (by omega) (HB0.out.below HB02.out)).mono ?_
    rintro e w3 ⟨v3, rfl, hv3, hb3⟩
    obtain ⟨n3, hn3⟩ : ∃ n3, (enc l0).length = n3 := ⟨_, rfl⟩
    obtain ⟨A4, c4, rfl, hc4, hm4, bs4⟩ := hv3.at_ hn3
    have bs3' := HBS3.out.below hb3
    have hb03 : Below w.heap.size w w3 := HB02.out.trans (hb3.mono hw2)
    clear hn3 hv3 hb3
    go_wp2_with fail
    refine (equal_any A3 0 c3 A4 n3 c4 _ _ w3 _ _ bs3' bs4).mono ?_
    rintro e w4 ⟨rfl, rfl⟩
    rw [decide_eq_true rfl]
    go_wp2
    go_ret
    exact ⟨rfl, hb03⟩

end Go.Proofs.Ythhbcnjbnfjiiaa.fnTwoEncoders

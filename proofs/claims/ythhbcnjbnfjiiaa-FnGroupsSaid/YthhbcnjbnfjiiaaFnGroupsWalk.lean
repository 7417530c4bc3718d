/-
  The walk of the law FnGroups (in full): it returns true and changes nothing that was there. Proved: for all byte slices a and b the law FnGroups returns true (behind whole groups, encoding goes on as if it began), and the arguments read afterwards as before. Conditions: none but those of the given row.
-/
import Derived.Test.YthhbcnjbnfjiiaaProg
import Derived.Test.YthhbcnjbnfjiiaaOpenArgs
import Derived.WalkKit
import Derived.Below
import Derived.WalkSmall
import Derived.Lib.Hide
import Derived.Test.YthhbcnjbnfjiiaaImplEnc
import Derived.Test.YthhbcnjbnfjiiaaBoth
import Derived.Test.YthhbcnjbnfjiiaaEqual
namespace Go.Proofs.Ythhbcnjbnfjiiaa.fnGroups
open Go.RowKit
set_option linter.unusedVariables false


set_option maxRecDepth 100000 in
set_option maxHeartbeats 1000000 in
theorem walk (A0 : Option Addr) (n0 c0 : Nat) (l0 : List Nat) (A1 : Option Addr) (n1 c1 : Nat) (l1 : List Nat) (w : World) (b0 : BS w w.heap.size A0 n0 l0) (nc0 : n0 ≤ c0) (r0 : c0 ≤ 140737488351232) (b1 : BS w w.heap.size A1 n1 l1) (nc1 : n1 ≤ c1) (r1 : c1 ≤ 140737488351232) :
    Calls Try.prog 6 #[.slice A0 n0 c0, .slice A1 n1 c1] w fun e w' => e = .returned (.bool true) ∧ Below w.heap.size w w' := by
  have hm : c0 ≤ maxLen := by unfold maxLen; omega
  have hm1 : c1 ≤ maxLen := by unfold maxLen; omega
  obtain ⟨k, hk⟩ : ∃ k, n0 - n0 % 4 = 4 * k := ⟨n0 / 4, by omega⟩
  have hk0 : 4 * k ≤ n0 := by omega
  have hsub : (n0 : Int) - (n0 : Int) % 4 = ((4 * k : Nat) : Int) := by omega
  have b0k := b0.take hk0
  by_cases hbig : 100000 < 4 * k + n1
  · go_enter Try.func6, Try.ntmps6
    go_wp2
    go_ret
    exact ⟨rfl, Below.refl _ _⟩
  · have hke : (l0.take (4 * k)).length = 4 * k := b0k.len
    have henc := Plain85.enc_append k (l0.take (4 * k)) l1 hke
    have HENC := Lib.hid henc
    clear henc hke
    generalize l0.take (4 * k) = la at *
    go_enter Try.func6, Try.ntmps6
    go_wp2_with fail
    refine (both_any w w.heap.size A0 (4 * k) c0 la A1 n1 c1 l1 (Nat.le_refl _) b0k b1 (by omega)).mono ?_
    rintro e w1 ⟨v1, rfl, hv1, hb1⟩
    obtain ⟨A2, c2, rfl, hc2, hm2, bs2⟩ := hv1.at_ (n := 4 * k + n1) (by rw [List.length_append, b0k.len, b1.len])
    have hw1 := hb1.size
    go_wp2_with fail
    refine (implEncode_any A2 (4 * k + n1) c2 (la ++ l1) w1 w1.heap.size (Nat.le_refl _) hc2 hm2 (by omega) bs2).mono ?_
    rintro e w2 ⟨v2, rfl, hv2, hb2⟩
    obtain ⟨L, hL⟩ : ∃ L, (Plain85.enc (la ++ l1)).length = L := ⟨_, rfl⟩
    obtain ⟨A3, c3, rfl, hc3, hm3, bs3⟩ := hv2.at_ hL
    have hb02 : Below w.heap.size w w2 := hb1.trans (hb2.mono hw1)
    have hw2 := hb02.size
    have hLpos : 0 < 4 * k + n1 → 0 < L := fun h => by rw [← hL]; exact Plain85.enc_pos _ (by rw [bs2.len]; exact h)
    have hLle : L ≤ 200000 := by rw [← hL]; have := Plain85.enc_le (la ++ l1); rw [bs2.len] at this; omega
    have hL0 : 4 * k + n1 = 0 → L = 0 := fun h => by
      have := Plain85.enc_le (la ++ l1)
      rw [hL, bs2.len] at this
      omega
    have HV2 := Lib.hid hv2
    have HLP := Lib.hid hLpos
    have HL0 := Lib.hid hL0
    clear hL hv2 hv1 bs2 hb1 hb2 hLpos hL0 hc2 hm2
    by_cases h0 : 0 < 4 * k + n1
    · have hLp := HLP.out h0
      have d1 : decide (0 < L) = true := decide_eq_true hLp
      have d2 : decide ((0 : Int) < (L : Int)) = true := decide_eq_true (by omega)
      go_wp2_with fail
      refine (implEncode_any A0 (4 * k) c0 la w2 w.heap.size hw2 (by omega) hm (by omega) (b0k.below hb02)).mono ?_
      rintro e w3 ⟨v3, rfl, hv3, hb3⟩
      obtain ⟨n3, hn3⟩ : ∃ n3, (Plain85.enc la).length = n3 := ⟨_, rfl⟩
      obtain ⟨A4, c4, rfl, hc4, hm4, bs4⟩ := hv3.at_ hn3
      have hn3le : n3 ≤ 200000 := by rw [← hn3]; have := Plain85.enc_le la; rw [b0k.len] at this; omega
      have hb03 : Below w.heap.size w w3 := hb02.trans (hb3.mono hw2)
      have hw3 := hb3.size
      clear hn3 hv3
      go_wp2_with fail
      refine (implEncode_any A1 n1 c1 l1 w3 w.heap.size (by omega) nc1 hm1 (by omega) (b1.below hb03)).mono ?_
      rintro e w4 ⟨v4, rfl, hv4, hb4⟩
      obtain ⟨n4, hn4⟩ : ∃ n4, (Plain85.enc l1).length = n4 := ⟨_, rfl⟩
      obtain ⟨A5, c5, rfl, hc5, hm5, bs5⟩ := hv4.at_ hn4
      have hn4le : n4 ≤ 200000 := by rw [← hn4]; have := Plain85.enc_le l1; rw [b1.len] at this; omega
      have hw4 := hb4.size
      have hb04 : Below w.heap.size w w4 := hb03.trans (hb4.mono (by omega))
      have bs4' := bs4.below hb4
      clear hn4 hv4 bs4
      go_wp2_with fail
      refine (both_any w4 w4.heap.size A4 n3 c4 _ A5 n4 c5 _ (Nat.le_refl _) (bs4'.mono hw4) bs5 (by omega)).mono ?_
      rintro e w5 ⟨v5, rfl, hv5, hb5⟩
      obtain ⟨n5, hn5⟩ : ∃ n5, (Plain85.enc la ++ Plain85.enc l1).length = n5 := ⟨_, rfl⟩
      obtain ⟨A6, c6, rfl, hc6, hm6, bs6⟩ := hv5.at_ hn5
      have bs3' := ((bs3.below hb3).mono hw3).below (hb4.trans (hb5.mono hw4))
      have hb05 : Below w.heap.size w w5 := hb04.trans (hb5.mono (by omega))
      clear hn5 hv5 bs4' bs5 hb3 hb4 hb5
      go_wp2_with fail
      refine (equal_any A3 L c3 A6 n5 c6 _ _ w5 _ _ bs3' bs6).mono ?_
      rintro e w6 ⟨rfl, rfl⟩
      rw [HENC.out, decide_eq_true rfl]
      go_wp2
      go_ret
      exact ⟨rfl, hb05⟩
    · obtain rfl : L = 0 := HL0.out (by omega)
      have d3 : (4 * (k : Int) + (n1 : Int) == 0) = true := by rw [beq_iff_eq]; omega
      go_wp2_with fail
      refine (implEncode_any A0 (4 * k) c0 la w2 w.heap.size hw2 (by omega) hm (by omega) (b0k.below hb02)).mono ?_
      rintro e w3 ⟨v3, rfl, hv3, hb3⟩
      obtain ⟨n3, hn3⟩ : ∃ n3, (Plain85.enc la).length = n3 := ⟨_, rfl⟩
      obtain ⟨A4, c4, rfl, hc4, hm4, bs4⟩ := hv3.at_ hn3
      have hn3le : n3 ≤ 200000 := by rw [← hn3]; have := Plain85.enc_le la; rw [b0k.len] at this; omega
      have hb03 : Below w.heap.size w w3 := hb02.trans (hb3.mono hw2)
      have hw3 := hb3.size
      clear hn3 hv3
      go_wp2_with fail
      refine (implEncode_any A1 n1 c1 l1 w3 w.heap.size (by omega) nc1 hm1 (by omega) (b1.below hb03)).mono ?_
      rintro e w4 ⟨v4, rfl, hv4, hb4⟩
      obtain ⟨n4, hn4⟩ : ∃ n4, (Plain85.enc l1).length = n4 := ⟨_, rfl⟩
      obtain ⟨A5, c5, rfl, hc5, hm5, bs5⟩ := hv4.at_ hn4
      have hn4le : n4 ≤ 200000 := by rw [← hn4]; have := Plain85.enc_le l1; rw [b1.len] at this; omega
      have hw4 := hb4.size
      have hb04 : Below w.heap.size w w4 := hb03.trans (hb4.mono (by omega))
      have bs4' := bs4.below hb4
      clear hn4 hv4 bs4
      go_wp2_with fail
      refine (both_any w4 w4.heap.size A4 n3 c4 _ A5 n4 c5 _ (Nat.le_refl _) (bs4'.mono hw4) bs5 (by omega)).mono ?_
      rintro e w5 ⟨v5, rfl, hv5, hb5⟩
      obtain ⟨n5, hn5⟩ : ∃ n5, (Plain85.enc la ++ Plain85.enc l1).length = n5 := ⟨_, rfl⟩
      obtain ⟨A6, c6, rfl, hc6, hm6, bs6⟩ := hv5.at_ hn5
      have bs3' := ((bs3.below hb3).mono hw3).below (hb4.trans (hb5.mono hw4))
      have hb05 : Below w.heap.size w w5 := hb04.trans (hb5.mono (by omega))
      clear hn5 hv5 bs4' bs5 hb3 hb4 hb5
      go_wp2_with fail
      refine (equal_any A3 0 c3 A6 n5 c6 _ _ w5 _ _ bs3' bs6).mono ?_
      rintro e w6 ⟨rfl, rfl⟩
      rw [HENC.out, decide_eq_true rfl]
      go_wp2
      go_ret
      exact ⟨rfl, hb05⟩

end Go.Proofs.Ythhbcnjbnfjiiaa.fnGroups

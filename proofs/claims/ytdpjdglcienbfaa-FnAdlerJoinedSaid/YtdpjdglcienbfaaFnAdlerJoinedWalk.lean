/-
  The walk of the law FnAdlerJoined (in full): it returns true and changes nothing that was there. Proved: for all byte slices a and b the law FnAdlerJoined returns true (the Adler-32 of two texts behind each other follows from both and the length of the second), and the arguments read afterwards as before. Conditions: none but those of the given row.
-/
import Derived.Test.YtdpjdglcienbfaaProg
import Derived.Test.YtdpjdglcienbfaaOpenArgs
import Derived.WalkKit
import Derived.Below
import Derived.WalkSmall
import Derived.Lib.Hide
import Derived.Test.YtdpjdglcienbfaaAdler
import Derived.Test.YtdpjdglcienbfaaBoth
namespace Go.Proofs.Ytdpjdglcienbfaa.fnAdlerJoined
open Go.RowKit
set_option linter.unusedVariables false

theorem prod_bound (X n : Nat) : 0 ≤ ((X : Int) % 65536 - 1) % 65521 * ((n : Int) % 65521) ∧ ((X : Int) % 65536 - 1) % 65521 * ((n : Int) % 65521) ≤ 4292870400 := by
  have a0 : 0 ≤ ((X : Int) % 65536 - 1) % 65521 := by omega
  have a1 : ((X : Int) % 65536 - 1) % 65521 ≤ 65520 := by omega
  have b0 : 0 ≤ (n : Int) % 65521 := by omega
  have b1 : (n : Int) % 65521 ≤ 65520 := by omega
  exact ⟨Int.mul_nonneg a0 b0, Int.le_trans (Int.mul_le_mul a1 b1 b0 (by omega)) (by decide)⟩
theorem joined_int (l0 l1 : List Nat) (X Y n Z : Nat) (hn : l1.length = n) (hx : X % 65536 < 65521)
    (h : Z = (X / 65536 + Y / 65536 + (X % 65536 + 65520) % 65521 * (l1.length % 65521)) % 65521 * 65536 + (X % 65536 + Y % 65536 + 65520) % 65521) :
    (Z : Int) = ((X : Int) / 65536 + (Y : Int) / 65536 + ((X : Int) % 65536 - 1) % 65521 * ((n : Int) % 65521)) % 65521 * 65536 + ((X : Int) % 65536 + (Y : Int) % 65536 - 1 + 65521) % 65521 := by
  subst hn
  have e : ((X : Int) % 65536 - 1) % 65521 = (((X % 65536 + 65520) % 65521 : Nat) : Int) := by omega
  have e2 : ((l1.length : Int) % 65521) = ((l1.length % 65521 : Nat) : Int) := by omega
  rw [e, e2, ← Int.natCast_mul, h]
  generalize (X % 65536 + 65520) % 65521 * (l1.length % 65521) = q
  omega

set_option maxRecDepth 100000 in
set_option maxHeartbeats 1000000 in
theorem walk (A0 : Option Addr) (n0 c0 : Nat) (l0 : List Nat) (A1 : Option Addr) (n1 c1 : Nat) (l1 : List Nat) (w : World) (b0 : BS w w.heap.size A0 n0 l0) (nc0 : n0 ≤ c0) (r0 : c0 ≤ 140737488351232) (b1 : BS w w.heap.size A1 n1 l1) (nc1 : n1 ≤ c1) (r1 : c1 ≤ 140737488351232) :
    Calls Try.prog 3 #[.slice A0 n0 c0, .slice A1 n1 c1] w fun e w' => e = .returned (.bool true) ∧ Below w.heap.size w w' := by
  have hm : c0 ≤ maxLen := by unfold maxLen; omega
  have hm1 : c1 ≤ maxLen := by unfold maxLen; omega
  by_cases hbig : 100000 < n0 + n1
  · go_enter Try.func3, Try.ntmps3
    go_wp2
    go_ret
    exact ⟨rfl, Below.refl _ _⟩
  · go_enter Try.func3, Try.ntmps3
    go_wp2_with fail
    refine (adlerChecksum_any A0 n0 c0 l0 w w.heap.size nc0 hm b0).mono ?_
    rintro e w' ⟨rfl, k, rfl⟩
    go_wp2_with fail
    refine (adlerChecksum_any A1 n1 c1 l1 _ w.heap.size nc1 hm1 (b1.drewN k)).mono ?_
    rintro e w' ⟨rfl, k1, rfl⟩
    have hX := PlainAd.adler_parts l0
    have hY := PlainAd.adler_parts l1
    have HJ := Lib.hid (PlainAd.adler_joined l0 l1)
    obtain ⟨hX1, hX2⟩ := hX
    obtain ⟨hY1, hY2⟩ := hY
    generalize PlainAd.adler l0 = X at *
    generalize PlainAd.adler l1 = Y at *
    obtain ⟨hp0, hp1⟩ := prod_bound X n1
    have hj := joined_int l0 l1 X Y n1 _ b1.len hX1 HJ.out
    clear HJ
    go_wp2_with fail
    obtain ⟨s2, hs2⟩ : ∃ s2 : Int, ((X : Int) / 65536 + (Y : Int) / 65536 + ((X : Int) % 65536 - 1) % 65521 * ((n1 : Int) % 65521)) % 65521 = s2 := ⟨_, rfl⟩
    obtain ⟨s1, hs1⟩ : ∃ s1 : Int, ((X : Int) % 65536 + (Y : Int) % 65536 - 1 + 65521) % 65521 = s1 := ⟨_, rfl⟩
    rw [hs1, hs2] at hj ⊢
    have g2 : 0 ≤ s2 ∧ s2 < 65521 := by omega
    have g1 : 0 ≤ s1 ∧ s1 < 65521 := by omega
    clear hs1 hs2 hp0 hp1
    obtain ⟨g20, g21⟩ := g2
    obtain ⟨g10, g11⟩ := g1
    have HZ := Lib.hid hj
    clear hj
    refine (both_any (w.drewN (k + k1)) w.heap.size A0 n0 c0 l0 A1 n1 c1 l1 (Nat.le_refl _) (b0.drewN _) (b1.drewN _) (by omega)).mono ?_
    rintro e w2 ⟨v, rfl, hv, hb⟩
    obtain ⟨A2, c2, rfl, hc2, hm2, hbs2, -⟩ := hv.bs
    have hlen : (l0 ++ l1).length = n0 + n1 := by rw [List.length_append, b0.len, b1.len]
    rw [hlen] at hc2 hbs2
    rw [hlen]
    go_wp2_with fail
    refine (adlerChecksum_any A2 (n0 + n1) c2 (l0 ++ l1) _ w2.heap.size hc2 hm2 hbs2).mono ?_
    rintro e w3 ⟨rfl, k3, rfl⟩
    obtain ⟨Z, hZ⟩ : ∃ Z, PlainAd.adler (l0 ++ l1) = Z := ⟨_, rfl⟩
    have hz : ((Z : Int) == s2 * 65536 + s1) = true := by rw [← hZ, HZ.out]; exact beq_self_eq_true _
    rw [hZ]
    clear hZ HZ hlen hc2 hm2 hbs2 hv b0 b1 hm hm1
    have hd1 : decide ((X : Int) % 65536 < 65521) = true := decide_eq_true (by omega)
    have hd2 : decide ((X : Int) / 65536 < 65521) = true := decide_eq_true (by omega)
    go_wp2
    go_ret
    exact ⟨rfl, below_drewN (B := w.heap.size) (a := w) (w := w2) ⟨hb.os, hb.tape, hb.output, hb.size, hb.block⟩ k3⟩

end Go.Proofs.Ytdpjdglcienbfaa.fnAdlerJoined

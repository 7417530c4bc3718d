/-
  The walk of math/bits.Mul64 at 315 and any number. Conditions: the number fits 64 bits.
-/
import Derived.Test.YtdpjdglcienbfaaHashAid
namespace Go.Proofs.Ytdpjdglcienbfaa
open Go.RowKit

theorem mask32 (a : Int) (h0 : 0 ≤ a) (h : a < 18446744073709551616) : bits .and .u64 a 4294967295 = a % 4294967296 := by
  obtain ⟨n, rfl⟩ : ∃ n : Nat, a = (n : Int) := ⟨a.toNat, by omega⟩
  have := u64_and_nat n 4294967295 (by omega) (by decide)
  rw [show ((4294967295 : Nat) : Int) = 4294967295 from rfl] at this
  rw [this, show (4294967295 : Nat) = 2 ^ 32 - 1 from rfl, Nat.and_two_pow_sub_one_eq_mod]
  omega
theorem ret_two {a b c d : Int} (h1 : a = c) (h2 : b = d) : Ending.returned (.tuple #[.int .u64 a, .int .u64 b]) = .returned (.tuple #[.int .u64 c, .int .u64 d]) := by rw [h1, h2]

set_option maxRecDepth 100000 in
set_option maxHeartbeats 400000 in
theorem mul315 (y : Nat) (hy : y < 18446744073709551616) (w : World) :
    Calls Try.prog 125 #[.int .u64 315, .int .u64 (y : Int)] w fun e w' => e = .returned (.tuple #[.int .u64 ((315 * y / 18446744073709551616 : Nat) : Int), .int .u64 ((315 * y % 18446744073709551616 : Nat) : Int)]) ∧ w = w' := by
  go_enter Try.func125, Try.ntmps125
  go_wp2
  go_ret2
  refine ⟨ret_two ?_ ?_, rfl⟩
  · have m1 := mask32 315 (by decide) (by decide)
    have m2 := mask32 (y : Int) (by omega) (by omega)
    simp only [m1, m2, IntKind.wrap_u64]
    rw [mask32 _ (by omega) (by omega), show (315 : Int) % 4294967296 = 315 from rfl]
    clear m1 m2
    have ha : 0 ≤ (y : Int) % 4294967296 ∧ (y : Int) % 4294967296 < 4294967296 := by omega
    have hb : 0 ≤ (y : Int) / 4294967296 ∧ (y : Int) / 4294967296 < 4294967296 := by omega
    have hv : ((315 * y / 18446744073709551616 : Nat) : Int) = (315 * ((y : Int) / 4294967296 * 4294967296 + (y : Int) % 4294967296)) / 18446744073709551616 := by omega
    rw [hv]
    generalize (y : Int) % 4294967296 = a at *
    generalize (y : Int) / 4294967296 = b at *
    obtain ⟨ha0, ha1⟩ := ha
    obtain ⟨hb0, hb1⟩ := hb
    clear hv hy
    rw [Int.emod_eq_of_lt (a := 315 * a) (by omega) (by omega), Int.emod_eq_of_lt (a := 315 * b) (by omega) (by omega), Int.emod_eq_of_lt (a := 315 * a / 4294967296) (b := 18446744073709551616) (by omega) (by omega)]
    obtain ⟨q, hq⟩ : ∃ q, 315 * a / 4294967296 = q := ⟨_, rfl⟩
    obtain ⟨r, hr⟩ : ∃ r, 315 * a % 4294967296 = r := ⟨_, rfl⟩
    have hqr : 315 * a = q * 4294967296 + r := by omega
    have hr2 : 0 ≤ r ∧ r < 4294967296 := by omega
    have hq2 : 0 ≤ q ∧ q < 315 := by omega
    rw [hq, show q / 4294967296 = 0 by omega, show q % 4294967296 = q by omega, show (q + 315 * b) % 18446744073709551616 = q + 315 * b by omega, show 315 * (b * 4294967296 + a) = (q + 315 * b) * 4294967296 + r by omega]
    clear hq hr hqr
    have hz : 0 ≤ q + 315 * b ∧ q + 315 * b < 4398046511104 := by omega
    generalize q + 315 * b = z at *
    obtain ⟨hz0, hz1⟩ := hz
    obtain ⟨hr0, hr1⟩ := hr2
    clear hq2 ha0 ha1 hb0 hb1
    rw [show (0 : Int) % 18446744073709551616 = 0 from rfl, Int.zero_add, Int.emod_eq_of_lt (a := z / 4294967296) (by omega) (by omega)]
    omega
  · rw [IntKind.wrap_u64]
    omega

end Go.Proofs.Ytdpjdglcienbfaa

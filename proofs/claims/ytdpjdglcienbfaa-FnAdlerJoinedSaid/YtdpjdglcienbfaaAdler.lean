/-
  The walks of spec.AdlerOf, adler32.Checksum, impl.AdlerChecksum: each gives the Adler-32 of the bytes. Conditions: the argument is a byte slice that reads as a list.
-/
import Derived.Test.YtdpjdglcienbfaaAdUpd
namespace Go.Proofs.Ytdpjdglcienbfaa
open Go.RowKit

theorem ret_u32 {a b : Int} (h : a = b) : Ending.returned (.int .u32 a) = .returned (.int .u32 b) := by rw [h]
theorem val_i64 {a b : Int} (h : a = b) : Value.int .i64 a = .int .i64 b := by rw [h]

def AdlRel (l : List Nat) (i a b : Value) : Prop :=
  ∃ (k x y : Nat), k ≤ l.length ∧ PlainAd.sums (1, 0) (l.take k) = (x, y) ∧ x < 65521 ∧ y < 65521 ∧ i = .int .i64 (k : Int) ∧ a = .int .i64 (x : Int) ∧ b = .int .i64 (y : Int)

theorem sums_one (s : Nat × Nat) (r : List Nat) (k x y : Nat) (hk : k < r.length) (h : PlainAd.sums s (r.take k) = (x, y)) :
    PlainAd.sums s (r.take (k + 1)) = ((x + r.getD k 0) % 65521, (y + (x + r.getD k 0) % 65521) % 65521) := by
  rw [List.take_succ_eq_append_getElem hk, PlainAd.sums_append, h, List.getD_eq_getElem?_getD, List.getElem?_eq_getElem hk]; rfl

set_option maxHeartbeats 400000 in
theorem adlerOf_any (A : Option Addr) (n c : Nat) (l : List Nat) (w : World) (B : Nat) (hc : n ≤ c) (hm : c ≤ maxLen) (hl : BS w B A n l) :
    Calls Try.prog 16 #[.slice A n c] w fun e w' => e = .returned (.int .u32 ((PlainAd.adler l : Nat) : Int)) ∧ w = w' := by
  unfold maxLen at hm
  obtain rfl : l.length = n := hl.len
  go_enter Try.func16, Try.ntmps16
  go_wp2
  go_loop [9, 3, 4] (fun i a b => AdlRel l i a b) (fun i _ _ => l.length - (intOf i).toNat)
  case atStart => exact ⟨0, 1, 0, Nat.zero_le _, rfl, by decide, by decide, rfl, rfl, rfl⟩
  case round =>
    obtain ⟨k, x, y, hk, hxy, hx, hy, rfl, rfl, rfl⟩ := hrel
    by_cases hkl : k < l.length
    · obtain ⟨b1, o1, rfl, hb1, hl⟩ := hl.open_ (by omega)
      have cK := hl.cell hkl
      have gK := getD_lt hl.lt k
      have HR := Lib.hid (sums_one (1, 0) l k x y hkl hxy)
      clear hxy
      generalize l.getD k 0 = zk at *
      go_wp2
      exact ⟨⟨k + 1, _, _, by omega, HR.out, Nat.mod_lt _ (by decide), Nat.mod_lt _ (by decide), by simp, val_i64 (by simp), val_i64 (by simp)⟩, by simp [intOf]; omega⟩
    · have hall : l.take k = l := List.take_of_length_le (by omega)
      rw [hall] at hxy
      have HXY := Lib.hid hxy
      clear hxy hall
      obtain rfl : k = l.length := by omega
      go_wp2
      go_ret
      exact ⟨ret_u32 (by rw [PlainAd.adler, HXY.out]; simp [PlainAd.word]), rfl⟩

theorem checksum_any (A : Option Addr) (n c : Nat) (l : List Nat) (w : World) (B : Nat) (hc : n ≤ c) (hm : c ≤ maxLen) (hl : BS w B A n l) :
    Calls Try.prog 30 #[.slice A n c] w fun e w' => e = .returned (.int .u32 ((PlainAd.adler l : Nat) : Int)) ∧ ∃ k, w' = w.drewN k := by
  go_enter Try.func30, Try.ntmps30
  go_wp2_with fail
  refine (update_any 1 A n c l w B (by decide) (by decide) hc hm hl).mono ?_
  rintro e w' ⟨rfl, k, rfl⟩
  go_wp2
  go_ret
  exact ⟨rfl, k, rfl⟩

theorem adlerChecksum_any (A : Option Addr) (n c : Nat) (l : List Nat) (w : World) (B : Nat) (hc : n ≤ c) (hm : c ≤ maxLen) (hl : BS w B A n l) :
    Calls Try.prog 14 #[.slice A n c] w fun e w' => e = .returned (.int .u32 ((PlainAd.adler l : Nat) : Int)) ∧ ∃ k, w' = w.drewN k := by
  go_enter Try.func14, Try.ntmps14
  go_wp2_with fail
  refine (checksum_any A n c l w B hc hm hl).mono ?_
  rintro e w' ⟨rfl, k, rfl⟩
  go_wp2
  go_ret
  exact ⟨rfl, k, rfl⟩

end Go.Proofs.Ytdpjdglcienbfaa

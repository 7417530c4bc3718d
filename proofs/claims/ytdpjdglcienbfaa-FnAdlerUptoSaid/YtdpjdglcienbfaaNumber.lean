/-
  The walk of spec.Number: the number of at most eight bytes. Conditions: those that the contract names.
-/
import Derived.Test.YtdpjdglcienbfaaSteps
import Derived.LoopTactic
namespace Go.Proofs.Ytdpjdglcienbfaa
open Go.RowKit
open PlainHash (be4 be8)

/-- The number of some bytes, the greatest first. -/
def num (l : List Nat) : Nat := l.foldl (fun x c => x * 256 + c) 0
theorem num_snoc (l : List Nat) (k : Nat) (hk : k < l.length) : num (l.take (k + 1)) = num (l.take k) * 256 + l.getD k 0 := by
  rw [List.take_succ_eq_append_getElem hk, List.getD_eq_getElem?_getD, List.getElem?_eq_getElem hk]; unfold num; rw [List.foldl_append]; rfl
theorem num_bound (l : List Nat) (h : ∀ x ∈ l, x < 256) : ∀ k, k ≤ l.length → num (l.take k) < 256 ^ k := by
  intro k
  induction k with
  | zero => intro _; simp [num]
  | succ k ih =>
    intro hk
    rw [num_snoc l k (by omega), Nat.pow_succ]
    have := ih (by omega)
    have := getD_lt h k
    omega
theorem num_lt64 (l : List Nat) (h : ∀ x ∈ l, x < 256) (h8 : l.length ≤ 8) (k : Nat) (hk : k ≤ l.length) : num (l.take k) < 18446744073709551616 := by
  have := num_bound l h k hk
  have h2 : 256 ^ k ≤ 256 ^ 8 := Nat.pow_le_pow_right (by decide) (by omega)
  exact Nat.lt_of_lt_of_le this h2
theorem num_be4 (v : Nat) (h : v < 4294967296) : num (be4 v) = v := by simp only [num, be4, List.foldl_cons, List.foldl_nil]; omega
theorem num_be8 (v : Nat) (h : v < 18446744073709551616) : num (be8 v) = v := by simp only [num, be8, List.foldl_cons, List.foldl_nil]; omega

def NumRel (l : List Nat) (i a : Value) : Prop := ∃ (k x : Nat), k ≤ l.length ∧ num (l.take k) = x ∧ i = .int .i64 (k : Int) ∧ a = .int .u64 (x : Int)
theorem ret_u64 {a b : Int} (h : a = b) : Ending.returned (.int .u64 a) = .returned (.int .u64 b) := by rw [h]
theorem val_u64 {a b : Int} (h : a = b) : Value.int .u64 a = .int .u64 b := by rw [h]

set_option maxRecDepth 100000 in
set_option maxHeartbeats 400000 in
theorem number_any (A : Option Addr) (n c : Nat) (l : List Nat) (w : World) (B : Nat) (h8 : n ≤ 8) (hl : BS w B A n l) :
    Calls Try.prog 35 #[.slice A n c] w fun e w' => e = .returned (.int .u64 ((num l : Nat) : Int)) ∧ w = w' := by
  obtain rfl : l.length = n := hl.len
  go_enter Try.func35, Try.ntmps35
  go_wp2
  go_loop [8, 3] (fun i a => NumRel l i a) (fun i _ => l.length - (intOf i).toNat)
  case atStart => exact ⟨0, 0, Nat.zero_le _, rfl, rfl, rfl⟩
  case round =>
    obtain ⟨k, x, hk, hx, rfl, rfl⟩ := hrel
    by_cases hkl : k < l.length
    · obtain ⟨b1, o1, rfl, hb1, hl⟩ := hl.open_ (by omega)
      have cK := hl.cell hkl
      have gK := getD_lt hl.lt k
      have hs := num_snoc l k hkl
      have hlt := num_lt64 l hl.lt h8 (k + 1) (by omega)
      rw [hs, hx] at hlt
      have HS := Lib.hid (hs.trans (by rw [hx]))
      clear hs hx
      generalize l.getD k 0 = zk at *
      go_wp2
      exact ⟨⟨k + 1, _, by omega, HS.out, by simp, val_u64 (by simp)⟩, by simp [intOf]; omega⟩
    · have hall : l.take k = l := List.take_of_length_le (by omega)
      rw [hall] at hx
      have HX := Lib.hid hx
      clear hx hall
      obtain rfl : k = l.length := by omega
      go_wp2
      go_ret
      exact ⟨ret_u64 (by rw [HX.out]), rfl⟩

end Go.Proofs.Ytdpjdglcienbfaa

/-
  The walks of spec.Number, spec.digits85: the number of at most eight bytes; its five digits. Conditions: those that each contract names.
-/
import Derived.Test.YthhbcnjbnfjiiaaDoorProg
import Derived.Test.YthhbcnjbnfjiiaaDoorEncAid
import Derived.Test.YthhbcnjbnfjiiaaDoorBoth
import Derived.LoopTactic
import Derived.Outline
import Derived.WalkSpells
import Derived.WalkLawsBesides
import Derived.Lib.Hide
import Derived.Handy
namespace Go.Proofs.YthhbcnjbnfjiiaaDoor
open Go.RowKit
open Plain85 (enc grp digits num4)

/-- The number of some bytes, the greatest first. -/
def num (l : List Nat) : Nat := l.foldl (fun x c => x * 256 + c) 0
theorem num_snoc (l : List Nat) (k : Nat) (hk : k < l.length) : num (l.take (k + 1)) = num (l.take k) * 256 + l.getD k 0 := by
  rw [List.take_succ_eq_append_getElem hk, List.getD_eq_getElem?_getD, List.getElem?_eq_getElem hk]; unfold num; rw [List.foldl_append]; rfl
theorem num_bound (l : List Nat) (h : ∀ x ∈ l, x < 256) : ∀ k, k ≤ l.length → num (l.take k) < 256 ^ k := by
  intro k
  induction k with
  | zero => intro _; simp [num]
  | succ k ih =>
    intro hk
    rw [num_snoc l k (by omega), Nat.pow_succ]
    have := ih (by omega)
    have := getD_lt h k
    omega
theorem num_lt64 (l : List Nat) (h : ∀ x ∈ l, x < 256) (h8 : l.length ≤ 8) (k : Nat) (hk : k ≤ l.length) : num (l.take k) < 18446744073709551616 := by
  have := num_bound l h k hk
  have h2 : 256 ^ k ≤ 256 ^ 8 := Nat.pow_le_pow_right (by decide) (by omega)
  exact Nat.lt_of_lt_of_le this h2
theorem num_num4 (a b c d : Nat) : num [a, b, c, d] = num4 a b c d := by simp [num, num4]

def NumRel (l : List Nat) (i a : Value) : Prop := ∃ (k x : Nat), k ≤ l.length ∧ num (l.take k) = x ∧ i = .int .i64 (k : Int) ∧ a = .int .u64 (x : Int)
theorem ret_u64 {a b : Int} (h : a = b) : Ending.returned (.int .u64 a) = .returned (.int .u64 b) := by rw [h]
theorem val_u64 {a b : Int} (h : a = b) : Value.int .u64 a = .int .u64 b := by rw [h]

set_option maxRecDepth 100000 in
set_option maxHeartbeats 400000 in
theorem number_any (A : Option Addr) (n c : Nat) (l : List Nat) (w : World) (B : Nat) (h8 : n ≤ 8) (hl : BS w B A n l) :
    Calls Tryd.prog 27 #[.slice A n c] w fun e w' => e = .returned (.int .u64 ((num l : Nat) : Int)) ∧ w = w' := by
  obtain rfl : l.length = n := hl.len
  go_enter Tryd.func27, Tryd.ntmps27
  go_wp2
  go_loop [8, 3] (fun i a => NumRel l i a) (fun i _ => l.length - (intOf i).toNat)
  case atStart => exact ⟨0, 0, Nat.zero_le _, rfl, rfl, rfl⟩
  case round =>
    obtain ⟨k, x, hk, hx, rfl, rfl⟩ := hrel
    by_cases hkl : k < l.length
    · obtain ⟨b1, o1, rfl, hb1, hl⟩ := hl.open_ (by omega)
      have cK := hl.cell hkl
      have gK := getD_lt hl.lt k
      have hs := num_snoc l k hkl
      have hlt := num_lt64 l hl.lt h8 (k + 1) (by omega)
      rw [hs, hx] at hlt
      have HS := Lib.hid (hs.trans (by rw [hx]))
      clear hs hx
      generalize l.getD k 0 = zk at *
      go_wp2
      exact ⟨⟨k + 1, _, by omega, HS.out, by simp, val_u64 (by simp)⟩, by simp [intOf]; omega⟩
    · have hall : l.take k = l := List.take_of_length_le (by omega)
      rw [hall] at hx
      have HX := Lib.hid hx
      clear hx hall
      obtain rfl : k = l.length := by omega
      go_wp2
      go_ret
      exact ⟨ret_u64 (by rw [HX.out]), rfl⟩

theorem own_of_five (w : World) (V : Nat) : Own (w.alloc (.cells #[dig0 V, dig1 V, dig2 V, dig3 V, dig4 V] 5)) w.heap.size (.slice (some ⟨w.heap.size, 0, none⟩) 5 5) (digits V) := by
  refine ⟨⟨by simp [bv_length, Plain85.digits_length], .inr ⟨w.heap.size, 5, _, rfl, Nat.le_refl _, _root_.Go.heap_alloc_new w _, Nat.le_refl 5, by unfold maxLen; omega, rfl, ?_⟩⟩, fun x hx => by have := Plain85.digits_range x hx; omega⟩
  show [dig0 V, dig1 V, dig2 V, dig3 V, dig4 V] = bv (digits V)
  have h0 : dig0 V = .int .u8 ((33 + V / 52200625 % 85 : Nat) : Int) := val_u8 (by omega)
  have h1 : dig1 V = .int .u8 ((33 + V / 614125 % 85 : Nat) : Int) := val_u8 (by omega)
  have h2 : dig2 V = .int .u8 ((33 + V / 7225 % 85 : Nat) : Int) := val_u8 (by omega)
  have h3 : dig3 V = .int .u8 ((33 + V / 85 % 85 : Nat) : Int) := val_u8 (by omega)
  have h4 : dig4 V = .int .u8 ((33 + V % 85 : Nat) : Int) := val_u8 (by omega)
  rw [h0, h1, h2, h3, h4]; rfl

set_option maxRecDepth 100000 in
set_option maxHeartbeats 400000 in
theorem digits85_any (A : Option Addr) (c : Nat) (l : List Nat) (w : World) (B : Nat) (hl : BS w B A 4 l) :
    Calls Tryd.prog 28 #[.slice A 4 c] w fun e w' => RetOwn w (digits (num l)) e w' := by
  have hlt := num_lt64 l hl.lt (by rw [hl.len]; omega) l.length (Nat.le_refl _)
  rw [List.take_of_length_le (Nat.le_refl _)] at hlt
  have hmk : ∀ w : World, (Instr.makeSlice 22 (.int .i64 5) (.int .i64 5)).run Tryd.prog w = .ok (.slice (some ⟨w.heap.size, 0, none⟩) 5 5) (w.alloc (.cells #[.int .u8 0, .int .u8 0, .int .u8 0, .int .u8 0, .int .u8 0] 5)) := fun _ => by kernel_rfl
  go_enter Tryd.func28, Tryd.ntmps28
  go_wp2_with fail
  refine (number_any A 4 c l w B (by omega) hl).mono ?_
  rintro e w' ⟨rfl, rfl⟩
  obtain ⟨V, hV⟩ : ∃ V, num l = V := ⟨_, rfl⟩
  rw [hV] at hlt ⊢
  have HV := Lib.hid hV
  clear hV
  go_wp2
  go_rounds 6
  go_ret
  exact ⟨_, rfl, by rw [HV.out]; exact own_of_five w V, (Below.refl _ _).alloc (Nat.le_refl _) _⟩

end Go.Proofs.YthhbcnjbnfjiiaaDoor

/-
  The walks of spec.skipped, isDigit, value85, padded, Bytes (four bytes), laws.blank, has127. Conditions: those that each contract names.
-/
import Derived.Test.YthhbcnjbnfjiiaaDoorSpec85
import Derived.Test.YthhbcnjbnfjiiaaDoorPlainDec
import Derived.Lib.AppendStr
namespace Go.Proofs.YthhbcnjbnfjiiaaDoor
open Go.RowKit
open PlainDec (be4)

/-- The number of some digits to the base 85. -/
def val85 (l : List Nat) : Nat := l.foldl (fun x c => x * 85 + (c - 33)) 0
theorem val85_snoc (l : List Nat) (c : Nat) : val85 (l ++ [c]) = val85 l * 85 + (c - 33) := by simp [val85]
theorem val85_take (l : List Nat) (k : Nat) (hk : k < l.length) : val85 (l.take (k + 1)) = val85 (l.take k) * 85 + (l.getD k 0 - 33) := by
  rw [List.take_succ_eq_append_getElem hk, List.getD_eq_getElem?_getD, List.getElem?_eq_getElem hk, val85_snoc]; rfl
theorem val85_bound (l : List Nat) (h : ∀ x ∈ l, 33 ≤ x ∧ x ≤ 117) : ∀ k, k ≤ l.length → val85 (l.take k) < 85 ^ k := by
  intro k
  induction k with
  | zero => intro _; simp [val85]
  | succ k ih =>
    intro hk
    rw [val85_take l k (by omega), Nat.pow_succ]
    have := ih (by omega)
    have := (h (l.getD k 0) (by rw [List.getD_eq_getElem?_getD, List.getElem?_eq_getElem (by omega)]; exact List.getElem_mem _)).2
    omega
theorem val85_small (l : List Nat) (h : ∀ x ∈ l, 33 ≤ x ∧ x ≤ 117) (h5 : l.length ≤ 5) (k : Nat) (hk : k ≤ l.length) : val85 (l.take k) < 4437053125 := by
  have := val85_bound l h k hk
  have h2 : 85 ^ k ≤ 85 ^ 5 := Nat.pow_le_pow_right (by decide) (by omega)
  exact Nat.lt_of_lt_of_le this h2

def V85Rel (l : List Nat) (i a : Value) : Prop := ∃ (k x : Nat), k ≤ l.length ∧ val85 (l.take k) = x ∧ i = .int .i64 (k : Int) ∧ a = .int .u64 (x : Int)

set_option maxRecDepth 100000 in
set_option maxHeartbeats 400000 in
theorem value85_any (A : Option Addr) (n c : Nat) (l : List Nat) (w : World) (B : Nat) (h5 : n ≤ 5) (hd : ∀ x ∈ l, 33 ≤ x ∧ x ≤ 117) (hl : BS w B A n l) :
    Calls Tryd.prog 32 #[.slice A n c] w fun e w' => e = .returned (.int .u64 ((val85 l : Nat) : Int)) ∧ w = w' := by
  obtain rfl : l.length = n := hl.len
  go_enter Tryd.func32, Tryd.ntmps32
  go_wp2
  go_loop [8, 3] (fun i a => V85Rel l i a) (fun i _ => l.length - (intOf i).toNat)
  case atStart => exact ⟨0, 0, Nat.zero_le _, rfl, rfl, rfl⟩
  case round =>
    obtain ⟨k, x, hk, hx, rfl, rfl⟩ := hrel
    by_cases hkl : k < l.length
    · obtain ⟨b1, o1, rfl, hb1, hl⟩ := hl.open_ (by omega)
      have cK := hl.cell hkl
      have gK := hd (l.getD k 0) (by rw [List.getD_eq_getElem?_getD, List.getElem?_eq_getElem hkl]; exact List.getElem_mem _)
      have hs := val85_take l k hkl
      have hlt := val85_small l hd h5 (k + 1) (by omega)
      have hlt0 := val85_small l hd h5 k (by omega)
      rw [hs, hx] at hlt
      rw [hx] at hlt0
      have HS := Lib.hid (hs.trans (by rw [hx]))
      clear hs hx
      generalize l.getD k 0 = zk at *
      obtain ⟨y, rfl⟩ : ∃ y, zk = y + 33 := ⟨zk - 33, by omega⟩
      have e1 : ((y + 33 : Nat) : Int) - 33 = (y : Int) := by omega
      go_wp2
      exact ⟨⟨k + 1, _, by omega, HS.out, by simp, val_u64 (by simp)⟩, by simp [intOf]; omega⟩
    · have hall : l.take k = l := List.take_of_length_le (by omega)
      rw [hall] at hx
      have HX := Lib.hid hx
      clear hx hall
      obtain rfl : k = l.length := by omega
      go_wp2
      go_ret
      exact ⟨ret_u64 (by rw [HX.out]), rfl⟩

theorem skipped_any (c : Nat) (hc : c < 256) (w : World) :
    Calls Tryd.prog 34 #[.int .u8 (c : Int)] w fun e w' => e = .returned (.bool (decide (c ≤ 32))) ∧ w = w' := by
  go_enter Tryd.func34, Tryd.ntmps34
  go_wp2
  go_ret
  exact ⟨by simp; omega, rfl⟩

def dig (c : Nat) : Bool := decide (33 ≤ c ∧ c ≤ 117)
set_option maxRecDepth 100000 in
theorem isDigit_any (c : Nat) (hc : c < 256) (w : World) :
    Calls Tryd.prog 31 #[.int .u8 (c : Int)] w fun e w' => e = .returned (.bool (dig c)) ∧ w = w' := by
  by_cases h1 : 33 ≤ c
  · have e1 : decide (33 ≤ (c : Int)) = true := decide_eq_true (by omega)
    by_cases h2 : c ≤ 117
    · have e2 : decide ((c : Int) ≤ 117) = true := decide_eq_true (by omega)
      have e3 : dig c = true := decide_eq_true ⟨h1, h2⟩
      rw [e3]
      go_enter Tryd.func31, Tryd.ntmps31
      go_wp2
      go_ret
      exact ⟨by simp, rfl⟩
    · have e2 : decide ((c : Int) ≤ 117) = false := decide_eq_false (by omega)
      have e3 : dig c = false := decide_eq_false (by omega)
      rw [e3]
      go_enter Tryd.func31, Tryd.ntmps31
      go_wp2
      go_ret
      exact ⟨by simp, rfl⟩
  · have e1 : decide (33 ≤ (c : Int)) = false := decide_eq_false (by omega)
    have e3 : dig c = false := decide_eq_false (by omega)
    rw [e3]
    go_enter Tryd.func31, Tryd.ntmps31
    go_wp2
    go_ret
    exact ⟨by simp, rfl⟩

def byt (V k : Nat) : Value := .int .u8 ((V / 256 ^ k % 256 : Nat) : Int)
theorem own_of_four (w : World) (V : Nat) (c0 c1 c2 c3 : Value) (h0 : c0 = .int .u8 ((V % 4294967296 / 16777216 : Nat) : Int)) (h1 : c1 = .int .u8 ((V % 4294967296 / 65536 % 256 : Nat) : Int))
    (h2 : c2 = .int .u8 ((V % 4294967296 / 256 % 256 : Nat) : Int)) (h3 : c3 = .int .u8 ((V % 4294967296 % 256 : Nat) : Int)) :
    Own (w.alloc (.cells #[c0, c1, c2, c3] 5)) w.heap.size (.slice (some ⟨w.heap.size, 0, none⟩) 4 4) (be4 (V % 4294967296)) := by
  refine ⟨⟨by simp [bv_length, PlainDec.be4_length], .inr ⟨w.heap.size, 4, _, rfl, Nat.le_refl _, _root_.Go.heap_alloc_new w _, Nat.le_refl 4, by unfold maxLen; omega, rfl, ?_⟩⟩, PlainDec.be4_lt _ (Nat.mod_lt _ (by decide))⟩
  show [c0, c1, c2, c3] = bv (be4 (V % 4294967296))
  rw [h0, h1, h2, h3]; rfl

set_option maxRecDepth 100000 in
set_option maxHeartbeats 400000 in
theorem bytes4_any (V : Nat) (hV : V < 18446744073709551616) (w : World) :
    Calls Tryd.prog 35 #[.int .u64 (V : Int), .int .i64 4] w fun e w' => RetOwn w (be4 (V % 4294967296)) e w' := by
  have hmk : ∀ w : World, (Instr.makeSlice 22 (.int .i64 4) (.int .i64 4)).run Tryd.prog w = .ok (.slice (some ⟨w.heap.size, 0, none⟩) 4 4) (w.alloc (.cells #[.int .u8 0, .int .u8 0, .int .u8 0, .int .u8 0] 5)) := fun _ => by kernel_rfl
  go_enter Tryd.func35, Tryd.ntmps35
  go_wp2
  go_rounds 5
  go_ret
  exact ⟨_, rfl, own_of_four w V _ _ _ _ (val_u8 (by omega)) (val_u8 (by omega)) (val_u8 (by omega)) (val_u8 (by omega)), (Below.refl _ _).alloc (Nat.le_refl _) _⟩

end Go.Proofs.YthhbcnjbnfjiiaaDoor

/-
  The walks of spec.AdlerOf and of spec.Bytes (four bytes). Conditions: the data read as a list.
-/
import Derived.Test.YtdpjdglcienbfaaAdUpd
import Derived.Test.YtdpjdglcienbfaaBoth
import Derived.Test.YtdpjdglcienbfaaPlainHash
import Derived.Handy
import Derived.LoopTactic
namespace Go.Proofs.Ytdpjdglcienbfaa
open Go.RowKit
open PlainHash (be4)

theorem ret_u32 {a b : Int} (h : a = b) : Ending.returned (.int .u32 a) = .returned (.int .u32 b) := by rw [h]
theorem val_i64 {a b : Int} (h : a = b) : Value.int .i64 a = .int .i64 b := by rw [h]

def AdlRel (l : List Nat) (i a b : Value) : Prop :=
  ∃ (k x y : Nat), k ≤ l.length ∧ PlainAd.sums (1, 0) (l.take k) = (x, y) ∧ x < 65521 ∧ y < 65521 ∧ i = .int .i64 (k : Int) ∧ a = .int .i64 (x : Int) ∧ b = .int .i64 (y : Int)

theorem sums_one (s : Nat × Nat) (r : List Nat) (k x y : Nat) (hk : k < r.length) (h : PlainAd.sums s (r.take k) = (x, y)) :
    PlainAd.sums s (r.take (k + 1)) = ((x + r.getD k 0) % 65521, (y + (x + r.getD k 0) % 65521) % 65521) := by
  rw [List.take_succ_eq_append_getElem hk, PlainAd.sums_append, h, List.getD_eq_getElem?_getD, List.getElem?_eq_getElem hk]; rfl

set_option maxHeartbeats 400000 in
theorem adlerOf_any (A : Option Addr) (n c : Nat) (l : List Nat) (w : World) (B : Nat) (hc : n ≤ c) (hm : c ≤ maxLen) (hl : BS w B A n l) :
    Calls Try.prog 16 #[.slice A n c] w fun e w' => e = .returned (.int .u32 ((PlainAd.adler l : Nat) : Int)) ∧ w = w' := by
  unfold maxLen at hm
  obtain rfl : l.length = n := hl.len
  go_enter Try.func16, Try.ntmps16
  go_wp2
  go_loop [9, 3, 4] (fun i a b => AdlRel l i a b) (fun i _ _ => l.length - (intOf i).toNat)
  case atStart => exact ⟨0, 1, 0, Nat.zero_le _, rfl, by decide, by decide, rfl, rfl, rfl⟩
  case round =>
    obtain ⟨k, x, y, hk, hxy, hx, hy, rfl, rfl, rfl⟩ := hrel
    by_cases hkl : k < l.length
    · obtain ⟨b1, o1, rfl, hb1, hl⟩ := hl.open_ (by omega)
      have cK := hl.cell hkl
      have gK := getD_lt hl.lt k
      have HR := Lib.hid (sums_one (1, 0) l k x y hkl hxy)
      clear hxy
      generalize l.getD k 0 = zk at *
      go_wp2
      exact ⟨⟨k + 1, _, _, by omega, HR.out, Nat.mod_lt _ (by decide), Nat.mod_lt _ (by decide), by simp, val_i64 (by simp), val_i64 (by simp)⟩, by simp [intOf]; omega⟩
    · have hall : l.take k = l := List.take_of_length_le (by omega)
      rw [hall] at hxy
      have HXY := Lib.hid hxy
      clear hxy hall
      obtain rfl : k = l.length := by omega
      go_wp2
      go_ret
      exact ⟨ret_u32 (by rw [PlainAd.adler, HXY.out]; simp [PlainAd.word]), rfl⟩

theorem val_u8 {a b : Int} (h : a = b) : Value.int .u8 a = .int .u8 b := by rw [h]
theorem own_of_four (w : World) (V : Nat) (c0 c1 c2 c3 : Value) (h0 : c0 = .int .u8 ((V % 4294967296 / 16777216 : Nat) : Int)) (h1 : c1 = .int .u8 ((V % 4294967296 / 65536 % 256 : Nat) : Int))
    (h2 : c2 = .int .u8 ((V % 4294967296 / 256 % 256 : Nat) : Int)) (h3 : c3 = .int .u8 ((V % 4294967296 % 256 : Nat) : Int)) :
    Own (w.alloc (.cells #[c0, c1, c2, c3] 5)) w.heap.size (.slice (some ⟨w.heap.size, 0, none⟩) 4 4) (be4 (V % 4294967296)) := by
  refine ⟨⟨by simp [bv_length, PlainHash.be4_length], .inr ⟨w.heap.size, 4, _, rfl, Nat.le_refl _, _root_.Go.heap_alloc_new w _, Nat.le_refl 4, by unfold maxLen; omega, rfl, ?_⟩⟩, PlainHash.be4_lt _ (Nat.mod_lt _ (by decide))⟩
  show [c0, c1, c2, c3] = bv (be4 (V % 4294967296))
  rw [h0, h1, h2, h3]; rfl

set_option maxRecDepth 100000 in
set_option maxHeartbeats 400000 in
theorem bytes4_any (V : Nat) (hV : V < 18446744073709551616) (w : World) :
    Calls Try.prog 45 #[.int .u64 (V : Int), .int .i64 4] w fun e w' => RetOwn w (be4 (V % 4294967296)) e w' := by
  have hmk : ∀ w : World, (Instr.makeSlice 22 (.int .i64 4) (.int .i64 4)).run Try.prog w = .ok (.slice (some ⟨w.heap.size, 0, none⟩) 4 4) (w.alloc (.cells #[.int .u8 0, .int .u8 0, .int .u8 0, .int .u8 0] 5)) := fun _ => by kernel_rfl
  go_enter Try.func45, Try.ntmps45
  go_wp2
  go_rounds 5
  go_ret
  exact ⟨_, rfl, own_of_four w V _ _ _ _ (val_u8 (by omega)) (val_u8 (by omega)) (val_u8 (by omega)) (val_u8 (by omega)), (Below.refl _ _).alloc (Nat.le_refl _) _⟩

end Go.Proofs.Ytdpjdglcienbfaa

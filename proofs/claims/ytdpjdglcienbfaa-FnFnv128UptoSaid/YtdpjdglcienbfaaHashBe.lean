/-
  The walks of internal/byteorder's BEAppendUint32, BEAppendUint64, BEUint32, BEUint64. Conditions: the slice that is appended to is a row of the call's own; what is read has bytes enough.
-/
import Derived.Test.YtdpjdglcienbfaaAppend
import Derived.Test.YtdpjdglcienbfaaPlainHash
import Derived.Outline
import Derived.Lib.Hide
import Derived.LoopTactic
import Derived.WalkSpells
import Derived.WalkLawsBesides
import Derived.Deep.QuietTactic
import Derived.BigQuiet
import Derived.Lib.EndianBits
namespace Go.Proofs.Ytdpjdglcienbfaa
open Go.RowKit
open PlainHash (be4 be8)

/-- A call that hands back a longer row of the call's own: from block 'base' on, all below stands. -/
def RetApp (w : World) (base : Nat) (l : List Nat) (e : Ending) (w' : World) : Prop := ∃ v, e = .returned v ∧ Own w' base v l ∧ Below base w w'

theorem lit4 (w : World) (l : List Nat) (c0 c1 c2 c3 : Value) (hl : ∀ x ∈ l, x < 256) (h : [c0, c1, c2, c3] = bv l) : BS (w.alloc (.cells #[c0, c1, c2, c3] 5)) (w.heap.size + 1) (some ⟨w.heap.size, 0, none⟩) 4 l := by
  have h4 : l.length = 4 := by have := congrArg List.length h; simpa [bv_length] using this.symm
  have hb := BS.lit w l hl
  rw [h4, ← h] at hb
  exact hb
theorem lit8 (w : World) (l : List Nat) (c0 c1 c2 c3 c4 c5 c6 c7 : Value) (hl : ∀ x ∈ l, x < 256) (h : [c0, c1, c2, c3, c4, c5, c6, c7] = bv l) : BS (w.alloc (.cells #[c0, c1, c2, c3, c4, c5, c6, c7] 5)) (w.heap.size + 1) (some ⟨w.heap.size, 0, none⟩) 8 l := by
  have h4 : l.length = 8 := by have := congrArg List.length h; simpa [bv_length] using this.symm
  have hb := BS.lit w l hl
  rw [h4, ← h] at hb
  exact hb

set_option maxRecDepth 100000 in
set_option maxHeartbeats 400000 in
theorem beAppend32 (v : Nat) (hv : v < 4294967296) (w : World) (base : Nat) (sv : Value) (l : List Nat) (hown : Own w base sv l) (hB : base ≤ w.heap.size) (hs : l.length ≤ 70368744177764) :
    Calls Try.prog 81 #[sv, .int .u32 (v : Int)] w fun e w' => RetApp w base (l ++ be4 v) e w' := by
  have HBL := Lib.hid hown.block
  have HO := Lib.hid hown
  clear hown
  go_enter Try.func81, Try.ntmps81
  go_wp2_with (at_builtin; refine wpList_append_bytes _ (o := ⟨some 18, _, _, _, _, _⟩) rfl _ _ rfl base _ l rfl (HO.out.alloc _) (w.heap.size + 1) (some ⟨w.heap.size, 0, none⟩) 4 4 (be4 v) rfl ?h (by omega) (by simp; omega) ?_)
  case h => exact lit4 w (be4 v) _ _ _ _ (PlainHash.be4_lt v hv) rfl
  intro v1 w1 hown1 hg1 _
  have hb2 : Below base w w1 := ((Below.refl _ _).alloc hB _).grown hg1 (by simp; omega) HBL.out
  clear hg1
  go_wp2
  go_ret
  exact ⟨_, rfl, hown1, hb2⟩

set_option maxRecDepth 100000 in
set_option maxHeartbeats 400000 in
theorem beAppend64 (v : Nat) (hv : v < 18446744073709551616) (w : World) (base : Nat) (sv : Value) (l : List Nat) (hown : Own w base sv l) (hB : base ≤ w.heap.size) (hs : l.length ≤ 70368744177764) :
    Calls Try.prog 104 #[sv, .int .u64 (v : Int)] w fun e w' => RetApp w base (l ++ be8 v) e w' := by
  have HBL := Lib.hid hown.block
  have HO := Lib.hid hown
  clear hown
  go_enter Try.func104, Try.ntmps104
  go_wp2_with (at_builtin; refine wpList_append_bytes _ (o := ⟨some 30, _, _, _, _, _⟩) rfl _ _ rfl base _ l rfl (HO.out.alloc _) (w.heap.size + 1) (some ⟨w.heap.size, 0, none⟩) 8 8 (be8 v) rfl ?h (by omega) (by simp; omega) ?_)
  case h => exact lit8 w (be8 v) _ _ _ _ _ _ _ _ (PlainHash.be8_lt v hv) rfl
  intro v1 w1 hown1 hg1 _
  have hb2 : Below base w w1 := ((Below.refl _ _).alloc hB _).grown hg1 (by simp; omega) HBL.out
  clear hg1
  go_wp2
  go_ret
  exact ⟨_, rfl, hown1, hb2⟩

theorem getD_app8 (a r : List Nat) (i : Nat) (h : i < a.length) : (a ++ r).getD i 0 = a.getD i 0 := by
  rw [List.getD_eq_getElem?_getD, List.getD_eq_getElem?_getD, List.getElem?_append_left h]

set_option maxRecDepth 100000 in
set_option maxHeartbeats 2000000 in
theorem beRead32 (x0 x1 x2 x3 : Nat) (h0 : x0 < 256) (h1 : x1 < 256) (h2 : x2 < 256) (h3 : x3 < 256) (w : World) (b o n c : Nat) (hn : 4 ≤ n) (c0 : w.cell? ⟨b, o, none⟩ = some (.int .u8 (x0 : Int))) (c1 : w.cell? ⟨b, o + 1, none⟩ = some (.int .u8 (x1 : Int))) (c2 : w.cell? ⟨b, o + 2, none⟩ = some (.int .u8 (x2 : Int))) (c3 : w.cell? ⟨b, o + 3, none⟩ = some (.int .u8 (x3 : Int))) :
    Calls Try.prog 83 #[.slice (some ⟨b, o, none⟩) n c] w fun e w' => e = .returned (.int .u32 ((x3 + x2 * 256 + x1 * 65536 + x0 * 16777216 : Nat) : Int)) ∧ ∃ k, w' = w.drewN k := by
  have q0 : 0 < n := by omega
  have q1 : (1 : Int) < (n : Int) := by omega
  have q2 : (2 : Int) < (n : Int) := by omega
  have q3 : (3 : Int) < (n : Int) := by omega
  go_enter Try.func83, Try.ntmps83
  go_wp2
  go_quiet (fail)
  go_wp2
  go_ret
  refine ⟨?_, ⟨_, rfl⟩⟩
  simp (disch := omega) only [u32_or8, u32_or16, u32_or24]
  congr 2

theorem beUint32 (v : Nat) (hv : v < 4294967296) (r : List Nat) (w : World) (B b o n c : Nat) (hn : 4 ≤ n) (hb : BS w B (some ⟨b, o, none⟩) n (be4 v ++ r)) :
    Calls Try.prog 83 #[.slice (some ⟨b, o, none⟩) n c] w fun e w' => e = .returned (.int .u32 (v : Int)) ∧ ∃ k, w' = w.drewN k := by
  have c0 := hb.cell (i := 0) (by omega)
  have c1 := hb.cell (i := 1) (by omega)
  have c2 := hb.cell (i := 2) (by omega)
  have c3 := hb.cell (i := 3) (by omega)
  rw [getD_app8 _ _ _ (by simp [be4])] at c0
  rw [getD_app8 _ _ _ (by simp [be4])] at c1
  rw [getD_app8 _ _ _ (by simp [be4])] at c2
  rw [getD_app8 _ _ _ (by simp [be4])] at c3
  have h := beRead32 ((be4 v).getD 0 0) ((be4 v).getD 1 0) ((be4 v).getD 2 0) ((be4 v).getD 3 0) (getD_lt (PlainHash.be4_lt v hv) 0) (getD_lt (PlainHash.be4_lt v hv) 1) (getD_lt (PlainHash.be4_lt v hv) 2) (getD_lt (PlainHash.be4_lt v hv) 3) w b o n c hn c0 c1 c2 c3
  have e : (be4 v).getD 3 0 + (be4 v).getD 2 0 * 256 + (be4 v).getD 1 0 * 65536 + (be4 v).getD 0 0 * 16777216 = v := by
    simp only [be4, List.getD_cons_zero, List.getD_cons_succ]
    omega
  rw [e] at h
  exact h

set_option maxRecDepth 100000 in
set_option maxHeartbeats 2000000 in
theorem beRead64 (x0 x1 x2 x3 x4 x5 x6 x7 : Nat) (h0 : x0 < 256) (h1 : x1 < 256) (h2 : x2 < 256) (h3 : x3 < 256) (h4 : x4 < 256) (h5 : x5 < 256) (h6 : x6 < 256) (h7 : x7 < 256) (w : World) (b o n c : Nat) (hn : 8 ≤ n) (c0 : w.cell? ⟨b, o, none⟩ = some (.int .u8 (x0 : Int))) (c1 : w.cell? ⟨b, o + 1, none⟩ = some (.int .u8 (x1 : Int))) (c2 : w.cell? ⟨b, o + 2, none⟩ = some (.int .u8 (x2 : Int))) (c3 : w.cell? ⟨b, o + 3, none⟩ = some (.int .u8 (x3 : Int))) (c4 : w.cell? ⟨b, o + 4, none⟩ = some (.int .u8 (x4 : Int))) (c5 : w.cell? ⟨b, o + 5, none⟩ = some (.int .u8 (x5 : Int))) (c6 : w.cell? ⟨b, o + 6, none⟩ = some (.int .u8 (x6 : Int))) (c7 : w.cell? ⟨b, o + 7, none⟩ = some (.int .u8 (x7 : Int))) :
    Calls Try.prog 105 #[.slice (some ⟨b, o, none⟩) n c] w fun e w' => e = .returned (.int .u64 ((x7 + x6 * 256 + x5 * 65536 + x4 * 16777216 + x3 * 4294967296 + x2 * 1099511627776 + x1 * 281474976710656 + x0 * 72057594037927936 : Nat) : Int)) ∧ ∃ k, w' = w.drewN k := by
  have q0 : 0 < n := by omega
  have q1 : (1 : Int) < (n : Int) := by omega
  have q2 : (2 : Int) < (n : Int) := by omega
  have q3 : (3 : Int) < (n : Int) := by omega
  have q4 : (4 : Int) < (n : Int) := by omega
  have q5 : (5 : Int) < (n : Int) := by omega
  have q6 : (6 : Int) < (n : Int) := by omega
  have q7 : (7 : Int) < (n : Int) := by omega
  go_enter Try.func105, Try.ntmps105
  go_wp2
  go_quiet (fail)
  go_wp2
  go_ret
  refine ⟨?_, ⟨_, rfl⟩⟩
  simp (disch := omega) only [u64_or8, u64_or16, u64_or24, u64_or32, u64_or40, u64_or48, u64_or56]
  congr 2

theorem beUint64 (v : Nat) (hv : v < 18446744073709551616) (r : List Nat) (w : World) (B b o n c : Nat) (hn : 8 ≤ n) (hb : BS w B (some ⟨b, o, none⟩) n (be8 v ++ r)) :
    Calls Try.prog 105 #[.slice (some ⟨b, o, none⟩) n c] w fun e w' => e = .returned (.int .u64 (v : Int)) ∧ ∃ k, w' = w.drewN k := by
  have c0 := hb.cell (i := 0) (by omega)
  have c1 := hb.cell (i := 1) (by omega)
  have c2 := hb.cell (i := 2) (by omega)
  have c3 := hb.cell (i := 3) (by omega)
  have c4 := hb.cell (i := 4) (by omega)
  have c5 := hb.cell (i := 5) (by omega)
  have c6 := hb.cell (i := 6) (by omega)
  have c7 := hb.cell (i := 7) (by omega)
  rw [getD_app8 _ _ _ (by simp [be8])] at c0
  rw [getD_app8 _ _ _ (by simp [be8])] at c1
  rw [getD_app8 _ _ _ (by simp [be8])] at c2
  rw [getD_app8 _ _ _ (by simp [be8])] at c3
  rw [getD_app8 _ _ _ (by simp [be8])] at c4
  rw [getD_app8 _ _ _ (by simp [be8])] at c5
  rw [getD_app8 _ _ _ (by simp [be8])] at c6
  rw [getD_app8 _ _ _ (by simp [be8])] at c7
  have h := beRead64 ((be8 v).getD 0 0) ((be8 v).getD 1 0) ((be8 v).getD 2 0) ((be8 v).getD 3 0) ((be8 v).getD 4 0) ((be8 v).getD 5 0) ((be8 v).getD 6 0) ((be8 v).getD 7 0) (getD_lt (PlainHash.be8_lt v hv) 0) (getD_lt (PlainHash.be8_lt v hv) 1) (getD_lt (PlainHash.be8_lt v hv) 2) (getD_lt (PlainHash.be8_lt v hv) 3) (getD_lt (PlainHash.be8_lt v hv) 4) (getD_lt (PlainHash.be8_lt v hv) 5) (getD_lt (PlainHash.be8_lt v hv) 6) (getD_lt (PlainHash.be8_lt v hv) 7) w b o n c hn c0 c1 c2 c3 c4 c5 c6 c7
  have e : (be8 v).getD 7 0 + (be8 v).getD 6 0 * 256 + (be8 v).getD 5 0 * 65536 + (be8 v).getD 4 0 * 16777216 + (be8 v).getD 3 0 * 4294967296 + (be8 v).getD 2 0 * 1099511627776 + (be8 v).getD 1 0 * 281474976710656 + (be8 v).getD 0 0 * 72057594037927936 = v := by
    simp only [be8, List.getD_cons_zero, List.getD_cons_succ]
    omega
  rw [e] at h
  exact h

end Go.Proofs.Ytdpjdglcienbfaa

/-
  The walks of (*bytes.Buffer).Len, grow, Write and Bytes for a buffer that has only been written: what it holds, and that no other block turns. Conditions: those that each names.
-/
import Derived.Test.YthhbcnjbnfjiiaaBufGrow
import Derived.BigQuiet
import Derived.Lib.BufferMore
import Derived.WalkSpells
import Derived.WalkLawsBesides
import Derived.Deep.QuietTactic
import Derived.Deep.DeepCutAuto
import Derived.Deep.RegionHeld3
namespace Go.Proofs.Ythhbcnjbnfjiiaa
open Go.RowKit

structure Buf (w : World) (B b : Nat) (A : Option Addr) (m cap : Nat) (lr : Int) (l : List Nat) : Prop where
  len : l.length = m
  blk : w.heap[b]? = some (.cells #[.slice A m cap, .int .i64 0, .int .i8 lr] 37 (0, 0))
  own : Own w B (.slice A m cap) l
  ne : (Value.slice A m cap).ownBlock ≠ some b
  base : B ≤ b
/-- No old block turns but b and the row g. -/
structure Two (b : Nat) (g : Option Nat) (w w' : World) : Prop where
  os : w'.os = w.os
  tape : w'.tape = w.tape
  output : w'.output = w.output
  size : w.heap.size ≤ w'.heap.size
  block : ∀ k, k < w.heap.size → k ≠ b → some k ≠ g → w'.heap[k]? = w.heap[k]?
theorem three_cells {w : World} {b : Nat} {x y z : Value} {t : TypeId} (h : w.heap[b]? = some (.cells #[x, y, z] t (0, 0))) :
    w.cell? ⟨b, 0, none⟩ = some x ∧ w.cell? ⟨b, 1, none⟩ = some y ∧ w.cell? ⟨b, 2, none⟩ = some z ∧ w.frozen? ⟨b, 0, none⟩ = false ∧ w.frozen? ⟨b, 1, none⟩ = false ∧ w.frozen? ⟨b, 2, none⟩ = false := by
  simp [World.cell?, World.frozen?, h]
set_option maxRecDepth 100000 in
theorem len_any (b : Nat) (A : Option Addr) (m cap : Nat) (lr : Int) (w : World) (hm : m ≤ 9223372036854775807) (hb : w.heap[b]? = some (.cells #[.slice A m cap, .int .i64 0, .int .i8 lr] 37 (0, 0))) :
    Calls Try.prog 46 #[.pointer (some ⟨b, 0, none⟩)] w fun e w' => e = .returned (.int .i64 m) ∧ ∃ k, w' = w.drewN k := by
  obtain ⟨c0, c1, c2, f0, f1, f2⟩ := three_cells hb
  clear hb
  go_enter Try.func46, Try.ntmps46
  go_wp2
  go_quiet (fail)
  go_wp2
  go_ret
  exact ⟨by simp, _, rfl⟩

/-- What grow leaves. -/
def RetG (w : World) (b m n : Nat) (lr : Int) (old : List Value) (e : Ending) (w' : World) : Prop :=
  ∃ G cap2 cells, e = .returned (.int .i64 m) ∧ w'.heap[b]? = some (.cells #[.slice (some ⟨G, 0, none⟩) (m + n) cap2, .int .i64 0, .int .i8 lr] 37 (0, 0)) ∧ w'.heap[G]? = some (.cells cells 5 (0, 0)) ∧ cells.size = cap2 ∧ cells.toList.take m = old ∧ m + n ≤ cap2 ∧ cap2 ≤ maxLen ∧ w.heap.size ≤ G ∧ Two b none w w'
theorem run_make64 (W : World) {i0 : TypeInfo} (hi : Try.prog.info? 5 = some i0) (hz0 : i0.zero = some (.int .u8 0)) (hz1 : i0.size = 1) (hz2 : i0.bytes = 1) (n : Nat) (h64 : n ≤ 64) :
    (Instr.makeSlice 25 (.int .i64 (n : Int)) (.int .i64 64)).run Try.prog W = .ok (.slice (some ⟨W.heap.size, 0, none⟩) n 64) (W.alloc (.cells (madeCells #[.int .u8 0] 64) 5)) := by
  have h := run_make (P := Try.prog) W 25 5 i0 (.int .u8 0) Try.underlying25 hi hz0 .i64 .i64 (n : Int) 64 (by omega) (by omega) (by rw [hz2]; omega) (by omega)
  rw [hz1] at h
  exact h
theorem set_three {w : World} {b : Nat} {x y z v : Value} {t : TypeId} (h : w.heap[b]? = some (.cells #[x, y, z] t (0, 0))) : (w.setCell ⟨b, 0, none⟩ v).heap[b]? = some (.cells #[v, y, z] t (0, 0)) ∧ (w.setCell ⟨b, 1, none⟩ v).heap[b]? = some (.cells #[x, v, z] t (0, 0)) ∧ (w.setCell ⟨b, 2, none⟩ v).heap[b]? = some (.cells #[x, y, v] t (0, 0)) := by
  have one : ∀ (i : Nat), (w.setCell ⟨b, i, none⟩ v).heap[b]? = some (.cells ((#[x, y, z] : Array Value).setIfInBounds i v) t (0, 0)) := by
    intro i
    have hlt := lt_of_block' h
    have h' : w.heap[b] = .cells #[x, y, z] t (0, 0) := by simpa [Array.getElem?_eq_getElem hlt] using h
    show (w.heap.modify b _)[b]? = _
    rw [Array.getElem?_eq_getElem (by simpa using hlt), Array.getElem_modify_self, h']
    rfl
  exact ⟨one 0, one 1, one 2⟩
theorem set_other {w : World} {b i k : Nat} {v : Value} (h : k ≠ b) : (w.setCell ⟨b, i, none⟩ v).heap[k]? = w.heap[k]? := Below.heap_setCell w ⟨b, i, none⟩ v k h
theorem Two.refl (b : Nat) (g : Option Nat) (w : World) : Two b g w w := ⟨rfl, rfl, rfl, Nat.le_refl _, fun _ _ _ _ => rfl⟩
theorem Two.set {b : Nat} {g : Option Nat} {w w' : World} (h : Two b g w w') (i : Nat) (v : Value) : Two b g w (w'.setCell ⟨b, i, none⟩ v) :=
  ⟨h.os, h.tape, h.output, by simpa [World.setCell] using h.size, fun k hk hb hg => (set_other hb).trans (h.block k hk hb hg)⟩
theorem Two.below {b : Nat} {g : Option Nat} {w w1 w2 : World} (h : Two b g w w1) (hb : Below w1.heap.size w1 w2) : Two b g w w2 :=
  ⟨hb.os.trans h.os, hb.tape.trans h.tape, hb.output.trans h.output, Nat.le_trans h.size hb.size, fun k hk h1 h2 => (hb.block k (Nat.lt_of_lt_of_le hk h.size)).trans (h.block k hk h1 h2)⟩
theorem Two.trans {b : Nat} {g : Option Nat} {w w1 w2 : World} (h : Two b g w w1) (k : Two b g w1 w2) : Two b g w w2 :=
  ⟨k.os.trans h.os, k.tape.trans h.tape, k.output.trans h.output, Nat.le_trans h.size k.size, fun i hi h1 h2 => (k.block i (Nat.lt_of_lt_of_le hi h.size) h1 h2).trans (h.block i hi h1 h2)⟩
set_option maxHeartbeats 4000000 in
set_option maxRecDepth 100000 in
theorem grow_small (b n : Nat) (lr : Int) (w : World) (hb : w.heap[b]? = some (.cells #[.slice none 0 0, .int .i64 0, .int .i8 lr] 37 (0, 0))) (hn : 1 ≤ n) (h64 : n ≤ 64) :
    Calls Try.prog 45 #[.pointer (some ⟨b, 0, none⟩), .int .i64 n] w fun e w' => RetG w b 0 n lr [] e w' := by
  obtain ⟨c0, c1, c2, f0, f1, f2⟩ := three_cells hb
  have hlt := lt_of_block' hb
  have e64 : decide ((n : Int) ≤ 64) = true := decide_eq_true (by omega)
  have hmk : ∀ W : World, (Instr.makeSlice 25 (.int .i64 (n : Int)) (.int .i64 64)).run Try.prog W = .ok (.slice (some ⟨W.heap.size, 0, none⟩) n 64) (W.alloc (.cells (madeCells #[.int .u8 0] 64) 5)) := fun W => by
    obtain ⟨i0, hi, hzz⟩ := Option.map_eq_some_iff.1 Try.infoByte
    simp only [Prod.mk.injEq] at hzz
    obtain ⟨hz0, hz1, hz2⟩ := hzz
    exact run_make64 W hi hz0 hz1 hz2 n h64
  have hnn := fun W => Lib.run_eql_slice_nil_nil (P := Try.prog) W 0 0 Try.underlying25
  go_enter Try.func45, Try.ntmps45
  go_wp2_with fail
  refine (len_any b none 0 0 lr w (by omega) hb).mono ?_
  rintro e w1 ⟨rfl, k1, rfl⟩
  go_wp2_with fail
  refine (tryGrow_no b none 0 0 n (w.drewN k1) c0 (Nat.le_refl _) (Nat.zero_le _) (by omega)).mono ?_
  rintro e w2 ⟨rfl, rfl⟩
  have hcz : ∀ o, ((w.drewN k1).alloc o).cell? ⟨b, 0, none⟩ = some (.slice none 0 0) := fun o => (three_cells ((Below.heap_alloc (w.drewN k1) o b hlt).trans hb)).1
  have hfz : ∀ o, ((w.drewN k1).alloc o).frozen? ⟨b, 0, none⟩ = false := fun o => (three_cells ((Below.heap_alloc (w.drewN k1) o b hlt).trans hb)).2.2.2.1
  go_wp2
  go_ret
  refine ⟨w.heap.size, 64, _, rfl, by rw [Nat.zero_add]; exact (set_three ((Below.heap_alloc (w.drewN k1) _ b hlt).trans hb)).1, (set_other (by omega)).trans (_root_.Go.heap_alloc_new w _), size_madeCells _ _, by simp, by omega, by unfold maxLen; omega, Nat.le_refl _, ?_⟩
  exact ((Two.refl b none w).below (w2 := (w.drewN k1).alloc (.cells (madeCells #[.int .u8 0] 64) 5)) ⟨rfl, rfl, rfl, by simp, fun k hk => Below.heap_alloc (w.drewN k1) _ k hk⟩).set 0 _
set_option maxHeartbeats 4000000 in
set_option maxRecDepth 100000 in
theorem grow_nil (b n : Nat) (lr : Int) (w : World) (hb : w.heap[b]? = some (.cells #[.slice none 0 0, .int .i64 0, .int .i8 lr] 37 (0, 0))) (h64 : 64 < n) (hlim : n ≤ 70368744177664) :
    Calls Try.prog 45 #[.pointer (some ⟨b, 0, none⟩), .int .i64 n] w fun e w' => RetG w b 0 n lr ([]) e w' := by
  have e0 : decide ((n : Int) ≤ 64) = false := decide_eq_false (by omega)
  have e1 : decide ((n : Int) ≤ 0) = false := decide_eq_false (by omega)
  obtain ⟨c0, c1, c2, f0, f1, f2⟩ := three_cells hb
  have hlt := lt_of_block' hb
  have hwn : IntKind.i64.wrap (n : Int) = (n : Int) := IntWalk.i64_in _ (by omega)
  have hnn := fun W => Lib.run_eql_slice_nil_nil (P := Try.prog) W 0 0 Try.underlying25
  go_enter Try.func45, Try.ntmps45
  go_wp2_with fail
  refine (len_any b none 0 0 lr w (by omega) hb).mono ?_
  rintro e w1 ⟨rfl, k1, rfl⟩
  go_wp2_with fail
  refine (tryGrow_no b none 0 0 n (w.drewN k1) c0 (by omega) (by unfold maxLen; omega) (by omega)).mono ?_
  rintro e w2 ⟨rfl, rfl⟩
  go_wp2_with fail
  refine wp_region_held_drew (S := fun W => W.cell? ⟨b, 1, none⟩ = some (.int .i64 0)) (by kernel_rfl) c1 (fun hHeld => ?_)
  refine wpAnyH_take (i := 0) (oi := ⟨some 76, _, _, _, _, _⟩) (v := ?_) rfl (by kernel_rfl) (by kernel_rfl) (by kernel_rfl) (fun _ _ _ h => h) (Or.inl ⟨by rfl, ?_⟩) hHeld ?_
  rotate_left
  · intro W hW; go_simp <;> with_reducible rfl
  simp only [Act.put, List.setIfInBounds_toArray, List.set_cons_zero, List.set_cons_succ]
  refine wpAnyH_take (i := 1) (oi := ⟨some 77, _, _, _, _, _⟩) (v := ?_) rfl (by kernel_rfl) (by kernel_rfl) (by kernel_rfl) (fun _ _ _ h => h) (Or.inl ⟨by rfl, ?_⟩) hHeld ?_
  rotate_left
  · intro W hW; go_simp <;> with_reducible rfl
  simp only [Act.put, List.setIfInBounds_toArray, List.set_cons_zero, List.set_cons_succ]
  refine wpAnyH_take (i := 2) (oi := ⟨some 78, _, _, _, _, _⟩) (v := ?_) rfl (by kernel_rfl) (by kernel_rfl) (by kernel_rfl) (fun _ _ _ h => h) (Or.inl ⟨by rfl, ?_⟩) hHeld ?_
  rotate_left
  · intro W hW; go_simp <;> with_reducible rfl
  simp only [Act.put, List.setIfInBounds_toArray, List.set_cons_zero, List.set_cons_succ]
  refine wpAnyH_take (i := 3) (oi := ⟨some 79, _, _, _, _, _⟩) (v := ?_) rfl (by kernel_rfl) (by kernel_rfl) (by kernel_rfl) (fun _ _ _ h => h) (Or.inl ⟨by rfl, ?_⟩) hHeld ?_
  rotate_left
  · intro W hW; go_simp <;> with_reducible rfl
  simp only [Act.put, List.setIfInBounds_toArray, List.set_cons_zero, List.set_cons_succ]
  refine wpAnyH_take (i := 5) (oi := ⟨some 81, _, _, _, _, _⟩) (v := ?_) rfl (by kernel_rfl) (by kernel_rfl) (by kernel_rfl) (fun _ _ _ h => h) (Or.inl ⟨by rfl, ?_⟩) hHeld ?_
  rotate_left
  · intro W hW; go_simp <;> with_reducible rfl
  simp only [Act.put, List.setIfInBounds_toArray, List.set_cons_zero, List.set_cons_succ]
  refine wpAnyH_take (i := 6) (oi := ⟨some 82, _, _, _, _, _⟩) (v := ?_) rfl (by kernel_rfl) (by kernel_rfl) (by kernel_rfl) (fun _ _ _ h => h) (Or.inl ⟨by rfl, ?_⟩) hHeld ?_
  rotate_left
  · intro W hW; go_simp <;> with_reducible rfl
  simp only [Act.put, List.setIfInBounds_toArray, List.set_cons_zero, List.set_cons_succ]
  refine wpAnyH_take (i := 7) (oi := ⟨some 83, _, _, _, _, _⟩) (v := ?_) rfl (by kernel_rfl) (by kernel_rfl) (by kernel_rfl) (fun _ _ _ h => h) (Or.inl ⟨by rfl, ?_⟩) hHeld ?_
  rotate_left
  · intro W hW; go_simp <;> with_reducible rfl
  simp only [Act.put, List.setIfInBounds_toArray, List.set_cons_zero, List.set_cons_succ]
  refine wpAnyH_take (i := 8) (oi := ⟨some 84, _, _, _, _, _⟩) (v := ?_) rfl (by kernel_rfl) (by kernel_rfl) (by kernel_rfl) (fun _ _ _ h => h) (Or.inl ⟨by rfl, ?_⟩) hHeld ?_
  rotate_left
  · intro W hW; go_simp <;> with_reducible rfl
  simp only [Act.put, List.setIfInBounds_toArray, List.set_cons_zero, List.set_cons_succ]
  refine wpAnyH_take (i := 10) (oi := ⟨some 86, _, _, _, _, _⟩) (v := ?_) rfl (by kernel_rfl) (by kernel_rfl) (by kernel_rfl) (fun _ _ _ h => h) (Or.inl ⟨by rfl, ?_⟩) hHeld ?_
  rotate_left
  · intro W hW; go_simp <;> with_reducible rfl
  simp only [Act.put, List.setIfInBounds_toArray, List.set_cons_zero, List.set_cons_succ]
  refine wpAnyH_take (i := 11) (oi := ⟨some 87, _, _, _, _, _⟩) (v := ?_) rfl (by kernel_rfl) (by kernel_rfl) (by kernel_rfl) (fun _ _ _ h => h) (Or.inl ⟨by rfl, ?_⟩) hHeld ?_
  rotate_left
  · intro W hW; go_simp <;> with_reducible rfl
  simp only [Act.put, List.setIfInBounds_toArray, List.set_cons_zero, List.set_cons_succ]
  refine wpAnyH_take (i := 12) (oi := ⟨some 88, _, _, _, _, _⟩) (v := ?_) rfl (by kernel_rfl) (by kernel_rfl) (by kernel_rfl) (fun _ _ _ h => h) (Or.inl ⟨by rfl, ?_⟩) hHeld ?_
  rotate_left
  · intro W hW; go_simp <;> with_reducible rfl
  simp only [Act.put, List.setIfInBounds_toArray, List.set_cons_zero, List.set_cons_succ]
  refine wpAnyH_take (i := 13) (oi := ⟨some 89, _, _, _, _, _⟩) (v := ?_) rfl (by kernel_rfl) (by kernel_rfl) (by kernel_rfl) (fun _ _ _ h => h) (Or.inl ⟨by rfl, ?_⟩) hHeld ?_
  rotate_left
  · intro W hW; go_simp <;> with_reducible rfl
  simp only [Act.put, List.setIfInBounds_toArray, List.set_cons_zero, List.set_cons_succ]
  refine wpAnyH_take (i := 14) (oi := ⟨some 90, _, _, _, _, _⟩) (v := ?_) rfl (by kernel_rfl) (by kernel_rfl) (by kernel_rfl) (fun _ _ _ h => h) (Or.inl ⟨by rfl, ?_⟩) hHeld ?_
  rotate_left
  · intro W hW; go_simp <;> with_reducible rfl
  simp only [Act.put, List.setIfInBounds_toArray, List.set_cons_zero, List.set_cons_succ]
  refine wpAnyH_take (i := 15) (oi := ⟨some 91, _, _, _, _, _⟩) (v := ?_) rfl (by kernel_rfl) (by kernel_rfl) (by kernel_rfl) (fun _ _ _ h => h) (Or.inl ⟨by rfl, ?_⟩) hHeld ?_
  rotate_left
  · intro W hW; go_simp <;> with_reducible rfl
  simp only [Act.put, List.setIfInBounds_toArray, List.set_cons_zero, List.set_cons_succ]
  refine wpAnyH_ready (rs := [4]) (by kernel_rfl) (by simp) (AllReadyH.cons rfl (fun K1 hK1 => ?_) AllReadyH.nil)
  go_simp
  refine hK1.out _ _ c1 (fun hHeld => ?_)
  clear hK1 K1
  refine wpAnyH_take (i := 9) (oi := ⟨some 85, _, _, _, _, _⟩) (v := ?_) rfl (by kernel_rfl) (by kernel_rfl) (by kernel_rfl) (fun _ _ _ h => h) (Or.inl ⟨by rfl, ?_⟩) hHeld ?_
  rotate_left
  · intro W hW; go_simp <;> with_reducible rfl
  simp only [Act.put, List.setIfInBounds_toArray, List.set_cons_zero, List.set_cons_succ]
  refine wpAnyH_ready (rs := [16]) (by kernel_rfl) (by simp) (AllReadyH.cons rfl (fun K1 hK1 => ?_) AllReadyH.nil)
  go_simp
  refine (growSlice_nil n (w.drewN (k1 + 1)) (by omega) (by omega)).mono ?_
  rintro e w2 ⟨cap2, cells, rfl, hG, hcs2, htk, hfit, hcm2, hb2⟩
  have hlt2 : b < w2.heap.size := Nat.lt_of_lt_of_le hlt hb2.size
  have hbk2 : w2.heap[b]? = some (.cells #[.slice none 0 0, .int .i64 0, .int .i8 lr] 37 (0, 0)) := (hb2.block b hlt).trans hb
  obtain ⟨d0, d1, d2, g0, g1, g2⟩ := three_cells hbk2
  refine hK1.out _ _ d1 (fun hHeld => ?_)
  clear hK1 K1
  refine wpAnyH_take (i := 17) (oi := ⟨some 93, _, _, _, _, _⟩) (v := ?_) rfl (by kernel_rfl) (by kernel_rfl) (by kernel_rfl) (fun _ _ _ h => h) (Or.inl ⟨by rfl, ?_⟩) hHeld ?_
  rotate_left
  · intro W hW; go_simp <;> with_reducible rfl
  simp only [Act.put, List.setIfInBounds_toArray, List.set_cons_zero, List.set_cons_succ]
  refine wpAnyH_take (i := 18) (oi := ⟨some 94, _, _, _, _, _⟩) (v := ?_) rfl (by kernel_rfl) (by kernel_rfl) (by kernel_rfl) (fun _ _ _ h => h) (Or.inl ⟨by rfl, ?_⟩) hHeld ?_
  rotate_left
  · intro W hW; go_simp <;> with_reducible rfl
  simp only [Act.put, List.setIfInBounds_toArray, List.set_cons_zero, List.set_cons_succ]
  refine wpAnyH_ready (rs := [19]) (by kernel_rfl) (by simp) (AllReadyH.cons rfl (fun K1 hK1 => ?_) AllReadyH.nil)
  go_simp
  refine hK1.out _ _ (three_cells (set_three hbk2).1).2.1 (fun hHeld => ?_)
  clear hK1 K1
  refine wpAnyH_done (by kernel_rfl) ?_ _
  have hbk3 := (set_three (v := .slice (some ⟨w.heap.size, 0, none⟩) 0 cap2) hbk2).1
  have hbk4 := (set_three (v := .int .i64 0) hbk3).2.1
  obtain ⟨x0, x1, x2, y0, y1, y2⟩ := three_cells hbk3
  obtain ⟨u0, u1, u2, z0, z1, z2⟩ := three_cells hbk4
  have hcm3 := hcm2
  unfold maxLen at hcm3
  go_wp2
  go_ret
  refine ⟨w.heap.size, cap2, cells, rfl, by rw [Nat.zero_add]; exact (set_three hbk4).1, (set_other (by omega)).trans ((set_other (by omega)).trans ((set_other (by omega)).trans hG)), hcs2, htk, hfit, hcm2, Nat.le_refl _, ?_⟩
  exact (((((Two.refl b none w).below ⟨rfl, rfl, rfl, Nat.le_refl _, fun _ _ => rfl⟩ : Two b none w (w.drewN (k1 + 1))).below hb2).set 0 _).set 1 _).set 0 _
set_option maxHeartbeats 4000000 in
set_option maxRecDepth 100000 in
theorem grow_row0 (b n : Nat) (lr : Int) (w : World) (g cap : Nat) (cur : Array Value) (hb : w.heap[b]? = some (.cells #[.slice (some ⟨g, 0, none⟩) 0 cap, .int .i64 0, .int .i8 lr] 37 (0, 0))) (hg : w.heap[g]? = some (.cells cur 5 (0, 0))) (hcs : cur.size = cap) (hcap : cap ≤ 140737488355328) (hn : cap < n) (hlim : n ≤ 70368744177664)  :
    Calls Try.prog 45 #[.pointer (some ⟨b, 0, none⟩), .int .i64 n] w fun e w' => RetG w b 0 n lr (cur.toList.take 0) e w' := by
  have e1 : decide ((n : Int) ≤ (cap : Int) / 2) = false := decide_eq_false (by omega)
  obtain ⟨c0, c1, c2, f0, f1, f2⟩ := three_cells hb
  have hlt := lt_of_block' hb
  have hwn : IntKind.i64.wrap (n : Int) = (n : Int) := IntWalk.i64_in _ (by omega)
  have hnn := fun W => Lib.run_eql_slice_some_nil (P := Try.prog) W ⟨g, 0, none⟩ 0 cap Try.underlying25
  go_enter Try.func45, Try.ntmps45
  go_wp2_with fail
  refine (len_any b (some ⟨g, 0, none⟩) 0 cap lr w (by omega) hb).mono ?_
  rintro e w1 ⟨rfl, k1, rfl⟩
  go_wp2_with fail
  refine (tryGrow_no b (some ⟨g, 0, none⟩) 0 cap n (w.drewN k1) c0 (by omega) (by unfold maxLen; omega) (by omega)).mono ?_
  rintro e w2 ⟨rfl, rfl⟩
  go_wp2_with fail
  refine wp_region_held_drew (S := fun W => W.cell? ⟨b, 1, none⟩ = some (.int .i64 0)) (by kernel_rfl) c1 (fun hHeld => ?_)
  refine wpAnyH_take (i := 0) (oi := ⟨some 76, _, _, _, _, _⟩) (v := ?_) rfl (by kernel_rfl) (by kernel_rfl) (by kernel_rfl) (fun _ _ _ h => h) (Or.inl ⟨by rfl, ?_⟩) hHeld ?_
  rotate_left
  · intro W hW; go_simp <;> with_reducible rfl
  simp only [Act.put, List.setIfInBounds_toArray, List.set_cons_zero, List.set_cons_succ]
  refine wpAnyH_take (i := 1) (oi := ⟨some 77, _, _, _, _, _⟩) (v := ?_) rfl (by kernel_rfl) (by kernel_rfl) (by kernel_rfl) (fun _ _ _ h => h) (Or.inl ⟨by rfl, ?_⟩) hHeld ?_
  rotate_left
  · intro W hW; go_simp <;> with_reducible rfl
  simp only [Act.put, List.setIfInBounds_toArray, List.set_cons_zero, List.set_cons_succ]
  refine wpAnyH_take (i := 2) (oi := ⟨some 78, _, _, _, _, _⟩) (v := ?_) rfl (by kernel_rfl) (by kernel_rfl) (by kernel_rfl) (fun _ _ _ h => h) (Or.inl ⟨by rfl, ?_⟩) hHeld ?_
  rotate_left
  · intro W hW; go_simp <;> with_reducible rfl
  simp only [Act.put, List.setIfInBounds_toArray, List.set_cons_zero, List.set_cons_succ]
  refine wpAnyH_take (i := 3) (oi := ⟨some 79, _, _, _, _, _⟩) (v := ?_) rfl (by kernel_rfl) (by kernel_rfl) (by kernel_rfl) (fun _ _ _ h => h) (Or.inl ⟨by rfl, ?_⟩) hHeld ?_
  rotate_left
  · intro W hW; go_simp <;> with_reducible rfl
  simp only [Act.put, List.setIfInBounds_toArray, List.set_cons_zero, List.set_cons_succ]
  refine wpAnyH_take (i := 5) (oi := ⟨some 81, _, _, _, _, _⟩) (v := ?_) rfl (by kernel_rfl) (by kernel_rfl) (by kernel_rfl) (fun _ _ _ h => h) (Or.inl ⟨by rfl, ?_⟩) hHeld ?_
  rotate_left
  · intro W hW; go_simp <;> with_reducible rfl
  simp only [Act.put, List.setIfInBounds_toArray, List.set_cons_zero, List.set_cons_succ]
  refine wpAnyH_take (i := 6) (oi := ⟨some 82, _, _, _, _, _⟩) (v := ?_) rfl (by kernel_rfl) (by kernel_rfl) (by kernel_rfl) (fun _ _ _ h => h) (Or.inl ⟨by rfl, ?_⟩) hHeld ?_
  rotate_left
  · intro W hW; go_simp <;> with_reducible rfl
  simp only [Act.put, List.setIfInBounds_toArray, List.set_cons_zero, List.set_cons_succ]
  refine wpAnyH_take (i := 7) (oi := ⟨some 83, _, _, _, _, _⟩) (v := ?_) rfl (by kernel_rfl) (by kernel_rfl) (by kernel_rfl) (fun _ _ _ h => h) (Or.inl ⟨by rfl, ?_⟩) hHeld ?_
  rotate_left
  · intro W hW; go_simp <;> with_reducible rfl
  simp only [Act.put, List.setIfInBounds_toArray, List.set_cons_zero, List.set_cons_succ]
  refine wpAnyH_take (i := 8) (oi := ⟨some 84, _, _, _, _, _⟩) (v := ?_) rfl (by kernel_rfl) (by kernel_rfl) (by kernel_rfl) (fun _ _ _ h => h) (Or.inl ⟨by rfl, ?_⟩) hHeld ?_
  rotate_left
  · intro W hW; go_simp <;> with_reducible rfl
  simp only [Act.put, List.setIfInBounds_toArray, List.set_cons_zero, List.set_cons_succ]
  refine wpAnyH_take (i := 10) (oi := ⟨some 86, _, _, _, _, _⟩) (v := ?_) rfl (by kernel_rfl) (by kernel_rfl) (by kernel_rfl) (fun _ _ _ h => h) (Or.inl ⟨by rfl, ?_⟩) hHeld ?_
  rotate_left
  · intro W hW; go_simp <;> with_reducible rfl
  simp only [Act.put, List.setIfInBounds_toArray, List.set_cons_zero, List.set_cons_succ]
  refine wpAnyH_take (i := 11) (oi := ⟨some 87, _, _, _, _, _⟩) (v := ?_) rfl (by kernel_rfl) (by kernel_rfl) (by kernel_rfl) (fun _ _ _ h => h) (Or.inl ⟨by rfl, ?_⟩) hHeld ?_
  rotate_left
  · intro W hW; go_simp <;> with_reducible rfl
  simp only [Act.put, List.setIfInBounds_toArray, List.set_cons_zero, List.set_cons_succ]
  refine wpAnyH_take (i := 12) (oi := ⟨some 88, _, _, _, _, _⟩) (v := ?_) rfl (by kernel_rfl) (by kernel_rfl) (by kernel_rfl) (fun _ _ _ h => h) (Or.inl ⟨by rfl, ?_⟩) hHeld ?_
  rotate_left
  · intro W hW; go_simp <;> with_reducible rfl
  simp only [Act.put, List.setIfInBounds_toArray, List.set_cons_zero, List.set_cons_succ]
  refine wpAnyH_take (i := 13) (oi := ⟨some 89, _, _, _, _, _⟩) (v := ?_) rfl (by kernel_rfl) (by kernel_rfl) (by kernel_rfl) (fun _ _ _ h => h) (Or.inl ⟨by rfl, ?_⟩) hHeld ?_
  rotate_left
  · intro W hW; go_simp <;> with_reducible rfl
  simp only [Act.put, List.setIfInBounds_toArray, List.set_cons_zero, List.set_cons_succ]
  refine wpAnyH_take (i := 14) (oi := ⟨some 90, _, _, _, _, _⟩) (v := ?_) rfl (by kernel_rfl) (by kernel_rfl) (by kernel_rfl) (fun _ _ _ h => h) (Or.inl ⟨by rfl, ?_⟩) hHeld ?_
  rotate_left
  · intro W hW; go_simp <;> with_reducible rfl
  simp only [Act.put, List.setIfInBounds_toArray, List.set_cons_zero, List.set_cons_succ]
  refine wpAnyH_take (i := 15) (oi := ⟨some 91, _, _, _, _, _⟩) (v := ?_) rfl (by kernel_rfl) (by kernel_rfl) (by kernel_rfl) (fun _ _ _ h => h) (Or.inl ⟨by rfl, ?_⟩) hHeld ?_
  rotate_left
  · intro W hW; go_simp <;> with_reducible rfl
  simp only [Act.put, List.setIfInBounds_toArray, List.set_cons_zero, List.set_cons_succ]
  refine wpAnyH_ready (rs := [4]) (by kernel_rfl) (by simp) (AllReadyH.cons rfl (fun K1 hK1 => ?_) AllReadyH.nil)
  go_simp
  refine hK1.out _ _ c1 (fun hHeld => ?_)
  clear hK1 K1
  refine wpAnyH_take (i := 9) (oi := ⟨some 85, _, _, _, _, _⟩) (v := ?_) rfl (by kernel_rfl) (by kernel_rfl) (by kernel_rfl) (fun _ _ _ h => h) (Or.inl ⟨by rfl, ?_⟩) hHeld ?_
  rotate_left
  · intro W hW; go_simp <;> with_reducible rfl
  simp only [Act.put, List.setIfInBounds_toArray, List.set_cons_zero, List.set_cons_succ]
  refine wpAnyH_ready (rs := [16]) (by kernel_rfl) (by simp) (AllReadyH.cons rfl (fun K1 hK1 => ?_) AllReadyH.nil)
  go_simp
  refine (growSlice_row g 0 cap n cur (w.drewN (k1 + 1)) hg hcs (by omega) (by omega) (by omega) (by omega) (by simp)).mono ?_
  rintro e w2 ⟨cap2, cells, rfl, hG, hcs2, htk, hfit, hcm2, hb2⟩
  have hlt2 : b < w2.heap.size := Nat.lt_of_lt_of_le hlt hb2.size
  have hbk2 : w2.heap[b]? = some (.cells #[.slice (some ⟨g, 0, none⟩) 0 cap, .int .i64 0, .int .i8 lr] 37 (0, 0)) := (hb2.block b hlt).trans hb
  obtain ⟨d0, d1, d2, g0, g1, g2⟩ := three_cells hbk2
  refine hK1.out _ _ d1 (fun hHeld => ?_)
  clear hK1 K1
  refine wpAnyH_take (i := 17) (oi := ⟨some 93, _, _, _, _, _⟩) (v := ?_) rfl (by kernel_rfl) (by kernel_rfl) (by kernel_rfl) (fun _ _ _ h => h) (Or.inl ⟨by rfl, ?_⟩) hHeld ?_
  rotate_left
  · intro W hW; go_simp <;> with_reducible rfl
  simp only [Act.put, List.setIfInBounds_toArray, List.set_cons_zero, List.set_cons_succ]
  refine wpAnyH_take (i := 18) (oi := ⟨some 94, _, _, _, _, _⟩) (v := ?_) rfl (by kernel_rfl) (by kernel_rfl) (by kernel_rfl) (fun _ _ _ h => h) (Or.inl ⟨by rfl, ?_⟩) hHeld ?_
  rotate_left
  · intro W hW; go_simp <;> with_reducible rfl
  simp only [Act.put, List.setIfInBounds_toArray, List.set_cons_zero, List.set_cons_succ]
  refine wpAnyH_ready (rs := [19]) (by kernel_rfl) (by simp) (AllReadyH.cons rfl (fun K1 hK1 => ?_) AllReadyH.nil)
  go_simp
  refine hK1.out _ _ (three_cells (set_three hbk2).1).2.1 (fun hHeld => ?_)
  clear hK1 K1
  refine wpAnyH_done (by kernel_rfl) ?_ _
  have hbk3 := (set_three (v := .slice (some ⟨w.heap.size, 0, none⟩) 0 cap2) hbk2).1
  have hbk4 := (set_three (v := .int .i64 0) hbk3).2.1
  obtain ⟨x0, x1, x2, y0, y1, y2⟩ := three_cells hbk3
  obtain ⟨u0, u1, u2, z0, z1, z2⟩ := three_cells hbk4
  have hcm3 := hcm2
  unfold maxLen at hcm3
  go_wp2
  go_ret
  refine ⟨w.heap.size, cap2, cells, rfl, by rw [Nat.zero_add]; exact (set_three hbk4).1, (set_other (by omega)).trans ((set_other (by omega)).trans ((set_other (by omega)).trans hG)), hcs2, htk, hfit, hcm2, Nat.le_refl _, ?_⟩
  exact (((((Two.refl b none w).below ⟨rfl, rfl, rfl, Nat.le_refl _, fun _ _ => rfl⟩ : Two b none w (w.drewN (k1 + 1))).below hb2).set 0 _).set 1 _).set 0 _
set_option maxHeartbeats 4000000 in
set_option maxRecDepth 100000 in
theorem grow_row1 (b n : Nat) (lr : Int) (w : World) (g m cap : Nat) (cur : Array Value) (hb : w.heap[b]? = some (.cells #[.slice (some ⟨g, 0, none⟩) m cap, .int .i64 0, .int .i8 lr] 37 (0, 0))) (hg : w.heap[g]? = some (.cells cur 5 (0, 0))) (hcs : cur.size = cap) (hmc : m ≤ cap) (hm0 : m ≠ 0) (hcap : cap ≤ 140737488355328) (hn : cap - m < n) (hlim : m + n ≤ 70368744177664) (h1 : ∀ v ∈ cur.toList.take m, v.oneCell' = true) :
    Calls Try.prog 45 #[.pointer (some ⟨b, 0, none⟩), .int .i64 n] w fun e w' => RetG w b m n lr (cur.toList.take m) e w' := by
  have e0 : ((m : Int) == 0) = false := beq_eq_false_iff_ne.2 (by omega)
  have e1 : decide ((n : Int) ≤ (cap : Int) / 2 - (m : Int)) = false := decide_eq_false (by omega)
  obtain ⟨c0, c1, c2, f0, f1, f2⟩ := three_cells hb
  have hlt := lt_of_block' hb
  have hwn : IntKind.i64.wrap (n : Int) = (n : Int) := IntWalk.i64_in _ (by omega)
  have hnn := fun W => Lib.run_eql_slice_some_nil (P := Try.prog) W ⟨g, 0, none⟩ m cap Try.underlying25
  go_enter Try.func45, Try.ntmps45
  go_wp2_with fail
  refine (len_any b (some ⟨g, 0, none⟩) m cap lr w (by omega) hb).mono ?_
  rintro e w1 ⟨rfl, k1, rfl⟩
  go_wp2_with fail
  refine (tryGrow_no b (some ⟨g, 0, none⟩) m cap n (w.drewN k1) c0 (by omega) (by unfold maxLen; omega) (by omega)).mono ?_
  rintro e w2 ⟨rfl, rfl⟩
  go_wp2_with fail
  refine wp_region_held_drew (S := fun W => W.cell? ⟨b, 1, none⟩ = some (.int .i64 0)) (by kernel_rfl) c1 (fun hHeld => ?_)
  refine wpAnyH_take (i := 0) (oi := ⟨some 76, _, _, _, _, _⟩) (v := ?_) rfl (by kernel_rfl) (by kernel_rfl) (by kernel_rfl) (fun _ _ _ h => h) (Or.inl ⟨by rfl, ?_⟩) hHeld ?_
  rotate_left
  · intro W hW; go_simp <;> with_reducible rfl
  simp only [Act.put, List.setIfInBounds_toArray, List.set_cons_zero, List.set_cons_succ]
  refine wpAnyH_take (i := 1) (oi := ⟨some 77, _, _, _, _, _⟩) (v := ?_) rfl (by kernel_rfl) (by kernel_rfl) (by kernel_rfl) (fun _ _ _ h => h) (Or.inl ⟨by rfl, ?_⟩) hHeld ?_
  rotate_left
  · intro W hW; go_simp <;> with_reducible rfl
  simp only [Act.put, List.setIfInBounds_toArray, List.set_cons_zero, List.set_cons_succ]
  refine wpAnyH_take (i := 2) (oi := ⟨some 78, _, _, _, _, _⟩) (v := ?_) rfl (by kernel_rfl) (by kernel_rfl) (by kernel_rfl) (fun _ _ _ h => h) (Or.inl ⟨by rfl, ?_⟩) hHeld ?_
  rotate_left
  · intro W hW; go_simp <;> with_reducible rfl
  simp only [Act.put, List.setIfInBounds_toArray, List.set_cons_zero, List.set_cons_succ]
  refine wpAnyH_take (i := 3) (oi := ⟨some 79, _, _, _, _, _⟩) (v := ?_) rfl (by kernel_rfl) (by kernel_rfl) (by kernel_rfl) (fun _ _ _ h => h) (Or.inl ⟨by rfl, ?_⟩) hHeld ?_
  rotate_left
  · intro W hW; go_simp <;> with_reducible rfl
  simp only [Act.put, List.setIfInBounds_toArray, List.set_cons_zero, List.set_cons_succ]
  refine wpAnyH_take (i := 5) (oi := ⟨some 81, _, _, _, _, _⟩) (v := ?_) rfl (by kernel_rfl) (by kernel_rfl) (by kernel_rfl) (fun _ _ _ h => h) (Or.inl ⟨by rfl, ?_⟩) hHeld ?_
  rotate_left
  · intro W hW; go_simp <;> with_reducible rfl
  simp only [Act.put, List.setIfInBounds_toArray, List.set_cons_zero, List.set_cons_succ]
  refine wpAnyH_take (i := 6) (oi := ⟨some 82, _, _, _, _, _⟩) (v := ?_) rfl (by kernel_rfl) (by kernel_rfl) (by kernel_rfl) (fun _ _ _ h => h) (Or.inl ⟨by rfl, ?_⟩) hHeld ?_
  rotate_left
  · intro W hW; go_simp <;> with_reducible rfl
  simp only [Act.put, List.setIfInBounds_toArray, List.set_cons_zero, List.set_cons_succ]
  refine wpAnyH_take (i := 7) (oi := ⟨some 83, _, _, _, _, _⟩) (v := ?_) rfl (by kernel_rfl) (by kernel_rfl) (by kernel_rfl) (fun _ _ _ h => h) (Or.inl ⟨by rfl, ?_⟩) hHeld ?_
  rotate_left
  · intro W hW; go_simp <;> with_reducible rfl
  simp only [Act.put, List.setIfInBounds_toArray, List.set_cons_zero, List.set_cons_succ]
  refine wpAnyH_take (i := 8) (oi := ⟨some 84, _, _, _, _, _⟩) (v := ?_) rfl (by kernel_rfl) (by kernel_rfl) (by kernel_rfl) (fun _ _ _ h => h) (Or.inl ⟨by rfl, ?_⟩) hHeld ?_
  rotate_left
  · intro W hW; go_simp <;> with_reducible rfl
  simp only [Act.put, List.setIfInBounds_toArray, List.set_cons_zero, List.set_cons_succ]
  refine wpAnyH_take (i := 10) (oi := ⟨some 86, _, _, _, _, _⟩) (v := ?_) rfl (by kernel_rfl) (by kernel_rfl) (by kernel_rfl) (fun _ _ _ h => h) (Or.inl ⟨by rfl, ?_⟩) hHeld ?_
  rotate_left
  · intro W hW; go_simp <;> with_reducible rfl
  simp only [Act.put, List.setIfInBounds_toArray, List.set_cons_zero, List.set_cons_succ]
  refine wpAnyH_take (i := 11) (oi := ⟨some 87, _, _, _, _, _⟩) (v := ?_) rfl (by kernel_rfl) (by kernel_rfl) (by kernel_rfl) (fun _ _ _ h => h) (Or.inl ⟨by rfl, ?_⟩) hHeld ?_
  rotate_left
  · intro W hW; go_simp <;> with_reducible rfl
  simp only [Act.put, List.setIfInBounds_toArray, List.set_cons_zero, List.set_cons_succ]
  refine wpAnyH_take (i := 12) (oi := ⟨some 88, _, _, _, _, _⟩) (v := ?_) rfl (by kernel_rfl) (by kernel_rfl) (by kernel_rfl) (fun _ _ _ h => h) (Or.inl ⟨by rfl, ?_⟩) hHeld ?_
  rotate_left
  · intro W hW; go_simp <;> with_reducible rfl
  simp only [Act.put, List.setIfInBounds_toArray, List.set_cons_zero, List.set_cons_succ]
  refine wpAnyH_take (i := 13) (oi := ⟨some 89, _, _, _, _, _⟩) (v := ?_) rfl (by kernel_rfl) (by kernel_rfl) (by kernel_rfl) (fun _ _ _ h => h) (Or.inl ⟨by rfl, ?_⟩) hHeld ?_
  rotate_left
  · intro W hW; go_simp <;> with_reducible rfl
  simp only [Act.put, List.setIfInBounds_toArray, List.set_cons_zero, List.set_cons_succ]
  refine wpAnyH_take (i := 14) (oi := ⟨some 90, _, _, _, _, _⟩) (v := ?_) rfl (by kernel_rfl) (by kernel_rfl) (by kernel_rfl) (fun _ _ _ h => h) (Or.inl ⟨by rfl, ?_⟩) hHeld ?_
  rotate_left
  · intro W hW; go_simp <;> with_reducible rfl
  simp only [Act.put, List.setIfInBounds_toArray, List.set_cons_zero, List.set_cons_succ]
  refine wpAnyH_take (i := 15) (oi := ⟨some 91, _, _, _, _, _⟩) (v := ?_) rfl (by kernel_rfl) (by kernel_rfl) (by kernel_rfl) (fun _ _ _ h => h) (Or.inl ⟨by rfl, ?_⟩) hHeld ?_
  rotate_left
  · intro W hW; go_simp <;> with_reducible rfl
  simp only [Act.put, List.setIfInBounds_toArray, List.set_cons_zero, List.set_cons_succ]
  refine wpAnyH_ready (rs := [4]) (by kernel_rfl) (by simp) (AllReadyH.cons rfl (fun K1 hK1 => ?_) AllReadyH.nil)
  go_simp
  refine hK1.out _ _ c1 (fun hHeld => ?_)
  clear hK1 K1
  refine wpAnyH_take (i := 9) (oi := ⟨some 85, _, _, _, _, _⟩) (v := ?_) rfl (by kernel_rfl) (by kernel_rfl) (by kernel_rfl) (fun _ _ _ h => h) (Or.inl ⟨by rfl, ?_⟩) hHeld ?_
  rotate_left
  · intro W hW; go_simp <;> with_reducible rfl
  simp only [Act.put, List.setIfInBounds_toArray, List.set_cons_zero, List.set_cons_succ]
  refine wpAnyH_ready (rs := [16]) (by kernel_rfl) (by simp) (AllReadyH.cons rfl (fun K1 hK1 => ?_) AllReadyH.nil)
  go_simp
  refine (growSlice_row g m cap n cur (w.drewN (k1 + 1)) hg hcs hmc (by omega) (by omega) (by omega) h1).mono ?_
  rintro e w2 ⟨cap2, cells, rfl, hG, hcs2, htk, hfit, hcm2, hb2⟩
  have hlt2 : b < w2.heap.size := Nat.lt_of_lt_of_le hlt hb2.size
  have hbk2 : w2.heap[b]? = some (.cells #[.slice (some ⟨g, 0, none⟩) m cap, .int .i64 0, .int .i8 lr] 37 (0, 0)) := (hb2.block b hlt).trans hb
  obtain ⟨d0, d1, d2, g0, g1, g2⟩ := three_cells hbk2
  refine hK1.out _ _ d1 (fun hHeld => ?_)
  clear hK1 K1
  refine wpAnyH_take (i := 17) (oi := ⟨some 93, _, _, _, _, _⟩) (v := ?_) rfl (by kernel_rfl) (by kernel_rfl) (by kernel_rfl) (fun _ _ _ h => h) (Or.inl ⟨by rfl, ?_⟩) hHeld ?_
  rotate_left
  · intro W hW; go_simp <;> with_reducible rfl
  simp only [Act.put, List.setIfInBounds_toArray, List.set_cons_zero, List.set_cons_succ]
  refine wpAnyH_take (i := 18) (oi := ⟨some 94, _, _, _, _, _⟩) (v := ?_) rfl (by kernel_rfl) (by kernel_rfl) (by kernel_rfl) (fun _ _ _ h => h) (Or.inl ⟨by rfl, ?_⟩) hHeld ?_
  rotate_left
  · intro W hW; go_simp <;> with_reducible rfl
  simp only [Act.put, List.setIfInBounds_toArray, List.set_cons_zero, List.set_cons_succ]
  refine wpAnyH_ready (rs := [19]) (by kernel_rfl) (by simp) (AllReadyH.cons rfl (fun K1 hK1 => ?_) AllReadyH.nil)
  go_simp
  refine hK1.out _ _ (three_cells (set_three hbk2).1).2.1 (fun hHeld => ?_)
  clear hK1 K1
  refine wpAnyH_done (by kernel_rfl) ?_ _
  have hbk3 := (set_three (v := .slice (some ⟨w.heap.size, 0, none⟩) m cap2) hbk2).1
  have hbk4 := (set_three (v := .int .i64 0) hbk3).2.1
  obtain ⟨x0, x1, x2, y0, y1, y2⟩ := three_cells hbk3
  obtain ⟨u0, u1, u2, z0, z1, z2⟩ := three_cells hbk4
  have hcm3 := hcm2
  unfold maxLen at hcm3
  go_wp2
  go_ret
  refine ⟨w.heap.size, cap2, cells, rfl, (set_three hbk4).1, (set_other (by omega)).trans ((set_other (by omega)).trans ((set_other (by omega)).trans hG)), hcs2, htk, hfit, hcm2, Nat.le_refl _, ?_⟩
  exact (((((Two.refl b none w).below ⟨rfl, rfl, rfl, Nat.le_refl _, fun _ _ => rfl⟩ : Two b none w (w.drewN (k1 + 1))).below hb2).set 0 _).set 1 _).set 0 _

end Go.Proofs.Ythhbcnjbnfjiiaa

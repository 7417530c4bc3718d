/-
  The walks of (*bytes.Reader).Read and of impl.source's Read, where something is left: so many bytes of the text as there is room for. Printed by rdgen.py. Conditions: those that each names.
-/
import Derived.Test.YthhbcnjbnfjiiaaDoorRdSt
namespace Go.Proofs.YthhbcnjbnfjiiaaDoor
open Go.RowKit

def RetRd (w : World) (rb bd od M : Nat) (Ty : TypeId) (f : Nat → Value) (tb ot N ct p : Nat) (T : List Nat) (mx : Nat) (e : Ending) (w' : World) : Prop :=
  ∃ m f', m = Nat.min (N - p) mx ∧ e = .returned (.tuple #[.int .i64 (m : Int), .nilIface]) ∧ w'.heap[rb]? = some (.cells #[.slice (some ⟨tb, ot, none⟩) N ct, .int .i64 ((p + m : Nat) : Int), .int .i64 (-1)] 71 (0, 0)) ∧ w'.rowIs bd Ty M f' ∧
    (∀ j, j < od ∨ od + m ≤ j → f' j = f j) ∧ (∀ j, j < m → f' (od + j) = .int .u8 ((T.getD (p + j) 0 : Nat) : Int)) ∧ Few [rb, bd] w w'
set_option maxHeartbeats 4000000 in
set_option maxRecDepth 100000 in
theorem reader_read (rb bd od n cd M : Nat) (Ty : TypeId) (f : Nat → Value) (tb ot N ct p : Nat) (pv : Int) (T : List Nat) (w : World) (hr : w.heap[rb]? = some (.cells #[.slice (some ⟨tb, ot, none⟩) N ct, .int .i64 (p : Int), .int .i64 pv] 71 (0, 0)))
    (hT : BS w w.heap.size (some ⟨tb, ot, none⟩) N T) (hNc : N ≤ ct) (hct : ct ≤ maxLen) (hrow : w.rowIs bd Ty M f) (hfit : od + n ≤ M) (hnc : n ≤ cd) (hcd : cd ≤ maxLen) (hp : p < N) (hne : rb ≠ bd) (htr : tb ≠ rb) :
    Calls Tryd.prog 62 #[.pointer (some ⟨rb, 0, none⟩), .slice (some ⟨bd, od, none⟩) n cd] w fun e w' => RetRd w rb bd od M Ty f tb ot N ct p T n e w' := by
  unfold maxLen at hct hcd
  obtain ⟨c0, c1, c2, f0, f1, f2⟩ := three_cells hr
  have hr1 := (set_three (v := .int .i64 (-1)) hr).2.2
  obtain ⟨d0, d1, d2, g0, g1, g2⟩ := three_cells hr1
  have e1 : decide ((N : Int) ≤ (p : Int)) = false := decide_eq_false (by omega)
  obtain ⟨m, hm⟩ : ∃ m, m = Nat.min (N - p) n := ⟨_, rfl⟩
  have hm1 : m ≤ N - p := by rw [hm]; exact Nat.min_le_left _ _
  have hm2 : m ≤ n := by rw [hm]; exact Nat.min_le_right _ _
  have hTL : ((T.drop p).take m).length = m := by rw [List.length_take, List.length_drop, hT.len]; omega
  have hget : ∀ j, j < m → ((T.drop p).take m).getD j 0 = T.getD (p + j) 0 := fun j hj => by
    rw [List.getD_eq_getElem?_getD, List.getElem?_take, if_pos hj, List.getElem?_drop, ← List.getD_eq_getElem?_getD]
  have hsp := cutp tb ot N ct p (by omega)
  rw [if_neg (show ¬ ct = p by omega)] at hsp
  have hsrc : ∀ j, j < m → (w.setCell ⟨rb, 2, none⟩ (.int .i64 (-1))).cell? ((⟨tb, ot + p, none⟩ : Addr).add j) = some (.int .u8 ((((T.drop p).take m).getD j 0 : Nat) : Int)) := fun j hj => by
    rw [addr_add, hget j hj, World.cell?_setCell_far _ _ _ _ (by simpa using htr.symm), Nat.add_assoc]
    exact hT.cell (by omega)
  have hfit2 : od + m ≤ M := by omega
  have HM := Lib.hid hm
  have HTL := Lib.hid hTL
  have HGET := Lib.hid hget
  have HSRC := Lib.hid hsrc
  have HR1 := Lib.hid hr1
  have HROW := Lib.hid (hrow.of_block (w' := w.setCell ⟨rb, 2, none⟩ (.int .i64 (-1))) (set_other (Ne.symm hne)))
  have HT := Lib.hid hT
  clear hTL hget hsrc hr1 hr hrow hT hm
  go_enter Tryd.func62, Tryd.ntmps62
  go_wp2_with fail
  refine wp_region_held_drew (S := fun W => W.cell? ⟨rb, 0, none⟩ = some (.slice (some ⟨tb, ot, none⟩) N ct) ∧ W.cell? ⟨rb, 1, none⟩ = some (.int .i64 (p : Int))) (by kernel_rfl) ⟨c0, c1⟩ (fun hHeld => ?_)
  refine wpAnyH_take (i := 0) (oi := ⟨some 6, _, _, _, _, _⟩) (v := ?_) rfl (by kernel_rfl) (by kernel_rfl) (by kernel_rfl) (fun _ _ _ h => h) (Or.inl ⟨by rfl, ?_⟩) hHeld ?_
  rotate_left
  · intro W hW; obtain ⟨hW1, hW2⟩ := hW; go_simp <;> with_reducible rfl
  simp only [Act.put, List.setIfInBounds_toArray, List.set_cons_zero, List.set_cons_succ]
  refine wpAnyH_take (i := 1) (oi := ⟨some 7, _, _, _, _, _⟩) (v := ?_) rfl (by kernel_rfl) (by kernel_rfl) (by kernel_rfl) (fun _ _ _ h => h) (Or.inl ⟨by rfl, ?_⟩) hHeld ?_
  rotate_left
  · intro W hW; obtain ⟨hW1, hW2⟩ := hW; go_simp <;> with_reducible rfl
  simp only [Act.put, List.setIfInBounds_toArray, List.set_cons_zero, List.set_cons_succ]
  refine wpAnyH_take (i := 2) (oi := ⟨some 8, _, _, _, _, _⟩) (v := ?_) rfl (by kernel_rfl) (by kernel_rfl) (by kernel_rfl) (fun _ _ _ h => h) (Or.inl ⟨by rfl, ?_⟩) hHeld ?_
  rotate_left
  · intro W hW; obtain ⟨hW1, hW2⟩ := hW; go_simp <;> with_reducible rfl
  simp only [Act.put, List.setIfInBounds_toArray, List.set_cons_zero, List.set_cons_succ]
  refine wpAnyH_take (i := 3) (oi := ⟨some 9, _, _, _, _, _⟩) (v := ?_) rfl (by kernel_rfl) (by kernel_rfl) (by kernel_rfl) (fun _ _ _ h => h) (Or.inl ⟨by rfl, ?_⟩) hHeld ?_
  rotate_left
  · intro W hW; obtain ⟨hW1, hW2⟩ := hW; go_simp <;> with_reducible rfl
  simp only [Act.put, List.setIfInBounds_toArray, List.set_cons_zero, List.set_cons_succ]
  refine wpAnyH_take (i := 4) (oi := ⟨some 10, _, _, _, _, _⟩) (v := ?_) rfl (by kernel_rfl) (by kernel_rfl) (by kernel_rfl) (fun _ _ _ h => h) (Or.inl ⟨by rfl, ?_⟩) hHeld ?_
  rotate_left
  · intro W hW; obtain ⟨hW1, hW2⟩ := hW; go_simp <;> with_reducible rfl
  simp only [Act.put, List.setIfInBounds_toArray, List.set_cons_zero, List.set_cons_succ]
  refine wpAnyH_take (i := 5) (oi := ⟨some 11, _, _, _, _, _⟩) (v := ?_) rfl (by kernel_rfl) (by kernel_rfl) (by kernel_rfl) (fun _ _ _ h => h) (Or.inl ⟨by rfl, ?_⟩) hHeld ?_
  rotate_left
  · intro W hW; obtain ⟨hW1, hW2⟩ := hW; go_simp <;> with_reducible rfl
  simp only [Act.put, List.setIfInBounds_toArray, List.set_cons_zero, List.set_cons_succ]
  refine wpAnyH_take (i := 6) (oi := ⟨some 12, _, _, _, _, _⟩) (v := ?_) rfl (by kernel_rfl) (by kernel_rfl) (by kernel_rfl) (fun _ _ _ h => h) (Or.inl ⟨by rfl, ?_⟩) hHeld ?_
  rotate_left
  · intro W hW; obtain ⟨hW1, hW2⟩ := hW; go_simp <;> with_reducible rfl
  simp only [Act.put, List.setIfInBounds_toArray, List.set_cons_zero, List.set_cons_succ]
  refine wpAnyH_take (i := 7) (oi := ⟨some 13, _, _, _, _, _⟩) (v := ?_) rfl (by kernel_rfl) (by kernel_rfl) (by kernel_rfl) (fun _ _ _ h => h) (Or.inl ⟨by rfl, ?_⟩) hHeld ?_
  rotate_left
  · intro W hW; obtain ⟨hW1, hW2⟩ := hW; go_simp <;> with_reducible rfl
  simp only [Act.put, List.setIfInBounds_toArray, List.set_cons_zero, List.set_cons_succ]
  refine wpAnyH_take (i := 8) (oi := ⟨some 14, _, _, _, _, _⟩) (v := ?_) rfl (by kernel_rfl) (by kernel_rfl) (by kernel_rfl) (fun _ _ _ h => h) (Or.inl ⟨by rfl, ?_⟩) hHeld ?_
  rotate_left
  · intro W hW; obtain ⟨hW1, hW2⟩ := hW; go_simp <;> with_reducible rfl
  simp only [Act.put, List.setIfInBounds_toArray, List.set_cons_zero, List.set_cons_succ]
  refine wpAnyH_take (i := 9) (oi := ⟨some 15, _, _, _, _, _⟩) (v := ?_) rfl (by kernel_rfl) (by kernel_rfl) (by kernel_rfl) (fun _ _ _ h => h) (Or.inl ⟨by rfl, ?_⟩) hHeld ?_
  rotate_left
  · intro W hW; obtain ⟨hW1, hW2⟩ := hW; go_simp <;> with_reducible rfl
  simp only [Act.put, List.setIfInBounds_toArray, List.set_cons_zero, List.set_cons_succ]
  refine wpAnyH_done (by kernel_rfl) ?_ _
  go_wp2_with fail
  refine wp_region_held_drew (S := fun W => W.cell? ⟨rb, 0, none⟩ = some (.slice (some ⟨tb, ot, none⟩) N ct) ∧ W.cell? ⟨rb, 1, none⟩ = some (.int .i64 (p : Int))) (by kernel_rfl) ⟨d0, d1⟩ (fun hHeld => ?_)
  refine wpAnyH_take (i := 0) (oi := ⟨some 20, _, _, _, _, _⟩) (v := ?_) rfl (by kernel_rfl) (by kernel_rfl) (by kernel_rfl) (fun _ _ _ h => h) (Or.inl ⟨by rfl, ?_⟩) hHeld ?_
  rotate_left
  · intro W hW; obtain ⟨hW1, hW2⟩ := hW; go_simp <;> with_reducible rfl
  simp only [Act.put, List.setIfInBounds_toArray, List.set_cons_zero, List.set_cons_succ]
  refine wpAnyH_take (i := 1) (oi := ⟨some 21, _, _, _, _, _⟩) (v := ?_) rfl (by kernel_rfl) (by kernel_rfl) (by kernel_rfl) (fun _ _ _ h => h) (Or.inl ⟨by rfl, ?_⟩) hHeld ?_
  rotate_left
  · intro W hW; obtain ⟨hW1, hW2⟩ := hW; go_simp <;> with_reducible rfl
  simp only [Act.put, List.setIfInBounds_toArray, List.set_cons_zero, List.set_cons_succ]
  refine wpAnyH_take (i := 2) (oi := ⟨some 22, _, _, _, _, _⟩) (v := ?_) rfl (by kernel_rfl) (by kernel_rfl) (by kernel_rfl) (fun _ _ _ h => h) (Or.inl ⟨by rfl, ?_⟩) hHeld ?_
  rotate_left
  · intro W hW; obtain ⟨hW1, hW2⟩ := hW; go_simp <;> with_reducible rfl
  simp only [Act.put, List.setIfInBounds_toArray, List.set_cons_zero, List.set_cons_succ]
  refine wpAnyH_take (i := 3) (oi := ⟨some 23, _, _, _, _, _⟩) (v := ?_) rfl (by kernel_rfl) (by kernel_rfl) (by kernel_rfl) (fun _ _ _ h => h) (Or.inl ⟨by rfl, ?_⟩) hHeld ?_
  rotate_left
  · intro W hW; obtain ⟨hW1, hW2⟩ := hW; go_simp <;> with_reducible rfl
  simp only [Act.put, List.setIfInBounds_toArray, List.set_cons_zero, List.set_cons_succ]
  refine wpAnyH_take (i := 4) (oi := ⟨some 24, _, _, _, _, _⟩) (v := ?_) rfl (by kernel_rfl) (by kernel_rfl) (by kernel_rfl) (fun _ _ _ h => h) (Or.inl ⟨by rfl, ?_⟩) hHeld ?_
  rotate_left
  · intro W hW; obtain ⟨hW1, hW2⟩ := hW; go_simp <;> with_reducible rfl
  simp only [Act.put, List.setIfInBounds_toArray, List.set_cons_zero, List.set_cons_succ]
  refine wpAnyH_take (i := 5) (oi := ⟨some 25, _, _, _, _, _⟩) (v := ?_) rfl (by kernel_rfl) (by kernel_rfl) (by kernel_rfl) (fun _ _ _ h => h) (Or.inl ⟨by rfl, ?_⟩) hHeld ?_
  rotate_left
  · intro W hW; obtain ⟨hW1, hW2⟩ := hW; go_simp <;> with_reducible rfl
  simp only [Act.put, List.setIfInBounds_toArray, List.set_cons_zero, List.set_cons_succ]
  refine wpAnyH_take (i := 6) (oi := ⟨some 26, _, _, _, _, _⟩) (v := ?_) rfl (by kernel_rfl) (by kernel_rfl) (by kernel_rfl) (fun _ _ _ h => h) (Or.inl ⟨by rfl, ?_⟩) hHeld ?_
  rotate_left
  · intro W hW; obtain ⟨hW1, hW2⟩ := hW; go_simp <;> with_reducible rfl
  simp only [Act.put, List.setIfInBounds_toArray, List.set_cons_zero, List.set_cons_succ]
  refine wpAnyH_take (i := 7) (oi := ⟨some 27, _, _, _, _, _⟩) (v := ?_) rfl (by kernel_rfl) (by kernel_rfl) (by kernel_rfl) (fun _ _ _ h => h) (Or.inl ⟨by rfl, ?_⟩) hHeld ?_
  rotate_left
  · intro W hW; obtain ⟨hW1, hW2⟩ := hW; go_simp <;> with_reducible rfl
  simp only [Act.put, List.setIfInBounds_toArray, List.set_cons_zero, List.set_cons_succ]
  refine wpAnyH_take (i := 8) (oi := ⟨some 28, _, _, _, _, _⟩) (v := ?_) rfl (by kernel_rfl) (by kernel_rfl) (by kernel_rfl) (fun _ _ _ h => h) (Or.inl ⟨by rfl, ?_⟩) hHeld ?_
  rotate_left
  · intro W hW; obtain ⟨hW1, hW2⟩ := hW; go_simp <;> with_reducible rfl
  simp only [Act.put, List.setIfInBounds_toArray, List.set_cons_zero, List.set_cons_succ]
  refine wpAnyH_take (i := 9) (oi := ⟨some 29, _, _, _, _, _⟩) (v := ?_) rfl (by kernel_rfl) (by kernel_rfl) (by kernel_rfl) (fun _ _ _ h => h) (Or.inl ⟨by rfl, ?_⟩) hHeld ?_
  rotate_left
  · intro W hW; obtain ⟨hW1, hW2⟩ := hW; go_simp <;> with_reducible rfl
  simp only [Act.put, List.setIfInBounds_toArray, List.set_cons_zero, List.set_cons_succ]
  refine wpAnyH_ready (rs := [10]) (by kernel_rfl) (by simp) (AllReadyH.cons rfl (fun K1 hK1 => ?_) AllReadyH.nil)
  refine step_copy rfl _ _ rfl bd od n cd M (N - p) (ct - p) m ⟨tb, ot + p, none⟩ Ty f ((T.drop p).take m) rfl rfl HROW.out HTL.out HM.out HSRC.out hfit2 ?_
  intro w2 f' hrow2 hon2 hlow2 htxt2
  have hr2 := (hon2.block rb hne).trans HR1.out
  obtain ⟨q0, q1, q2, r0, r1, r2⟩ := three_cells hr2
  have HR2 := Lib.hid hr2
  have HROW2 := Lib.hid hrow2
  have HON2 := Lib.hid hon2
  have HLOW2 := Lib.hid hlow2
  have HTXT2 := Lib.hid htxt2
  refine hK1.out _ _ ⟨q0, q1⟩ (fun hHeld => ?_)
  clear hK1 K1 hr2 hrow2 hon2 hlow2 htxt2
  refine wpAnyH_take (i := 11) (oi := ⟨some 4, _, _, _, _, _⟩) (v := ?_) rfl (by kernel_rfl) (by kernel_rfl) (by kernel_rfl) (fun _ _ _ h => h) (Or.inl ⟨by rfl, ?_⟩) hHeld ?_
  rotate_left
  · intro W hW; obtain ⟨hW1, hW2⟩ := hW; go_simp <;> with_reducible rfl
  simp only [Act.put, List.setIfInBounds_toArray]
  refine wpAnyH_done (by kernel_rfl) ?_ _
  go_wp2
  refine bodyPost_ret (two_res rfl _ _ _) rfl ?_
  have hr3 := (set_three (v := .int .i64 ((p : Int) + (m : Int))) HR2.out).2.1
  have hmem : rb ∈ [rb, bd] := by simp
  have hmem2 : bd ∈ [rb, bd] := by simp
  have hf : Few [rb, bd] w (w2.setCell ⟨rb, 1, none⟩ (.int .i64 ((p : Int) + (m : Int)))) := ((Few.set (Few.refl _ w) hmem 2 _).trans (show Few [rb, bd] (w.setCell ⟨rb, 2, none⟩ (.int .i64 (-1))) w2 from (show Only bd (w.setCell ⟨rb, 2, none⟩ (.int .i64 (-1))) w2 from ⟨HON2.out.os, HON2.out.tape, HON2.out.output, HON2.out.size, HON2.out.block⟩).few hmem2)).set hmem 1 _
  refine ⟨m, f', HM.out, rfl, ?_, HROW2.out.of_block (set_other (Ne.symm hne)), HLOW2.out, fun j hj => by rw [HTXT2.out j hj, HGET.out j hj], hf⟩
  rw [Int.natCast_add]
  exact hr3

set_option maxHeartbeats 4000000 in
set_option maxRecDepth 100000 in
theorem source_read (sb rb bd od n cd M pc : Nat) (Ty : TypeId) (f : Nat → Value) (tb ot N ct p : Nat) (pv : Int) (T : List Nat) (w : World) (hs : w.heap[sb]? = some (.cells #[.pointer (some ⟨rb, 0, none⟩), .int .i64 (pc : Int)] 56 (0, 0))) (hr : w.heap[rb]? = some (.cells #[.slice (some ⟨tb, ot, none⟩) N ct, .int .i64 (p : Int), .int .i64 pv] 71 (0, 0)))
    (hT : BS w w.heap.size (some ⟨tb, ot, none⟩) N T) (hNc : N ≤ ct) (hct : ct ≤ maxLen) (hrow : w.rowIs bd Ty M f) (hfit : od + n ≤ M) (hnc : n ≤ cd) (hcd : cd ≤ maxLen) (hp : p < N) (hne : rb ≠ bd) (htr : tb ≠ rb) (hsr : sb ≠ rb) (hsd : sb ≠ bd) :
    Calls Tryd.prog 61 #[.pointer (some ⟨sb, 0, none⟩), .slice (some ⟨bd, od, none⟩) n cd] w fun e w' => RetRd w rb bd od M Ty f tb ot N ct p T (Nat.min pc n) e w' := by
  have hcd' := hcd
  unfold maxLen at hcd'
  obtain ⟨c0, c1⟩ := two_cells hs
  obtain ⟨k, hk⟩ : ∃ k, k = Nat.min pc n := ⟨_, rfl⟩
  have hk1 : k ≤ n := by rw [hk]; exact Nat.min_le_right _ _
  have hmin : (if n < pc then (n : Int) else (pc : Int)) = (k : Int) := by
    rw [hk]
    show _ = ((min pc n : Nat) : Int)
    split <;> omega
  have hkp : k ≤ cd := by omega
  have HR := Lib.hid hr
  have HT := Lib.hid hT
  have HROW := Lib.hid hrow
  have HS := Lib.hid hs
  rw [← hk]
  clear hr hT hrow hs hk
  go_enter Tryd.func61, Tryd.ntmps61
  go_wp2_with fail
  refine wp_region_held_drew (S := fun W => W.cell? ⟨sb, 0, none⟩ = some (.pointer (some ⟨rb, 0, none⟩)) ∧ W.cell? ⟨sb, 1, none⟩ = some (.int .i64 (pc : Int))) (by kernel_rfl) ⟨c0, c1⟩ (fun hHeld => ?_)
  refine wpAnyH_take (i := 0) (oi := ⟨some 6, _, _, _, _, _⟩) (v := ?_) rfl (by kernel_rfl) (by kernel_rfl) (by kernel_rfl) (fun _ _ _ h => h) (Or.inl ⟨by rfl, ?_⟩) hHeld ?_
  rotate_left
  · intro W hW; obtain ⟨hW1, hW2⟩ := hW; go_simp <;> with_reducible rfl
  simp only [Act.put, List.setIfInBounds_toArray, List.set_cons_zero, List.set_cons_succ]
  refine wpAnyH_take (i := 1) (oi := ⟨some 7, _, _, _, _, _⟩) (v := ?_) rfl (by kernel_rfl) (by kernel_rfl) (by kernel_rfl) (fun _ _ _ h => h) (Or.inl ⟨by rfl, ?_⟩) hHeld ?_
  rotate_left
  · intro W hW; obtain ⟨hW1, hW2⟩ := hW; go_simp <;> with_reducible rfl
  simp only [Act.put, List.setIfInBounds_toArray, List.set_cons_zero, List.set_cons_succ]
  refine wpAnyH_take (i := 2) (oi := ⟨some 8, _, _, _, _, _⟩) (v := ?_) rfl (by kernel_rfl) (by kernel_rfl) (by kernel_rfl) (fun _ _ _ h => h) (Or.inl ⟨by rfl, ?_⟩) hHeld ?_
  rotate_left
  · intro W hW; obtain ⟨hW1, hW2⟩ := hW; go_simp <;> with_reducible rfl
  simp only [Act.put, List.setIfInBounds_toArray, List.set_cons_zero, List.set_cons_succ]
  refine wpAnyH_take (i := 3) (oi := ⟨some 9, _, _, _, _, _⟩) (v := ?_) rfl (by kernel_rfl) (by kernel_rfl) (by kernel_rfl) (fun _ _ _ h => h) (Or.inl ⟨by rfl, ?_⟩) hHeld ?_
  rotate_left
  · intro W hW; obtain ⟨hW1, hW2⟩ := hW; go_simp <;> with_reducible rfl
  simp only [Act.put, List.setIfInBounds_toArray, List.set_cons_zero, List.set_cons_succ]
  refine wpAnyH_take (i := 4) (oi := ⟨some 10, _, _, _, _, _⟩) (v := ?_) rfl (by kernel_rfl) (by kernel_rfl) (by kernel_rfl) (fun _ _ _ h => h) (Or.inl ⟨by rfl, ?_⟩) hHeld ?_
  rotate_left
  · intro W hW; obtain ⟨hW1, hW2⟩ := hW; go_simp <;> with_reducible rfl
  simp only [Act.put, List.setIfInBounds_toArray, List.set_cons_zero, List.set_cons_succ]
  refine wpAnyH_take (i := 5) (oi := ⟨some 11, _, _, _, _, _⟩) (v := ?_) rfl (by kernel_rfl) (by kernel_rfl) (by kernel_rfl) (fun _ _ _ h => h) (Or.inl ⟨by rfl, ?_⟩) hHeld ?_
  rotate_left
  · intro W hW; obtain ⟨hW1, hW2⟩ := hW; go_simp <;> with_reducible rfl
  simp only [Act.put, List.setIfInBounds_toArray, List.set_cons_zero, List.set_cons_succ]
  refine wpAnyH_take (i := 6) (oi := ⟨some 12, _, _, _, _, _⟩) (v := ?_) rfl (by kernel_rfl) (by kernel_rfl) (by kernel_rfl) (fun _ _ _ h => h) (Or.inl ⟨by rfl, ?_⟩) hHeld ?_
  rotate_left
  · intro W hW; obtain ⟨hW1, hW2⟩ := hW; go_simp <;> with_reducible rfl
  simp only [Act.put, List.setIfInBounds_toArray, List.set_cons_zero, List.set_cons_succ]
  refine wpAnyH_take (i := 7) (oi := ⟨some 13, _, _, _, _, _⟩) (v := ?_) rfl (by kernel_rfl) (by kernel_rfl) (by kernel_rfl) (fun _ _ _ h => h) (Or.inl ⟨by rfl, ?_⟩) hHeld ?_
  rotate_left
  · intro W hW; obtain ⟨hW1, hW2⟩ := hW; go_simp <;> with_reducible rfl
  simp only [Act.put, List.setIfInBounds_toArray, List.set_cons_zero, List.set_cons_succ]
  refine wpAnyH_take (i := 8) (oi := ⟨some 14, _, _, _, _, _⟩) (v := ?_) rfl (by kernel_rfl) (by kernel_rfl) (by kernel_rfl) (fun _ _ _ h => h) (Or.inl ⟨by rfl, ?_⟩) hHeld ?_
  rotate_left
  · intro W hW; obtain ⟨hW1, hW2⟩ := hW; go_simp <;> with_reducible rfl
  simp only [Act.put, List.setIfInBounds_toArray, List.set_cons_zero, List.set_cons_succ]
  refine wpAnyH_take (i := 9) (oi := ⟨some 15, _, _, _, _, _⟩) (v := ?_) rfl (by kernel_rfl) (by kernel_rfl) (by kernel_rfl) (fun _ _ _ h => h) (Or.inl ⟨by rfl, ?_⟩) hHeld ?_
  rotate_left
  · intro W hW; obtain ⟨hW1, hW2⟩ := hW; go_simp <;> with_reducible rfl
  simp only [Act.put, List.setIfInBounds_toArray, List.set_cons_zero, List.set_cons_succ]
  refine wpAnyH_take (i := 10) (oi := ⟨some 16, _, _, _, _, _⟩) (v := ?_) rfl (by kernel_rfl) (by kernel_rfl) (by kernel_rfl) (fun _ _ _ h => h) (Or.inl ⟨by rfl, ?_⟩) hHeld ?_
  rotate_left
  · intro W hW; obtain ⟨hW1, hW2⟩ := hW; go_simp <;> with_reducible rfl
  simp only [Act.put, List.setIfInBounds_toArray, List.set_cons_zero, List.set_cons_succ]
  refine wpAnyH_take (i := 11) (oi := ⟨some 17, _, _, _, _, _⟩) (v := ?_) rfl (by kernel_rfl) (by kernel_rfl) (by kernel_rfl) (fun _ _ _ h => h) (Or.inl ⟨by rfl, ?_⟩) hHeld ?_
  rotate_left
  · intro W hW; obtain ⟨hW1, hW2⟩ := hW; go_simp <;> with_reducible rfl
  simp only [Act.put, List.setIfInBounds_toArray, List.set_cons_zero, List.set_cons_succ]
  refine wpAnyH_take (i := 12) (oi := ⟨some 18, _, _, _, _, _⟩) (v := ?_) rfl (by kernel_rfl) (by kernel_rfl) (by kernel_rfl) (fun _ _ _ h => h) (Or.inl ⟨by rfl, ?_⟩) hHeld ?_
  rotate_left
  · intro W hW; obtain ⟨hW1, hW2⟩ := hW; go_simp <;> with_reducible rfl
  simp only [Act.put, List.setIfInBounds_toArray, List.set_cons_zero, List.set_cons_succ]
  refine wpAnyH_ready (rs := [13]) (by kernel_rfl) (by simp) (AllReadyH.cons rfl (fun K1 hK1 => ?_) AllReadyH.nil)
  go_simp
  refine (reader_read rb bd od k cd M Ty f tb ot N ct p pv T w.drew HR.out HT.out.drew hNc hct HROW.out.drew (by omega) hkp hcd hp hne htr).mono ?_
  rintro e w1 ⟨m, f', hm, rfl, hrb1, hrow1, hlow1, htxt1, hfew1⟩
  have hs1 := (hfew1.block sb (by simp [hsr, hsd])).trans HS.out
  have HM := Lib.hid hm
  have HRB := Lib.hid hrb1
  have HROW2 := Lib.hid hrow1
  have HLOW := Lib.hid hlow1
  have HTXT := Lib.hid htxt1
  have HFEW := Lib.hid (show Few [rb, bd] w w1 from ⟨hfew1.os, hfew1.tape, hfew1.output, hfew1.size, hfew1.block⟩)
  refine hK1.out _ _ (two_cells hs1) (fun hHeld => ?_)
  clear hK1 K1 hm hrb1 hrow1 hlow1 htxt1 hfew1 hs1
  refine wpAnyH_take (i := 14) (oi := ⟨some 20, _, _, _, _, _⟩) (v := ?_) rfl (by kernel_rfl) (by kernel_rfl) (by kernel_rfl) (fun _ _ _ h => h) (Or.inl ⟨by rfl, ?_⟩) hHeld ?_
  rotate_left
  · intro W hW; obtain ⟨hW1, hW2⟩ := hW; go_simp <;> with_reducible rfl
  simp only [Act.put, List.setIfInBounds_toArray, List.set_cons_zero, List.set_cons_succ]
  refine wpAnyH_take (i := 15) (oi := ⟨some 21, _, _, _, _, _⟩) (v := ?_) rfl (by kernel_rfl) (by kernel_rfl) (by kernel_rfl) (fun _ _ _ h => h) (Or.inl ⟨by rfl, ?_⟩) hHeld ?_
  rotate_left
  · intro W hW; obtain ⟨hW1, hW2⟩ := hW; go_simp <;> with_reducible rfl
  simp only [Act.put, List.setIfInBounds_toArray, List.set_cons_zero, List.set_cons_succ]
  refine wpAnyH_take (i := 16) (oi := ⟨some 4, _, _, _, _, _⟩) (v := ?_) rfl (by kernel_rfl) (by kernel_rfl) (by kernel_rfl) (fun _ _ _ h => h) (Or.inl ⟨by rfl, ?_⟩) hHeld ?_
  rotate_left
  · intro W hW; obtain ⟨hW1, hW2⟩ := hW; go_simp <;> with_reducible rfl
  simp only [Act.put, List.setIfInBounds_toArray, List.set_cons_zero, List.set_cons_succ]
  refine wpAnyH_take (i := 17) (oi := ⟨some 5, _, _, _, _, _⟩) (v := ?_) rfl (by kernel_rfl) (by kernel_rfl) (by kernel_rfl) (fun _ _ _ h => h) (Or.inl ⟨by rfl, ?_⟩) hHeld ?_
  rotate_left
  · intro W hW; obtain ⟨hW1, hW2⟩ := hW; go_simp <;> with_reducible rfl
  simp only [Act.put, List.setIfInBounds_toArray, List.set_cons_zero, List.set_cons_succ]
  refine wpAnyH_done (by kernel_rfl) ?_ _
  go_wp2
  refine bodyPost_ret (two_res rfl _ _ _) rfl ?_
  exact ⟨m, f', HM.out, rfl, HRB.out, HROW2.out, HLOW.out, HTXT.out, HFEW.out⟩

end Go.Proofs.YthhbcnjbnfjiiaaDoor

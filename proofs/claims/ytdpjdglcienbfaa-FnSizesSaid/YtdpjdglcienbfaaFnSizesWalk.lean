/-
  The walk of the law FnSizes (in full): it returns true and changes nothing that was there. FnSizes, for every input: a sum has as many bytes as the size says, which is that of the hash; every write takes all bytes without an error.
-/
import Derived.Test.YtdpjdglcienbfaaProg
import Derived.Test.YtdpjdglcienbfaaOpenArgs
import Derived.WalkKit
import Derived.Below
import Derived.WalkSmall
import Derived.Lib.Hide
import Derived.Test.YtdpjdglcienbfaaSteps
import Derived.Deep.RegionHeld3
namespace Go.Proofs.Ytdpjdglcienbfaa.fnSizes
open Go.RowKit
set_option linter.unusedVariables false

theorem runM_sizes (K : Kind) (d : List Nat) : (runM K [⟨0, 0, 0, d⟩, ⟨3, 0, 0, []⟩, ⟨1, 0, 0, []⟩]).an = [⟨[], 0, d.length, false, none⟩, ⟨[], 0, K.size, false, none⟩, ⟨K.bytes (d.foldl K.step K.init), 0, 0, false, none⟩] := by
  simp [runM, stepM, doM]
theorem sizes_lit (kd : Nat) (h : kd ≤ 6) : (#[Value.int .i64 4, .int .i64 4, .int .i64 8, .int .i64 8, .int .i64 16, .int .i64 16, .int .i64 4] : Array Value)[kd]? = some (.int .i64 (((kindOf kd).size : Nat) : Int)) := by
  have hkd : kd = 0 ∨ kd = 1 ∨ kd = 2 ∨ kd = 3 ∨ kd = 4 ∨ kd = 5 ∨ kd = 6 := by omega
  rcases hkd with rfl | rfl | rfl | rfl | rfl | rfl | rfl <;> rfl

set_option maxRecDepth 100000 in
set_option maxHeartbeats 2000000 in
theorem walk (a0 : Int) (w0 : (Lit.int .i64 a0).wf = true) (A1 : Option Addr) (n1 c1 : Nat) (l1 : List Nat) (w : World) (b1 : BS w w.heap.size A1 n1 l1) (nc1 : n1 ≤ c1) (r1 : c1 ≤ 140737488351232) :
    Calls Try.prog 13 #[.int .i64 a0, .slice A1 n1 c1] w fun e w' => e = .returned (.bool true) ∧ Below w.heap.size w w' := by
  have hm1 : c1 ≤ maxLen := by unfold maxLen; omega
  by_cases hf : 0 ≤ a0 ∧ a0 ≤ 6
  · have ef : fitsB a0 = true := decide_eq_true hf
    by_cases hbig : 100000 < n1
    · go_enter Try.func13, Try.ntmps13
      go_wp2_with fail
      refine (fits_any a0 w).mono ?_
      rintro e w' ⟨rfl, rfl⟩
      rw [ef]
      go_wp2
      go_ret
      exact ⟨rfl, Below.refl _ _⟩
    · obtain ⟨kd, rfl⟩ : ∃ kd : Nat, a0 = (kd : Int) := ⟨a0.toNat, by omega⟩
      have hk6 : kd ≤ 6 := by omega
      clear hf
      go_enter Try.func13, Try.ntmps13
      go_wp2_with fail
      refine (fits_any (kd : Int) w).mono ?_
      rintro e w' ⟨rfl, rfl⟩
      rw [ef]
      clear ef
      go_wp2_with fail
      refine (write_any 0 A1 n1 c1 w).mono ?_
      rintro e w1 ⟨rfl, hb1⟩
      go_wp2_with fail
      refine (sum_any 0 w1).mono ?_
      rintro e w2 ⟨rfl, hb2⟩
      go_wp2_with fail
      have hb02 : Below w.heap.size w w2 := hb1.trans (hb2.mono hb1.size)
      have hb1' := (b1.below hb02).mono hb02.size
      have hld := b1.len
      refine (hashed_any kd hk6 _ 3 3 [⟨0, 0, 0, l1⟩, ⟨3, 0, 0, []⟩, ⟨1, 0, 0, []⟩] _ (ss_lit w2 [(⟨0, 0, 0, l1⟩, .slice A1 n1 c1), (⟨3, 0, 0, []⟩, .slice none 0 0), (⟨1, 0, 0, []⟩, .slice none 0 0)] ?hd) (by omega) ?hl).mono ?_
      case hd =>
        intro q hq
        simp only [List.mem_cons, List.not_mem_nil, or_false] at hq
        rcases hq with rfl | rfl | rfl
        · exact ⟨A1, n1, c1, rfl, hb1', nc1, hm1⟩
        · exact ⟨none, 0, 0, rfl, BS.nil _ _ _, Nat.le_refl _, Nat.zero_le _⟩
        · exact ⟨none, 0, 0, rfl, BS.nil _ _ _, Nat.le_refl _, Nat.zero_le _⟩
      case hl =>
        intro q hq
        simp only [List.mem_cons, List.not_mem_nil, or_false] at hq
        rcases hq with rfl | rfl | rfl <;> simp <;> omega
      rintro e w3 ⟨v3, P, rfl, ho3, hp3, hdat3, hb3⟩
      rw [runM_sizes] at hp3
      obtain ⟨g, c3, rfl, hglt, hcells⟩ := answers_open ho3 hdat3 (by have := congrArg List.length hp3; simp at this; omega) hp3
      obtain ⟨_, _, _, _, _, _, _, q02, q03⟩ := hcells 0 (by simp)
      obtain ⟨_, _, _, _, _, _, _, q12, _⟩ := hcells 1 (by simp)
      obtain ⟨A2, cc2, q20, hcc2, _⟩ := hcells 2 (by simp)
      have hkg := (kindOf_good kd).bytes_len (l1.foldl (kindOf kd).step (kindOf kd).init)
      simp only [List.getD_cons_zero, List.getD_cons_succ, Nat.zero_mul, Nat.zero_add, Nat.one_mul, hkg, hld] at q02 q03 q12 q20
      have hb03 : Below w.heap.size w w3 := (hb02.alloc hb02.size _).trans (hb3.mono (by have := hb02.size; simp; omega))
      clear hcells hp3 hdat3 ho3 hkg hld hcc2
      rw [show 4 + 2 = 6 from rfl] at q12
      rw [show 2 * 4 = 8 from rfl] at q20
      obtain ⟨sz, hsz⟩ : ∃ sz, (kindOf kd).size = sz := ⟨_, rfl⟩
      rw [hsz] at q12 q20
      have hsz16 : sz ≤ 16 := by rw [← hsz]; exact (kindOf_good kd).size_le
      go_wp2_with fail
      have hk7 : (kd : Int) < 7 := by omega
      have hk7' : kd < 7 := by omega
      have hlit : (w3.alloc (.cells #[.int .i64 4, .int .i64 4, .int .i64 8, .int .i64 8, .int .i64 16, .int .i64 16, .int .i64 4] 3)).drew.cell? ⟨w3.heap.size, kd, none⟩ = some (.int .i64 (sz : Int)) := by
        have hz := sizes_lit kd hk6
        rw [hsz] at hz
        rw [← hz]
        exact cell_of_row _ w3.heap.size kd _ _ _ (_root_.Go.heap_alloc_new w3 _)
      clear hsz
      refine wp_region_held_drew (S := fun W => W.cell? ⟨g, 2, none⟩ = some (.int .i64 (n1 : Int)) ∧ W.cell? ⟨g, 3, none⟩ = some (.bool false) ∧ W.cell? ⟨g, 6, none⟩ = some (.int .i64 (sz : Int)) ∧ W.cell? ⟨g, 8, none⟩ = some (.slice A2 sz cc2)) (by kernel_rfl) ⟨q02, q03, q12, q20⟩ (fun hHeld => ?_)
      refine wpAnyH_take (i := 0) (oi := ⟨some 21, _, _, _, _, _⟩) (v := ?_) rfl (by kernel_rfl) (by kernel_rfl) (by kernel_rfl) (fun _ _ _ h => h) (Or.inl ⟨by rfl, ?_⟩) hHeld ?_
      rotate_left
      · intro W hW; obtain ⟨s2, s3, s6, s8⟩ := hW; go_simp <;> with_reducible rfl
      simp only [Act.put, List.setIfInBounds_toArray, List.set_cons_zero, List.set_cons_succ]
      refine wpAnyH_take (i := 1) (oi := ⟨some 22, _, _, _, _, _⟩) (v := ?_) rfl (by kernel_rfl) (by kernel_rfl) (by kernel_rfl) (fun _ _ _ h => h) (Or.inl ⟨by rfl, ?_⟩) hHeld ?_
      rotate_left
      · intro W hW; obtain ⟨s2, s3, s6, s8⟩ := hW; go_simp <;> with_reducible rfl
      simp only [Act.put, List.setIfInBounds_toArray, List.set_cons_zero, List.set_cons_succ]
      refine wpAnyH_take (i := 2) (oi := ⟨some 23, _, _, _, _, _⟩) (v := ?_) rfl (by kernel_rfl) (by kernel_rfl) (by kernel_rfl) (fun _ _ _ h => h) (Or.inl ⟨by rfl, ?_⟩) hHeld ?_
      rotate_left
      · intro W hW; obtain ⟨s2, s3, s6, s8⟩ := hW; go_simp <;> with_reducible rfl
      simp only [Act.put, List.setIfInBounds_toArray, List.set_cons_zero, List.set_cons_succ]
      refine wpAnyH_take (i := 3) (oi := ⟨some 24, _, _, _, _, _⟩) (v := ?_) rfl (by kernel_rfl) (by kernel_rfl) (by kernel_rfl) (fun _ _ _ h => h) (Or.inl ⟨by rfl, ?_⟩) hHeld ?_
      rotate_left
      · intro W hW; obtain ⟨s2, s3, s6, s8⟩ := hW; go_simp <;> with_reducible rfl
      simp only [Act.put, List.setIfInBounds_toArray, List.set_cons_zero, List.set_cons_succ]
      refine wpAnyH_take (i := 4) (oi := ⟨some 25, _, _, _, _, _⟩) (v := ?_) rfl (by kernel_rfl) (by kernel_rfl) (by kernel_rfl) (fun _ _ _ h => h) (Or.inl ⟨by rfl, ?_⟩) hHeld ?_
      rotate_left
      · intro W hW; obtain ⟨s2, s3, s6, s8⟩ := hW; go_simp <;> with_reducible rfl
      simp only [Act.put, List.setIfInBounds_toArray, List.set_cons_zero, List.set_cons_succ]
      refine wpAnyH_take (i := 5) (oi := ⟨some 26, _, _, _, _, _⟩) (v := ?_) rfl (by kernel_rfl) (by kernel_rfl) (by kernel_rfl) (fun _ _ _ h => h) (Or.inl ⟨by rfl, ?_⟩) hHeld ?_
      rotate_left
      · intro W hW; obtain ⟨s2, s3, s6, s8⟩ := hW; go_simp <;> with_reducible rfl
      simp only [Act.put, List.setIfInBounds_toArray, List.set_cons_zero, List.set_cons_succ]
      refine wpAnyH_take (i := 6) (oi := ⟨some 27, _, _, _, _, _⟩) (v := ?_) rfl (by kernel_rfl) (by kernel_rfl) (by kernel_rfl) (fun _ _ _ h => h) (Or.inl ⟨by rfl, ?_⟩) hHeld ?_
      rotate_left
      · intro W hW; obtain ⟨s2, s3, s6, s8⟩ := hW; go_simp <;> with_reducible rfl
      simp only [Act.put, List.setIfInBounds_toArray, List.set_cons_zero, List.set_cons_succ]
      refine wpAnyH_take (i := 7) (oi := ⟨some 28, _, _, _, _, _⟩) (v := ?_) rfl (by kernel_rfl) (by kernel_rfl) (by kernel_rfl) (fun _ _ _ h => h) (Or.inl ⟨by rfl, ?_⟩) hHeld ?_
      rotate_left
      · intro W hW; obtain ⟨s2, s3, s6, s8⟩ := hW; go_simp <;> with_reducible rfl
      simp only [Act.put, List.setIfInBounds_toArray, List.set_cons_zero, List.set_cons_succ]
      refine wpAnyH_take (i := 8) (oi := ⟨some 29, _, _, _, _, _⟩) (v := ?_) rfl (by kernel_rfl) (by kernel_rfl) (by kernel_rfl) (fun _ _ _ h => h) (Or.inl ⟨by rfl, ?_⟩) hHeld ?_
      rotate_left
      · intro W hW; obtain ⟨s2, s3, s6, s8⟩ := hW; go_simp <;> with_reducible rfl
      simp only [Act.put, List.setIfInBounds_toArray, List.set_cons_zero, List.set_cons_succ]
      refine wpAnyH_take (i := 9) (oi := ⟨some 30, _, _, _, _, _⟩) (v := ?_) rfl (by kernel_rfl) (by kernel_rfl) (by kernel_rfl) (fun _ _ _ h => h) (Or.inl ⟨by rfl, ?_⟩) hHeld ?_
      rotate_left
      · intro W hW; obtain ⟨s2, s3, s6, s8⟩ := hW; go_simp <;> with_reducible rfl
      simp only [Act.put, List.setIfInBounds_toArray, List.set_cons_zero, List.set_cons_succ]
      refine wpAnyH_take (i := 10) (oi := ⟨some 31, _, _, _, _, _⟩) (v := ?_) rfl (by kernel_rfl) (by kernel_rfl) (by kernel_rfl) (fun _ _ _ h => h) (Or.inl ⟨by rfl, ?_⟩) hHeld ?_
      rotate_left
      · intro W hW; obtain ⟨s2, s3, s6, s8⟩ := hW; go_simp <;> with_reducible rfl
      simp only [Act.put, List.setIfInBounds_toArray, List.set_cons_zero, List.set_cons_succ]
      refine wpAnyH_take (i := 11) (oi := ⟨some 32, _, _, _, _, _⟩) (v := ?_) rfl (by kernel_rfl) (by kernel_rfl) (by kernel_rfl) (fun _ _ _ h => h) (Or.inl ⟨by rfl, ?_⟩) hHeld ?_
      rotate_left
      · intro W hW; obtain ⟨s2, s3, s6, s8⟩ := hW; go_simp <;> with_reducible rfl
      simp only [Act.put, List.setIfInBounds_toArray, List.set_cons_zero, List.set_cons_succ]
      refine wpAnyH_take (i := 12) (oi := ⟨some 33, _, _, _, _, _⟩) (v := ?_) rfl (by kernel_rfl) (by kernel_rfl) (by kernel_rfl) (fun _ _ _ h => h) (Or.inl ⟨by rfl, ?_⟩) hHeld ?_
      rotate_left
      · intro W hW; obtain ⟨s2, s3, s6, s8⟩ := hW; go_simp <;> with_reducible rfl
      simp only [Act.put, List.setIfInBounds_toArray, List.set_cons_zero, List.set_cons_succ]
      refine wpAnyH_take (i := 13) (oi := ⟨some 34, _, _, _, _, _⟩) (v := ?_) rfl (by kernel_rfl) (by kernel_rfl) (by kernel_rfl) (fun _ _ _ h => h) (Or.inl ⟨by rfl, ?_⟩) hHeld ?_
      rotate_left
      · intro W hW; obtain ⟨s2, s3, s6, s8⟩ := hW; go_simp <;> with_reducible rfl
      simp only [Act.put, List.setIfInBounds_toArray, List.set_cons_zero, List.set_cons_succ]
      refine wpAnyH_take (i := 14) (oi := ⟨some 35, _, _, _, _, _⟩) (v := ?_) rfl (by kernel_rfl) (by kernel_rfl) (by kernel_rfl) (fun _ _ _ h => h) (Or.inl ⟨by rfl, ?_⟩) hHeld ?_
      rotate_left
      · intro W hW; obtain ⟨s2, s3, s6, s8⟩ := hW; go_simp <;> with_reducible rfl
      simp only [Act.put, List.setIfInBounds_toArray, List.set_cons_zero, List.set_cons_succ]
      refine wpAnyH_take (i := 15) (oi := ⟨some 36, _, _, _, _, _⟩) (v := ?_) rfl (by kernel_rfl) (by kernel_rfl) (by kernel_rfl) (fun _ _ _ h => h) (Or.inl ⟨by rfl, ?_⟩) hHeld ?_
      rotate_left
      · intro W hW; obtain ⟨s2, s3, s6, s8⟩ := hW; go_simp <;> with_reducible rfl
      simp only [Act.put, List.setIfInBounds_toArray, List.set_cons_zero, List.set_cons_succ]
      refine wpAnyH_take (i := 16) (oi := ⟨some 37, _, _, _, _, _⟩) (v := ?_) rfl (by kernel_rfl) (by kernel_rfl) (by kernel_rfl) (fun _ _ _ h => h) (Or.inl ⟨by rfl, ?_⟩) hHeld ?_
      rotate_left
      · intro W hW; obtain ⟨s2, s3, s6, s8⟩ := hW; go_simp <;> with_reducible rfl
      simp only [Act.put, List.setIfInBounds_toArray, List.set_cons_zero, List.set_cons_succ]
      refine wpAnyH_take (i := 17) (oi := ⟨some 38, _, _, _, _, _⟩) (v := ?_) rfl (by kernel_rfl) (by kernel_rfl) (by kernel_rfl) (fun _ _ _ h => h) (Or.inl ⟨by rfl, ?_⟩) hHeld ?_
      rotate_left
      · intro W hW; obtain ⟨s2, s3, s6, s8⟩ := hW; go_simp <;> with_reducible rfl
      simp only [Act.put, List.setIfInBounds_toArray, List.set_cons_zero, List.set_cons_succ]
      refine wpAnyH_take (i := 18) (oi := ⟨some 39, _, _, _, _, _⟩) (v := ?_) rfl (by kernel_rfl) (by kernel_rfl) (by kernel_rfl) (fun _ _ _ h => h) (Or.inl ⟨by rfl, ?_⟩) hHeld ?_
      rotate_left
      · intro W hW; obtain ⟨s2, s3, s6, s8⟩ := hW; go_simp <;> with_reducible rfl
      simp only [Act.put, List.setIfInBounds_toArray, List.set_cons_zero, List.set_cons_succ]
      refine wpAnyH_take (i := 19) (oi := ⟨some 40, _, _, _, _, _⟩) (v := ?_) rfl (by kernel_rfl) (by kernel_rfl) (by kernel_rfl) (fun _ _ _ h => h) (Or.inl ⟨by rfl, ?_⟩) hHeld ?_
      rotate_left
      · intro W hW; obtain ⟨s2, s3, s6, s8⟩ := hW; go_simp <;> with_reducible rfl
      simp only [Act.put, List.setIfInBounds_toArray, List.set_cons_zero, List.set_cons_succ]
      refine wpAnyH_take (i := 20) (oi := ⟨some 41, _, _, _, _, _⟩) (v := ?_) rfl (by kernel_rfl) (by kernel_rfl) (by kernel_rfl) (fun _ _ _ h => h) (Or.inl ⟨by rfl, ?_⟩) hHeld ?_
      rotate_left
      · intro W hW; obtain ⟨s2, s3, s6, s8⟩ := hW; go_simp <;> with_reducible rfl
      simp only [Act.put, List.setIfInBounds_toArray, List.set_cons_zero, List.set_cons_succ]
      refine wpAnyH_take (i := 21) (oi := ⟨some 42, _, _, _, _, _⟩) (v := ?_) rfl (by kernel_rfl) (by kernel_rfl) (by kernel_rfl) (fun _ _ _ h => h) (Or.inl ⟨by rfl, ?_⟩) hHeld ?_
      rotate_left
      · intro W hW; obtain ⟨s2, s3, s6, s8⟩ := hW; go_simp <;> with_reducible rfl
      simp only [Act.put, List.setIfInBounds_toArray, List.set_cons_zero, List.set_cons_succ]
      refine wpAnyH_take (i := 22) (oi := ⟨some 43, _, _, _, _, _⟩) (v := ?_) rfl (by kernel_rfl) (by kernel_rfl) (by kernel_rfl) (fun _ _ _ h => h) (Or.inl ⟨by rfl, ?_⟩) hHeld ?_
      rotate_left
      · intro W hW; obtain ⟨s2, s3, s6, s8⟩ := hW; go_simp <;> with_reducible rfl
      simp only [Act.put, List.setIfInBounds_toArray, List.set_cons_zero, List.set_cons_succ]
      refine wpAnyH_take (i := 23) (oi := ⟨some 44, _, _, _, _, _⟩) (v := ?_) rfl (by kernel_rfl) (by kernel_rfl) (by kernel_rfl) (fun _ _ _ h => h) (Or.inl ⟨by rfl, ?_⟩) hHeld ?_
      rotate_left
      · intro W hW; obtain ⟨s2, s3, s6, s8⟩ := hW; go_simp <;> with_reducible rfl
      simp only [Act.put, List.setIfInBounds_toArray, List.set_cons_zero, List.set_cons_succ]
      refine wpAnyH_take (i := 25) (oi := ⟨some 46, _, _, _, _, _⟩) (v := ?_) rfl (by kernel_rfl) (by kernel_rfl) (by kernel_rfl) (fun _ _ _ h => h) (Or.inl ⟨by rfl, ?_⟩) hHeld ?_
      rotate_left
      · intro W hW; obtain ⟨s2, s3, s6, s8⟩ := hW; go_simp <;> with_reducible rfl
      simp only [Act.put, List.setIfInBounds_toArray, List.set_cons_zero, List.set_cons_succ]
      refine wpAnyH_ready (rs := [24]) (by kernel_rfl) (by simp) (AllReadyH.cons rfl (fun K1 hK1 => ?_) AllReadyH.nil)
      go_simp
      refine hK1.out _ _ ⟨(World.cell?_alloc_lt w3 _ ⟨g, 2, none⟩ hglt).trans q02, (World.cell?_alloc_lt w3 _ ⟨g, 3, none⟩ hglt).trans q03, (World.cell?_alloc_lt w3 _ ⟨g, 6, none⟩ hglt).trans q12, (World.cell?_alloc_lt w3 _ ⟨g, 8, none⟩ hglt).trans q20⟩ (fun hHeld => ?_)
      clear hK1 K1
      refine wpAnyH_take (i := 26) (oi := ⟨some 47, _, _, _, _, _⟩) (v := ?_) rfl (by kernel_rfl) (by kernel_rfl) (by kernel_rfl) (fun _ _ _ h => h) (Or.inl ⟨by rfl, ?_⟩) hHeld ?_
      rotate_left
      · intro W hW; obtain ⟨s2, s3, s6, s8⟩ := hW; go_simp <;> with_reducible rfl
      simp only [Act.put, List.setIfInBounds_toArray, List.set_cons_zero, List.set_cons_succ]
      refine wpAnyH_ready (rs := [27]) (by kernel_rfl) (by simp) (AllReadyH.cons rfl (fun K1 hK1 => ?_) AllReadyH.nil)
      go_simp
      refine hK1.out _ _ hHeld (fun hHeld => ?_)
      clear hK1 K1
      refine wpAnyH_take (i := 28) (oi := ⟨some 49, _, _, _, _, _⟩) (v := ?_) rfl (by kernel_rfl) (by kernel_rfl) (by kernel_rfl) (fun _ _ _ h => h) (Or.inl ⟨by rfl, ?_⟩) hHeld ?_
      rotate_left
      · intro W hW; obtain ⟨s2, s3, s6, s8⟩ := hW; go_simp <;> with_reducible rfl
      simp only [Act.put, List.setIfInBounds_toArray, List.set_cons_zero, List.set_cons_succ]
      refine wpAnyH_take (i := 29) (oi := ⟨some 50, _, _, _, _, _⟩) (v := ?_) rfl (by kernel_rfl) (by kernel_rfl) (by kernel_rfl) (fun _ _ _ h => h) (Or.inl ⟨by rfl, ?_⟩) hHeld ?_
      rotate_left
      · intro W hW; obtain ⟨s2, s3, s6, s8⟩ := hW; go_simp <;> with_reducible rfl
      simp only [Act.put, List.setIfInBounds_toArray, List.set_cons_zero, List.set_cons_succ]
      refine wpAnyH_take (i := 30) (oi := ⟨some 51, _, _, _, _, _⟩) (v := ?_) rfl (by kernel_rfl) (by kernel_rfl) (by kernel_rfl) (fun _ _ _ h => h) (Or.inl ⟨by rfl, ?_⟩) hHeld ?_
      rotate_left
      · intro W hW; obtain ⟨s2, s3, s6, s8⟩ := hW; go_simp <;> with_reducible rfl
      simp only [Act.put, List.setIfInBounds_toArray, List.set_cons_zero, List.set_cons_succ]
      refine wpAnyH_take (i := 31) (oi := ⟨some 52, _, _, _, _, _⟩) (v := ?_) rfl (by kernel_rfl) (by kernel_rfl) (by kernel_rfl) (fun _ _ _ h => h) (Or.inl ⟨by rfl, ?_⟩) hHeld ?_
      rotate_left
      · intro W hW; obtain ⟨s2, s3, s6, s8⟩ := hW; go_simp <;> with_reducible rfl
      simp only [Act.put, List.setIfInBounds_toArray, List.set_cons_zero, List.set_cons_succ]
      refine wpAnyH_take (i := 32) (oi := ⟨some 53, _, _, _, _, _⟩) (v := ?_) rfl (by kernel_rfl) (by kernel_rfl) (by kernel_rfl) (fun _ _ _ h => h) (Or.inl ⟨by rfl, ?_⟩) hHeld ?_
      rotate_left
      · intro W hW; obtain ⟨s2, s3, s6, s8⟩ := hW; go_simp <;> with_reducible rfl
      simp only [Act.put, List.setIfInBounds_toArray, List.set_cons_zero, List.set_cons_succ]
      refine wpAnyH_take (i := 33) (oi := ⟨some 54, _, _, _, _, _⟩) (v := ?_) rfl (by kernel_rfl) (by kernel_rfl) (by kernel_rfl) (fun _ _ _ h => h) (Or.inl ⟨by rfl, ?_⟩) hHeld ?_
      rotate_left
      · intro W hW; obtain ⟨s2, s3, s6, s8⟩ := hW; go_simp <;> with_reducible rfl
      simp only [Act.put, List.setIfInBounds_toArray, List.set_cons_zero, List.set_cons_succ]
      refine wpAnyH_take (i := 34) (oi := ⟨some 55, _, _, _, _, _⟩) (v := ?_) rfl (by kernel_rfl) (by kernel_rfl) (by kernel_rfl) (fun _ _ _ h => h) (Or.inl ⟨by rfl, ?_⟩) hHeld ?_
      rotate_left
      · intro W hW; obtain ⟨s2, s3, s6, s8⟩ := hW; go_simp <;> with_reducible rfl
      simp only [Act.put, List.setIfInBounds_toArray, List.set_cons_zero, List.set_cons_succ]
      refine wpAnyH_take (i := 35) (oi := ⟨some 56, _, _, _, _, _⟩) (v := ?_) rfl (by kernel_rfl) (by kernel_rfl) (by kernel_rfl) (fun _ _ _ h => h) (Or.inl ⟨by rfl, ?_⟩) hHeld ?_
      rotate_left
      · intro W hW; obtain ⟨s2, s3, s6, s8⟩ := hW; go_simp <;> with_reducible rfl
      simp only [Act.put, List.setIfInBounds_toArray, List.set_cons_zero, List.set_cons_succ]
      refine wpAnyH_take (i := 36) (oi := ⟨some 57, _, _, _, _, _⟩) (v := ?_) rfl (by kernel_rfl) (by kernel_rfl) (by kernel_rfl) (fun _ _ _ h => h) (Or.inl ⟨by rfl, ?_⟩) hHeld ?_
      rotate_left
      · intro W hW; obtain ⟨s2, s3, s6, s8⟩ := hW; go_simp <;> with_reducible rfl
      simp only [Act.put, List.setIfInBounds_toArray, List.set_cons_zero, List.set_cons_succ]
      refine wpAnyH_take (i := 37) (oi := ⟨some 58, _, _, _, _, _⟩) (v := ?_) rfl (by kernel_rfl) (by kernel_rfl) (by kernel_rfl) (fun _ _ _ h => h) (Or.inl ⟨by rfl, ?_⟩) hHeld ?_
      rotate_left
      · intro W hW; obtain ⟨s2, s3, s6, s8⟩ := hW; go_simp <;> with_reducible rfl
      simp only [Act.put, List.setIfInBounds_toArray, List.set_cons_zero, List.set_cons_succ]
      refine wpAnyH_take (i := 38) (oi := ⟨some 59, _, _, _, _, _⟩) (v := ?_) rfl (by kernel_rfl) (by kernel_rfl) (by kernel_rfl) (fun _ _ _ h => h) (Or.inl ⟨by rfl, ?_⟩) hHeld ?_
      rotate_left
      · intro W hW; obtain ⟨s2, s3, s6, s8⟩ := hW; go_simp <;> with_reducible rfl
      simp only [Act.put, List.setIfInBounds_toArray, List.set_cons_zero, List.set_cons_succ]
      refine wpAnyH_take (i := 39) (oi := ⟨some 60, _, _, _, _, _⟩) (v := ?_) rfl (by kernel_rfl) (by kernel_rfl) (by kernel_rfl) (fun _ _ _ h => h) (Or.inl ⟨by rfl, ?_⟩) hHeld ?_
      rotate_left
      · intro W hW; obtain ⟨s2, s3, s6, s8⟩ := hW; go_simp <;> with_reducible rfl
      simp only [Act.put, List.setIfInBounds_toArray, List.set_cons_zero, List.set_cons_succ]
      refine wpAnyH_take (i := 40) (oi := ⟨some 61, _, _, _, _, _⟩) (v := ?_) rfl (by kernel_rfl) (by kernel_rfl) (by kernel_rfl) (fun _ _ _ h => h) (Or.inl ⟨by rfl, ?_⟩) hHeld ?_
      rotate_left
      · intro W hW; obtain ⟨s2, s3, s6, s8⟩ := hW; go_simp <;> with_reducible rfl
      simp only [Act.put, List.setIfInBounds_toArray, List.set_cons_zero, List.set_cons_succ]
      refine wpAnyH_take (i := 41) (oi := ⟨some 62, _, _, _, _, _⟩) (v := ?_) rfl (by kernel_rfl) (by kernel_rfl) (by kernel_rfl) (fun _ _ _ h => h) (Or.inl ⟨by rfl, ?_⟩) hHeld ?_
      rotate_left
      · intro W hW; obtain ⟨s2, s3, s6, s8⟩ := hW; go_simp <;> with_reducible rfl
      simp only [Act.put, List.setIfInBounds_toArray, List.set_cons_zero, List.set_cons_succ]
      refine wpAnyH_take (i := 42) (oi := ⟨some 4, _, _, _, _, _⟩) (v := ?_) rfl (by kernel_rfl) (by kernel_rfl) (by kernel_rfl) (fun _ _ _ h => h) (Or.inl ⟨by rfl, ?_⟩) hHeld ?_
      rotate_left
      · intro W hW; obtain ⟨s2, s3, s6, s8⟩ := hW; go_simp <;> with_reducible rfl
      simp only [Act.put, List.setIfInBounds_toArray, List.set_cons_zero, List.set_cons_succ]
      refine wpAnyH_done (by kernel_rfl) ?_ _
      go_wp2
      go_ret
      exact ⟨rfl, (hb03.alloc hb03.size _).drew⟩
  · have ef : fitsB a0 = false := decide_eq_false hf
    go_enter Try.func13, Try.ntmps13
    go_wp2_with fail
    refine (fits_any a0 w).mono ?_
    rintro e w' ⟨rfl, rfl⟩
    rw [ef]
    go_wp2
    go_ret
    exact ⟨rfl, Below.refl _ _⟩

end Go.Proofs.Ytdpjdglcienbfaa.fnSizes

/-
  The walk of the law FnReset (in full): it returns true and changes nothing that was there. FnReset, for every input: after a reset the hash is as it was at the beginning.
-/
import Derived.Test.YtdpjdglcienbfaaGreatProg
import Derived.Test.YtdpjdglcienbfaaGreatOpenArgs
import Derived.WalkKit
import Derived.Below
import Derived.WalkSmall
import Derived.Lib.Hide
import Derived.Test.YtdpjdglcienbfaaGreatDue
import Derived.Test.YtdpjdglcienbfaaGreatSteps
import Derived.Test.YtdpjdglcienbfaaGreatEqual
import Derived.Deep.RegionHeld3
namespace Go.Proofs.YtdpjdglcienbfaaGreat.fnReset
open Go.RowKit
set_option linter.unusedVariables false

theorem runM_reset (K : Kind) (a b : List Nat) : (runM K [⟨0, 0, 0, a⟩, ⟨2, 0, 0, []⟩, ⟨1, 0, 0, []⟩, ⟨0, 0, 0, b⟩, ⟨1, 0, 0, []⟩]).an = [⟨[], 0, a.length, false, none⟩, Ans.zero, ⟨K.bytes K.init, 0, 0, false, none⟩, ⟨[], 0, b.length, false, none⟩, ⟨K.bytes (b.foldl K.step K.init), 0, 0, false, none⟩] := by
  simp [runM, stepM, doM]

set_option maxRecDepth 100000 in
set_option maxHeartbeats 2000000 in
theorem walk (a0 : Int) (w0 : (Lit.int .i64 a0).wf = true) (A1 : Option Addr) (n1 c1 : Nat) (l1 : List Nat) (A2 : Option Addr) (n2 c2 : Nat) (l2 : List Nat) (w : World) (b1 : BS w w.heap.size A1 n1 l1) (nc1 : n1 ≤ c1) (r1 : c1 ≤ 140737488351232) (b2 : BS w w.heap.size A2 n2 l2) (nc2 : n2 ≤ c2) (r2 : c2 ≤ 140737488351232) :
    Calls Tryz.prog 7 #[.int .i64 a0, .slice A1 n1 c1, .slice A2 n2 c2] w fun e w' => e = .returned (.bool true) ∧ Below w.heap.size w w' := by
  have hm1 : c1 ≤ maxLen := by unfold maxLen; omega
  have hm2 : c2 ≤ maxLen := by unfold maxLen; omega
  by_cases hf : 0 ≤ a0 ∧ a0 ≤ 6
  · have ef : fitsB a0 = true := decide_eq_true hf
    by_cases hbig : 100000 < n1 + n2
    · have eb : decide (100000 < (n1 : Int) + (n2 : Int)) = true := decide_eq_true (by omega)
      go_enter Tryz.func7, Tryz.ntmps7
      go_wp2_with fail
      refine (fits_any a0 w).mono ?_
      rintro e w' ⟨rfl, rfl⟩
      rw [ef]
      go_wp2
      go_ret
      exact ⟨rfl, Below.refl _ _⟩
    · have eb : decide (100000 < (n1 : Int) + (n2 : Int)) = false := decide_eq_false (by omega)
      obtain ⟨kd, rfl⟩ : ∃ kd : Nat, a0 = (kd : Int) := ⟨a0.toNat, by omega⟩
      have hk6 : kd ≤ 6 := by omega
      have HL1 := Lib.hid b1.len
      have HL2 := Lib.hid b2.len
      clear hf
      go_enter Tryz.func7, Tryz.ntmps7
      go_wp2_with fail
      refine (fits_any (kd : Int) w).mono ?_
      rintro e w' ⟨rfl, rfl⟩
      rw [ef]
      clear ef
      go_wp2_with fail
      refine (write_any 0 A1 n1 c1 w).mono ?_
      rintro e w1 ⟨rfl, hb1⟩
      go_wp2_with fail
      refine (sum_any 0 w1).mono ?_
      rintro e w2 ⟨rfl, hb2⟩
      go_wp2_with fail
      refine (write_any 0 A2 n2 c2 w2).mono ?_
      rintro e w3 ⟨rfl, hb3⟩
      go_wp2_with fail
      refine (sum_any 0 w3).mono ?_
      rintro e w4 ⟨rfl, hb4⟩
      go_wp2_with fail
      have hb04 : Below w.heap.size w w4 := ((hb1.trans (hb2.mono hb1.size)).trans (hb3.mono (Nat.le_trans hb1.size hb2.size))).trans (hb4.mono (Nat.le_trans (Nat.le_trans hb1.size hb2.size) hb3.size))
      have d1 := (b1.below hb04).mono hb04.size
      have d2 := (b2.below hb04).mono hb04.size
      refine (hashed_any kd hk6 _ 5 5 [⟨0, 0, 0, l1⟩, ⟨2, 0, 0, []⟩, ⟨1, 0, 0, []⟩, ⟨0, 0, 0, l2⟩, ⟨1, 0, 0, []⟩] _ (ss_lit w4 [(⟨0, 0, 0, l1⟩, .slice A1 n1 c1), (⟨2, 0, 0, []⟩, .slice none 0 0), (⟨1, 0, 0, []⟩, .slice none 0 0), (⟨0, 0, 0, l2⟩, .slice A2 n2 c2), (⟨1, 0, 0, []⟩, .slice none 0 0)] ?hd) (by omega) ?hl).mono ?_
      case hd =>
        intro q hq
        simp only [List.mem_cons, List.not_mem_nil, or_false] at hq
        rcases hq with rfl | rfl | rfl | rfl | rfl
        · exact ⟨A1, n1, c1, rfl, d1, nc1, hm1⟩
        · exact ⟨none, 0, 0, rfl, BS.nil _ _ _, Nat.le_refl _, Nat.zero_le _⟩
        · exact ⟨none, 0, 0, rfl, BS.nil _ _ _, Nat.le_refl _, Nat.zero_le _⟩
        · exact ⟨A2, n2, c2, rfl, d2, nc2, hm2⟩
        · exact ⟨none, 0, 0, rfl, BS.nil _ _ _, Nat.le_refl _, Nat.zero_le _⟩
      case hl =>
        intro q hq
        simp only [List.mem_cons, List.not_mem_nil, or_false] at hq
        have := HL1.out
        have := HL2.out
        rcases hq with rfl | rfl | rfl | rfl | rfl <;> simp <;> omega
      rintro e w5 ⟨v5, P, rfl, ho5, hp5, hdat5, hb5⟩
      rw [runM_reset] at hp5
      obtain ⟨g, c5, rfl, hglt, hcells⟩ := answers_open ho5 hdat5 (by have := congrArg List.length hp5; simp at this; omega) hp5
      have hb05 : Below w.heap.size w w5 := (hb04.alloc hb04.size _).trans (hb5.mono (by have := hb04.size; simp; omega))
      obtain ⟨A21, c21, q20, _, _, hbs2, _⟩ := hcells 2 (by simp)
      obtain ⟨A41, c41, q40, _, _, hbs4, _⟩ := hcells 4 (by simp)
      simp only [List.getD_cons_zero, List.getD_cons_succ, (kindOf_good kd).bytes_len] at q20 q40 hbs2 hbs4
      rw [show 2 * 4 = 8 from rfl] at q20
      rw [show 4 * 4 = 16 from rfl] at q40
      have HB2 := Lib.hid hbs2
      have HB4 := Lib.hid hbs4
      have D2 := Lib.hid ((b2.below hb05).mono hb05.size)
      obtain ⟨sz, hsz⟩ : ∃ sz, (kindOf kd).size = sz := ⟨_, rfl⟩
      rw [hsz] at q20 q40 HB2 HB4
      have HSZ := Lib.hid hsz
      clear hcells hp5 hdat5 ho5 hbs2 hbs4 d1 d2 hsz
      go_wp2_with fail
      refine wp_region_held_drew (S := fun W => Below w5.heap.size w5 W) (by kernel_rfl) ⟨rfl, rfl, rfl, Nat.le_refl _, fun _ _ => rfl⟩ (fun hHeld => ?_)
      refine wpAnyH_take (i := 0) (oi := ⟨some 29, _, _, _, _, _⟩) (v := ?_) rfl (by kernel_rfl) (by kernel_rfl) (by kernel_rfl) (fun _ _ _ h => h) (Or.inl ⟨by rfl, ?_⟩) hHeld ?_
      rotate_left
      · intro W hW; go_simp <;> with_reducible rfl
      simp only [Act.put, List.setIfInBounds_toArray, List.set_cons_zero, List.set_cons_succ]
      refine wpAnyH_take (i := 1) (oi := ⟨some 30, _, _, _, _, _⟩) (v := ?_) rfl (by kernel_rfl) (by kernel_rfl) (by kernel_rfl) (fun _ _ _ h => h) (Or.inl ⟨by rfl, ?_⟩) hHeld ?_
      rotate_left
      · intro W hW; go_simp <;> with_reducible rfl
      simp only [Act.put, List.setIfInBounds_toArray, List.set_cons_zero, List.set_cons_succ]
      refine wpAnyH_take (i := 2) (oi := ⟨some 31, _, _, _, _, _⟩) (v := ?_) rfl (by kernel_rfl) (by kernel_rfl) (by kernel_rfl) (fun _ _ _ h => h) (Or.inl ⟨by rfl, ?_⟩) hHeld ?_
      rotate_left
      · intro W hW; go_simp <;> with_reducible rfl
      simp only [Act.put, List.setIfInBounds_toArray, List.set_cons_zero, List.set_cons_succ]
      refine wpAnyH_take (i := 3) (oi := ⟨some 32, _, _, _, _, _⟩) (v := ?_) rfl (by kernel_rfl) (by kernel_rfl) (by kernel_rfl) (fun _ _ _ h => h) (Or.inl ⟨by rfl, ?_⟩) hHeld ?_
      rotate_left
      · intro W hW; go_simp <;> with_reducible rfl
      simp only [Act.put, List.setIfInBounds_toArray, List.set_cons_zero, List.set_cons_succ]
      refine wpAnyH_take (i := 4) (oi := ⟨some 33, _, _, _, _, _⟩) (v := ?_) rfl (by kernel_rfl) (by kernel_rfl) (by kernel_rfl) (fun _ _ _ h => h) (Or.inl ⟨by rfl, ?_⟩) hHeld ?_
      rotate_left
      · intro W hW; go_simp <;> with_reducible rfl
      simp only [Act.put, List.setIfInBounds_toArray, List.set_cons_zero, List.set_cons_succ]
      refine wpAnyH_take (i := 5) (oi := ⟨some 34, _, _, _, _, _⟩) (v := ?_) rfl (by kernel_rfl) (by kernel_rfl) (by kernel_rfl) (fun _ _ _ h => h) (Or.inl ⟨by rfl, ?_⟩) hHeld ?_
      rotate_left
      · intro W hW; go_simp <;> with_reducible rfl
      simp only [Act.put, List.setIfInBounds_toArray, List.set_cons_zero, List.set_cons_succ]
      refine wpAnyH_take (i := 6) (oi := ⟨some 35, _, _, _, _, _⟩) (v := ?_) rfl (by kernel_rfl) (by kernel_rfl) (by kernel_rfl) (fun _ _ _ h => h) (Or.inl ⟨by rfl, ?_⟩) hHeld ?_
      rotate_left
      · intro W hW; go_simp <;> with_reducible rfl
      simp only [Act.put, List.setIfInBounds_toArray, List.set_cons_zero, List.set_cons_succ]
      refine wpAnyH_take (i := 7) (oi := ⟨some 36, _, _, _, _, _⟩) (v := ?_) rfl (by kernel_rfl) (by kernel_rfl) (by kernel_rfl) (fun _ _ _ h => h) (Or.inl ⟨by rfl, ?_⟩) hHeld ?_
      rotate_left
      · intro W hW; have q := (hW.cell (p := ⟨g, 8, none⟩) hglt).trans q20; go_simp <;> with_reducible rfl
      simp only [Act.put, List.setIfInBounds_toArray, List.set_cons_zero, List.set_cons_succ]
      refine wpAnyH_take (i := 8) (oi := ⟨some 37, _, _, _, _, _⟩) (v := ?_) rfl (by kernel_rfl) (by kernel_rfl) (by kernel_rfl) (fun _ _ _ h => h) (Or.inl ⟨by rfl, ?_⟩) hHeld ?_
      rotate_left
      · intro W hW; go_simp <;> with_reducible rfl
      simp only [Act.put, List.setIfInBounds_toArray, List.set_cons_zero, List.set_cons_succ]
      refine wpAnyH_ready (rs := [9]) (by kernel_rfl) (by simp) (AllReadyH.cons rfl (fun K1 hK1 => ?_) AllReadyH.nil)
      go_simp
      refine (due_any kd hk6 none 0 0 [] _ 0 (Nat.zero_le _) (Nat.le_refl _) (Nat.zero_le _) (BS.nil _ _ _)).mono ?_
      rintro e w6 ⟨v6, rfl, ho6, hb6⟩
      obtain ⟨A6, c6, rfl, _, _, bs6⟩ := ho6.at_ (n := sz) (by rw [(kindOf_good kd).bytes_len]; exact HSZ.out)
      have S6 := hHeld.trans (hb6.mono hHeld.size)
      have HB6' := Lib.hid bs6
      clear hHeld ho6 bs6 hb6
      refine hK1.out _ _ S6 (fun hHeld => ?_)
      clear hK1 K1
      refine wpAnyH_ready (rs := [10]) (by kernel_rfl) (by simp) (AllReadyH.cons rfl (fun K1 hK1 => ?_) AllReadyH.nil)
      go_simp
      refine (equal_any A21 sz c21 A6 sz c6 ((kindOf kd).bytes (kindOf kd).init) ((kindOf kd).bytes (kindOf kd).init) w6 _ _ (HB2.out.below S6) HB6'.out).mono ?_
      rintro e w' ⟨rfl, rfl⟩
      rw [decide_eq_true rfl]
      refine hK1.out _ _ S6 (fun hHeld => ?_)
      clear hK1 K1
      refine wpAnyH_take (i := 11) (oi := ⟨some 40, _, _, _, _, _⟩) (v := ?_) rfl (by kernel_rfl) (by kernel_rfl) (by kernel_rfl) (fun _ _ _ h => h) (Or.inl ⟨by rfl, ?_⟩) hHeld ?_
      rotate_left
      · intro W hW; go_simp <;> with_reducible rfl
      simp only [Act.put, List.setIfInBounds_toArray, List.set_cons_zero, List.set_cons_succ]
      refine wpAnyH_take (i := 12) (oi := ⟨some 41, _, _, _, _, _⟩) (v := ?_) rfl (by kernel_rfl) (by kernel_rfl) (by kernel_rfl) (fun _ _ _ h => h) (Or.inl ⟨by rfl, ?_⟩) hHeld ?_
      rotate_left
      · intro W hW; go_simp <;> with_reducible rfl
      simp only [Act.put, List.setIfInBounds_toArray, List.set_cons_zero, List.set_cons_succ]
      refine wpAnyH_take (i := 13) (oi := ⟨some 42, _, _, _, _, _⟩) (v := ?_) rfl (by kernel_rfl) (by kernel_rfl) (by kernel_rfl) (fun _ _ _ h => h) (Or.inl ⟨by rfl, ?_⟩) hHeld ?_
      rotate_left
      · intro W hW; go_simp <;> with_reducible rfl
      simp only [Act.put, List.setIfInBounds_toArray, List.set_cons_zero, List.set_cons_succ]
      refine wpAnyH_take (i := 14) (oi := ⟨some 43, _, _, _, _, _⟩) (v := ?_) rfl (by kernel_rfl) (by kernel_rfl) (by kernel_rfl) (fun _ _ _ h => h) (Or.inl ⟨by rfl, ?_⟩) hHeld ?_
      rotate_left
      · intro W hW; go_simp <;> with_reducible rfl
      simp only [Act.put, List.setIfInBounds_toArray, List.set_cons_zero, List.set_cons_succ]
      refine wpAnyH_take (i := 15) (oi := ⟨some 44, _, _, _, _, _⟩) (v := ?_) rfl (by kernel_rfl) (by kernel_rfl) (by kernel_rfl) (fun _ _ _ h => h) (Or.inl ⟨by rfl, ?_⟩) hHeld ?_
      rotate_left
      · intro W hW; go_simp <;> with_reducible rfl
      simp only [Act.put, List.setIfInBounds_toArray, List.set_cons_zero, List.set_cons_succ]
      refine wpAnyH_take (i := 16) (oi := ⟨some 45, _, _, _, _, _⟩) (v := ?_) rfl (by kernel_rfl) (by kernel_rfl) (by kernel_rfl) (fun _ _ _ h => h) (Or.inl ⟨by rfl, ?_⟩) hHeld ?_
      rotate_left
      · intro W hW; have q := (hW.cell (p := ⟨g, 16, none⟩) hglt).trans q40; go_simp <;> with_reducible rfl
      simp only [Act.put, List.setIfInBounds_toArray, List.set_cons_zero, List.set_cons_succ]
      refine wpAnyH_take (i := 17) (oi := ⟨some 46, _, _, _, _, _⟩) (v := ?_) rfl (by kernel_rfl) (by kernel_rfl) (by kernel_rfl) (fun _ _ _ h => h) (Or.inl ⟨by rfl, ?_⟩) hHeld ?_
      rotate_left
      · intro W hW; go_simp <;> with_reducible rfl
      simp only [Act.put, List.setIfInBounds_toArray, List.set_cons_zero, List.set_cons_succ]
      refine wpAnyH_take (i := 18) (oi := ⟨some 47, _, _, _, _, _⟩) (v := ?_) rfl (by kernel_rfl) (by kernel_rfl) (by kernel_rfl) (fun _ _ _ h => h) (Or.inl ⟨by rfl, ?_⟩) hHeld ?_
      rotate_left
      · intro W hW; go_simp <;> with_reducible rfl
      simp only [Act.put, List.setIfInBounds_toArray, List.set_cons_zero, List.set_cons_succ]
      refine wpAnyH_ready (rs := [19]) (by kernel_rfl) (by simp) (AllReadyH.cons rfl (fun K1 hK1 => ?_) AllReadyH.nil)
      go_simp
      refine (due_any kd hk6 A2 n2 c2 l2 _ w5.heap.size hHeld.size nc2 hm2 (D2.out.below hHeld)).mono ?_
      rintro e w7 ⟨v7, rfl, ho7, hb7⟩
      obtain ⟨A7, c7, rfl, _, _, bs7⟩ := ho7.at_ (n := sz) (by rw [(kindOf_good kd).bytes_len]; exact HSZ.out)
      have S7 := hHeld.trans (hb7.mono hHeld.size)
      have HB7' := Lib.hid bs7
      clear hHeld ho7 bs7 hb7
      refine hK1.out _ _ S7 (fun hHeld => ?_)
      clear hK1 K1
      refine wpAnyH_ready (rs := [20]) (by kernel_rfl) (by simp) (AllReadyH.cons rfl (fun K1 hK1 => ?_) AllReadyH.nil)
      go_simp
      refine (equal_any A41 sz c41 A7 sz c7 ((kindOf kd).bytes (l2.foldl (kindOf kd).step (kindOf kd).init)) ((kindOf kd).bytes (l2.foldl (kindOf kd).step (kindOf kd).init)) w7 _ _ (HB4.out.below S7) HB7'.out).mono ?_
      rintro e w' ⟨rfl, rfl⟩
      rw [decide_eq_true rfl]
      refine hK1.out _ _ S7 (fun hHeld => ?_)
      clear hK1 K1
      refine wpAnyH_take (i := 21) (oi := ⟨some 50, _, _, _, _, _⟩) (v := ?_) rfl (by kernel_rfl) (by kernel_rfl) (by kernel_rfl) (fun _ _ _ h => h) (Or.inl ⟨by rfl, ?_⟩) hHeld ?_
      rotate_left
      · intro W hW; go_simp <;> with_reducible rfl
      simp only [Act.put, List.setIfInBounds_toArray, List.set_cons_zero, List.set_cons_succ]
      refine wpAnyH_take (i := 22) (oi := ⟨some 6, _, _, _, _, _⟩) (v := ?_) rfl (by kernel_rfl) (by kernel_rfl) (by kernel_rfl) (fun _ _ _ h => h) (Or.inl ⟨by rfl, ?_⟩) hHeld ?_
      rotate_left
      · intro W hW; go_simp <;> with_reducible rfl
      simp only [Act.put, List.setIfInBounds_toArray, List.set_cons_zero, List.set_cons_succ]
      refine wpAnyH_done (by kernel_rfl) ?_ _
      go_wp2
      go_ret
      exact ⟨rfl, hb05.trans (S7.mono hb05.size)⟩
  · have ef : fitsB a0 = false := decide_eq_false hf
    go_enter Tryz.func7, Tryz.ntmps7
    go_wp2_with fail
    refine (fits_any a0 w).mono ?_
    rintro e w' ⟨rfl, rfl⟩
    rw [ef]
    go_wp2
    go_ret
    exact ⟨rfl, Below.refl _ _⟩

end Go.Proofs.YtdpjdglcienbfaaGreat.fnReset

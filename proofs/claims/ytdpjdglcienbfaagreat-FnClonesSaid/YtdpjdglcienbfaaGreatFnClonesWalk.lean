/-
  The walk of the law FnClones (in full): it returns true and changes nothing that was there. FnClones, for every input: a clone begins with the state of the original, and neither sees what the other one is given.
-/
import Derived.Test.YtdpjdglcienbfaaGreatProg
import Derived.Test.YtdpjdglcienbfaaGreatOpenArgs
import Derived.WalkKit
import Derived.Below
import Derived.WalkSmall
import Derived.Lib.Hide
import Derived.Test.YtdpjdglcienbfaaGreatDue
import Derived.Test.YtdpjdglcienbfaaGreatSteps
import Derived.Test.YtdpjdglcienbfaaGreatEqual
import Derived.Test.YtdpjdglcienbfaaGreatBoth
import Derived.Deep.RegionHeld3
namespace Go.Proofs.YtdpjdglcienbfaaGreat.fnClones
open Go.RowKit
set_option linter.unusedVariables false

theorem runM_FnClones (kd : Nat) (l1 l2 l3 : List Nat) : (runM (kindOf kd) [⟨0, 0, 0, l1⟩, ⟨5, 0, 0, []⟩, ⟨0, 0, 0, l2⟩, ⟨0, 1, 0, l3⟩, ⟨1, 0, 0, []⟩, ⟨1, 1, 0, []⟩, ⟨2, 1, 0, []⟩, ⟨1, 0, 0, []⟩, ⟨1, 1, 0, []⟩, ⟨5, 0, 0, []⟩, ⟨1, 2, 0, []⟩]).an = [⟨[], 0, l1.length, false, none⟩, ⟨[], 0, 1, false, none⟩, ⟨[], 0, l2.length, false, none⟩, ⟨[], 0, l3.length, false, none⟩, ⟨(kindOf kd).bytes ((l1 ++ l2).foldl (kindOf kd).step (kindOf kd).init), 0, 0, false, none⟩, ⟨(kindOf kd).bytes ((l1 ++ l3).foldl (kindOf kd).step (kindOf kd).init), 0, 0, false, none⟩, ⟨[], 0, 0, false, none⟩, ⟨(kindOf kd).bytes ((l1 ++ l2).foldl (kindOf kd).step (kindOf kd).init), 0, 0, false, none⟩, ⟨(kindOf kd).bytes (kindOf kd).init, 0, 0, false, none⟩, ⟨[], 0, 2, false, none⟩, ⟨(kindOf kd).bytes ((l1 ++ l2).foldl (kindOf kd).step (kindOf kd).init), 0, 0, false, none⟩] := by
  simp [runM, stepM, doM, Ans.zero, List.foldl_append]

set_option maxRecDepth 100000 in
set_option maxHeartbeats 4000000 in
theorem walk (a0 : Int) (w0 : (Lit.int .i64 a0).wf = true) (A1 : Option Addr) (n1 c1 : Nat) (l1 : List Nat) (A2 : Option Addr) (n2 c2 : Nat) (l2 : List Nat) (A3 : Option Addr) (n3 c3 : Nat) (l3 : List Nat) (w : World) (b1 : BS w w.heap.size A1 n1 l1) (nc1 : n1 ≤ c1) (r1 : c1 ≤ 140737488351232) (b2 : BS w w.heap.size A2 n2 l2) (nc2 : n2 ≤ c2) (r2 : c2 ≤ 140737488351232) (b3 : BS w w.heap.size A3 n3 l3) (nc3 : n3 ≤ c3) (r3 : c3 ≤ 140737488351232) :
    Calls Tryz.prog 4 #[.int .i64 a0, .slice A1 n1 c1, .slice A2 n2 c2, .slice A3 n3 c3] w fun e w' => e = .returned (.bool true) ∧ Below w.heap.size w w' := by
  have hm1 : c1 ≤ maxLen := by unfold maxLen; omega
  have hm2 : c2 ≤ maxLen := by unfold maxLen; omega
  have hm3 : c3 ≤ maxLen := by unfold maxLen; omega
  by_cases hf : 0 ≤ a0 ∧ a0 ≤ 6
  · have ef : fitsB a0 = true := decide_eq_true hf
    by_cases hbig : 100000 < n1 + n2 + n3
    · have eb : decide (100000 < (n1 : Int) + (n2 : Int) + (n3 : Int)) = true := decide_eq_true (by omega)
      go_enter Tryz.func4, Tryz.ntmps4
      go_wp2_with fail
      refine (fits_any a0 w).mono ?_
      rintro e w' ⟨rfl, rfl⟩
      rw [ef]
      go_wp2
      go_ret
      exact ⟨rfl, Below.refl _ _⟩
    · have eb : decide (100000 < (n1 : Int) + (n2 : Int) + (n3 : Int)) = false := decide_eq_false (by omega)
      obtain ⟨kd, rfl⟩ : ∃ kd : Nat, a0 = (kd : Int) := ⟨a0.toNat, by omega⟩
      have hk6 : kd ≤ 6 := by omega
      have HL1 := Lib.hid b1.len
      have HL2 := Lib.hid b2.len
      have HL3 := Lib.hid b3.len
      clear hf
      go_enter Tryz.func4, Tryz.ntmps4
      go_wp2_with fail
      refine (fits_any (kd : Int) w).mono ?_
      rintro e w' ⟨rfl, rfl⟩
      rw [ef]
      clear ef
      have bel0 : Below w.heap.size w w := Below.refl _ _
      go_wp2_with fail
      refine (write_any 0 A1 n1 c1 w).mono ?_
      rintro e u1 ⟨rfl, hu⟩
      have bel1 : Below w.heap.size w u1 := bel0.trans (hu.mono bel0.size)
      clear hu
      go_wp2_with fail
      refine (write_any 0 A2 n2 c2 u1).mono ?_
      rintro e u2 ⟨rfl, hu⟩
      have bel2 : Below w.heap.size w u2 := bel1.trans (hu.mono bel1.size)
      clear hu
      go_wp2_with fail
      refine (write_any 1 A3 n3 c3 u2).mono ?_
      rintro e u3 ⟨rfl, hu⟩
      have bel3 : Below w.heap.size w u3 := bel2.trans (hu.mono bel2.size)
      clear hu
      go_wp2_with fail
      refine (sum_any 0 u3).mono ?_
      rintro e u4 ⟨rfl, hu⟩
      have bel4 : Below w.heap.size w u4 := bel3.trans (hu.mono bel3.size)
      clear hu
      go_wp2_with fail
      refine (sum_any 1 u4).mono ?_
      rintro e u5 ⟨rfl, hu⟩
      have bel5 : Below w.heap.size w u5 := bel4.trans (hu.mono bel4.size)
      clear hu
      go_wp2_with fail
      refine (sum_any 0 u5).mono ?_
      rintro e u6 ⟨rfl, hu⟩
      have bel6 : Below w.heap.size w u6 := bel5.trans (hu.mono bel5.size)
      clear hu
      go_wp2_with fail
      refine (sum_any 1 u6).mono ?_
      rintro e u7 ⟨rfl, hu⟩
      have bel7 : Below w.heap.size w u7 := bel6.trans (hu.mono bel6.size)
      clear hu
      go_wp2_with fail
      refine (sum_any 2 u7).mono ?_
      rintro e u8 ⟨rfl, hu⟩
      have bel8 : Below w.heap.size w u8 := bel7.trans (hu.mono bel7.size)
      clear hu
      go_wp2_with fail
      have d1 := (b1.below bel8).mono bel8.size
      have d2 := (b2.below bel8).mono bel8.size
      have d3 := (b3.below bel8).mono bel8.size
      refine (hashed_any kd hk6 _ 11 11 [⟨0, 0, 0, l1⟩, ⟨5, 0, 0, []⟩, ⟨0, 0, 0, l2⟩, ⟨0, 1, 0, l3⟩, ⟨1, 0, 0, []⟩, ⟨1, 1, 0, []⟩, ⟨2, 1, 0, []⟩, ⟨1, 0, 0, []⟩, ⟨1, 1, 0, []⟩, ⟨5, 0, 0, []⟩, ⟨1, 2, 0, []⟩] _ (ss_lit u8 [(⟨0, 0, 0, l1⟩, .slice A1 n1 c1), (⟨5, 0, 0, []⟩, .slice none 0 0), (⟨0, 0, 0, l2⟩, .slice A2 n2 c2), (⟨0, 1, 0, l3⟩, .slice A3 n3 c3), (⟨1, 0, 0, []⟩, .slice none 0 0), (⟨1, 1, 0, []⟩, .slice none 0 0), (⟨2, 1, 0, []⟩, .slice none 0 0), (⟨1, 0, 0, []⟩, .slice none 0 0), (⟨1, 1, 0, []⟩, .slice none 0 0), (⟨5, 0, 0, []⟩, .slice none 0 0), (⟨1, 2, 0, []⟩, .slice none 0 0)] ?hd) (by omega) ?hl).mono ?_
      case hd =>
        intro q hq
        simp only [List.mem_cons, List.not_mem_nil, or_false] at hq
        rcases hq with rfl | rfl | rfl | rfl | rfl | rfl | rfl | rfl | rfl | rfl | rfl
        · exact ⟨A1, n1, c1, rfl, d1, nc1, hm1⟩
        · exact ⟨none, 0, 0, rfl, BS.nil _ _ _, Nat.le_refl _, Nat.zero_le _⟩
        · exact ⟨A2, n2, c2, rfl, d2, nc2, hm2⟩
        · exact ⟨A3, n3, c3, rfl, d3, nc3, hm3⟩
        · exact ⟨none, 0, 0, rfl, BS.nil _ _ _, Nat.le_refl _, Nat.zero_le _⟩
        · exact ⟨none, 0, 0, rfl, BS.nil _ _ _, Nat.le_refl _, Nat.zero_le _⟩
        · exact ⟨none, 0, 0, rfl, BS.nil _ _ _, Nat.le_refl _, Nat.zero_le _⟩
        · exact ⟨none, 0, 0, rfl, BS.nil _ _ _, Nat.le_refl _, Nat.zero_le _⟩
        · exact ⟨none, 0, 0, rfl, BS.nil _ _ _, Nat.le_refl _, Nat.zero_le _⟩
        · exact ⟨none, 0, 0, rfl, BS.nil _ _ _, Nat.le_refl _, Nat.zero_le _⟩
        · exact ⟨none, 0, 0, rfl, BS.nil _ _ _, Nat.le_refl _, Nat.zero_le _⟩
      case hl =>
        intro q hq
        simp only [List.mem_cons, List.not_mem_nil, or_false] at hq
        have := HL1.out
        have := HL2.out
        have := HL3.out
        rcases hq with rfl | rfl | rfl | rfl | rfl | rfl | rfl | rfl | rfl | rfl | rfl <;> simp <;> omega
      rintro e w5 ⟨v5, P, rfl, ho5, hp5, hdat5, hb5⟩
      rw [runM_FnClones] at hp5
      obtain ⟨g, c5, rfl, hglt, hcells⟩ := answers_open ho5 hdat5 (by have := congrArg List.length hp5; simp at this; omega) hp5
      have hb05 : Below w.heap.size w w5 := (bel8.alloc bel8.size _).trans (hb5.mono (by have := bel8.size; simp; omega))
      obtain ⟨Q1, e1, p10, _, _, hbs1, p11, p12, p13⟩ := hcells 1 (by simp)
      simp only [List.getD_cons_zero, List.getD_cons_succ] at p10 p11 p12 p13 hbs1
      rw [show 1 * 4 + 2 = 6 from rfl] at p12
      rw [show 1 * 4 + 3 = 7 from rfl] at p13
      clear hbs1 p10 p11
      obtain ⟨Q4, e4, p40, _, _, hbs4, p41, p42, p43⟩ := hcells 4 (by simp)
      simp only [List.getD_cons_zero, List.getD_cons_succ] at p40 p41 p42 p43 hbs4
      rw [show 4 * 4 = 16 from rfl] at p40
      obtain ⟨N4, hN⟩ : ∃ N, ((kindOf kd).bytes ((l1 ++ l2).foldl (kindOf kd).step (kindOf kd).init)).length = N := ⟨_, rfl⟩
      rw [hN] at p40 hbs4
      have HB4 := Lib.hid hbs4
      clear hN
      clear hbs4 p41 p42 p43
      obtain ⟨Q5, e5, p50, _, _, hbs5, p51, p52, p53⟩ := hcells 5 (by simp)
      simp only [List.getD_cons_zero, List.getD_cons_succ] at p50 p51 p52 p53 hbs5
      rw [show 5 * 4 = 20 from rfl] at p50
      obtain ⟨N5, hN⟩ : ∃ N, ((kindOf kd).bytes ((l1 ++ l3).foldl (kindOf kd).step (kindOf kd).init)).length = N := ⟨_, rfl⟩
      rw [hN] at p50 hbs5
      have HB5 := Lib.hid hbs5
      clear hN
      clear hbs5 p51 p52 p53
      obtain ⟨Q7, e7, p70, _, _, hbs7, p71, p72, p73⟩ := hcells 7 (by simp)
      simp only [List.getD_cons_zero, List.getD_cons_succ] at p70 p71 p72 p73 hbs7
      rw [show 7 * 4 = 28 from rfl] at p70
      obtain ⟨N7, hN⟩ : ∃ N, ((kindOf kd).bytes ((l1 ++ l2).foldl (kindOf kd).step (kindOf kd).init)).length = N := ⟨_, rfl⟩
      rw [hN] at p70 hbs7
      have HB7 := Lib.hid hbs7
      clear hN
      clear hbs7 p71 p72 p73
      obtain ⟨Q8, e8, p80, _, _, hbs8, p81, p82, p83⟩ := hcells 8 (by simp)
      simp only [List.getD_cons_zero, List.getD_cons_succ] at p80 p81 p82 p83 hbs8
      rw [show 8 * 4 = 32 from rfl] at p80
      obtain ⟨N8, hN⟩ : ∃ N, ((kindOf kd).bytes (kindOf kd).init).length = N := ⟨_, rfl⟩
      rw [hN] at p80 hbs8
      have HB8 := Lib.hid hbs8
      clear hN
      clear hbs8 p81 p82 p83
      obtain ⟨Q9, e9, p90, _, _, hbs9, p91, p92, p93⟩ := hcells 9 (by simp)
      simp only [List.getD_cons_zero, List.getD_cons_succ] at p90 p91 p92 p93 hbs9
      rw [show 9 * 4 + 2 = 38 from rfl] at p92
      rw [show 9 * 4 + 3 = 39 from rfl] at p93
      clear hbs9 p90 p91
      obtain ⟨Q10, e10, p100, _, _, hbs10, p101, p102, p103⟩ := hcells 10 (by simp)
      simp only [List.getD_cons_zero, List.getD_cons_succ] at p100 p101 p102 p103 hbs10
      rw [show 10 * 4 = 40 from rfl] at p100
      obtain ⟨N10, hN⟩ : ∃ N, ((kindOf kd).bytes ((l1 ++ l2).foldl (kindOf kd).step (kindOf kd).init)).length = N := ⟨_, rfl⟩
      rw [hN] at p100 hbs10
      have HB10 := Lib.hid hbs10
      clear hN
      clear hbs10 p101 p102 p103
      have D1 := Lib.hid ((b1.below hb05).mono hb05.size)
      have D2 := Lib.hid ((b2.below hb05).mono hb05.size)
      have D3 := Lib.hid ((b3.below hb05).mono hb05.size)
      clear hcells hp5 hdat5 ho5 d1 d2 d3
      go_wp2_with fail
      refine wp_region_held_drew (S := fun W => Below w5.heap.size w5 W) (by kernel_rfl) ⟨rfl, rfl, rfl, Nat.le_refl _, fun _ _ => rfl⟩ (fun hHeld => ?_)
      have S0 := hHeld
      refine wpAnyH_take (i := 0) (oi := ⟨some 41, _, _, _, _, _⟩) (v := ?_) rfl (by kernel_rfl) (by kernel_rfl) (by kernel_rfl) (fun _ _ _ h => h) (Or.inl ⟨by rfl, ?_⟩) hHeld ?_
      rotate_left
      · intro W hW; go_simp <;> with_reducible rfl
      simp only [Act.put, List.setIfInBounds_toArray, List.set_cons_zero, List.set_cons_succ]
      refine wpAnyH_take (i := 1) (oi := ⟨some 42, _, _, _, _, _⟩) (v := ?_) rfl (by kernel_rfl) (by kernel_rfl) (by kernel_rfl) (fun _ _ _ h => h) (Or.inl ⟨by rfl, ?_⟩) hHeld ?_
      rotate_left
      · intro W hW; go_simp <;> with_reducible rfl
      simp only [Act.put, List.setIfInBounds_toArray, List.set_cons_zero, List.set_cons_succ]
      refine wpAnyH_take (i := 2) (oi := ⟨some 43, _, _, _, _, _⟩) (v := ?_) rfl (by kernel_rfl) (by kernel_rfl) (by kernel_rfl) (fun _ _ _ h => h) (Or.inl ⟨by rfl, ?_⟩) hHeld ?_
      rotate_left
      · intro W hW; go_simp <;> with_reducible rfl
      simp only [Act.put, List.setIfInBounds_toArray, List.set_cons_zero, List.set_cons_succ]
      refine wpAnyH_take (i := 3) (oi := ⟨some 44, _, _, _, _, _⟩) (v := ?_) rfl (by kernel_rfl) (by kernel_rfl) (by kernel_rfl) (fun _ _ _ h => h) (Or.inl ⟨by rfl, ?_⟩) hHeld ?_
      rotate_left
      · intro W hW; go_simp <;> with_reducible rfl
      simp only [Act.put, List.setIfInBounds_toArray, List.set_cons_zero, List.set_cons_succ]
      refine wpAnyH_take (i := 4) (oi := ⟨some 45, _, _, _, _, _⟩) (v := ?_) rfl (by kernel_rfl) (by kernel_rfl) (by kernel_rfl) (fun _ _ _ h => h) (Or.inl ⟨by rfl, ?_⟩) hHeld ?_
      rotate_left
      · intro W hW; go_simp <;> with_reducible rfl
      simp only [Act.put, List.setIfInBounds_toArray, List.set_cons_zero, List.set_cons_succ]
      refine wpAnyH_take (i := 5) (oi := ⟨some 46, _, _, _, _, _⟩) (v := ?_) rfl (by kernel_rfl) (by kernel_rfl) (by kernel_rfl) (fun _ _ _ h => h) (Or.inl ⟨by rfl, ?_⟩) hHeld ?_
      rotate_left
      · intro W hW; go_simp <;> with_reducible rfl
      simp only [Act.put, List.setIfInBounds_toArray, List.set_cons_zero, List.set_cons_succ]
      refine wpAnyH_take (i := 6) (oi := ⟨some 47, _, _, _, _, _⟩) (v := ?_) rfl (by kernel_rfl) (by kernel_rfl) (by kernel_rfl) (fun _ _ _ h => h) (Or.inl ⟨by rfl, ?_⟩) hHeld ?_
      rotate_left
      · intro W hW; go_simp <;> with_reducible rfl
      simp only [Act.put, List.setIfInBounds_toArray, List.set_cons_zero, List.set_cons_succ]
      refine wpAnyH_take (i := 7) (oi := ⟨some 48, _, _, _, _, _⟩) (v := ?_) rfl (by kernel_rfl) (by kernel_rfl) (by kernel_rfl) (fun _ _ _ h => h) (Or.inl ⟨by rfl, ?_⟩) hHeld ?_
      rotate_left
      · intro W hW; have q := (hW.cell (p := ⟨g, 6, none⟩) hglt).trans p12; go_simp <;> with_reducible rfl
      simp only [Act.put, List.setIfInBounds_toArray, List.set_cons_zero, List.set_cons_succ]
      refine wpAnyH_take (i := 8) (oi := ⟨some 49, _, _, _, _, _⟩) (v := ?_) rfl (by kernel_rfl) (by kernel_rfl) (by kernel_rfl) (fun _ _ _ h => h) (Or.inl ⟨by rfl, ?_⟩) hHeld ?_
      rotate_left
      · intro W hW; go_simp <;> with_reducible rfl
      simp only [Act.put, List.setIfInBounds_toArray, List.set_cons_zero, List.set_cons_succ]
      refine wpAnyH_take (i := 9) (oi := ⟨some 50, _, _, _, _, _⟩) (v := ?_) rfl (by kernel_rfl) (by kernel_rfl) (by kernel_rfl) (fun _ _ _ h => h) (Or.inl ⟨by rfl, ?_⟩) hHeld ?_
      rotate_left
      · intro W hW; go_simp <;> with_reducible rfl
      simp only [Act.put, List.setIfInBounds_toArray, List.set_cons_zero, List.set_cons_succ]
      refine wpAnyH_take (i := 10) (oi := ⟨some 51, _, _, _, _, _⟩) (v := ?_) rfl (by kernel_rfl) (by kernel_rfl) (by kernel_rfl) (fun _ _ _ h => h) (Or.inl ⟨by rfl, ?_⟩) hHeld ?_
      rotate_left
      · intro W hW; go_simp <;> with_reducible rfl
      simp only [Act.put, List.setIfInBounds_toArray, List.set_cons_zero, List.set_cons_succ]
      refine wpAnyH_take (i := 11) (oi := ⟨some 52, _, _, _, _, _⟩) (v := ?_) rfl (by kernel_rfl) (by kernel_rfl) (by kernel_rfl) (fun _ _ _ h => h) (Or.inl ⟨by rfl, ?_⟩) hHeld ?_
      rotate_left
      · intro W hW; go_simp <;> with_reducible rfl
      simp only [Act.put, List.setIfInBounds_toArray, List.set_cons_zero, List.set_cons_succ]
      refine wpAnyH_take (i := 12) (oi := ⟨some 53, _, _, _, _, _⟩) (v := ?_) rfl (by kernel_rfl) (by kernel_rfl) (by kernel_rfl) (fun _ _ _ h => h) (Or.inl ⟨by rfl, ?_⟩) hHeld ?_
      rotate_left
      · intro W hW; go_simp <;> with_reducible rfl
      simp only [Act.put, List.setIfInBounds_toArray, List.set_cons_zero, List.set_cons_succ]
      refine wpAnyH_take (i := 13) (oi := ⟨some 54, _, _, _, _, _⟩) (v := ?_) rfl (by kernel_rfl) (by kernel_rfl) (by kernel_rfl) (fun _ _ _ h => h) (Or.inl ⟨by rfl, ?_⟩) hHeld ?_
      rotate_left
      · intro W hW; go_simp <;> with_reducible rfl
      simp only [Act.put, List.setIfInBounds_toArray, List.set_cons_zero, List.set_cons_succ]
      refine wpAnyH_take (i := 14) (oi := ⟨some 55, _, _, _, _, _⟩) (v := ?_) rfl (by kernel_rfl) (by kernel_rfl) (by kernel_rfl) (fun _ _ _ h => h) (Or.inl ⟨by rfl, ?_⟩) hHeld ?_
      rotate_left
      · intro W hW; have q := (hW.cell (p := ⟨g, 38, none⟩) hglt).trans p92; go_simp <;> with_reducible rfl
      simp only [Act.put, List.setIfInBounds_toArray, List.set_cons_zero, List.set_cons_succ]
      refine wpAnyH_take (i := 15) (oi := ⟨some 56, _, _, _, _, _⟩) (v := ?_) rfl (by kernel_rfl) (by kernel_rfl) (by kernel_rfl) (fun _ _ _ h => h) (Or.inl ⟨by rfl, ?_⟩) hHeld ?_
      rotate_left
      · intro W hW; go_simp <;> with_reducible rfl
      simp only [Act.put, List.setIfInBounds_toArray, List.set_cons_zero, List.set_cons_succ]
      refine wpAnyH_take (i := 16) (oi := ⟨some 57, _, _, _, _, _⟩) (v := ?_) rfl (by kernel_rfl) (by kernel_rfl) (by kernel_rfl) (fun _ _ _ h => h) (Or.inl ⟨by rfl, ?_⟩) hHeld ?_
      rotate_left
      · intro W hW; go_simp <;> with_reducible rfl
      simp only [Act.put, List.setIfInBounds_toArray, List.set_cons_zero, List.set_cons_succ]
      refine wpAnyH_take (i := 17) (oi := ⟨some 58, _, _, _, _, _⟩) (v := ?_) rfl (by kernel_rfl) (by kernel_rfl) (by kernel_rfl) (fun _ _ _ h => h) (Or.inl ⟨by rfl, ?_⟩) hHeld ?_
      rotate_left
      · intro W hW; go_simp <;> with_reducible rfl
      simp only [Act.put, List.setIfInBounds_toArray, List.set_cons_zero, List.set_cons_succ]
      refine wpAnyH_take (i := 18) (oi := ⟨some 59, _, _, _, _, _⟩) (v := ?_) rfl (by kernel_rfl) (by kernel_rfl) (by kernel_rfl) (fun _ _ _ h => h) (Or.inl ⟨by rfl, ?_⟩) hHeld ?_
      rotate_left
      · intro W hW; go_simp <;> with_reducible rfl
      simp only [Act.put, List.setIfInBounds_toArray, List.set_cons_zero, List.set_cons_succ]
      refine wpAnyH_take (i := 19) (oi := ⟨some 60, _, _, _, _, _⟩) (v := ?_) rfl (by kernel_rfl) (by kernel_rfl) (by kernel_rfl) (fun _ _ _ h => h) (Or.inl ⟨by rfl, ?_⟩) hHeld ?_
      rotate_left
      · intro W hW; go_simp <;> with_reducible rfl
      simp only [Act.put, List.setIfInBounds_toArray, List.set_cons_zero, List.set_cons_succ]
      refine wpAnyH_take (i := 20) (oi := ⟨some 61, _, _, _, _, _⟩) (v := ?_) rfl (by kernel_rfl) (by kernel_rfl) (by kernel_rfl) (fun _ _ _ h => h) (Or.inl ⟨by rfl, ?_⟩) hHeld ?_
      rotate_left
      · intro W hW; go_simp <;> with_reducible rfl
      simp only [Act.put, List.setIfInBounds_toArray, List.set_cons_zero, List.set_cons_succ]
      refine wpAnyH_take (i := 21) (oi := ⟨some 62, _, _, _, _, _⟩) (v := ?_) rfl (by kernel_rfl) (by kernel_rfl) (by kernel_rfl) (fun _ _ _ h => h) (Or.inl ⟨by rfl, ?_⟩) hHeld ?_
      rotate_left
      · intro W hW; have q := (hW.cell (p := ⟨g, 7, none⟩) hglt).trans p13; go_simp <;> with_reducible rfl
      simp only [Act.put, List.setIfInBounds_toArray, List.set_cons_zero, List.set_cons_succ]
      refine wpAnyH_take (i := 22) (oi := ⟨some 63, _, _, _, _, _⟩) (v := ?_) rfl (by kernel_rfl) (by kernel_rfl) (by kernel_rfl) (fun _ _ _ h => h) (Or.inl ⟨by rfl, ?_⟩) hHeld ?_
      rotate_left
      · intro W hW; go_simp <;> with_reducible rfl
      simp only [Act.put, List.setIfInBounds_toArray, List.set_cons_zero, List.set_cons_succ]
      refine wpAnyH_take (i := 23) (oi := ⟨some 64, _, _, _, _, _⟩) (v := ?_) rfl (by kernel_rfl) (by kernel_rfl) (by kernel_rfl) (fun _ _ _ h => h) (Or.inl ⟨by rfl, ?_⟩) hHeld ?_
      rotate_left
      · intro W hW; go_simp <;> with_reducible rfl
      simp only [Act.put, List.setIfInBounds_toArray, List.set_cons_zero, List.set_cons_succ]
      refine wpAnyH_take (i := 24) (oi := ⟨some 65, _, _, _, _, _⟩) (v := ?_) rfl (by kernel_rfl) (by kernel_rfl) (by kernel_rfl) (fun _ _ _ h => h) (Or.inl ⟨by rfl, ?_⟩) hHeld ?_
      rotate_left
      · intro W hW; go_simp <;> with_reducible rfl
      simp only [Act.put, List.setIfInBounds_toArray, List.set_cons_zero, List.set_cons_succ]
      refine wpAnyH_take (i := 25) (oi := ⟨some 66, _, _, _, _, _⟩) (v := ?_) rfl (by kernel_rfl) (by kernel_rfl) (by kernel_rfl) (fun _ _ _ h => h) (Or.inl ⟨by rfl, ?_⟩) hHeld ?_
      rotate_left
      · intro W hW; go_simp <;> with_reducible rfl
      simp only [Act.put, List.setIfInBounds_toArray, List.set_cons_zero, List.set_cons_succ]
      refine wpAnyH_take (i := 26) (oi := ⟨some 67, _, _, _, _, _⟩) (v := ?_) rfl (by kernel_rfl) (by kernel_rfl) (by kernel_rfl) (fun _ _ _ h => h) (Or.inl ⟨by rfl, ?_⟩) hHeld ?_
      rotate_left
      · intro W hW; go_simp <;> with_reducible rfl
      simp only [Act.put, List.setIfInBounds_toArray, List.set_cons_zero, List.set_cons_succ]
      refine wpAnyH_take (i := 27) (oi := ⟨some 68, _, _, _, _, _⟩) (v := ?_) rfl (by kernel_rfl) (by kernel_rfl) (by kernel_rfl) (fun _ _ _ h => h) (Or.inl ⟨by rfl, ?_⟩) hHeld ?_
      rotate_left
      · intro W hW; go_simp <;> with_reducible rfl
      simp only [Act.put, List.setIfInBounds_toArray, List.set_cons_zero, List.set_cons_succ]
      refine wpAnyH_take (i := 28) (oi := ⟨some 69, _, _, _, _, _⟩) (v := ?_) rfl (by kernel_rfl) (by kernel_rfl) (by kernel_rfl) (fun _ _ _ h => h) (Or.inl ⟨by rfl, ?_⟩) hHeld ?_
      rotate_left
      · intro W hW; have q := (hW.cell (p := ⟨g, 39, none⟩) hglt).trans p93; go_simp <;> with_reducible rfl
      simp only [Act.put, List.setIfInBounds_toArray, List.set_cons_zero, List.set_cons_succ]
      refine wpAnyH_take (i := 29) (oi := ⟨some 70, _, _, _, _, _⟩) (v := ?_) rfl (by kernel_rfl) (by kernel_rfl) (by kernel_rfl) (fun _ _ _ h => h) (Or.inl ⟨by rfl, ?_⟩) hHeld ?_
      rotate_left
      · intro W hW; go_simp <;> with_reducible rfl
      simp only [Act.put, List.setIfInBounds_toArray, List.set_cons_zero, List.set_cons_succ]
      refine wpAnyH_take (i := 30) (oi := ⟨some 71, _, _, _, _, _⟩) (v := ?_) rfl (by kernel_rfl) (by kernel_rfl) (by kernel_rfl) (fun _ _ _ h => h) (Or.inl ⟨by rfl, ?_⟩) hHeld ?_
      rotate_left
      · intro W hW; go_simp <;> with_reducible rfl
      simp only [Act.put, List.setIfInBounds_toArray, List.set_cons_zero, List.set_cons_succ]
      refine wpAnyH_take (i := 31) (oi := ⟨some 72, _, _, _, _, _⟩) (v := ?_) rfl (by kernel_rfl) (by kernel_rfl) (by kernel_rfl) (fun _ _ _ h => h) (Or.inl ⟨by rfl, ?_⟩) hHeld ?_
      rotate_left
      · intro W hW; go_simp <;> with_reducible rfl
      simp only [Act.put, List.setIfInBounds_toArray, List.set_cons_zero, List.set_cons_succ]
      refine wpAnyH_take (i := 32) (oi := ⟨some 73, _, _, _, _, _⟩) (v := ?_) rfl (by kernel_rfl) (by kernel_rfl) (by kernel_rfl) (fun _ _ _ h => h) (Or.inl ⟨by rfl, ?_⟩) hHeld ?_
      rotate_left
      · intro W hW; go_simp <;> with_reducible rfl
      simp only [Act.put, List.setIfInBounds_toArray, List.set_cons_zero, List.set_cons_succ]
      refine wpAnyH_take (i := 33) (oi := ⟨some 74, _, _, _, _, _⟩) (v := ?_) rfl (by kernel_rfl) (by kernel_rfl) (by kernel_rfl) (fun _ _ _ h => h) (Or.inl ⟨by rfl, ?_⟩) hHeld ?_
      rotate_left
      · intro W hW; go_simp <;> with_reducible rfl
      simp only [Act.put, List.setIfInBounds_toArray, List.set_cons_zero, List.set_cons_succ]
      refine wpAnyH_take (i := 34) (oi := ⟨some 75, _, _, _, _, _⟩) (v := ?_) rfl (by kernel_rfl) (by kernel_rfl) (by kernel_rfl) (fun _ _ _ h => h) (Or.inl ⟨by rfl, ?_⟩) hHeld ?_
      rotate_left
      · intro W hW; go_simp <;> with_reducible rfl
      simp only [Act.put, List.setIfInBounds_toArray, List.set_cons_zero, List.set_cons_succ]
      refine wpAnyH_take (i := 35) (oi := ⟨some 76, _, _, _, _, _⟩) (v := ?_) rfl (by kernel_rfl) (by kernel_rfl) (by kernel_rfl) (fun _ _ _ h => h) (Or.inl ⟨by rfl, ?_⟩) hHeld ?_
      rotate_left
      · intro W hW; have q := (hW.cell (p := ⟨g, 16, none⟩) hglt).trans p40; go_simp <;> with_reducible rfl
      simp only [Act.put, List.setIfInBounds_toArray, List.set_cons_zero, List.set_cons_succ]
      refine wpAnyH_take (i := 36) (oi := ⟨some 77, _, _, _, _, _⟩) (v := ?_) rfl (by kernel_rfl) (by kernel_rfl) (by kernel_rfl) (fun _ _ _ h => h) (Or.inl ⟨by rfl, ?_⟩) hHeld ?_
      rotate_left
      · intro W hW; go_simp <;> with_reducible rfl
      simp only [Act.put, List.setIfInBounds_toArray, List.set_cons_zero, List.set_cons_succ]
      refine wpAnyH_take (i := 37) (oi := ⟨some 78, _, _, _, _, _⟩) (v := ?_) rfl (by kernel_rfl) (by kernel_rfl) (by kernel_rfl) (fun _ _ _ h => h) (Or.inl ⟨by rfl, ?_⟩) hHeld ?_
      rotate_left
      · intro W hW; go_simp <;> with_reducible rfl
      simp only [Act.put, List.setIfInBounds_toArray, List.set_cons_zero, List.set_cons_succ]
      refine wpAnyH_take (i := 38) (oi := ⟨some 79, _, _, _, _, _⟩) (v := ?_) rfl (by kernel_rfl) (by kernel_rfl) (by kernel_rfl) (fun _ _ _ h => h) (Or.inl ⟨by rfl, ?_⟩) hHeld ?_
      rotate_left
      · intro W hW; go_simp <;> with_reducible rfl
      simp only [Act.put, List.setIfInBounds_toArray, List.set_cons_zero, List.set_cons_succ]
      refine wpAnyH_ready (rs := [39]) (by kernel_rfl) (by simp) (AllReadyH.cons rfl (fun K1 hK1 => ?_) AllReadyH.nil)
      go_simp
      refine (both_any _ _ A1 n1 c1 l1 A2 n2 c2 l2 (Nat.le_refl _) ((D1.out.below S0).mono S0.size) ((D2.out.below S0).mono S0.size) (by omega)).mono ?_
      rintro e x1 ⟨y1, rfl, ho, hb⟩
      obtain ⟨M1, hM⟩ : ∃ M, ((l1 ++ l2)).length = M := ⟨_, rfl⟩
      obtain ⟨X1, z1, rfl, hnc1, hcm1, bs⟩ := ho.at_ hM
      have HM1 := Lib.hid bs
      have S1 := S0.trans (hb.mono S0.size)
      have hML : M1 ≤ 200000 := by rw [← hM]; simp only [List.length_append, HL1.out, HL2.out]; have := (kindOf_good kd).size_le; omega
      clear ho hM bs hb hHeld
      refine hK1.out _ _ S1 (fun hHeld => ?_)
      clear hK1 K1
      refine wpAnyH_ready (rs := [40]) (by kernel_rfl) (by simp) (AllReadyH.cons rfl (fun K1 hK1 => ?_) AllReadyH.nil)
      go_simp
      refine (due_any kd hk6 X1 M1 z1 (l1 ++ l2) _ _ (Nat.le_refl _) hnc1 hcm1 HM1.out).mono ?_
      rintro e x2 ⟨y2, rfl, ho, hb⟩
      obtain ⟨M2, hM⟩ : ∃ M, (((kindOf kd).bytes ((l1 ++ l2).foldl (kindOf kd).step (kindOf kd).init))).length = M := ⟨_, rfl⟩
      obtain ⟨X2, z2, rfl, hnc2, hcm2, bs⟩ := ho.at_ hM
      have HM2 := Lib.hid bs
      have S2 := S1.trans (hb.mono S1.size)
      have hML : M2 ≤ 200000 := by rw [← hM]; simp only [(kindOf_good kd).bytes_len]; have := (kindOf_good kd).size_le; omega
      have T1_2 : Below x1.heap.size x1 x2 := hb
      clear ho hM bs hb hHeld
      refine hK1.out _ _ S2 (fun hHeld => ?_)
      clear hK1 K1
      refine wpAnyH_ready (rs := [41]) (by kernel_rfl) (by simp) (AllReadyH.cons rfl (fun K1 hK1 => ?_) AllReadyH.nil)
      go_simp
      refine (equal_any Q4 N4 e4 X2 M2 z2 ((kindOf kd).bytes ((l1 ++ l2).foldl (kindOf kd).step (kindOf kd).init)) ((kindOf kd).bytes ((l1 ++ l2).foldl (kindOf kd).step (kindOf kd).init)) _ _ _ (HB4.out.below S2) HM2.out).mono ?_
      rintro e w' ⟨rfl, rfl⟩
      rw [decide_eq_true rfl]
      refine hK1.out _ _ S2 (fun hHeld => ?_)
      clear hK1 K1
      refine wpAnyH_take (i := 42) (oi := ⟨some 83, _, _, _, _, _⟩) (v := ?_) rfl (by kernel_rfl) (by kernel_rfl) (by kernel_rfl) (fun _ _ _ h => h) (Or.inl ⟨by rfl, ?_⟩) hHeld ?_
      rotate_left
      · intro W hW; go_simp <;> with_reducible rfl
      simp only [Act.put, List.setIfInBounds_toArray, List.set_cons_zero, List.set_cons_succ]
      refine wpAnyH_take (i := 43) (oi := ⟨some 84, _, _, _, _, _⟩) (v := ?_) rfl (by kernel_rfl) (by kernel_rfl) (by kernel_rfl) (fun _ _ _ h => h) (Or.inl ⟨by rfl, ?_⟩) hHeld ?_
      rotate_left
      · intro W hW; go_simp <;> with_reducible rfl
      simp only [Act.put, List.setIfInBounds_toArray, List.set_cons_zero, List.set_cons_succ]
      refine wpAnyH_take (i := 44) (oi := ⟨some 85, _, _, _, _, _⟩) (v := ?_) rfl (by kernel_rfl) (by kernel_rfl) (by kernel_rfl) (fun _ _ _ h => h) (Or.inl ⟨by rfl, ?_⟩) hHeld ?_
      rotate_left
      · intro W hW; go_simp <;> with_reducible rfl
      simp only [Act.put, List.setIfInBounds_toArray, List.set_cons_zero, List.set_cons_succ]
      refine wpAnyH_take (i := 45) (oi := ⟨some 86, _, _, _, _, _⟩) (v := ?_) rfl (by kernel_rfl) (by kernel_rfl) (by kernel_rfl) (fun _ _ _ h => h) (Or.inl ⟨by rfl, ?_⟩) hHeld ?_
      rotate_left
      · intro W hW; go_simp <;> with_reducible rfl
      simp only [Act.put, List.setIfInBounds_toArray, List.set_cons_zero, List.set_cons_succ]
      refine wpAnyH_take (i := 46) (oi := ⟨some 87, _, _, _, _, _⟩) (v := ?_) rfl (by kernel_rfl) (by kernel_rfl) (by kernel_rfl) (fun _ _ _ h => h) (Or.inl ⟨by rfl, ?_⟩) hHeld ?_
      rotate_left
      · intro W hW; go_simp <;> with_reducible rfl
      simp only [Act.put, List.setIfInBounds_toArray, List.set_cons_zero, List.set_cons_succ]
      refine wpAnyH_take (i := 47) (oi := ⟨some 88, _, _, _, _, _⟩) (v := ?_) rfl (by kernel_rfl) (by kernel_rfl) (by kernel_rfl) (fun _ _ _ h => h) (Or.inl ⟨by rfl, ?_⟩) hHeld ?_
      rotate_left
      · intro W hW; have q := (hW.cell (p := ⟨g, 20, none⟩) hglt).trans p50; go_simp <;> with_reducible rfl
      simp only [Act.put, List.setIfInBounds_toArray, List.set_cons_zero, List.set_cons_succ]
      refine wpAnyH_take (i := 48) (oi := ⟨some 89, _, _, _, _, _⟩) (v := ?_) rfl (by kernel_rfl) (by kernel_rfl) (by kernel_rfl) (fun _ _ _ h => h) (Or.inl ⟨by rfl, ?_⟩) hHeld ?_
      rotate_left
      · intro W hW; go_simp <;> with_reducible rfl
      simp only [Act.put, List.setIfInBounds_toArray, List.set_cons_zero, List.set_cons_succ]
      refine wpAnyH_take (i := 49) (oi := ⟨some 90, _, _, _, _, _⟩) (v := ?_) rfl (by kernel_rfl) (by kernel_rfl) (by kernel_rfl) (fun _ _ _ h => h) (Or.inl ⟨by rfl, ?_⟩) hHeld ?_
      rotate_left
      · intro W hW; go_simp <;> with_reducible rfl
      simp only [Act.put, List.setIfInBounds_toArray, List.set_cons_zero, List.set_cons_succ]
      refine wpAnyH_take (i := 50) (oi := ⟨some 91, _, _, _, _, _⟩) (v := ?_) rfl (by kernel_rfl) (by kernel_rfl) (by kernel_rfl) (fun _ _ _ h => h) (Or.inl ⟨by rfl, ?_⟩) hHeld ?_
      rotate_left
      · intro W hW; go_simp <;> with_reducible rfl
      simp only [Act.put, List.setIfInBounds_toArray, List.set_cons_zero, List.set_cons_succ]
      refine wpAnyH_ready (rs := [51]) (by kernel_rfl) (by simp) (AllReadyH.cons rfl (fun K1 hK1 => ?_) AllReadyH.nil)
      go_simp
      refine (both_any _ _ A1 n1 c1 l1 A3 n3 c3 l3 (Nat.le_refl _) ((D1.out.below S2).mono S2.size) ((D3.out.below S2).mono S2.size) (by omega)).mono ?_
      rintro e x3 ⟨y3, rfl, ho, hb⟩
      obtain ⟨M3, hM⟩ : ∃ M, ((l1 ++ l3)).length = M := ⟨_, rfl⟩
      obtain ⟨X3, z3, rfl, hnc3, hcm3, bs⟩ := ho.at_ hM
      have HM3 := Lib.hid bs
      have S3 := S2.trans (hb.mono S2.size)
      have hML : M3 ≤ 200000 := by rw [← hM]; simp only [List.length_append, HL1.out, HL3.out]; have := (kindOf_good kd).size_le; omega
      have T1_3 : Below x1.heap.size x1 x3 := T1_2.trans (hb.mono T1_2.size)
      have T2_3 : Below x2.heap.size x2 x3 := hb
      clear ho hM bs hb hHeld
      refine hK1.out _ _ S3 (fun hHeld => ?_)
      clear hK1 K1
      refine wpAnyH_ready (rs := [52]) (by kernel_rfl) (by simp) (AllReadyH.cons rfl (fun K1 hK1 => ?_) AllReadyH.nil)
      go_simp
      refine (due_any kd hk6 X3 M3 z3 (l1 ++ l3) _ _ (Nat.le_refl _) hnc3 hcm3 HM3.out).mono ?_
      rintro e x4 ⟨y4, rfl, ho, hb⟩
      obtain ⟨M4, hM⟩ : ∃ M, (((kindOf kd).bytes ((l1 ++ l3).foldl (kindOf kd).step (kindOf kd).init))).length = M := ⟨_, rfl⟩
      obtain ⟨X4, z4, rfl, hnc4, hcm4, bs⟩ := ho.at_ hM
      have HM4 := Lib.hid bs
      have S4 := S3.trans (hb.mono S3.size)
      have hML : M4 ≤ 200000 := by rw [← hM]; simp only [(kindOf_good kd).bytes_len]; have := (kindOf_good kd).size_le; omega
      have T1_4 : Below x1.heap.size x1 x4 := T1_3.trans (hb.mono T1_3.size)
      have T2_4 : Below x2.heap.size x2 x4 := T2_3.trans (hb.mono T2_3.size)
      have T3_4 : Below x3.heap.size x3 x4 := hb
      clear ho hM bs hb hHeld
      refine hK1.out _ _ S4 (fun hHeld => ?_)
      clear hK1 K1
      refine wpAnyH_ready (rs := [53]) (by kernel_rfl) (by simp) (AllReadyH.cons rfl (fun K1 hK1 => ?_) AllReadyH.nil)
      go_simp
      refine (equal_any Q5 N5 e5 X4 M4 z4 ((kindOf kd).bytes ((l1 ++ l3).foldl (kindOf kd).step (kindOf kd).init)) ((kindOf kd).bytes ((l1 ++ l3).foldl (kindOf kd).step (kindOf kd).init)) _ _ _ (HB5.out.below S4) HM4.out).mono ?_
      rintro e w' ⟨rfl, rfl⟩
      rw [decide_eq_true rfl]
      refine hK1.out _ _ S4 (fun hHeld => ?_)
      clear hK1 K1
      refine wpAnyH_take (i := 54) (oi := ⟨some 95, _, _, _, _, _⟩) (v := ?_) rfl (by kernel_rfl) (by kernel_rfl) (by kernel_rfl) (fun _ _ _ h => h) (Or.inl ⟨by rfl, ?_⟩) hHeld ?_
      rotate_left
      · intro W hW; go_simp <;> with_reducible rfl
      simp only [Act.put, List.setIfInBounds_toArray, List.set_cons_zero, List.set_cons_succ]
      refine wpAnyH_take (i := 55) (oi := ⟨some 96, _, _, _, _, _⟩) (v := ?_) rfl (by kernel_rfl) (by kernel_rfl) (by kernel_rfl) (fun _ _ _ h => h) (Or.inl ⟨by rfl, ?_⟩) hHeld ?_
      rotate_left
      · intro W hW; go_simp <;> with_reducible rfl
      simp only [Act.put, List.setIfInBounds_toArray, List.set_cons_zero, List.set_cons_succ]
      refine wpAnyH_take (i := 56) (oi := ⟨some 97, _, _, _, _, _⟩) (v := ?_) rfl (by kernel_rfl) (by kernel_rfl) (by kernel_rfl) (fun _ _ _ h => h) (Or.inl ⟨by rfl, ?_⟩) hHeld ?_
      rotate_left
      · intro W hW; go_simp <;> with_reducible rfl
      simp only [Act.put, List.setIfInBounds_toArray, List.set_cons_zero, List.set_cons_succ]
      refine wpAnyH_take (i := 57) (oi := ⟨some 98, _, _, _, _, _⟩) (v := ?_) rfl (by kernel_rfl) (by kernel_rfl) (by kernel_rfl) (fun _ _ _ h => h) (Or.inl ⟨by rfl, ?_⟩) hHeld ?_
      rotate_left
      · intro W hW; go_simp <;> with_reducible rfl
      simp only [Act.put, List.setIfInBounds_toArray, List.set_cons_zero, List.set_cons_succ]
      refine wpAnyH_take (i := 58) (oi := ⟨some 99, _, _, _, _, _⟩) (v := ?_) rfl (by kernel_rfl) (by kernel_rfl) (by kernel_rfl) (fun _ _ _ h => h) (Or.inl ⟨by rfl, ?_⟩) hHeld ?_
      rotate_left
      · intro W hW; go_simp <;> with_reducible rfl
      simp only [Act.put, List.setIfInBounds_toArray, List.set_cons_zero, List.set_cons_succ]
      refine wpAnyH_take (i := 59) (oi := ⟨some 100, _, _, _, _, _⟩) (v := ?_) rfl (by kernel_rfl) (by kernel_rfl) (by kernel_rfl) (fun _ _ _ h => h) (Or.inl ⟨by rfl, ?_⟩) hHeld ?_
      rotate_left
      · intro W hW; have q := (hW.cell (p := ⟨g, 28, none⟩) hglt).trans p70; go_simp <;> with_reducible rfl
      simp only [Act.put, List.setIfInBounds_toArray, List.set_cons_zero, List.set_cons_succ]
      refine wpAnyH_take (i := 60) (oi := ⟨some 101, _, _, _, _, _⟩) (v := ?_) rfl (by kernel_rfl) (by kernel_rfl) (by kernel_rfl) (fun _ _ _ h => h) (Or.inl ⟨by rfl, ?_⟩) hHeld ?_
      rotate_left
      · intro W hW; go_simp <;> with_reducible rfl
      simp only [Act.put, List.setIfInBounds_toArray, List.set_cons_zero, List.set_cons_succ]
      refine wpAnyH_take (i := 61) (oi := ⟨some 102, _, _, _, _, _⟩) (v := ?_) rfl (by kernel_rfl) (by kernel_rfl) (by kernel_rfl) (fun _ _ _ h => h) (Or.inl ⟨by rfl, ?_⟩) hHeld ?_
      rotate_left
      · intro W hW; go_simp <;> with_reducible rfl
      simp only [Act.put, List.setIfInBounds_toArray, List.set_cons_zero, List.set_cons_succ]
      refine wpAnyH_take (i := 62) (oi := ⟨some 103, _, _, _, _, _⟩) (v := ?_) rfl (by kernel_rfl) (by kernel_rfl) (by kernel_rfl) (fun _ _ _ h => h) (Or.inl ⟨by rfl, ?_⟩) hHeld ?_
      rotate_left
      · intro W hW; go_simp <;> with_reducible rfl
      simp only [Act.put, List.setIfInBounds_toArray, List.set_cons_zero, List.set_cons_succ]
      refine wpAnyH_take (i := 63) (oi := ⟨some 104, _, _, _, _, _⟩) (v := ?_) rfl (by kernel_rfl) (by kernel_rfl) (by kernel_rfl) (fun _ _ _ h => h) (Or.inl ⟨by rfl, ?_⟩) hHeld ?_
      rotate_left
      · intro W hW; have q := (hW.cell (p := ⟨g, 16, none⟩) hglt).trans p40; go_simp <;> with_reducible rfl
      simp only [Act.put, List.setIfInBounds_toArray, List.set_cons_zero, List.set_cons_succ]
      refine wpAnyH_ready (rs := [64]) (by kernel_rfl) (by simp) (AllReadyH.cons rfl (fun K1 hK1 => ?_) AllReadyH.nil)
      go_simp
      refine (equal_any Q7 N7 e7 Q4 N4 e4 ((kindOf kd).bytes ((l1 ++ l2).foldl (kindOf kd).step (kindOf kd).init)) ((kindOf kd).bytes ((l1 ++ l2).foldl (kindOf kd).step (kindOf kd).init)) _ _ _ (HB7.out.below S4) (HB4.out.below S4)).mono ?_
      rintro e w' ⟨rfl, rfl⟩
      rw [decide_eq_true rfl]
      refine hK1.out _ _ S4 (fun hHeld => ?_)
      clear hK1 K1
      refine wpAnyH_take (i := 65) (oi := ⟨some 106, _, _, _, _, _⟩) (v := ?_) rfl (by kernel_rfl) (by kernel_rfl) (by kernel_rfl) (fun _ _ _ h => h) (Or.inl ⟨by rfl, ?_⟩) hHeld ?_
      rotate_left
      · intro W hW; go_simp <;> with_reducible rfl
      simp only [Act.put, List.setIfInBounds_toArray, List.set_cons_zero, List.set_cons_succ]
      refine wpAnyH_take (i := 66) (oi := ⟨some 107, _, _, _, _, _⟩) (v := ?_) rfl (by kernel_rfl) (by kernel_rfl) (by kernel_rfl) (fun _ _ _ h => h) (Or.inl ⟨by rfl, ?_⟩) hHeld ?_
      rotate_left
      · intro W hW; go_simp <;> with_reducible rfl
      simp only [Act.put, List.setIfInBounds_toArray, List.set_cons_zero, List.set_cons_succ]
      refine wpAnyH_take (i := 67) (oi := ⟨some 108, _, _, _, _, _⟩) (v := ?_) rfl (by kernel_rfl) (by kernel_rfl) (by kernel_rfl) (fun _ _ _ h => h) (Or.inl ⟨by rfl, ?_⟩) hHeld ?_
      rotate_left
      · intro W hW; go_simp <;> with_reducible rfl
      simp only [Act.put, List.setIfInBounds_toArray, List.set_cons_zero, List.set_cons_succ]
      refine wpAnyH_take (i := 68) (oi := ⟨some 109, _, _, _, _, _⟩) (v := ?_) rfl (by kernel_rfl) (by kernel_rfl) (by kernel_rfl) (fun _ _ _ h => h) (Or.inl ⟨by rfl, ?_⟩) hHeld ?_
      rotate_left
      · intro W hW; go_simp <;> with_reducible rfl
      simp only [Act.put, List.setIfInBounds_toArray, List.set_cons_zero, List.set_cons_succ]
      refine wpAnyH_take (i := 69) (oi := ⟨some 110, _, _, _, _, _⟩) (v := ?_) rfl (by kernel_rfl) (by kernel_rfl) (by kernel_rfl) (fun _ _ _ h => h) (Or.inl ⟨by rfl, ?_⟩) hHeld ?_
      rotate_left
      · intro W hW; go_simp <;> with_reducible rfl
      simp only [Act.put, List.setIfInBounds_toArray, List.set_cons_zero, List.set_cons_succ]
      refine wpAnyH_take (i := 70) (oi := ⟨some 111, _, _, _, _, _⟩) (v := ?_) rfl (by kernel_rfl) (by kernel_rfl) (by kernel_rfl) (fun _ _ _ h => h) (Or.inl ⟨by rfl, ?_⟩) hHeld ?_
      rotate_left
      · intro W hW; have q := (hW.cell (p := ⟨g, 32, none⟩) hglt).trans p80; go_simp <;> with_reducible rfl
      simp only [Act.put, List.setIfInBounds_toArray, List.set_cons_zero, List.set_cons_succ]
      refine wpAnyH_take (i := 71) (oi := ⟨some 112, _, _, _, _, _⟩) (v := ?_) rfl (by kernel_rfl) (by kernel_rfl) (by kernel_rfl) (fun _ _ _ h => h) (Or.inl ⟨by rfl, ?_⟩) hHeld ?_
      rotate_left
      · intro W hW; go_simp <;> with_reducible rfl
      simp only [Act.put, List.setIfInBounds_toArray, List.set_cons_zero, List.set_cons_succ]
      refine wpAnyH_ready (rs := [72]) (by kernel_rfl) (by simp) (AllReadyH.cons rfl (fun K1 hK1 => ?_) AllReadyH.nil)
      go_simp
      refine (due_any kd hk6 none 0 0 [] _ 0 (Nat.zero_le _) (Nat.le_refl _) (Nat.zero_le _) (BS.nil _ _ _)).mono ?_
      rintro e x5 ⟨y5, rfl, ho, hb⟩
      obtain ⟨M5, hM⟩ : ∃ M, (((kindOf kd).bytes (kindOf kd).init)).length = M := ⟨_, rfl⟩
      obtain ⟨X5, z5, rfl, hnc5, hcm5, bs⟩ := ho.at_ hM
      have HM5 := Lib.hid bs
      have S5 := S4.trans (hb.mono S4.size)
      have hML : M5 ≤ 200000 := by rw [← hM]; simp only [(kindOf_good kd).bytes_len]; have := (kindOf_good kd).size_le; omega
      have T1_5 : Below x1.heap.size x1 x5 := T1_4.trans (hb.mono T1_4.size)
      have T2_5 : Below x2.heap.size x2 x5 := T2_4.trans (hb.mono T2_4.size)
      have T3_5 : Below x3.heap.size x3 x5 := T3_4.trans (hb.mono T3_4.size)
      have T4_5 : Below x4.heap.size x4 x5 := hb
      clear ho hM bs hb hHeld
      refine hK1.out _ _ S5 (fun hHeld => ?_)
      clear hK1 K1
      refine wpAnyH_ready (rs := [73]) (by kernel_rfl) (by simp) (AllReadyH.cons rfl (fun K1 hK1 => ?_) AllReadyH.nil)
      go_simp
      refine (equal_any Q8 N8 e8 X5 M5 z5 ((kindOf kd).bytes (kindOf kd).init) ((kindOf kd).bytes (kindOf kd).init) _ _ _ (HB8.out.below S5) HM5.out).mono ?_
      rintro e w' ⟨rfl, rfl⟩
      rw [decide_eq_true rfl]
      refine hK1.out _ _ S5 (fun hHeld => ?_)
      clear hK1 K1
      refine wpAnyH_take (i := 74) (oi := ⟨some 115, _, _, _, _, _⟩) (v := ?_) rfl (by kernel_rfl) (by kernel_rfl) (by kernel_rfl) (fun _ _ _ h => h) (Or.inl ⟨by rfl, ?_⟩) hHeld ?_
      rotate_left
      · intro W hW; go_simp <;> with_reducible rfl
      simp only [Act.put, List.setIfInBounds_toArray, List.set_cons_zero, List.set_cons_succ]
      refine wpAnyH_take (i := 75) (oi := ⟨some 116, _, _, _, _, _⟩) (v := ?_) rfl (by kernel_rfl) (by kernel_rfl) (by kernel_rfl) (fun _ _ _ h => h) (Or.inl ⟨by rfl, ?_⟩) hHeld ?_
      rotate_left
      · intro W hW; go_simp <;> with_reducible rfl
      simp only [Act.put, List.setIfInBounds_toArray, List.set_cons_zero, List.set_cons_succ]
      refine wpAnyH_take (i := 76) (oi := ⟨some 117, _, _, _, _, _⟩) (v := ?_) rfl (by kernel_rfl) (by kernel_rfl) (by kernel_rfl) (fun _ _ _ h => h) (Or.inl ⟨by rfl, ?_⟩) hHeld ?_
      rotate_left
      · intro W hW; go_simp <;> with_reducible rfl
      simp only [Act.put, List.setIfInBounds_toArray, List.set_cons_zero, List.set_cons_succ]
      refine wpAnyH_take (i := 77) (oi := ⟨some 118, _, _, _, _, _⟩) (v := ?_) rfl (by kernel_rfl) (by kernel_rfl) (by kernel_rfl) (fun _ _ _ h => h) (Or.inl ⟨by rfl, ?_⟩) hHeld ?_
      rotate_left
      · intro W hW; go_simp <;> with_reducible rfl
      simp only [Act.put, List.setIfInBounds_toArray, List.set_cons_zero, List.set_cons_succ]
      refine wpAnyH_take (i := 78) (oi := ⟨some 119, _, _, _, _, _⟩) (v := ?_) rfl (by kernel_rfl) (by kernel_rfl) (by kernel_rfl) (fun _ _ _ h => h) (Or.inl ⟨by rfl, ?_⟩) hHeld ?_
      rotate_left
      · intro W hW; go_simp <;> with_reducible rfl
      simp only [Act.put, List.setIfInBounds_toArray, List.set_cons_zero, List.set_cons_succ]
      refine wpAnyH_take (i := 79) (oi := ⟨some 120, _, _, _, _, _⟩) (v := ?_) rfl (by kernel_rfl) (by kernel_rfl) (by kernel_rfl) (fun _ _ _ h => h) (Or.inl ⟨by rfl, ?_⟩) hHeld ?_
      rotate_left
      · intro W hW; have q := (hW.cell (p := ⟨g, 40, none⟩) hglt).trans p100; go_simp <;> with_reducible rfl
      simp only [Act.put, List.setIfInBounds_toArray, List.set_cons_zero, List.set_cons_succ]
      refine wpAnyH_take (i := 80) (oi := ⟨some 121, _, _, _, _, _⟩) (v := ?_) rfl (by kernel_rfl) (by kernel_rfl) (by kernel_rfl) (fun _ _ _ h => h) (Or.inl ⟨by rfl, ?_⟩) hHeld ?_
      rotate_left
      · intro W hW; go_simp <;> with_reducible rfl
      simp only [Act.put, List.setIfInBounds_toArray, List.set_cons_zero, List.set_cons_succ]
      refine wpAnyH_take (i := 81) (oi := ⟨some 122, _, _, _, _, _⟩) (v := ?_) rfl (by kernel_rfl) (by kernel_rfl) (by kernel_rfl) (fun _ _ _ h => h) (Or.inl ⟨by rfl, ?_⟩) hHeld ?_
      rotate_left
      · intro W hW; go_simp <;> with_reducible rfl
      simp only [Act.put, List.setIfInBounds_toArray, List.set_cons_zero, List.set_cons_succ]
      refine wpAnyH_take (i := 82) (oi := ⟨some 123, _, _, _, _, _⟩) (v := ?_) rfl (by kernel_rfl) (by kernel_rfl) (by kernel_rfl) (fun _ _ _ h => h) (Or.inl ⟨by rfl, ?_⟩) hHeld ?_
      rotate_left
      · intro W hW; go_simp <;> with_reducible rfl
      simp only [Act.put, List.setIfInBounds_toArray, List.set_cons_zero, List.set_cons_succ]
      refine wpAnyH_take (i := 83) (oi := ⟨some 124, _, _, _, _, _⟩) (v := ?_) rfl (by kernel_rfl) (by kernel_rfl) (by kernel_rfl) (fun _ _ _ h => h) (Or.inl ⟨by rfl, ?_⟩) hHeld ?_
      rotate_left
      · intro W hW; have q := (hW.cell (p := ⟨g, 16, none⟩) hglt).trans p40; go_simp <;> with_reducible rfl
      simp only [Act.put, List.setIfInBounds_toArray, List.set_cons_zero, List.set_cons_succ]
      refine wpAnyH_ready (rs := [84]) (by kernel_rfl) (by simp) (AllReadyH.cons rfl (fun K1 hK1 => ?_) AllReadyH.nil)
      go_simp
      refine (equal_any Q10 N10 e10 Q4 N4 e4 ((kindOf kd).bytes ((l1 ++ l2).foldl (kindOf kd).step (kindOf kd).init)) ((kindOf kd).bytes ((l1 ++ l2).foldl (kindOf kd).step (kindOf kd).init)) _ _ _ (HB10.out.below S5) (HB4.out.below S5)).mono ?_
      rintro e w' ⟨rfl, rfl⟩
      rw [decide_eq_true rfl]
      refine hK1.out _ _ S5 (fun hHeld => ?_)
      clear hK1 K1
      refine wpAnyH_take (i := 85) (oi := ⟨some 126, _, _, _, _, _⟩) (v := ?_) rfl (by kernel_rfl) (by kernel_rfl) (by kernel_rfl) (fun _ _ _ h => h) (Or.inl ⟨by rfl, ?_⟩) hHeld ?_
      rotate_left
      · intro W hW; go_simp <;> with_reducible rfl
      simp only [Act.put, List.setIfInBounds_toArray, List.set_cons_zero, List.set_cons_succ]
      refine wpAnyH_take (i := 86) (oi := ⟨some 8, _, _, _, _, _⟩) (v := ?_) rfl (by kernel_rfl) (by kernel_rfl) (by kernel_rfl) (fun _ _ _ h => h) (Or.inl ⟨by rfl, ?_⟩) hHeld ?_
      rotate_left
      · intro W hW; go_simp <;> with_reducible rfl
      simp only [Act.put, List.setIfInBounds_toArray, List.set_cons_zero, List.set_cons_succ]
      refine wpAnyH_done (by kernel_rfl) ?_ _
      go_wp2
      go_ret
      exact ⟨rfl, hb05.trans (S5.mono hb05.size)⟩
  · have ef : fitsB a0 = false := decide_eq_false hf
    go_enter Tryz.func4, Tryz.ntmps4
    go_wp2_with fail
    refine (fits_any a0 w).mono ?_
    rintro e w' ⟨rfl, rfl⟩
    rw [ef]
    go_wp2
    go_ret
    exact ⟨rfl, Below.refl _ _⟩

end Go.Proofs.YtdpjdglcienbfaaGreat.fnClones

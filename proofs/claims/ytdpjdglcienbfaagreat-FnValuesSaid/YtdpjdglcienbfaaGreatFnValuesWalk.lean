/-
  The walk of the law FnValues (in full): it returns true and changes nothing that was there. FnValues, for every input: the sum as a number is the sum as bytes, the most significant one first.
-/
import Derived.Test.YtdpjdglcienbfaaGreatProg
import Derived.Test.YtdpjdglcienbfaaGreatOpenArgs
import Derived.WalkKit
import Derived.Below
import Derived.WalkSmall
import Derived.Lib.Hide
import Derived.Test.YtdpjdglcienbfaaGreatNumber
import Derived.Test.YtdpjdglcienbfaaGreatSteps
namespace Go.Proofs.YtdpjdglcienbfaaGreat.fnValues
open Go.RowKit
set_option linter.unusedVariables false

theorem runM_values (K : Kind) (d : List Nat) : (runM K [⟨0, 0, 0, d⟩, ⟨8, 0, 0, []⟩, ⟨1, 0, 0, []⟩]).an = [⟨[], 0, d.length, false, none⟩, ⟨[], K.val (d.foldl K.step K.init), 0, false, none⟩, ⟨K.bytes (d.foldl K.step K.init), 0, 0, false, none⟩] := by
  simp [runM, stepM, doM]
theorem foldl_ok {P : Program} {K : Kind} (G : Good P K) (l : List Nat) : ∀ s, K.ok s → (∀ x ∈ l, x < 256) → K.ok (l.foldl K.step s) := by
  induction l with
  | nil => intro s hs _; exact hs
  | cons x r ih => intro s hs hl; exact ih _ (G.step_ok s x hs (hl x (by simp))) (fun y hy => hl y (by simp [hy]))
theorem kind_num (kd : Nat) (h4 : kd ≠ 4) (h5 : kd ≠ 5) (hk : kd ≤ 6) : ∀ s, (kindOf kd).ok s → num ((kindOf kd).bytes s) = (kindOf kd).val s ∧ (kindOf kd).size ≤ 8 := by
  intro s hs
  have hkd : kd = 0 ∨ kd = 1 ∨ kd = 2 ∨ kd = 3 ∨ kd = 6 := by omega
  rcases hkd with rfl | rfl | rfl | rfl | rfl
  · exact ⟨num_be4 s hs, by decide⟩
  · exact ⟨num_be4 s hs, by decide⟩
  · exact ⟨num_be8 s hs, by decide⟩
  · exact ⟨num_be8 s hs, by decide⟩
  · exact ⟨num_be4 s (by have := hs.1; have := hs.2; omega), by decide⟩
theorem number_val (A : Option Addr) (n c : Nat) (l : List Nat) (w : World) (B V : Nat) (h8 : n ≤ 8) (hl : BS w B A n l) (hv : num l = V) :
    Calls Tryz.prog 28 #[.slice A n c] w fun e w' => e = .returned (.int .u64 (V : Int)) ∧ w' = w := by
  subst hv
  exact (number_any A n c l w B h8 hl).mono fun _ _ ⟨h1, h2⟩ => ⟨h1, h2.symm⟩

set_option maxRecDepth 100000 in
set_option maxHeartbeats 2000000 in
theorem walk (a0 : Int) (w0 : (Lit.int .i64 a0).wf = true) (A1 : Option Addr) (n1 c1 : Nat) (l1 : List Nat) (w : World) (b1 : BS w w.heap.size A1 n1 l1) (nc1 : n1 ≤ c1) (r1 : c1 ≤ 140737488351232) :
    Calls Tryz.prog 11 #[.int .i64 a0, .slice A1 n1 c1] w fun e w' => e = .returned (.bool true) ∧ Below w.heap.size w w' := by
  have hm1 : c1 ≤ maxLen := by unfold maxLen; omega
  by_cases hf : 0 ≤ a0 ∧ a0 ≤ 6
  · have ef : fitsB a0 = true := decide_eq_true hf
    by_cases h4 : a0 = 4
    · subst h4
      go_enter Tryz.func11, Tryz.ntmps11
      go_wp2_with fail
      refine (fits_any 4 w).mono ?_
      rintro e w' ⟨rfl, rfl⟩
      rw [ef]
      go_wp2
      go_ret
      exact ⟨rfl, Below.refl _ _⟩
    have e4 : (a0 == 4) = false := beq_eq_false_iff_ne.2 h4
    by_cases h5 : a0 = 5
    · subst h5
      go_enter Tryz.func11, Tryz.ntmps11
      go_wp2_with fail
      refine (fits_any 5 w).mono ?_
      rintro e w' ⟨rfl, rfl⟩
      rw [ef]
      go_wp2
      go_ret
      exact ⟨rfl, Below.refl _ _⟩
    have e5 : (a0 == 5) = false := beq_eq_false_iff_ne.2 h5
    by_cases hbig : 100000 < n1
    · have eb : decide (100000 < (n1 : Int)) = true := decide_eq_true (by omega)
      go_enter Tryz.func11, Tryz.ntmps11
      go_wp2_with fail
      refine (fits_any a0 w).mono ?_
      rintro e w' ⟨rfl, rfl⟩
      rw [ef]
      go_wp2
      go_ret
      exact ⟨rfl, Below.refl _ _⟩
    · have eb : decide (100000 < (n1 : Int)) = false := decide_eq_false (by omega)
      obtain ⟨kd, rfl⟩ : ∃ kd : Nat, a0 = (kd : Int) := ⟨a0.toNat, by omega⟩
      have hk6 : kd ≤ 6 := by omega
      have hst := foldl_ok (kindOf_good kd) l1 _ (kindOf_good kd).init_ok b1.lt
      obtain ⟨hnum, hsz8⟩ := kind_num kd (by omega) (by omega) hk6 _ hst
      have hld := b1.len
      have HNUM := Lib.hid hnum
      have HLD := Lib.hid hld
      clear hf h4 h5 hst hnum hld
      go_enter Tryz.func11, Tryz.ntmps11
      go_wp2_with fail
      refine (fits_any (kd : Int) w).mono ?_
      rintro e w' ⟨rfl, rfl⟩
      rw [ef]
      clear ef
      go_wp2_with fail
      refine (write_any 0 A1 n1 c1 w).mono ?_
      rintro e w1 ⟨rfl, hb1⟩
      go_wp2_with fail
      refine (sum_any 0 w1).mono ?_
      rintro e w2 ⟨rfl, hb2⟩
      go_wp2_with fail
      have hb02 : Below w.heap.size w w2 := hb1.trans (hb2.mono hb1.size)
      have hb1' := (b1.below hb02).mono hb02.size
      refine (hashed_any kd hk6 _ 3 3 [⟨0, 0, 0, l1⟩, ⟨8, 0, 0, []⟩, ⟨1, 0, 0, []⟩] _ (ss_lit w2 [(⟨0, 0, 0, l1⟩, .slice A1 n1 c1), (⟨8, 0, 0, []⟩, .slice none 0 0), (⟨1, 0, 0, []⟩, .slice none 0 0)] ?hd) (by omega) ?hl).mono ?_
      case hd =>
        intro q hq
        simp only [List.mem_cons, List.not_mem_nil, or_false] at hq
        rcases hq with rfl | rfl | rfl
        · exact ⟨A1, n1, c1, rfl, hb1', nc1, hm1⟩
        · exact ⟨none, 0, 0, rfl, BS.nil _ _ _, Nat.le_refl _, Nat.zero_le _⟩
        · exact ⟨none, 0, 0, rfl, BS.nil _ _ _, Nat.le_refl _, Nat.zero_le _⟩
      case hl =>
        intro q hq
        simp only [List.mem_cons, List.not_mem_nil, or_false] at hq
        have := HLD.out
        rcases hq with rfl | rfl | rfl <;> simp <;> omega
      rintro e w3 ⟨v3, P, rfl, ho3, hp3, hdat3, hb3⟩
      rw [runM_values] at hp3
      obtain ⟨g, c3, rfl, hglt, hcells⟩ := answers_open ho3 hdat3 (by have := congrArg List.length hp3; simp at this; omega) hp3
      obtain ⟨_, _, _, _, _, _, q11, _, _⟩ := hcells 1 (by simp)
      obtain ⟨A2, cc2, q20, hcc2, _, hbs2, _⟩ := hcells 2 (by simp)
      have hkg := (kindOf_good kd).bytes_len (l1.foldl (kindOf kd).step (kindOf kd).init)
      simp only [List.getD_cons_zero, List.getD_cons_succ, Nat.one_mul, hkg] at q11 q20 hbs2
      have hb03 : Below w.heap.size w w3 := (hb02.alloc hb02.size _).trans (hb3.mono (by have := hb02.size; simp; omega))
      rw [show 4 + 1 = 5 from rfl] at q11
      rw [show 2 * 4 = 8 from rfl] at q20
      obtain ⟨V, hV⟩ : ∃ V, (kindOf kd).val (l1.foldl (kindOf kd).step (kindOf kd).init) = V := ⟨_, rfl⟩
      have HNV := Lib.hid (HNUM.out.trans hV)
      rw [hV] at q11
      obtain ⟨sz, hsz⟩ : ∃ sz, (kindOf kd).size = sz := ⟨_, rfl⟩
      rw [hsz] at q20 hsz8 hbs2
      have HB2 := Lib.hid hbs2
      clear hcells hp3 hdat3 ho3 hkg hcc2 hbs2 hV hsz HNUM
      go_wp2_with fail
      go_quiet ((go_at_call 28; exact Calls.quiet_of_same (number_val A2 sz cc2 _ _ _ V hsz8 (HB2.out.drewN _) HNV.out)))
      go_wp2
      go_ret
      exact ⟨by simp, hb03.trans ⟨rfl, rfl, rfl, Nat.le_refl _, fun _ _ => rfl⟩⟩
  · have ef : fitsB a0 = false := decide_eq_false hf
    go_enter Tryz.func11, Tryz.ntmps11
    go_wp2_with fail
    refine (fits_any a0 w).mono ?_
    rintro e w' ⟨rfl, rfl⟩
    rw [ef]
    go_wp2
    go_ret
    exact ⟨rfl, Below.refl _ _⟩

end Go.Proofs.YtdpjdglcienbfaaGreat.fnValues

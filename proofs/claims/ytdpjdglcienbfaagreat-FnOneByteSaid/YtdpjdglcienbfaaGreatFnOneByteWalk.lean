/-
  The walk of the law FnOneByte (in full): it returns true and changes nothing that was there. FnOneByte, for every input: data that differ in one byte have different sums.
-/
import Derived.Test.YtdpjdglcienbfaaGreatProg
import Derived.Test.YtdpjdglcienbfaaGreatOpenArgs
import Derived.WalkKit
import Derived.Below
import Derived.WalkSmall
import Derived.Lib.Hide
import Derived.Test.YtdpjdglcienbfaaGreatOneByte
import Derived.Test.YtdpjdglcienbfaaGreatSteps
import Derived.Test.YtdpjdglcienbfaaGreatEqual
import Derived.Test.YtdpjdglcienbfaaGreatAppend
import Derived.Test.YtdpjdglcienbfaaGreatHSum32a
import Derived.Laws.OwnMore
import Derived.Deep.RegionHeld3
namespace Go.Proofs.YtdpjdglcienbfaaGreat.fnOneByte
open Go.RowKit
set_option linter.unusedVariables false

theorem runM_one (K : Kind) (d : List Nat) : (runM K [⟨0, 0, 0, d⟩, ⟨1, 0, 0, []⟩]).an = [⟨[], 0, d.length, false, none⟩, ⟨K.bytes (d.foldl K.step K.init), 0, 0, false, none⟩] := by
  simp [runM, stepM, doM]
theorem xor_ne {x c : Nat} (h : c ≠ 0) : x ^^^ c ≠ x := fun e => h (xor_ch (a := x) (by rw [e, Nat.xor_zero]))
theorem own_set {W : World} {B g n c i x : Nat} {l : List Nat} (h : Own W B (.slice (some ⟨g, 0, none⟩) n c) l) (hx : x < 256) : Own (W.setCell ⟨g, i, none⟩ (.int .u8 (x : Int))) B (.slice (some ⟨g, 0, none⟩) n c) (l.set i x) := by
  have hn : l.length = n := by
    rcases h.1.2 with ⟨h', _⟩ | ⟨g', cap', cur, h', _⟩
    · simp at h'
    · simp only [Value.slice.injEq] at h'; exact h'.2.1.symm
  subst hn
  refine ⟨?_, fun y hy => ?_⟩
  · have := (h.1.stored i (.int .u8 (x : Int))).1
    rw [List.length_set]
    have e : bv (l.set i x) = (bv l).set i (.int .u8 (x : Int)) := by simp [bv, List.map_set]
    rw [e]
    exact this
  · rcases List.mem_or_eq_of_mem_set hy with hy | hy
    · exact h.2 y hy
    · rw [hy]; exact hx
theorem equal_no (A : Option Addr) (n c : Nat) (A2 : Option Addr) (n2 c2 : Nat) (l l2 : List Nat) (w : World) (B B2 : Nat) (h1 : BS w B A n l) (h2 : BS w B2 A2 n2 l2) (hne : l ≠ l2) :
    Calls Tryz.prog 24 #[.slice A n c, .slice A2 n2 c2] w fun e w' => e = .returned (.bool false) ∧ w' = w :=
  (equal_any A n c A2 n2 c2 l l2 w B B2 h1 h2).mono fun _ _ ⟨h1, h2⟩ => ⟨by rw [h1, decide_eq_false hne], h2.symm⟩
theorem xor_cast (x c : Nat) (hx : x < 256) (hc : c < 256) : x ^^^ c < 256 := Nat.xor_lt_two_pow (n := 8) hx hc

set_option maxRecDepth 100000 in
set_option maxHeartbeats 4000000 in
theorem walk (a0 : Int) (w0 : (Lit.int .i64 a0).wf = true) (A1 : Option Addr) (n1 c1 : Nat) (l1 : List Nat) (a2 : Int) (w2 : (Lit.int .i64 a2).wf = true) (a3 : Int) (w3 : (Lit.int .u8 a3).wf = true) (w : World) (b1 : BS w w.heap.size A1 n1 l1) (nc1 : n1 ≤ c1) (r1 : c1 ≤ 140737488351232) :
    Calls Tryz.prog 5 #[.int .i64 a0, .slice A1 n1 c1, .int .i64 a2, .int .u8 a3] w fun e w' => e = .returned (.bool true) ∧ Below w.heap.size w w' := by
  have hm1 : c1 ≤ maxLen := by unfold maxLen; omega
  by_cases hf : 0 ≤ a0 ∧ a0 ≤ 6
  · have ef : fitsB a0 = true := decide_eq_true hf
    by_cases hs0 : a2 < 0
    · have e2 : decide (a2 < 0) = true := decide_eq_true hs0
      go_enter Tryz.func5, Tryz.ntmps5
      go_wp2_with fail
      refine (fits_any a0 w).mono ?_
      rintro e w' ⟨rfl, rfl⟩
      rw [ef]
      go_wp2
      go_ret
      exact ⟨rfl, Below.refl _ _⟩
    have e2 : decide (a2 < 0) = false := decide_eq_false hs0
    by_cases hs1 : (n1 : Int) ≤ a2
    · have e3 : decide ((n1 : Int) ≤ a2) = true := decide_eq_true hs1
      go_enter Tryz.func5, Tryz.ntmps5
      go_wp2_with fail
      refine (fits_any a0 w).mono ?_
      rintro e w' ⟨rfl, rfl⟩
      rw [ef]
      go_wp2
      go_ret
      exact ⟨rfl, Below.refl _ _⟩
    have e3 : decide ((n1 : Int) ≤ a2) = false := decide_eq_false hs1
    by_cases hs2 : a3 = 0
    · have e4 : (a3 == 0) = true := beq_iff_eq.2 hs2
      go_enter Tryz.func5, Tryz.ntmps5
      go_wp2_with fail
      refine (fits_any a0 w).mono ?_
      rintro e w' ⟨rfl, rfl⟩
      rw [ef]
      go_wp2
      go_ret
      exact ⟨rfl, Below.refl _ _⟩
    have e4 : (a3 == 0) = false := beq_eq_false_iff_ne.2 hs2
    by_cases hbig : 100000 < n1
    · have e5 : decide (100000 < (n1 : Int)) = true := decide_eq_true (by omega)
      go_enter Tryz.func5, Tryz.ntmps5
      go_wp2_with fail
      refine (fits_any a0 w).mono ?_
      rintro e w' ⟨rfl, rfl⟩
      rw [ef]
      go_wp2
      go_ret
      exact ⟨rfl, Below.refl _ _⟩
    have e5 : decide (100000 < (n1 : Int)) = false := decide_eq_false (by omega)
    obtain ⟨kd, rfl⟩ : ∃ kd : Nat, a0 = (kd : Int) := ⟨a0.toNat, by omega⟩
    have hk6 : kd ≤ 6 := by omega
    obtain ⟨i, rfl⟩ : ∃ i : Nat, a2 = (i : Int) := ⟨a2.toNat, by omega⟩
    have hi : i < n1 := by omega
    have hr3 : 0 ≤ a3 ∧ a3 ≤ 255 := by simpa [Lit.wf, IntKind.min, IntKind.max, IntKind.signed, IntKind.bits] using w3
    obtain ⟨ch, rfl⟩ : ∃ ch : Nat, a3 = (ch : Int) := ⟨a3.toNat, by omega⟩
    have hch : ch < 256 := by omega
    have hch0 : ch ≠ 0 := by omega
    have HL1 := Lib.hid b1.len
    have gi := getD_lt b1.lt i
    have hxl := xor_cast (l1.getD i 0) ch gi hch
    have HNE := Lib.hid (sums_ne (kindOf_good kd) (kindOf_one kd) l1 b1.lt i (l1.getD i 0 ^^^ ch) (by rw [b1.len]; exact hi) hxl (xor_ne hch0))
    clear hf hs0 hs1 hs2 w2 w3 w0 hr3
    go_enter Tryz.func5, Tryz.ntmps5
    go_wp2_with fail
    refine (fits_any (kd : Int) w).mono ?_
    rintro e w' ⟨rfl, rfl⟩
    rw [ef]
    clear ef
    go_wp2_with (at_builtin; refine wpList_append_bytes _ (o := ⟨some 36, _, _, _, _, _⟩) rfl _ _ rfl w.heap.size _ [] rfl (Own.empty w) w.heap.size A1 n1 c1 l1 rfl (b1.alloc (Nat.le_refl _) _) (by simp; omega) (by simp) ?_)
    intro v1 w1 hown1 hg1 _
    have hb1 : Below w.heap.size w w1 := ((Below.refl _ _).alloc (Nat.le_refl _) _).grown hg1 (by simp) (fun k hk => by simp [Value.ownBlock] at hk; omega)
    have hpos : 0 < n1 := by omega
    obtain ⟨A5, c5, rfl, hnc5, hcm5, hbs5⟩ := hown1.at_ b1.len
    obtain ⟨g5, o5, rfl, hg5, hbs5⟩ := hbs5.open_ hpos
    have ho5 : o5 = 0 := by
      obtain ⟨A', c', e', _, _, _, hA⟩ := hown1.bs
      injection e' with e1 _ _
      rcases hA with h | ⟨g', h, _⟩
      · rw [h] at e1; cases e1
      · rw [h] at e1; injection e1 with e1; injection e1
    subst ho5
    have cK := hbs5.cell hi
    rw [Nat.zero_add] at cK
    have fK : w1.frozen? ⟨g5, i, none⟩ = false := by
      have h := hown1.1
      rw [b1.len] at h
      exact h.frozenAt i
    have hg5B : w.heap.size ≤ g5 := hown1.block g5 rfl
    have HOWN := Lib.hid hown1
    clear hg1 hbs5 hown1
    have HX := Lib.hid (own_set (i := i) (x := l1.getD i 0 ^^^ ch) HOWN.out hxl)
    obtain ⟨x, hx⟩ : ∃ x, l1.getD i 0 = x := ⟨_, rfl⟩
    rw [hx] at cK HX HNE hxl gi
    clear hx HOWN
    have hxor : bits .xor .u8 (x : Int) (ch : Int) = ((x ^^^ ch : Nat) : Int) := u8_xor_nat x ch gi hch
    have hbX : Below w.heap.size w (w1.setCell ⟨g5, i, none⟩ (.int .u8 ((x ^^^ ch : Nat) : Int))) := hb1.trans ⟨rfl, rfl, rfl, by simp, fun k hk => Below.heap_setCell w1 ⟨g5, i, none⟩ _ k (by simp only; omega)⟩
    have hlX : (l1.set i (x ^^^ ch)).length = n1 := by rw [List.length_set]; exact HL1.out
    have HLX := Lib.hid hlX
    have hbsX : BS (w1.setCell ⟨g5, i, none⟩ (.int .u8 ((x ^^^ ch : Nat) : Int))) (w1.setCell ⟨g5, i, none⟩ (.int .u8 ((x ^^^ ch : Nat) : Int))).heap.size (some ⟨g5, 0, none⟩) n1 (l1.set i (x ^^^ ch)) := by
      obtain ⟨A', c', e', _, _, h'⟩ := HX.out.at_ hlX
      injection e' with e1 e2 e3
      rw [e1]
      exact h'
    have HBX := Lib.hid hbsX
    have HBD := Lib.hid ((b1.below hbX).mono hbX.size)
    generalize hlx : l1.set i (x ^^^ ch) = lx at *
    clear hlx HX hbsX hlX
    obtain ⟨W, hW⟩ : ∃ W, w1.setCell ⟨g5, i, none⟩ (.int .u8 ((x ^^^ ch : Nat) : Int)) = W := ⟨_, rfl⟩
    go_wp2_with fail
    rw [hW] at hbX HBX HBD
    clear hW cK fK
    refine (write_any 0 A1 n1 c1 W).mono ?_
    rintro e p1 ⟨rfl, hp1⟩
    go_wp2_with fail
    refine (sum_any 0 p1).mono ?_
    rintro e p2 ⟨rfl, hp2⟩
    go_wp2_with fail
    have Bp2 : Below W.heap.size W p2 := hp1.trans (hp2.mono hp1.size)
    have bsp := (HBD.out.below Bp2).mono Bp2.size
    refine (hashed_any kd hk6 _ 2 2 [⟨0, 0, 0, l1⟩, ⟨1, 0, 0, []⟩] _ (ss_lit p2 [(⟨0, 0, 0, l1⟩, .slice A1 n1 c1), (⟨1, 0, 0, []⟩, .slice none 0 0)] ?hdp) (by omega) ?hlp).mono ?_
    case hdp =>
      intro q hq
      simp only [List.mem_cons, List.not_mem_nil, or_false] at hq
      rcases hq with rfl | rfl
      · exact ⟨A1, n1, c1, rfl, bsp, nc1, hm1⟩
      · exact ⟨none, 0, 0, rfl, BS.nil _ _ _, Nat.le_refl _, Nat.zero_le _⟩
    case hlp =>
      intro q hq
      simp only [List.mem_cons, List.not_mem_nil, or_false] at hq
      have := HL1.out
      rcases hq with rfl | rfl <;> simp <;> omega
    rintro e p3 ⟨vp3, Pp, rfl, hop, hpp, hdatp, hbp3⟩
    rw [runM_one] at hpp
    obtain ⟨gp, cp3, rfl, hgltp, hcellsp⟩ := answers_open hop hdatp (by have := congrArg List.length hpp; simp at this; omega) hpp
    obtain ⟨Qp, ep, pp, _, _, hbsp, _⟩ := hcellsp 1 (by simp)
    simp only [List.getD_cons_zero, List.getD_cons_succ, Nat.one_mul, (kindOf_good kd).bytes_len] at pp hbsp
    have Bp : Below W.heap.size W p3 := (Bp2.alloc Bp2.size _).trans (hbp3.mono (by have := Bp2.size; simp; omega))
    have HBp := Lib.hid hbsp
    clear hcellsp hpp hdatp hop hbsp bsp hp1 hp2 Bp2 hbp3
    have HBX3 := Lib.hid ((HBX.out.below Bp).mono Bp.size)
    go_wp2_with fail
    refine (write_any 0 (some ⟨g5, 0, none⟩) n1 c5 p3).mono ?_
    rintro e q1 ⟨rfl, hq1⟩
    go_wp2_with fail
    refine (sum_any 0 q1).mono ?_
    rintro e q2 ⟨rfl, hq2⟩
    go_wp2_with fail
    have Bq2 : Below p3.heap.size p3 q2 := hq1.trans (hq2.mono hq1.size)
    have bsq := (HBX3.out.below Bq2).mono Bq2.size
    refine (hashed_any kd hk6 _ 2 2 [⟨0, 0, 0, lx⟩, ⟨1, 0, 0, []⟩] _ (ss_lit q2 [(⟨0, 0, 0, lx⟩, .slice (some ⟨g5, 0, none⟩) n1 c5), (⟨1, 0, 0, []⟩, .slice none 0 0)] ?hdq) (by omega) ?hlq).mono ?_
    case hdq =>
      intro q hq
      simp only [List.mem_cons, List.not_mem_nil, or_false] at hq
      rcases hq with rfl | rfl
      · exact ⟨(some ⟨g5, 0, none⟩), n1, c5, rfl, bsq, hnc5, hcm5⟩
      · exact ⟨none, 0, 0, rfl, BS.nil _ _ _, Nat.le_refl _, Nat.zero_le _⟩
    case hlq =>
      intro q hq
      simp only [List.mem_cons, List.not_mem_nil, or_false] at hq
      have := HLX.out
      rcases hq with rfl | rfl <;> simp <;> omega
    rintro e q3 ⟨vq3, Pq, rfl, hoq, hpq, hdatq, hbq3⟩
    rw [runM_one] at hpq
    obtain ⟨gq, cq3, rfl, hgltq, hcellsq⟩ := answers_open hoq hdatq (by have := congrArg List.length hpq; simp at this; omega) hpq
    obtain ⟨Qq, eq, pq, _, _, hbsq, _⟩ := hcellsq 1 (by simp)
    simp only [List.getD_cons_zero, List.getD_cons_succ, Nat.one_mul, (kindOf_good kd).bytes_len] at pq hbsq
    have Bq : Below p3.heap.size p3 q3 := (Bq2.alloc Bq2.size _).trans (hbq3.mono (by have := Bq2.size; simp; omega))
    have HBq := Lib.hid hbsq
    clear hcellsq hpq hdatq hoq hbsq bsq hq1 hq2 Bq2 hbq3
    have pp := (Bq.cell (p := ⟨gp, 4, none⟩) hgltp).trans pp
    have HBP := Lib.hid (HBp.out.below Bq)
    obtain ⟨sz, hsz⟩ : ∃ sz, (kindOf kd).size = sz := ⟨_, rfl⟩
    rw [hsz] at pp pq HBP HBq
    clear hsz HBp
    have hbF : Below w.heap.size w q3 := hbX.trans ((Bp.mono hbX.size).trans (Bq.mono (Nat.le_trans hbX.size Bp.size)))
    go_wp2_with fail
    go_quiet ((go_at_call 24; exact Calls.quiet_of_same (equal_no Qp sz ep Qq sz eq _ _ _ _ _ (HBP.out.drewN _) (HBq.out.drewN _) HNE.out)))
    go_wp2
    go_ret
    exact ⟨by simp, hbF.trans ⟨rfl, rfl, rfl, Nat.le_refl _, fun _ _ => rfl⟩⟩
  · have ef : fitsB a0 = false := decide_eq_false hf
    go_enter Tryz.func5, Tryz.ntmps5
    go_wp2_with fail
    refine (fits_any a0 w).mono ?_
    rintro e w' ⟨rfl, rfl⟩
    rw [ef]
    go_wp2
    go_ret
    exact ⟨rfl, Below.refl _ _⟩

end Go.Proofs.YtdpjdglcienbfaaGreat.fnOneByte

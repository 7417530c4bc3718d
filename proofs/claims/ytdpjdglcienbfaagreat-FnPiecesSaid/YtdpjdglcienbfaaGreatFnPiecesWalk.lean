/-
  The walk of the law FnPieces (in full): it returns true and changes nothing that was there. FnPieces, for every input: data written in pieces of any lengths has the sum of the data written at once.
-/
import Derived.Test.YtdpjdglcienbfaaGreatProg
import Derived.Test.YtdpjdglcienbfaaGreatOpenArgs
import Derived.WalkKit
import Derived.Below
import Derived.WalkSmall
import Derived.Lib.Hide
import Derived.Test.YtdpjdglcienbfaaGreatStepRow
import Derived.Test.YtdpjdglcienbfaaGreatScriptRel
import Derived.Test.YtdpjdglcienbfaaGreatDue
import Derived.Test.YtdpjdglcienbfaaGreatEqual
import Derived.Test.YtdpjdglcienbfaaGreatSteps
import Derived.Laws.OwnMore
import Derived.Deep.RegionHeld3
namespace Go.Proofs.YtdpjdglcienbfaaGreat.fnPieces
open Go.RowKit
set_option linter.unusedVariables false

theorem piece_back {w w' : World} {B : Nat} {p : Value × List Nat} (h : Piece w' B p) (hb : Below B w w') : Piece w B p := by
  obtain ⟨A, n, c, e, hs, h1, h2⟩ := h
  exact ⟨A, n, c, e, hs.keep fun b o hp => (hb.cell (p := ⟨b, o, none⟩) hp).symm, h1, h2⟩
theorem len_of_mem (L : List (List Nat)) : ∀ p ∈ L, p.length ≤ L.flatten.length := by
  induction L with
  | nil => intro p hp; cases hp
  | cons x r ih =>
    intro p hp
    rw [List.flatten_cons, List.length_append]
    rcases List.mem_cons.1 hp with rfl | hp
    · omega
    · have := ih p hp; omega
theorem runM_pc (K : Kind) (d : List Nat) : (runM K [⟨0, 0, 0, d⟩, ⟨1, 0, 0, []⟩]).an = [⟨[], 0, d.length, false, none⟩, ⟨K.bytes (d.foldl K.step K.init), 0, 0, false, none⟩] := by
  simp [runM, stepM, doM]

set_option maxRecDepth 100000 in
set_option maxHeartbeats 8000000 in
theorem walk (a0 : Int) (w0 : (Lit.int .i64 a0).wf = true) (A1 : Option Addr) (n1 c1 : Nat) (l1 : List Nat) (A2 : Option Addr) (n2 c2 : Nat) (l2 : List Nat) (w : World) (b1 : BS w w.heap.size A1 n1 l1) (nc1 : n1 ≤ c1) (r1 : c1 ≤ 140737488351232) (b2 : BS w w.heap.size A2 n2 l2) (nc2 : n2 ≤ c2) (r2 : c2 ≤ 140737488351232) :
    Calls Tryz.prog 6 #[.int .i64 a0, .slice A1 n1 c1, .slice A2 n2 c2] w fun e w' => e = .returned (.bool true) ∧ Below w.heap.size w w' := by
  have hm1 : c1 ≤ maxLen := by unfold maxLen; omega
  by_cases hf : 0 ≤ a0 ∧ a0 ≤ 6
  case neg =>
    have ef : fitsB a0 = false := decide_eq_false hf
    go_enter Tryz.func6, Tryz.ntmps6
    go_wp2_with fail
    refine (fits_any a0 w).mono ?_
    rintro e w' ⟨rfl, rfl⟩
    rw [ef]
    go_wp2
    go_ret
    exact ⟨rfl, Below.refl _ _⟩
  have ef : fitsB a0 = true := decide_eq_true hf
  by_cases hbig : 100000 < n1
  · have e0 : decide (100000 < (n1 : Int)) = true := decide_eq_true (by omega)
    go_enter Tryz.func6, Tryz.ntmps6
    go_wp2_with fail
    refine (fits_any a0 w).mono ?_
    rintro e w' ⟨rfl, rfl⟩
    rw [ef]
    go_wp2
    go_ret
    exact ⟨rfl, Below.refl _ _⟩
  have e0 : decide (100000 < (n1 : Int)) = false := decide_eq_false (by omega)
  by_cases hbig1 : 1000 < n2
  · have e1 : decide (1000 < (n2 : Int)) = true := decide_eq_true (by omega)
    go_enter Tryz.func6, Tryz.ntmps6
    go_wp2_with fail
    refine (fits_any a0 w).mono ?_
    rintro e w' ⟨rfl, rfl⟩
    rw [ef]
    go_wp2
    go_ret
    exact ⟨rfl, Below.refl _ _⟩
  have e1 : decide (1000 < (n2 : Int)) = false := decide_eq_false (by omega)
  obtain ⟨kd, rfl⟩ : ∃ kd : Nat, a0 = (kd : Int) := ⟨a0.toNat, by omega⟩
  have hk6 : kd ≤ 6 := by omega
  clear hf w0
  obtain ⟨i, hi, hzz⟩ := Option.map_eq_some_iff.1 Tryz.infoStp
  simp only [Prod.mk.injEq] at hzz
  obtain ⟨hz, hsz, hby⟩ := hzz
  have HI := Lib.hid hi
  have HZ := Lib.hid hz
  have HSZ := Lib.hid hsz
  have HBY := Lib.hid hby
  clear hi hz hsz hby
  have hwr : IntKind.i64.wrap ((n2 : Int) + 1 + 1) = (n2 : Int) + 1 + 1 := IntWalk.i64_in _ (by omega)
  have hx1 : (0 : Int) ≤ (n2 : Int) + 1 := by omega
  have hx2 : (n2 : Int) < (n2 : Int) + 1 := by omega
  have hwr2 : IntKind.i64.wrap ((n2 : Int) + 1 + 1 - 1) = (n2 : Int) + 1 := by rw [IntWalk.i64_in _ (by omega)]; omega
  have hwr3 : IntKind.i64.wrap ((n2 : Int) + 1) = (n2 : Int) + 1 := IntWalk.i64_in _ (by omega)
  have HB1 := Lib.hid b1
  have HL1 := Lib.hid b1.len
  have HL2 := Lib.hid b2.len
  go_enter Tryz.func6, Tryz.ntmps6
  go_wp2_with fail
  refine (fits_any (kd : Int) w).mono ?_
  rintro e w' ⟨rfl, rfl⟩
  rw [ef]
  clear ef
  go_wp2_with fail
  refine (cut_any A1 n1 c1 l1 A2 n2 c2 l2 _ w.heap.size (by simp) nc1 hm1 (b1.alloc (Nat.le_refl _) _) (b2.alloc (Nat.le_refl _) _) (by omega)).mono ?_
  rintro e w1 ⟨v1, P, rfl, hr1, hp1, hps1, hb1⟩
  have hPl : P.length = n2 + 1 := by
    have := congrArg List.length hp1
    rw [List.length_map, cutM_len, HL2.out] at this
    exact this
  have hBw1 : Below w.heap.size w w1 := ((Below.refl _ _).alloc (Nat.le_refl _) _).trans (hb1.mono (by simp))
  have hr1' : w1.ownsRow w.heap.size 27 1 v1 P.length (P.map (·.1)) := hr1.mono_base (by simp)
  obtain ⟨Ap, cp, rfl, _, hcpm, hg1⟩ := row_at hr1'
  obtain ⟨gp, rfl, hgpB, hcp⟩ := hg1 (by omega)
  have hps : ∀ p ∈ P, Piece w w.heap.size p := fun p hp => piece_back (hps1 p hp) hBw1
  have HPS := Lib.hid hps
  have HP1 := Lib.hid hp1
  have hrow0 : w1.ownsRow w.heap.size 31 4 (.slice (some ⟨w.heap.size, 0, none⟩) 0 0) 0 (stpCells (qOf (P.take 0))) := by
    have h := World.ownsRow_made w (e := 31) (size := 4) (base := w.heap.size) #[] 0 (Nat.le_refl _) (Nat.zero_le _) rfl
    exact h.kept (grow_of_below hb1) none_or
  have HR0 := Lib.hid hr1'
  have HW0 := Lib.hid hrow0
  rw [hPl]
  clear hr1 hr1' hp1 hps1 hps hb1 hg1 hrow0
  go_wp2
  go_loopw [30, 7] (fun i v wr => PieRel w (.slice (some ⟨gp, 0, none⟩) P.length cp) P i v wr) (fun i _ _ => P.length - (intOf i).toNat)
  case atStart => exact ⟨0, ⟨Nat.zero_le _, HW0.out, HR0.out, hBw1⟩, rfl⟩
  case round =>
    obtain ⟨k, hR, rfl⟩ := hrel
    have hkl := hR.kl
    have hbel := hR.bel
    have hB := hbel.size
    have HRR := Lib.hid hR
    clear hR
    by_cases hlt : k < P.length
    · have hcell := HRR.out.prow.cellAt k (by omega)
      rw [List.getElem?_map, List.getElem?_eq_getElem hlt] at hcell
      have evk : P[k]'hlt = P.getD k (.nilIface, []) := by rw [List.getD_eq_getElem?_getD, List.getElem?_eq_getElem hlt]; rfl
      rw [evk] at hcell
      obtain ⟨Ak, nk, ck, ek, _⟩ := HPS.out _ (getD_mem (d := (Value.nilIface, [])) hlt)
      simp only [Option.map_some, ek] at hcell
      have HEK := Lib.hid ek
      have hlt' : k < n2 + 1 := by omega
      clear ek evk
      go_wp2_with fail
      refine (write_any 0 Ak nk ck wr).mono ?_
      rintro e w2 ⟨rfl, hb2⟩
      have hz2 := hb2.size
      go_wp2_with (at_builtin; refine wpList_append_src _ (o := ⟨some 38, _, _, _, _, _⟩) rfl _ _ 22 rfl w.heap.size 31 i zeroStp 4 Tryz.underlying22 HI.out HZ.out HSZ.out rfl (by omega) _ k (stpCells (qOf (P.take k))) rfl ((HRR.out.row.kept (grow_of_below hb2) none_or).alloc _) _ 1 1 [.int .i64 0, .int .i64 0, .int .i64 0, .slice Ak nk ck] rfl ?hs (by simp [Value.oneCell']) (by unfold maxLen; omega) (by rw [HBY.out]; omega) ?hb ?_)
      case hs => exact src_step _ _ _ _ _ _ _ (by simp)
      case hb => first | omega | (simp; omega)
      intro v9 w9 hrow9 hg9 _
      have HF := Lib.hid (HRR.out.next hlt hb2 hg9 (by rw [HEK.out]; exact hrow9))
      clear hrow9 hg9
      go_wp2
      exact ⟨⟨k + 1, HF.out, by simp⟩, by simp [intOf]; omega⟩
    · obtain rfl : k = P.length := by omega
      have hrw := HRR.out.row
      rw [List.take_of_length_le (Nat.le_refl _), hPl] at hrw
      obtain ⟨Aw, cw, rfl, _, _, _⟩ := row_at hrw
      have HRW := Lib.hid hrw
      clear hrw
      go_wp2_with fail
      refine (sum_any 0 wr).mono ?_
      rintro e w2 ⟨rfl, hb2⟩
      have hz2 := hb2.size
      have HRW2 := Lib.hid (HRW.out.kept (grow_of_below hb2) none_or)
      have hbel2 : Below w.heap.size w w2 := hbel.trans (hb2.mono hB)
      go_wp2_with (at_builtin; refine wpList_append_src _ (o := ⟨some 44, _, _, _, _, _⟩) rfl _ _ 22 rfl w.heap.size 31 i zeroStp 4 Tryz.underlying22 HI.out HZ.out HSZ.out rfl (by omega) _ (n2 + 1) (stpCells (qOf P)) rfl (HRW2.out.alloc _) _ 1 1 [.int .i64 1, .int .i64 0, .int .i64 0, .slice none 0 0] rfl ?hs (by simp [Value.oneCell']) (by unfold maxLen; omega) (by rw [HBY.out]; omega) ?hb ?_)
      case hs => exact src_step _ _ _ _ _ _ _ (by simp)
      case hb => first | omega | (simp; omega)
      intro v9 w9 hrow9 hg9 _
      have hb9 : Below w.heap.size w w9 := (hbel2.alloc hbel2.size _).grown hg9 (by simp; omega) (fun k' e => (HRW.out.lt k' e).1)
      have hQ : w9.ownsRow w.heap.size 31 4 v9 (qOf P ++ [((⟨1, 0, 0, []⟩ : Stp), Value.slice none 0 0)]).length (stpCells (qOf P ++ [((⟨1, 0, 0, []⟩ : Stp), Value.slice none 0 0)])) := by
        rw [stpCells_append, List.length_append, qOf_length, hPl]; exact hrow9
      obtain ⟨A9, c9, rfl, hSS⟩ := ss_of_row hQ (fun q hq => by
        rcases List.mem_append.1 hq with hq | hq
        · obtain ⟨p, hp, rfl⟩ := List.mem_map.1 hq
          obtain ⟨A, n, c, e, hs, h1, h2⟩ := (HPS.out p hp).below hb9
          exact ⟨A, n, c, e, hs.mono hb9.size, h1, h2⟩
        · rcases List.mem_singleton.1 hq with rfl
          exact ⟨none, 0, 0, rfl, BS.nil _ _ _, Nat.le_refl _, Nat.zero_le _⟩)
      rw [List.map_append, qOf_fst, HP1.out] at hSS
      simp only [List.map_cons, List.map_nil, List.length_append, qOf_length, List.length_cons, List.length_nil, Nat.zero_add, hPl] at hSS
      have HSS := Lib.hid hSS
      simp only [List.length_append, qOf_length, List.length_cons, List.length_nil, Nat.zero_add, hPl]
      clear hSS hQ hrow9 hg9
      go_wp2_with fail
      refine (hashed_any kd hk6 A9 (n2 + 1 + 1) c9 ((cutM l1 l2).map wr0 ++ [⟨1, 0, 0, []⟩]) w9 HSS.out (by omega) ?hd).mono ?_
      case hd =>
        intro s hs
        rcases List.mem_append.1 hs with hs | hs
        · obtain ⟨p, hp, rfl⟩ := List.mem_map.1 hs
          have h := len_of_mem _ p hp
          rw [cutM_flat, HL1.out] at h
          show p.length ≤ _
          omega
        · rcases List.mem_singleton.1 hs with rfl
          exact Nat.zero_le _
      intro e w10 hret
      obtain ⟨A10, n10, c10, rfl, hSA, hn10, _, hb10⟩ := sa_of_run hret
      have hn10' : n10 = n2 + 1 + 1 := by
        rw [hn10, List.length_append, List.length_map, cutM_len, HL2.out]; rfl
      subst hn10'
      have hb010 : Below w.heap.size w w10 := hb9.trans (hb10.mono hb9.size)
      obtain ⟨g10, o10, rfl, hg10, hat⟩ := hSA.spot (by omega)
      obtain ⟨Ax, nx, cx, hAt⟩ := hat (n2 + 1) (by omega)
      have q1 := hAt.c0
      have hbx := hAt.bs
      rw [run_writes_sum, List.getD_eq_getElem?_getD, List.getElem?_append_right (by rw [List.length_map, cutM_len, HL2.out]; exact Nat.le_refl _), List.length_map, cutM_len, HL2.out, Nat.sub_self, List.getElem?_cons_zero, Option.getD_some, cutM_flat] at hbx
      simp only at hbx
      have HBXX := Lib.hid hbx
      clear hAt hat hSA hret hn10 hbx
      have HD10 := Lib.hid ((HB1.out.below hb010).mono hb010.size)
      go_wp2_with fail
      refine (write_any 0 A1 n1 c1 w10).mono ?_
      rintro e p1 ⟨rfl, hp1⟩
      go_wp2_with fail
      refine (sum_any 0 p1).mono ?_
      rintro e p2 ⟨rfl, hp2⟩
      go_wp2_with fail
      have Bp2 : Below w10.heap.size w10 p2 := hp1.trans (hp2.mono hp1.size)
      have bsp := (HD10.out.below Bp2).mono Bp2.size
      refine (hashed_any kd hk6 _ 2 2 [⟨0, 0, 0, l1⟩, ⟨1, 0, 0, []⟩] _ (ss_lit p2 [(⟨0, 0, 0, l1⟩, .slice A1 n1 c1), (⟨1, 0, 0, []⟩, .slice none 0 0)] ?hdp) (by omega) ?hlp).mono ?_
      case hdp =>
        intro q hq
        simp only [List.mem_cons, List.not_mem_nil, or_false] at hq
        rcases hq with rfl | rfl
        · exact ⟨A1, n1, c1, rfl, bsp, nc1, hm1⟩
        · exact ⟨none, 0, 0, rfl, BS.nil _ _ _, Nat.le_refl _, Nat.zero_le _⟩
      case hlp =>
        intro q hq
        simp only [List.mem_cons, List.not_mem_nil, or_false] at hq
        have := HL1.out
        rcases hq with rfl | rfl <;> simp <;> omega
      rintro e p3 ⟨vp3, Pp, rfl, hop, hpp, hdatp, hbp3⟩
      rw [runM_pc] at hpp
      obtain ⟨gq, cq3, rfl, hgltq, hcellsq⟩ := answers_open hop hdatp (by have := congrArg List.length hpp; simp at this; omega) hpp
      obtain ⟨Qq, eq, pq, _, _, hbsq, _⟩ := hcellsq 1 (by simp)
      simp only [List.getD_cons_zero, List.getD_cons_succ, Nat.one_mul] at pq hbsq
      obtain ⟨sz, hsz⟩ : ∃ sz, ((kindOf kd).bytes (l1.foldl (kindOf kd).step (kindOf kd).init)).length = sz := ⟨_, rfl⟩
      rw [hsz] at pq hbsq
      have Bp : Below w10.heap.size w10 p3 := (Bp2.alloc Bp2.size _).trans (hbp3.mono (by have := Bp2.size; simp; omega))
      have HBQ := Lib.hid hbsq
      have HBX3 := Lib.hid ((HBXX.out.below Bp).mono Bp.size)
      have HSZ2 := Lib.hid hsz
      have HD3 := Lib.hid ((HD10.out.below Bp).mono Bp.size)
      have q1 := (Bp.cell (p := ⟨g10, o10 + (n2 + 1) * 4, none⟩) hg10).trans q1
      have hg10' : g10 < p3.heap.size := Nat.lt_of_lt_of_le hg10 Bp.size
      have hbF : Below w.heap.size w p3 := hb010.trans (Bp.mono hb010.size)
      clear hcellsq hpp hdatp hop hbsq bsp hp1 hp2 Bp2 hbp3 hsz
      go_wp2_with fail
      refine wp_region_held_drew (S := fun W => Below p3.heap.size p3 W) (by kernel_rfl) ⟨rfl, rfl, rfl, Nat.le_refl _, fun _ _ => rfl⟩ (fun hHeld => ?_)
      have S0 := hHeld
      refine wpAnyH_take (i := 0) (oi := ⟨some 52, _, _, _, _, _⟩) (v := ?_) rfl (by kernel_rfl) (by kernel_rfl) (by kernel_rfl) (fun _ _ _ h => h) (Or.inl ⟨by rfl, ?_⟩) hHeld ?_
      rotate_left
      · intro W hW; go_simp <;> with_reducible rfl
      simp only [Act.put, List.setIfInBounds_toArray, List.set_cons_zero, List.set_cons_succ]
      refine wpAnyH_take (i := 1) (oi := ⟨some 53, _, _, _, _, _⟩) (v := ?_) rfl (by kernel_rfl) (by kernel_rfl) (by kernel_rfl) (fun _ _ _ h => h) (Or.inl ⟨by rfl, ?_⟩) hHeld ?_
      rotate_left
      · intro W hW; go_simp <;> with_reducible rfl
      simp only [Act.put, List.setIfInBounds_toArray, List.set_cons_zero, List.set_cons_succ]
      refine wpAnyH_take (i := 2) (oi := ⟨some 54, _, _, _, _, _⟩) (v := ?_) rfl (by kernel_rfl) (by kernel_rfl) (by kernel_rfl) (fun _ _ _ h => h) (Or.inl ⟨by rfl, ?_⟩) hHeld ?_
      rotate_left
      · intro W hW; go_simp <;> with_reducible rfl
      simp only [Act.put, List.setIfInBounds_toArray, List.set_cons_zero, List.set_cons_succ]
      refine wpAnyH_take (i := 3) (oi := ⟨some 55, _, _, _, _, _⟩) (v := ?_) rfl (by kernel_rfl) (by kernel_rfl) (by kernel_rfl) (fun _ _ _ h => h) (Or.inl ⟨by rfl, ?_⟩) hHeld ?_
      rotate_left
      · intro W hW; go_simp <;> with_reducible rfl
      simp only [Act.put, List.setIfInBounds_toArray, List.set_cons_zero, List.set_cons_succ]
      refine wpAnyH_take (i := 4) (oi := ⟨some 56, _, _, _, _, _⟩) (v := ?_) rfl (by kernel_rfl) (by kernel_rfl) (by kernel_rfl) (fun _ _ _ h => h) (Or.inl ⟨by rfl, ?_⟩) hHeld ?_
      rotate_left
      · intro W hW; go_simp <;> with_reducible rfl
      simp only [Act.put, List.setIfInBounds_toArray, List.set_cons_zero, List.set_cons_succ]
      refine wpAnyH_take (i := 5) (oi := ⟨some 57, _, _, _, _, _⟩) (v := ?_) rfl (by kernel_rfl) (by kernel_rfl) (by kernel_rfl) (fun _ _ _ h => h) (Or.inl ⟨by rfl, ?_⟩) hHeld ?_
      rotate_left
      · intro W hW; go_simp <;> with_reducible rfl
      simp only [Act.put, List.setIfInBounds_toArray, List.set_cons_zero, List.set_cons_succ]
      refine wpAnyH_take (i := 6) (oi := ⟨some 58, _, _, _, _, _⟩) (v := ?_) rfl (by kernel_rfl) (by kernel_rfl) (by kernel_rfl) (fun _ _ _ h => h) (Or.inl ⟨by rfl, ?_⟩) hHeld ?_
      rotate_left
      · intro W hW; go_simp <;> with_reducible rfl
      simp only [Act.put, List.setIfInBounds_toArray, List.set_cons_zero, List.set_cons_succ]
      refine wpAnyH_take (i := 7) (oi := ⟨some 59, _, _, _, _, _⟩) (v := ?_) rfl (by kernel_rfl) (by kernel_rfl) (by kernel_rfl) (fun _ _ _ h => h) (Or.inl ⟨by rfl, ?_⟩) hHeld ?_
      rotate_left
      · intro W hW; go_simp <;> with_reducible rfl
      simp only [Act.put, List.setIfInBounds_toArray, List.set_cons_zero, List.set_cons_succ]
      refine wpAnyH_take (i := 8) (oi := ⟨some 60, _, _, _, _, _⟩) (v := ?_) rfl (by kernel_rfl) (by kernel_rfl) (by kernel_rfl) (fun _ _ _ h => h) (Or.inl ⟨by rfl, ?_⟩) hHeld ?_
      rotate_left
      · intro W hW; go_simp <;> with_reducible rfl
      simp only [Act.put, List.setIfInBounds_toArray, List.set_cons_zero, List.set_cons_succ]
      refine wpAnyH_take (i := 9) (oi := ⟨some 61, _, _, _, _, _⟩) (v := ?_) rfl (by kernel_rfl) (by kernel_rfl) (by kernel_rfl) (fun _ _ _ h => h) (Or.inl ⟨by rfl, ?_⟩) hHeld ?_
      rotate_left
      · intro W hW; go_simp <;> with_reducible rfl
      simp only [Act.put, List.setIfInBounds_toArray, List.set_cons_zero, List.set_cons_succ]
      refine wpAnyH_take (i := 10) (oi := ⟨some 62, _, _, _, _, _⟩) (v := ?_) rfl (by kernel_rfl) (by kernel_rfl) (by kernel_rfl) (fun _ _ _ h => h) (Or.inl ⟨by rfl, ?_⟩) hHeld ?_
      rotate_left
      · intro W hW; go_simp <;> with_reducible rfl
      simp only [Act.put, List.setIfInBounds_toArray, List.set_cons_zero, List.set_cons_succ]
      refine wpAnyH_take (i := 11) (oi := ⟨some 63, _, _, _, _, _⟩) (v := ?_) rfl (by kernel_rfl) (by kernel_rfl) (by kernel_rfl) (fun _ _ _ h => h) (Or.inl ⟨by rfl, ?_⟩) hHeld ?_
      rotate_left
      · intro W hW; go_simp <;> with_reducible rfl
      simp only [Act.put, List.setIfInBounds_toArray, List.set_cons_zero, List.set_cons_succ]
      refine wpAnyH_take (i := 12) (oi := ⟨some 64, _, _, _, _, _⟩) (v := ?_) rfl (by kernel_rfl) (by kernel_rfl) (by kernel_rfl) (fun _ _ _ h => h) (Or.inl ⟨by rfl, ?_⟩) hHeld ?_
      rotate_left
      · intro W hW; go_simp <;> with_reducible rfl
      simp only [Act.put, List.setIfInBounds_toArray, List.set_cons_zero, List.set_cons_succ]
      refine wpAnyH_take (i := 13) (oi := ⟨some 65, _, _, _, _, _⟩) (v := ?_) rfl (by kernel_rfl) (by kernel_rfl) (by kernel_rfl) (fun _ _ _ h => h) (Or.inl ⟨by rfl, ?_⟩) hHeld ?_
      rotate_left
      · intro W hW; go_simp <;> with_reducible rfl
      simp only [Act.put, List.setIfInBounds_toArray, List.set_cons_zero, List.set_cons_succ]
      refine wpAnyH_take (i := 14) (oi := ⟨some 66, _, _, _, _, _⟩) (v := ?_) rfl (by kernel_rfl) (by kernel_rfl) (by kernel_rfl) (fun _ _ _ h => h) (Or.inl ⟨by rfl, ?_⟩) hHeld ?_
      rotate_left
      · intro W hW; go_simp <;> with_reducible rfl
      simp only [Act.put, List.setIfInBounds_toArray, List.set_cons_zero, List.set_cons_succ]
      refine wpAnyH_take (i := 15) (oi := ⟨some 67, _, _, _, _, _⟩) (v := ?_) rfl (by kernel_rfl) (by kernel_rfl) (by kernel_rfl) (fun _ _ _ h => h) (Or.inl ⟨by rfl, ?_⟩) hHeld ?_
      rotate_left
      · intro W hW; go_simp <;> with_reducible rfl
      simp only [Act.put, List.setIfInBounds_toArray, List.set_cons_zero, List.set_cons_succ]
      refine wpAnyH_take (i := 16) (oi := ⟨some 68, _, _, _, _, _⟩) (v := ?_) rfl (by kernel_rfl) (by kernel_rfl) (by kernel_rfl) (fun _ _ _ h => h) (Or.inl ⟨by rfl, ?_⟩) hHeld ?_
      rotate_left
      · intro W hW; go_simp <;> with_reducible rfl
      simp only [Act.put, List.setIfInBounds_toArray, List.set_cons_zero, List.set_cons_succ]
      refine wpAnyH_take (i := 17) (oi := ⟨some 69, _, _, _, _, _⟩) (v := ?_) rfl (by kernel_rfl) (by kernel_rfl) (by kernel_rfl) (fun _ _ _ h => h) (Or.inl ⟨by rfl, ?_⟩) hHeld ?_
      rotate_left
      · intro W hW; go_simp <;> with_reducible rfl
      simp only [Act.put, List.setIfInBounds_toArray, List.set_cons_zero, List.set_cons_succ]
      refine wpAnyH_take (i := 18) (oi := ⟨some 70, _, _, _, _, _⟩) (v := ?_) rfl (by kernel_rfl) (by kernel_rfl) (by kernel_rfl) (fun _ _ _ h => h) (Or.inl ⟨by rfl, ?_⟩) hHeld ?_
      rotate_left
      · intro W hW; have q := (hW.cell (p := ⟨g10, o10 + (n2 + 1) * 4, none⟩) hg10').trans q1; go_simp <;> with_reducible rfl
      simp only [Act.put, List.setIfInBounds_toArray, List.set_cons_zero, List.set_cons_succ]
      refine wpAnyH_take (i := 19) (oi := ⟨some 71, _, _, _, _, _⟩) (v := ?_) rfl (by kernel_rfl) (by kernel_rfl) (by kernel_rfl) (fun _ _ _ h => h) (Or.inl ⟨by rfl, ?_⟩) hHeld ?_
      rotate_left
      · intro W hW; go_simp <;> with_reducible rfl
      simp only [Act.put, List.setIfInBounds_toArray, List.set_cons_zero, List.set_cons_succ]
      refine wpAnyH_take (i := 20) (oi := ⟨some 72, _, _, _, _, _⟩) (v := ?_) rfl (by kernel_rfl) (by kernel_rfl) (by kernel_rfl) (fun _ _ _ h => h) (Or.inl ⟨by rfl, ?_⟩) hHeld ?_
      rotate_left
      · intro W hW; go_simp <;> with_reducible rfl
      simp only [Act.put, List.setIfInBounds_toArray, List.set_cons_zero, List.set_cons_succ]
      refine wpAnyH_take (i := 21) (oi := ⟨some 73, _, _, _, _, _⟩) (v := ?_) rfl (by kernel_rfl) (by kernel_rfl) (by kernel_rfl) (fun _ _ _ h => h) (Or.inl ⟨by rfl, ?_⟩) hHeld ?_
      rotate_left
      · intro W hW; go_simp <;> with_reducible rfl
      simp only [Act.put, List.setIfInBounds_toArray, List.set_cons_zero, List.set_cons_succ]
      refine wpAnyH_take (i := 22) (oi := ⟨some 74, _, _, _, _, _⟩) (v := ?_) rfl (by kernel_rfl) (by kernel_rfl) (by kernel_rfl) (fun _ _ _ h => h) (Or.inl ⟨by rfl, ?_⟩) hHeld ?_
      rotate_left
      · intro W hW; have q := (hW.cell (p := ⟨gq, 4, none⟩) hgltq).trans pq; go_simp <;> with_reducible rfl
      simp only [Act.put, List.setIfInBounds_toArray, List.set_cons_zero, List.set_cons_succ]
      refine wpAnyH_ready (rs := [23]) (by kernel_rfl) (by simp) (AllReadyH.cons rfl (fun K1 hK1 => ?_) AllReadyH.nil)
      go_simp
      refine (equal_any Ax nx cx Qq sz eq _ _ _ _ _ (HBX3.out.below S0) (HBQ.out.below S0)).mono ?_
      rintro e w' ⟨rfl, rfl⟩
      rw [decide_eq_true rfl]
      refine hK1.out _ _ S0 (fun hHeld => ?_)
      clear hK1 K1
      refine wpAnyH_take (i := 24) (oi := ⟨some 76, _, _, _, _, _⟩) (v := ?_) rfl (by kernel_rfl) (by kernel_rfl) (by kernel_rfl) (fun _ _ _ h => h) (Or.inl ⟨by rfl, ?_⟩) hHeld ?_
      rotate_left
      · intro W hW; go_simp <;> with_reducible rfl
      simp only [Act.put, List.setIfInBounds_toArray, List.set_cons_zero, List.set_cons_succ]
      refine wpAnyH_take (i := 25) (oi := ⟨some 77, _, _, _, _, _⟩) (v := ?_) rfl (by kernel_rfl) (by kernel_rfl) (by kernel_rfl) (fun _ _ _ h => h) (Or.inl ⟨by rfl, ?_⟩) hHeld ?_
      rotate_left
      · intro W hW; go_simp <;> with_reducible rfl
      simp only [Act.put, List.setIfInBounds_toArray, List.set_cons_zero, List.set_cons_succ]
      refine wpAnyH_take (i := 26) (oi := ⟨some 78, _, _, _, _, _⟩) (v := ?_) rfl (by kernel_rfl) (by kernel_rfl) (by kernel_rfl) (fun _ _ _ h => h) (Or.inl ⟨by rfl, ?_⟩) hHeld ?_
      rotate_left
      · intro W hW; go_simp <;> with_reducible rfl
      simp only [Act.put, List.setIfInBounds_toArray, List.set_cons_zero, List.set_cons_succ]
      refine wpAnyH_take (i := 27) (oi := ⟨some 79, _, _, _, _, _⟩) (v := ?_) rfl (by kernel_rfl) (by kernel_rfl) (by kernel_rfl) (fun _ _ _ h => h) (Or.inl ⟨by rfl, ?_⟩) hHeld ?_
      rotate_left
      · intro W hW; go_simp <;> with_reducible rfl
      simp only [Act.put, List.setIfInBounds_toArray, List.set_cons_zero, List.set_cons_succ]
      refine wpAnyH_take (i := 28) (oi := ⟨some 80, _, _, _, _, _⟩) (v := ?_) rfl (by kernel_rfl) (by kernel_rfl) (by kernel_rfl) (fun _ _ _ h => h) (Or.inl ⟨by rfl, ?_⟩) hHeld ?_
      rotate_left
      · intro W hW; go_simp <;> with_reducible rfl
      simp only [Act.put, List.setIfInBounds_toArray, List.set_cons_zero, List.set_cons_succ]
      refine wpAnyH_take (i := 29) (oi := ⟨some 81, _, _, _, _, _⟩) (v := ?_) rfl (by kernel_rfl) (by kernel_rfl) (by kernel_rfl) (fun _ _ _ h => h) (Or.inl ⟨by rfl, ?_⟩) hHeld ?_
      rotate_left
      · intro W hW; have q := (hW.cell (p := ⟨gq, 4, none⟩) hgltq).trans pq; go_simp <;> with_reducible rfl
      simp only [Act.put, List.setIfInBounds_toArray, List.set_cons_zero, List.set_cons_succ]
      refine wpAnyH_take (i := 30) (oi := ⟨some 82, _, _, _, _, _⟩) (v := ?_) rfl (by kernel_rfl) (by kernel_rfl) (by kernel_rfl) (fun _ _ _ h => h) (Or.inl ⟨by rfl, ?_⟩) hHeld ?_
      rotate_left
      · intro W hW; go_simp <;> with_reducible rfl
      simp only [Act.put, List.setIfInBounds_toArray, List.set_cons_zero, List.set_cons_succ]
      refine wpAnyH_take (i := 31) (oi := ⟨some 83, _, _, _, _, _⟩) (v := ?_) rfl (by kernel_rfl) (by kernel_rfl) (by kernel_rfl) (fun _ _ _ h => h) (Or.inl ⟨by rfl, ?_⟩) hHeld ?_
      rotate_left
      · intro W hW; go_simp <;> with_reducible rfl
      simp only [Act.put, List.setIfInBounds_toArray, List.set_cons_zero, List.set_cons_succ]
      refine wpAnyH_ready (rs := [32]) (by kernel_rfl) (by simp) (AllReadyH.cons rfl (fun K1 hK1 => ?_) AllReadyH.nil)
      go_simp
      refine (due_any kd hk6 A1 n1 c1 l1 _ p3.heap.size S0.size nc1 hm1 (HD3.out.below S0)).mono ?_
      rintro e x1 ⟨y1, rfl, ho, hb⟩
      obtain ⟨X1, z1, rfl, _, _, bs⟩ := ho.at_ HSZ2.out
      have HM1 := Lib.hid bs
      have S1 := S0.trans (hb.mono S0.size)
      clear ho bs hb hHeld
      refine hK1.out _ _ S1 (fun hHeld => ?_)
      clear hK1 K1
      refine wpAnyH_ready (rs := [33]) (by kernel_rfl) (by simp) (AllReadyH.cons rfl (fun K1 hK1 => ?_) AllReadyH.nil)
      go_simp
      refine (equal_any Qq sz eq X1 sz z1 _ _ _ _ _ (HBQ.out.below S1) HM1.out).mono ?_
      rintro e w' ⟨rfl, rfl⟩
      rw [decide_eq_true rfl]
      refine hK1.out _ _ S1 (fun hHeld => ?_)
      clear hK1 K1
      refine wpAnyH_take (i := 34) (oi := ⟨some 86, _, _, _, _, _⟩) (v := ?_) rfl (by kernel_rfl) (by kernel_rfl) (by kernel_rfl) (fun _ _ _ h => h) (Or.inl ⟨by rfl, ?_⟩) hHeld ?_
      rotate_left
      · intro W hW; go_simp <;> with_reducible rfl
      simp only [Act.put, List.setIfInBounds_toArray, List.set_cons_zero, List.set_cons_succ]
      refine wpAnyH_take (i := 35) (oi := ⟨some 6, _, _, _, _, _⟩) (v := ?_) rfl (by kernel_rfl) (by kernel_rfl) (by kernel_rfl) (fun _ _ _ h => h) (Or.inl ⟨by rfl, ?_⟩) hHeld ?_
      rotate_left
      · intro W hW; go_simp <;> with_reducible rfl
      simp only [Act.put, List.setIfInBounds_toArray, List.set_cons_zero, List.set_cons_succ]
      refine wpAnyH_done (by kernel_rfl) ?_ _
      go_wp2
      go_ret
      exact ⟨by simp, hbF.trans (S1.mono hbF.size)⟩

end Go.Proofs.YtdpjdglcienbfaaGreat.fnPieces

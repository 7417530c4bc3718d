/-
  The walk of the stream decoder's Read: it hands out what is decoded, or says that the text is corrupt; it never comes to the end of a text that holds a byte that is no digit. Printed by rreadgen.py. Conditions: those that it names.
-/
import Derived.Test.YthhbcnjbnfjiiaaDoorRdInv
namespace Go.Proofs.YthhbcnjbnfjiiaaDoor
open Go.RowKit
open PlainDec (DR dgo Grps dig)

theorem sr_find (a : Addr) (w : World) : (Go.method 231 52 (.pointer (some a)) "Read").run Tryd.prog w = .ok (61, .pointer (some a)) w := by kernel_rfl
theorem sr_ahead (a : Addr) (w : World) : (Go.nilAhead 231 52 (.pointer (some a)) "Read").run Tryd.prog w = .ok (some false) w := by kernel_rfl
theorem sr_enter (args : Array Value) (w : World) : (callFunc 61 args).run Tryd.prog w = .ok (.enter 61 args) w := entersB Tryd.func61 (by kernel_rfl) rfl args w
theorem cut1024 (eb o n : Nat) (hn : n ≤ 1024) (W : World) : (Instr.sliceAt 67 (.pointer (some ⟨eb, o, none⟩)) (some (.int .i64 0)) (some (.int .i64 (n : Int))) none).run Tryd.prog W = .ok (.slice (some ⟨eb, o, none⟩) n 1024) W := by
  have e1 : Tryd.prog.arrayLen 67 = 1024 := by kernel_rfl
  have e2 : Tryd.prog.elem 67 = 5 := by kernel_rfl
  have h := run_sliceAt_array_lh (P := Tryd.prog) W 67 ⟨eb, o, none⟩ (by rw [e1, e2]; exact Tryd.underlying67) .i64 .i64 0 (n : Int) (by omega) (by omega) (by rw [e1]; omega)
  rw [h, e1, e2]
  obtain ⟨i0, hi, hzz⟩ := Option.map_eq_some_iff.1 Tryd.infoByte
  simp only [Prod.mk.injEq] at hzz
  simp [sizeOf, typeInfo, hi, slicedAt, Addr.add]
theorem cutLow (eb o n : Nat) (hn : n < 1024) (W : World) : (Instr.sliceAt 67 (.pointer (some ⟨eb, o, none⟩)) (some (.int .i64 (n : Int))) none none).run Tryd.prog W = .ok (.slice (some ⟨eb, o + n, none⟩) (1024 - n) (1024 - n)) W := by
  have e1 : Tryd.prog.arrayLen 67 = 1024 := by kernel_rfl
  have e2 : Tryd.prog.elem 67 = 5 := by kernel_rfl
  have h := run_sliceAt_array_l (P := Tryd.prog) W 67 ⟨eb, o, none⟩ (by rw [e1, e2]; exact Tryd.underlying67) .i64 (n : Int) (by omega) (by rw [e1]; omega)
  rw [h, e1, e2]
  obtain ⟨i0, hi, hzz⟩ := Option.map_eq_some_iff.1 Tryd.infoByte
  simp only [Prod.mk.injEq] at hzz
  have hne : ¬ 1024 = n := by omega
  simp [sizeOf, typeInfo, hi, hzz.2.1, slicedAt, Result.andThen, addr_add, hne]
theorem cutMid (eb o u n : Nat) (hu : u < 1024) (hn : u ≤ n) (hn2 : n ≤ 1024) (W : World) : (Instr.sliceAt 67 (.pointer (some ⟨eb, o, none⟩)) (some (.int .i64 (u : Int))) (some (.int .i64 (n : Int))) none).run Tryd.prog W = .ok (.slice (some ⟨eb, o + u, none⟩) (n - u) (1024 - u)) W := by
  have e1 : Tryd.prog.arrayLen 67 = 1024 := by kernel_rfl
  have e2 : Tryd.prog.elem 67 = 5 := by kernel_rfl
  have h := run_sliceAt_array_lh (P := Tryd.prog) W 67 ⟨eb, o, none⟩ (by rw [e1, e2]; exact Tryd.underlying67) .i64 .i64 (u : Int) (n : Int) (by omega) (by omega) (by rw [e1]; omega)
  rw [h, e1, e2]
  obtain ⟨i0, hi, hzz⟩ := Option.map_eq_some_iff.1 Tryd.infoByte
  simp only [Prod.mk.injEq] at hzz
  have hne : ¬ 1024 = u := by omega
  simp [sizeOf, typeInfo, hi, hzz.2.1, slicedAt, Result.andThen, addr_add, hne]
structure RdL (w : World) (db sb rb tb ot N ct pc : Nat) (T del : List Nat) (wr : World) (f : Nat → Value) (bl out : List Nat) (Ao : Option Addr) (co p : Nat) (pv : Int) : Prop where
  st : Stat wr db sb rb tb ot N ct pc T
  ds : DSt wr db sb rb tb ot N ct f bl out Ao co p pv
  si : SI T del out bl p
  fw : Few [db, rb] w wr
def RdRel (w : World) (db sb rb tb ot N ct pc : Nat) (T del : List Nat) (wr : World) : Prop := ∃ f bl out Ao co p pv, RdL w db sb rb tb ot N ct pc T del wr f bl out Ao co p pv
def RetRead (w : World) (db sb rb tb ot N ct pc : Nat) (T del : List Nat) (pb ln : Nat) (e : Ending) (w' : World) : Prop :=
  (∃ got f bl out Ao co p pv fp, e = .returned (.tuple #[.int .i64 ((got.length : Nat) : Int), .nilIface]) ∧ 1 ≤ got.length ∧ got.length ≤ ln ∧ (∀ x ∈ got, x < 256) ∧ Stat w' db sb rb tb ot N ct pc T ∧ DSt w' db sb rb tb ot N ct f bl out Ao co p pv ∧ SI T (del ++ got) out bl p ∧
      w'.rowIs pb 5 ln fp ∧ (∀ i, i < got.length → fp i = .int .u8 ((got.getD i 0 : Nat) : Int)) ∧ Few [db, rb, pb] w w') ∨
  (∃ a : Nat, e = .returned (.tuple #[.int .i64 0, .iface 63 (.int .i64 (a : Int))]) ∧ Few [db, rb, pb] w w')
def FtRel (W0 : World) (db nb : Nat) (fz : Nat → Value) (off i : Value) (wi : World) : Prop := ∃ k f2, k ≤ nb ∧ off = .int .i64 (k : Int) ∧ i = .int .i64 (k : Int) ∧ wi.rowIs db 69 2053 f2 ∧ (∀ j, f2 j = fz j) ∧ Only db W0 wi
theorem few_wide {db rb pb : Nat} {w w' : World} (h : Few [db, rb] w w') : Few [db, rb, pb] w w' := h.mono (fun x hx => by simp at hx ⊢; rcases hx with h | h <;> simp [h])
theorem few_turn {db rb : Nat} {w w' : World} (h : Few [rb, db] w w') : Few [db, rb] w w' := h.mono (fun x hx => by simp at hx ⊢; rcases hx with h | h <;> simp [h])

set_option maxHeartbeats 16000000 in
set_option maxRecDepth 100000 in
theorem read_any (db sb rb tb ot N ct pc : Nat) (T del : List Nat) (f0 : Nat → Value) (bl0 out0 : List Nat) (A0 : Option Addr) (co0 p0 : Nat) (pv0 : Int) (c pb ln : Nat) (fp : Nat → Value) (w : World) (hS : Stat w db sb rb tb ot N ct pc T) (hD : DSt w db sb rb tb ot N ct f0 bl0 out0 A0 co0 p0 pv0) (hI : SI T del out0 bl0 p0)
    (hc : c ∈ T) (hc1 : 117 < c) (hc2 : c ≠ 122) (hg : ∀ x ∈ T, 32 < x) (hpb : w.rowIs pb 5 ln fp) (hln : 1 ≤ ln) (hln2 : ln ≤ 65536) (hpd : pb ≠ db) (hpr : pb ≠ rb) (hps : pb ≠ sb) (hpt : pb ≠ tb) :
    Calls Tryd.prog 65 #[.pointer (some ⟨db, 0, none⟩), .slice (some ⟨pb, 0, none⟩) ln ln] w fun e w' => RetRead w db sb rb tb ot N ct pc T del pb ln e w' := by
  have c0 : w.cell? ⟨db, 0, none⟩ = some .nilIface := by rw [hD.row.cell (by omega), hD.f0]
  have e0 : ((ln : Int) == 0) = false := beq_eq_false_iff_ne.2 (by omega)
  have hrd := hS.rd
  have HTN := Lib.hid hS.tx.len
  have HS0 := Lib.hid (show RdL w db sb rb tb ot N ct pc T del w f0 bl0 out0 A0 co0 p0 pv0 from ⟨hS, hD, hI, Few.refl _ _⟩)
  have HST0 := Lib.hid hS
  have HPB := Lib.hid hpb
  have HC := Lib.hid hc
  have HG := Lib.hid hg
  clear hS hD hI hpb hc hg
  go_enter Tryd.func65, Tryd.ntmps65
  go_wp2
  go_loopw [4, 5] (fun n e wr => (n = .int .i64 0 ∧ e = .nilIface) ∧ RdRel w db sb rb tb ot N ct pc T del wr) (fun _ _ wr => toDo db rb N wr)
  case atStart => exact ⟨⟨rfl, rfl⟩, _, _, _, _, _, _, _, HS0.out⟩
  case round =>
    obtain ⟨⟨rfl, rfl⟩, f, bl, out, Ao, co, p, pv, hR⟩ := hrel
    obtain ⟨no, hno⟩ : ∃ no, out.length = no := ⟨_, rfl⟩
    obtain ⟨nb, hnb⟩ : ∃ nb, bl.length = nb := ⟨_, rfl⟩
    have k0 : wr.cell? ⟨db, 0, none⟩ = some .nilIface := by rw [hR.ds.row.cell (by omega), hR.ds.f0]
    have k1 : wr.cell? ⟨db, 1, none⟩ = some .nilIface := by rw [hR.ds.row.cell (by omega), hR.ds.f1]
    have k2 : wr.cell? ⟨db, 2, none⟩ = some (.iface 52 (.pointer (some ⟨sb, 0, none⟩))) := by rw [hR.ds.row.cell (by omega), hR.ds.f2]
    have kn : wr.cell? ⟨db, 1027, none⟩ = some (.int .i64 (nb : Int)) := by rw [hR.ds.row.cell (by omega), hR.ds.fn, hnb]
    have ko : wr.cell? ⟨db, 1028, none⟩ = some (.slice Ao no co) := by rw [hR.ds.row.cell (by omega), hR.ds.fo, hno]
    have hnb2 : nb ≤ 260 := by rw [← hnb]; exact hR.ds.bl4
    have hco1 : no ≤ co := by rw [← hno]; exact hR.ds.oc
    have hco2 := hR.ds.ol
    have HDS := Lib.hid hR.ds
    have HSI := Lib.hid hR.si
    have HFW := Lib.hid hR.fw
    have HSTR := Lib.hid hR.st
    have HNO := Lib.hid hno
    have HNB := Lib.hid hnb
    clear hR hno hnb
    by_cases ho : 0 < no
    · as_aux_lemma =>
        obtain ⟨q, rfl, hq, ht⟩ := HDS.out.oo (by rw [HNO.out]; exact ho)
        rw [HNO.out] at hq ht
        have e2 : decide (0 < no) = true := decide_eq_true ho
        obtain ⟨m, hm⟩ : ∃ m, m = Nat.min no ln := ⟨_, rfl⟩
        have hm1 : m ≤ no := by rw [hm]; exact Nat.min_le_left _ _
        have hm2 : m ≤ ln := by rw [hm]; exact Nat.min_le_right _ _
        have hm3 : 1 ≤ m := by rw [hm]; exact Nat.le_min.2 ⟨ho, hln⟩
        have hgl : (out.take m).length = m := by rw [List.length_take, HNO.out]; omega
        have hrowp : wr.rowIs pb 5 ln fp := HPB.out.of_block (HFW.out.block pb (by simp [hpd, hpr]))
        obtain ⟨w1, fp', hrun, hrow1, hon1, _, htxt1⟩ := copy_eq (w := wr) (g := pb) (od := 0) (dLen := ln) (dCap := ln) (M := ln) (sLen := no) (sCap := co) (m := m) (sa := ⟨db, 1029 + q, none⟩) (Ty := 5) (ty := 3) (f := fp) (l := out.take m) hrowp hgl hm (fun j hj => by
          rw [addr_add, HDS.out.row.cell (by omega), ht j (by omega), getD_take _ _ _ hj]) (by omega)
        have j28 : w1.cell? ⟨db, 1028, none⟩ = some (.slice (some ⟨db, 1029 + q, none⟩) no co) := (hon1.cell (Ne.symm hpd)).trans ko
        have g28 : w1.frozen? ⟨db, 1028, none⟩ = false := (HDS.out.row.of_block (hon1.block db (Ne.symm hpd))).frozen 1028
        have hsp := cutp db (1029 + q) no co m hm1
        obtain ⟨PA, hPA⟩ : ∃ PA, (if co = m then some (⟨db, 1029 + q, none⟩ : Addr) else some ⟨db, 1029 + q + m, none⟩) = PA := ⟨_, rfl⟩
        rw [hPA] at hsp
        have HPA := Lib.hid hPA
        have HROW1 := Lib.hid hrow1
        have HON1 := Lib.hid hon1
        have HTXT1 := Lib.hid htxt1
        have HGL := Lib.hid hgl
        clear hPA hrow1 hon1 htxt1 hgl ht hrowp hm
        go_wp2
        refine bodyPost_ret (two_res rfl _ _ _) rfl ?_
        have hcon := HDS.out.oc
        rw [HNO.out] at hcon
        obtain ⟨f2, hD2⟩ := HDS.out.hand (m := m) (c' := co - m) (PA := PA) HON1.out (Ne.symm hpd) (Ne.symm hpr) hrd (by rw [HNO.out]; exact hm1) rfl (fun hlt q' e => by
          rw [HNO.out] at hlt
          injection e with e
          injection e with _ e
          rw [← HPA.out, if_neg (by omega), show 1029 + q = 1029 + q' by omega])
        rw [HNO.out] at hD2
        have hF2 : Few [db, rb, pb] w (w1.setCell ⟨db, 1028, none⟩ (.slice PA (no - m) (co - m))) := ((few_wide HFW.out).trans (HON1.out.few (by simp))).set (by simp) 1028 _
        have hS2 := HST0.out.few hF2 (by simp [HST0.out.sd, HST0.out.sr, Ne.symm hps]) (by simp [HST0.out.td, HST0.out.tr, Ne.symm hpt])
        refine .inl ⟨out.take m, f2, bl, out.drop m, PA, co - m, p, pv, fp', by rw [HGL.out]; rfl, by rw [HGL.out]; exact hm3, by rw [HGL.out]; exact hm2, fun x hx => HDS.out.olt x (List.mem_of_mem_take hx), hS2, hD2, HSI.out.hand, HROW1.out.of_block (set_other hpd), fun i hi => ?_, hF2⟩
        rw [HGL.out] at hi
        rw [← HTXT1.out i hi, Nat.zero_add]
    obtain rfl : no = 0 := by omega
    obtain rfl : out = [] := List.eq_nil_of_length_eq_zero HNO.out
    by_cases hb : 0 < nb
    · have eb : decide (0 < nb) = true := decide_eq_true hb
      have HG32 := Lib.hid (show ∀ x ∈ bl, 32 < x from fun x hx => by
        obtain ⟨C, e, _⟩ := HSI.out
        exact HG.out x (by rw [e]; simp [hx]))
      cases hdg : dgo 1024 false bl.length bl 0 PlainDec.init with
      | bad a =>
        have HDG := Lib.hid hdg
        clear hdg
        as_aux_lemma =>
          have hslO := cut1024 db 3 nb (by omega)
          have HBB := Lib.hid (HDS.out.bs HNB.out)
          go_wp2_with fail
          refine wp_region_held_drew (S := fun W => W.cell? ⟨db, 1, none⟩ = some .nilIface ∧ W.cell? ⟨db, 1027, none⟩ = some (.int .i64 (nb : Int))) (by kernel_rfl) ⟨k1, kn⟩ (fun hHeld => ?_)
          refine wpAnyH_take (i := 0) (oi := ⟨some 50, _, _, _, _, _⟩) (v := ?_) rfl (by kernel_rfl) (by kernel_rfl) (by kernel_rfl) (fun _ _ _ h => h) (Or.inl ⟨by rfl, ?_⟩) hHeld ?_
          rotate_left
          · intro W hW; obtain ⟨hW1, hW2⟩ := hW; go_simp <;> with_reducible rfl
          simp only [Act.put, List.setIfInBounds_toArray, List.set_cons_zero, List.set_cons_succ]
          refine wpAnyH_take (i := 1) (oi := ⟨some 51, _, _, _, _, _⟩) (v := ?_) rfl (by kernel_rfl) (by kernel_rfl) (by kernel_rfl) (fun _ _ _ h => h) (Or.inl ⟨by rfl, ?_⟩) hHeld ?_
          rotate_left
          · intro W hW; obtain ⟨hW1, hW2⟩ := hW; go_simp <;> with_reducible rfl
          simp only [Act.put, List.setIfInBounds_toArray, List.set_cons_zero, List.set_cons_succ]
          refine wpAnyH_take (i := 2) (oi := ⟨some 52, _, _, _, _, _⟩) (v := ?_) rfl (by kernel_rfl) (by kernel_rfl) (by kernel_rfl) (fun _ _ _ h => h) (Or.inl ⟨by rfl, ?_⟩) hHeld ?_
          rotate_left
          · intro W hW; obtain ⟨hW1, hW2⟩ := hW; go_simp <;> with_reducible rfl
          simp only [Act.put, List.setIfInBounds_toArray, List.set_cons_zero, List.set_cons_succ]
          refine wpAnyH_take (i := 3) (oi := ⟨some 53, _, _, _, _, _⟩) (v := ?_) rfl (by kernel_rfl) (by kernel_rfl) (by kernel_rfl) (fun _ _ _ h => h) (Or.inl ⟨by rfl, ?_⟩) hHeld ?_
          rotate_left
          · intro W hW; obtain ⟨hW1, hW2⟩ := hW; go_simp <;> with_reducible rfl
          simp only [Act.put, List.setIfInBounds_toArray, List.set_cons_zero, List.set_cons_succ]
          refine wpAnyH_take (i := 4) (oi := ⟨some 54, _, _, _, _, _⟩) (v := ?_) rfl (by kernel_rfl) (by kernel_rfl) (by kernel_rfl) (fun _ _ _ h => h) (Or.inl ⟨by rfl, ?_⟩) hHeld ?_
          rotate_left
          · intro W hW; obtain ⟨hW1, hW2⟩ := hW; go_simp <;> with_reducible rfl
          simp only [Act.put, List.setIfInBounds_toArray, List.set_cons_zero, List.set_cons_succ]
          refine wpAnyH_take (i := 5) (oi := ⟨some 55, _, _, _, _, _⟩) (v := ?_) rfl (by kernel_rfl) (by kernel_rfl) (by kernel_rfl) (fun _ _ _ h => h) (Or.inl ⟨by rfl, ?_⟩) hHeld ?_
          rotate_left
          · intro W hW; obtain ⟨hW1, hW2⟩ := hW; go_simp <;> with_reducible rfl
          simp only [Act.put, List.setIfInBounds_toArray, List.set_cons_zero, List.set_cons_succ]
          refine wpAnyH_take (i := 6) (oi := ⟨some 56, _, _, _, _, _⟩) (v := ?_) rfl (by kernel_rfl) (by kernel_rfl) (by kernel_rfl) (fun _ _ _ h => h) (Or.inl ⟨by rfl, ?_⟩) hHeld ?_
          rotate_left
          · intro W hW; obtain ⟨hW1, hW2⟩ := hW; go_simp <;> with_reducible rfl
          simp only [Act.put, List.setIfInBounds_toArray, List.set_cons_zero, List.set_cons_succ]
          refine wpAnyH_take (i := 7) (oi := ⟨some 57, _, _, _, _, _⟩) (v := ?_) rfl (by kernel_rfl) (by kernel_rfl) (by kernel_rfl) (fun _ _ _ h => h) (Or.inl ⟨by rfl, ?_⟩) hHeld ?_
          rotate_left
          · intro W hW; obtain ⟨hW1, hW2⟩ := hW; go_simp <;> with_reducible rfl
          simp only [Act.put, List.setIfInBounds_toArray, List.set_cons_zero, List.set_cons_succ]
          refine wpAnyH_take (i := 8) (oi := ⟨some 58, _, _, _, _, _⟩) (v := ?_) rfl (by kernel_rfl) (by kernel_rfl) (by kernel_rfl) (fun _ _ _ h => h) (Or.inl ⟨by rfl, ?_⟩) hHeld ?_
          rotate_left
          · intro W hW; obtain ⟨hW1, hW2⟩ := hW; go_simp <;> with_reducible rfl
          simp only [Act.put, List.setIfInBounds_toArray, List.set_cons_zero, List.set_cons_succ]
          refine wpAnyH_take (i := 9) (oi := ⟨some 59, _, _, _, _, _⟩) (v := ?_) rfl (by kernel_rfl) (by kernel_rfl) (by kernel_rfl) (fun _ _ _ h => h) (Or.inl ⟨by rfl, ?_⟩) hHeld ?_
          rotate_left
          · intro W hW; obtain ⟨hW1, hW2⟩ := hW; go_simp <;> with_reducible rfl
          simp only [Act.put, List.setIfInBounds_toArray, List.set_cons_zero, List.set_cons_succ]
          refine wpAnyH_take (i := 10) (oi := ⟨some 60, _, _, _, _, _⟩) (v := ?_) rfl (by kernel_rfl) (by kernel_rfl) (by kernel_rfl) (fun _ _ _ h => h) (Or.inl ⟨by rfl, ?_⟩) hHeld ?_
          rotate_left
          · intro W hW; obtain ⟨hW1, hW2⟩ := hW; go_simp <;> with_reducible rfl
          simp only [Act.put, List.setIfInBounds_toArray, List.set_cons_zero, List.set_cons_succ]
          refine wpAnyH_take (i := 11) (oi := ⟨some 61, _, _, _, _, _⟩) (v := ?_) rfl (by kernel_rfl) (by kernel_rfl) (by kernel_rfl) (fun _ _ _ h => h) (Or.inl ⟨by rfl, ?_⟩) hHeld ?_
          rotate_left
          · intro W hW; obtain ⟨hW1, hW2⟩ := hW; go_simp <;> with_reducible rfl
          simp only [Act.put, List.setIfInBounds_toArray, List.set_cons_zero, List.set_cons_succ]
          refine wpAnyH_take (i := 12) (oi := ⟨some 62, _, _, _, _, _⟩) (v := ?_) rfl (by kernel_rfl) (by kernel_rfl) (by kernel_rfl) (fun _ _ _ h => h) (Or.inl ⟨by rfl, ?_⟩) hHeld ?_
          rotate_left
          · intro W hW; obtain ⟨hW1, hW2⟩ := hW; go_simp <;> with_reducible rfl
          simp only [Act.put, List.setIfInBounds_toArray, List.set_cons_zero, List.set_cons_succ]
          refine wpAnyH_take (i := 13) (oi := ⟨some 63, _, _, _, _, _⟩) (v := ?_) rfl (by kernel_rfl) (by kernel_rfl) (by kernel_rfl) (fun _ _ _ h => h) (Or.inl ⟨by rfl, ?_⟩) hHeld ?_
          rotate_left
          · intro W hW; obtain ⟨hW1, hW2⟩ := hW; go_simp <;> with_reducible rfl
          simp only [Act.put, List.setIfInBounds_toArray, List.set_cons_zero, List.set_cons_succ]
          refine wpAnyH_take (i := 14) (oi := ⟨some 64, _, _, _, _, _⟩) (v := ?_) rfl (by kernel_rfl) (by kernel_rfl) (by kernel_rfl) (fun _ _ _ h => h) (Or.inl ⟨by rfl, ?_⟩) hHeld ?_
          rotate_left
          · intro W hW; obtain ⟨hW1, hW2⟩ := hW; go_simp <;> with_reducible rfl
          simp only [Act.put, List.setIfInBounds_toArray, List.set_cons_zero, List.set_cons_succ]
          refine wpAnyH_take (i := 15) (oi := ⟨some 65, _, _, _, _, _⟩) (v := ?_) rfl (by kernel_rfl) (by kernel_rfl) (by kernel_rfl) (fun _ _ _ h => h) (Or.inl ⟨by rfl, ?_⟩) hHeld ?_
          rotate_left
          · intro W hW; obtain ⟨hW1, hW2⟩ := hW; go_simp <;> with_reducible rfl
          simp only [Act.put, List.setIfInBounds_toArray, List.set_cons_zero, List.set_cons_succ]
          refine wpAnyH_take (i := 16) (oi := ⟨some 66, _, _, _, _, _⟩) (v := ?_) rfl (by kernel_rfl) (by kernel_rfl) (by kernel_rfl) (fun _ _ _ h => h) (Or.inl ⟨by rfl, ?_⟩) hHeld ?_
          rotate_left
          · intro W hW; obtain ⟨hW1, hW2⟩ := hW; go_simp <;> with_reducible rfl
          simp only [Act.put, List.setIfInBounds_toArray, List.set_cons_zero, List.set_cons_succ]
          refine wpAnyH_take (i := 17) (oi := ⟨some 67, _, _, _, _, _⟩) (v := ?_) rfl (by kernel_rfl) (by kernel_rfl) (by kernel_rfl) (fun _ _ _ h => h) (Or.inl ⟨by rfl, ?_⟩) hHeld ?_
          rotate_left
          · intro W hW; obtain ⟨hW1, hW2⟩ := hW; go_simp <;> with_reducible rfl
          simp only [Act.put, List.setIfInBounds_toArray, List.set_cons_zero, List.set_cons_succ]
          refine wpAnyH_ready (rs := [18]) (by kernel_rfl) (by simp) (AllReadyH.cons rfl (fun K1 hK1 => ?_) AllReadyH.nil)
          go_simp
          refine (decode_any db 1029 1024 1024 2053 69 f (some ⟨db, 3, none⟩) nb 1024 bl false wr.drew wr.heap.size HDS.out.row.drew (by omega) (by omega) (by unfold maxLen; omega) HBB.out.drew (by omega) (by unfold maxLen; omega) (fun _ b' o' e' _ => by injection e' with e'; injection e' with _ e2; omega)).mono ?_
          rintro e w1 ⟨f1, hrow1, hon1, hlow1, hres⟩
          rw [HDG.out] at hres
          simp only at hres
          obtain rfl := hres
          have s1 : w1.cell? ⟨db, 1, none⟩ = some .nilIface := by rw [hrow1.cell (by omega), hlow1 1 (by omega), HDS.out.f1]
          have sn : w1.cell? ⟨db, 1027, none⟩ = some (.int .i64 (nb : Int)) := by rw [hrow1.cell (by omega), hlow1 1027 (by omega), HDS.out.fn, HNB.out]
          have s0 : w1.cell? ⟨db, 0, none⟩ = some .nilIface := by rw [hrow1.cell (by omega), hlow1 0 (by omega), HDS.out.f0]
          have u0 := hrow1.frozen 0
          have ho1 : Only db wr w1 := ⟨hon1.os, hon1.tape, hon1.output, hon1.size, hon1.block⟩
          have HROW1 := Lib.hid hrow1
          have HON1 := Lib.hid ho1
          have HLOW1 := Lib.hid hlow1
          refine hK1.out _ _ ⟨s1, sn⟩ (fun hHeld => ?_)
          clear hK1 K1 hrow1 hon1 hlow1 ho1 
          refine wpAnyH_take (i := 19) (oi := ⟨some 49, _, _, _, _, _⟩) (v := ?_) rfl (by kernel_rfl) (by kernel_rfl) (by kernel_rfl) (fun _ _ _ h => h) (Or.inl ⟨by rfl, ?_⟩) hHeld ?_
          rotate_left
          · intro W hW; obtain ⟨hW1, hW2⟩ := hW; go_simp <;> with_reducible rfl
          simp only [Act.put, List.setIfInBounds_toArray, List.set_cons_zero, List.set_cons_succ]
          refine wpAnyH_take (i := 20) (oi := ⟨some 69, _, _, _, _, _⟩) (v := ?_) rfl (by kernel_rfl) (by kernel_rfl) (by kernel_rfl) (fun _ _ _ h => h) (Or.inl ⟨by rfl, ?_⟩) hHeld ?_
          rotate_left
          · intro W hW; obtain ⟨hW1, hW2⟩ := hW; go_simp <;> with_reducible rfl
          simp only [Act.put, List.setIfInBounds_toArray, List.set_cons_zero, List.set_cons_succ]
          refine wpAnyH_take (i := 21) (oi := ⟨some 70, _, _, _, _, _⟩) (v := ?_) rfl (by kernel_rfl) (by kernel_rfl) (by kernel_rfl) (fun _ _ _ h => h) (Or.inl ⟨by rfl, ?_⟩) hHeld ?_
          rotate_left
          · intro W hW; obtain ⟨hW1, hW2⟩ := hW; go_simp <;> with_reducible rfl
          simp only [Act.put, List.setIfInBounds_toArray, List.set_cons_zero, List.set_cons_succ]
          refine wpAnyH_take (i := 22) (oi := ⟨some 71, _, _, _, _, _⟩) (v := ?_) rfl (by kernel_rfl) (by kernel_rfl) (by kernel_rfl) (fun _ _ _ h => h) (Or.inl ⟨by rfl, ?_⟩) hHeld ?_
          rotate_left
          · intro W hW; obtain ⟨hW1, hW2⟩ := hW; go_simp <;> with_reducible rfl
          simp only [Act.put, List.setIfInBounds_toArray, List.set_cons_zero, List.set_cons_succ]
          refine wpAnyH_take (i := 23) (oi := ⟨some 8, _, _, _, _, _⟩) (v := ?_) rfl (by kernel_rfl) (by kernel_rfl) (by kernel_rfl) (fun _ _ _ h => h) (Or.inl ⟨by rfl, ?_⟩) hHeld ?_
          rotate_left
          · intro W hW; obtain ⟨hW1, hW2⟩ := hW; go_simp <;> with_reducible rfl
          simp only [Act.put, List.setIfInBounds_toArray, List.set_cons_zero, List.set_cons_succ]
          refine wpAnyH_take (i := 24) (oi := ⟨some 7, _, _, _, _, _⟩) (v := ?_) rfl (by kernel_rfl) (by kernel_rfl) (by kernel_rfl) (fun _ _ _ h => h) (Or.inl ⟨by rfl, ?_⟩) hHeld ?_
          rotate_left
          · intro W hW; obtain ⟨hW1, hW2⟩ := hW; go_simp <;> with_reducible rfl
          simp only [Act.put, List.setIfInBounds_toArray, List.set_cons_zero, List.set_cons_succ]
          refine wpAnyH_take (i := 25) (oi := ⟨some 72, _, _, _, _, _⟩) (v := ?_) rfl (by kernel_rfl) (by kernel_rfl) (by kernel_rfl) (fun _ _ _ h => h) (Or.inl ⟨by rfl, ?_⟩) hHeld ?_
          rotate_left
          · intro W hW; obtain ⟨hW1, hW2⟩ := hW; go_simp <;> with_reducible rfl
          simp only [Act.put, List.setIfInBounds_toArray, List.set_cons_zero, List.set_cons_succ]
          refine wpAnyH_take (i := 26) (oi := ⟨some 73, _, _, _, _, _⟩) (v := ?_) rfl (by kernel_rfl) (by kernel_rfl) (by kernel_rfl) (fun _ _ _ h => h) (Or.inl ⟨by rfl, ?_⟩) hHeld ?_
          rotate_left
          · intro W hW; obtain ⟨hW1, hW2⟩ := hW; go_simp <;> with_reducible rfl
          simp only [Act.put, List.setIfInBounds_toArray, List.set_cons_zero, List.set_cons_succ]
          refine wpAnyH_ready (rs := [27]) (by kernel_rfl) (by simp) (AllReadyH.cons rfl (fun K1 hK1 => ?_) AllReadyH.nil)
          go_simp
          refine hK1.out _ _ ⟨(World.cell?_setCell_other _ ⟨db, 0, none⟩ ⟨db, 1, none⟩ _ (by simp)).trans s1, (World.cell?_setCell_other _ ⟨db, 0, none⟩ ⟨db, 1027, none⟩ _ (by simp)).trans sn⟩ (fun hHeld => ?_)
          clear hK1 K1
          refine wpAnyH_done (by kernel_rfl) ?_ _
          have s0' : (w1.setCell ⟨db, 0, none⟩ (.iface 63 (.int .i64 (a : Int)))).cell? ⟨db, 0, none⟩ = some (.iface 63 (.int .i64 (a : Int))) := by
            rw [(HROW1.out.set 0 _).cell (by omega), if_pos rfl]
          go_wp2_with fail
          refine wp_region_held_drew (S := fun W => W.cell? ⟨db, 0, none⟩ = some (.iface 63 (.int .i64 (a : Int)))) (by kernel_rfl) s0' (fun hHeld => ?_)
          refine wpAnyH_take (i := 0) (oi := ⟨some 147, _, _, _, _, _⟩) (v := ?_) rfl (by kernel_rfl) (by kernel_rfl) (by kernel_rfl) (fun _ _ _ h => h) (Or.inl ⟨by rfl, ?_⟩) hHeld ?_
          rotate_left
          · intro W hW; go_simp <;> with_reducible rfl
          simp only [Act.put, List.setIfInBounds_toArray, List.set_cons_zero, List.set_cons_succ]
          refine wpAnyH_take (i := 1) (oi := ⟨some 148, _, _, _, _, _⟩) (v := ?_) rfl (by kernel_rfl) (by kernel_rfl) (by kernel_rfl) (fun _ _ _ h => h) (Or.inl ⟨by rfl, ?_⟩) hHeld ?_
          rotate_left
          · intro W hW; go_simp <;> with_reducible rfl
          simp only [Act.put, List.setIfInBounds_toArray, List.set_cons_zero, List.set_cons_succ]
          refine wpAnyH_take (i := 2) (oi := ⟨some 149, _, _, _, _, _⟩) (v := ?_) rfl (by kernel_rfl) (by kernel_rfl) (by kernel_rfl) (fun _ _ _ h => h) (Or.inl ⟨by rfl, ?_⟩) hHeld ?_
          rotate_left
          · intro W hW; go_simp <;> with_reducible rfl
          simp only [Act.put, List.setIfInBounds_toArray, List.set_cons_zero, List.set_cons_succ]
          refine wpAnyH_take (i := 3) (oi := ⟨some 150, _, _, _, _, _⟩) (v := ?_) rfl (by kernel_rfl) (by kernel_rfl) (by kernel_rfl) (fun _ _ _ h => h) (Or.inl ⟨by rfl, ?_⟩) hHeld ?_
          rotate_left
          · intro W hW; go_simp <;> with_reducible rfl
          simp only [Act.put, List.setIfInBounds_toArray, List.set_cons_zero, List.set_cons_succ]
          refine wpAnyH_take (i := 4) (oi := ⟨some 4, _, _, _, _, _⟩) (v := ?_) rfl (by kernel_rfl) (by kernel_rfl) (by kernel_rfl) (fun _ _ _ h => h) (Or.inl ⟨by rfl, ?_⟩) hHeld ?_
          rotate_left
          · intro W hW; go_simp <;> with_reducible rfl
          simp only [Act.put, List.setIfInBounds_toArray, List.set_cons_zero, List.set_cons_succ]
          refine wpAnyH_take (i := 5) (oi := ⟨some 5, _, _, _, _, _⟩) (v := ?_) rfl (by kernel_rfl) (by kernel_rfl) (by kernel_rfl) (fun _ _ _ h => h) (Or.inl ⟨by rfl, ?_⟩) hHeld ?_
          rotate_left
          · intro W hW; go_simp <;> with_reducible rfl
          simp only [Act.put, List.setIfInBounds_toArray, List.set_cons_zero, List.set_cons_succ]
          refine wpAnyH_done (by kernel_rfl) ?_ _
          go_wp2
          refine bodyPost_ret (two_res rfl _ _ _) rfl ?_
          exact .inr ⟨a, rfl, (few_wide (((HFW.out.trans (HON1.out.few (by simp))).set (by simp) 0 _))).drew⟩
      | ok o u =>
        obtain ⟨huN, hI2⟩ := HSI.out.fill HG.out hdg
        rw [HNB.out] at huN
        have HI2 := Lib.hid hI2
        have HDG := Lib.hid hdg
        have hpt := PlainDec.dgo_part HG32.out hdg
        obtain ⟨no2, hno2⟩ : ∃ no2, o.length = no2 := ⟨_, rfl⟩
        have HOL := Lib.hid hno2
        by_cases hz : 0 < no2
        · have ez : decide (0 < no2) = true := decide_eq_true hz
          obtain ⟨mm, hmm⟩ : ∃ mm, nb - u = mm := ⟨_, rfl⟩
          clear hdg hI2 hpt hno2
          as_aux_lemma =>
            have hslO := cut1024 db 3 nb (by omega)
            have HBB := Lib.hid (HDS.out.bs HNB.out)
            go_wp2_with fail
            refine wp_region_held_drew (S := fun W => W.cell? ⟨db, 1, none⟩ = some .nilIface ∧ W.cell? ⟨db, 1027, none⟩ = some (.int .i64 (nb : Int))) (by kernel_rfl) ⟨k1, kn⟩ (fun hHeld => ?_)
            refine wpAnyH_take (i := 0) (oi := ⟨some 50, _, _, _, _, _⟩) (v := ?_) rfl (by kernel_rfl) (by kernel_rfl) (by kernel_rfl) (fun _ _ _ h => h) (Or.inl ⟨by rfl, ?_⟩) hHeld ?_
            rotate_left
            · intro W hW; obtain ⟨hW1, hW2⟩ := hW; go_simp <;> with_reducible rfl
            simp only [Act.put, List.setIfInBounds_toArray, List.set_cons_zero, List.set_cons_succ]
            refine wpAnyH_take (i := 1) (oi := ⟨some 51, _, _, _, _, _⟩) (v := ?_) rfl (by kernel_rfl) (by kernel_rfl) (by kernel_rfl) (fun _ _ _ h => h) (Or.inl ⟨by rfl, ?_⟩) hHeld ?_
            rotate_left
            · intro W hW; obtain ⟨hW1, hW2⟩ := hW; go_simp <;> with_reducible rfl
            simp only [Act.put, List.setIfInBounds_toArray, List.set_cons_zero, List.set_cons_succ]
            refine wpAnyH_take (i := 2) (oi := ⟨some 52, _, _, _, _, _⟩) (v := ?_) rfl (by kernel_rfl) (by kernel_rfl) (by kernel_rfl) (fun _ _ _ h => h) (Or.inl ⟨by rfl, ?_⟩) hHeld ?_
            rotate_left
            · intro W hW; obtain ⟨hW1, hW2⟩ := hW; go_simp <;> with_reducible rfl
            simp only [Act.put, List.setIfInBounds_toArray, List.set_cons_zero, List.set_cons_succ]
            refine wpAnyH_take (i := 3) (oi := ⟨some 53, _, _, _, _, _⟩) (v := ?_) rfl (by kernel_rfl) (by kernel_rfl) (by kernel_rfl) (fun _ _ _ h => h) (Or.inl ⟨by rfl, ?_⟩) hHeld ?_
            rotate_left
            · intro W hW; obtain ⟨hW1, hW2⟩ := hW; go_simp <;> with_reducible rfl
            simp only [Act.put, List.setIfInBounds_toArray, List.set_cons_zero, List.set_cons_succ]
            refine wpAnyH_take (i := 4) (oi := ⟨some 54, _, _, _, _, _⟩) (v := ?_) rfl (by kernel_rfl) (by kernel_rfl) (by kernel_rfl) (fun _ _ _ h => h) (Or.inl ⟨by rfl, ?_⟩) hHeld ?_
            rotate_left
            · intro W hW; obtain ⟨hW1, hW2⟩ := hW; go_simp <;> with_reducible rfl
            simp only [Act.put, List.setIfInBounds_toArray, List.set_cons_zero, List.set_cons_succ]
            refine wpAnyH_take (i := 5) (oi := ⟨some 55, _, _, _, _, _⟩) (v := ?_) rfl (by kernel_rfl) (by kernel_rfl) (by kernel_rfl) (fun _ _ _ h => h) (Or.inl ⟨by rfl, ?_⟩) hHeld ?_
            rotate_left
            · intro W hW; obtain ⟨hW1, hW2⟩ := hW; go_simp <;> with_reducible rfl
            simp only [Act.put, List.setIfInBounds_toArray, List.set_cons_zero, List.set_cons_succ]
            refine wpAnyH_take (i := 6) (oi := ⟨some 56, _, _, _, _, _⟩) (v := ?_) rfl (by kernel_rfl) (by kernel_rfl) (by kernel_rfl) (fun _ _ _ h => h) (Or.inl ⟨by rfl, ?_⟩) hHeld ?_
            rotate_left
            · intro W hW; obtain ⟨hW1, hW2⟩ := hW; go_simp <;> with_reducible rfl
            simp only [Act.put, List.setIfInBounds_toArray, List.set_cons_zero, List.set_cons_succ]
            refine wpAnyH_take (i := 7) (oi := ⟨some 57, _, _, _, _, _⟩) (v := ?_) rfl (by kernel_rfl) (by kernel_rfl) (by kernel_rfl) (fun _ _ _ h => h) (Or.inl ⟨by rfl, ?_⟩) hHeld ?_
            rotate_left
            · intro W hW; obtain ⟨hW1, hW2⟩ := hW; go_simp <;> with_reducible rfl
            simp only [Act.put, List.setIfInBounds_toArray, List.set_cons_zero, List.set_cons_succ]
            refine wpAnyH_take (i := 8) (oi := ⟨some 58, _, _, _, _, _⟩) (v := ?_) rfl (by kernel_rfl) (by kernel_rfl) (by kernel_rfl) (fun _ _ _ h => h) (Or.inl ⟨by rfl, ?_⟩) hHeld ?_
            rotate_left
            · intro W hW; obtain ⟨hW1, hW2⟩ := hW; go_simp <;> with_reducible rfl
            simp only [Act.put, List.setIfInBounds_toArray, List.set_cons_zero, List.set_cons_succ]
            refine wpAnyH_take (i := 9) (oi := ⟨some 59, _, _, _, _, _⟩) (v := ?_) rfl (by kernel_rfl) (by kernel_rfl) (by kernel_rfl) (fun _ _ _ h => h) (Or.inl ⟨by rfl, ?_⟩) hHeld ?_
            rotate_left
            · intro W hW; obtain ⟨hW1, hW2⟩ := hW; go_simp <;> with_reducible rfl
            simp only [Act.put, List.setIfInBounds_toArray, List.set_cons_zero, List.set_cons_succ]
            refine wpAnyH_take (i := 10) (oi := ⟨some 60, _, _, _, _, _⟩) (v := ?_) rfl (by kernel_rfl) (by kernel_rfl) (by kernel_rfl) (fun _ _ _ h => h) (Or.inl ⟨by rfl, ?_⟩) hHeld ?_
            rotate_left
            · intro W hW; obtain ⟨hW1, hW2⟩ := hW; go_simp <;> with_reducible rfl
            simp only [Act.put, List.setIfInBounds_toArray, List.set_cons_zero, List.set_cons_succ]
            refine wpAnyH_take (i := 11) (oi := ⟨some 61, _, _, _, _, _⟩) (v := ?_) rfl (by kernel_rfl) (by kernel_rfl) (by kernel_rfl) (fun _ _ _ h => h) (Or.inl ⟨by rfl, ?_⟩) hHeld ?_
            rotate_left
            · intro W hW; obtain ⟨hW1, hW2⟩ := hW; go_simp <;> with_reducible rfl
            simp only [Act.put, List.setIfInBounds_toArray, List.set_cons_zero, List.set_cons_succ]
            refine wpAnyH_take (i := 12) (oi := ⟨some 62, _, _, _, _, _⟩) (v := ?_) rfl (by kernel_rfl) (by kernel_rfl) (by kernel_rfl) (fun _ _ _ h => h) (Or.inl ⟨by rfl, ?_⟩) hHeld ?_
            rotate_left
            · intro W hW; obtain ⟨hW1, hW2⟩ := hW; go_simp <;> with_reducible rfl
            simp only [Act.put, List.setIfInBounds_toArray, List.set_cons_zero, List.set_cons_succ]
            refine wpAnyH_take (i := 13) (oi := ⟨some 63, _, _, _, _, _⟩) (v := ?_) rfl (by kernel_rfl) (by kernel_rfl) (by kernel_rfl) (fun _ _ _ h => h) (Or.inl ⟨by rfl, ?_⟩) hHeld ?_
            rotate_left
            · intro W hW; obtain ⟨hW1, hW2⟩ := hW; go_simp <;> with_reducible rfl
            simp only [Act.put, List.setIfInBounds_toArray, List.set_cons_zero, List.set_cons_succ]
            refine wpAnyH_take (i := 14) (oi := ⟨some 64, _, _, _, _, _⟩) (v := ?_) rfl (by kernel_rfl) (by kernel_rfl) (by kernel_rfl) (fun _ _ _ h => h) (Or.inl ⟨by rfl, ?_⟩) hHeld ?_
            rotate_left
            · intro W hW; obtain ⟨hW1, hW2⟩ := hW; go_simp <;> with_reducible rfl
            simp only [Act.put, List.setIfInBounds_toArray, List.set_cons_zero, List.set_cons_succ]
            refine wpAnyH_take (i := 15) (oi := ⟨some 65, _, _, _, _, _⟩) (v := ?_) rfl (by kernel_rfl) (by kernel_rfl) (by kernel_rfl) (fun _ _ _ h => h) (Or.inl ⟨by rfl, ?_⟩) hHeld ?_
            rotate_left
            · intro W hW; obtain ⟨hW1, hW2⟩ := hW; go_simp <;> with_reducible rfl
            simp only [Act.put, List.setIfInBounds_toArray, List.set_cons_zero, List.set_cons_succ]
            refine wpAnyH_take (i := 16) (oi := ⟨some 66, _, _, _, _, _⟩) (v := ?_) rfl (by kernel_rfl) (by kernel_rfl) (by kernel_rfl) (fun _ _ _ h => h) (Or.inl ⟨by rfl, ?_⟩) hHeld ?_
            rotate_left
            · intro W hW; obtain ⟨hW1, hW2⟩ := hW; go_simp <;> with_reducible rfl
            simp only [Act.put, List.setIfInBounds_toArray, List.set_cons_zero, List.set_cons_succ]
            refine wpAnyH_take (i := 17) (oi := ⟨some 67, _, _, _, _, _⟩) (v := ?_) rfl (by kernel_rfl) (by kernel_rfl) (by kernel_rfl) (fun _ _ _ h => h) (Or.inl ⟨by rfl, ?_⟩) hHeld ?_
            rotate_left
            · intro W hW; obtain ⟨hW1, hW2⟩ := hW; go_simp <;> with_reducible rfl
            simp only [Act.put, List.setIfInBounds_toArray, List.set_cons_zero, List.set_cons_succ]
            refine wpAnyH_ready (rs := [18]) (by kernel_rfl) (by simp) (AllReadyH.cons rfl (fun K1 hK1 => ?_) AllReadyH.nil)
            go_simp
            refine (decode_any db 1029 1024 1024 2053 69 f (some ⟨db, 3, none⟩) nb 1024 bl false wr.drew wr.heap.size HDS.out.row.drew (by omega) (by omega) (by unfold maxLen; omega) HBB.out.drew (by omega) (by unfold maxLen; omega) (fun _ b' o' e' _ => by injection e' with e'; injection e' with _ e2; omega)).mono ?_
            rintro e w1 ⟨f1, hrow1, hon1, hlow1, hres⟩
            rw [HDG.out] at hres
            simp only at hres
            obtain ⟨rfl, hlt1, hle1, htxt1⟩ := hres
            rw [HOL.out] at hle1 htxt1 ⊢
            have HTXT1 := Lib.hid htxt1
            have HLT1 := Lib.hid hlt1
            have s1 : w1.cell? ⟨db, 1, none⟩ = some .nilIface := by rw [hrow1.cell (by omega), hlow1 1 (by omega), HDS.out.f1]
            have sn : w1.cell? ⟨db, 1027, none⟩ = some (.int .i64 (nb : Int)) := by rw [hrow1.cell (by omega), hlow1 1027 (by omega), HDS.out.fn, HNB.out]
            have s0 : w1.cell? ⟨db, 0, none⟩ = some .nilIface := by rw [hrow1.cell (by omega), hlow1 0 (by omega), HDS.out.f0]
            have u0 := hrow1.frozen 0
            have ho1 : Only db wr w1 := ⟨hon1.os, hon1.tape, hon1.output, hon1.size, hon1.block⟩
            have HROW1 := Lib.hid hrow1
            have HON1 := Lib.hid ho1
            have HLOW1 := Lib.hid hlow1
            refine hK1.out _ _ ⟨s1, sn⟩ (fun hHeld => ?_)
            clear hK1 K1 hrow1 hon1 hlow1 ho1 hlt1 htxt1
            refine wpAnyH_take (i := 19) (oi := ⟨some 49, _, _, _, _, _⟩) (v := ?_) rfl (by kernel_rfl) (by kernel_rfl) (by kernel_rfl) (fun _ _ _ h => h) (Or.inl ⟨by rfl, ?_⟩) hHeld ?_
            rotate_left
            · intro W hW; obtain ⟨hW1, hW2⟩ := hW; go_simp <;> with_reducible rfl
            simp only [Act.put, List.setIfInBounds_toArray, List.set_cons_zero, List.set_cons_succ]
            refine wpAnyH_take (i := 20) (oi := ⟨some 69, _, _, _, _, _⟩) (v := ?_) rfl (by kernel_rfl) (by kernel_rfl) (by kernel_rfl) (fun _ _ _ h => h) (Or.inl ⟨by rfl, ?_⟩) hHeld ?_
            rotate_left
            · intro W hW; obtain ⟨hW1, hW2⟩ := hW; go_simp <;> with_reducible rfl
            simp only [Act.put, List.setIfInBounds_toArray, List.set_cons_zero, List.set_cons_succ]
            refine wpAnyH_take (i := 21) (oi := ⟨some 70, _, _, _, _, _⟩) (v := ?_) rfl (by kernel_rfl) (by kernel_rfl) (by kernel_rfl) (fun _ _ _ h => h) (Or.inl ⟨by rfl, ?_⟩) hHeld ?_
            rotate_left
            · intro W hW; obtain ⟨hW1, hW2⟩ := hW; go_simp <;> with_reducible rfl
            simp only [Act.put, List.setIfInBounds_toArray, List.set_cons_zero, List.set_cons_succ]
            refine wpAnyH_take (i := 22) (oi := ⟨some 71, _, _, _, _, _⟩) (v := ?_) rfl (by kernel_rfl) (by kernel_rfl) (by kernel_rfl) (fun _ _ _ h => h) (Or.inl ⟨by rfl, ?_⟩) hHeld ?_
            rotate_left
            · intro W hW; obtain ⟨hW1, hW2⟩ := hW; go_simp <;> with_reducible rfl
            simp only [Act.put, List.setIfInBounds_toArray, List.set_cons_zero, List.set_cons_succ]
            refine wpAnyH_take (i := 23) (oi := ⟨some 8, _, _, _, _, _⟩) (v := ?_) rfl (by kernel_rfl) (by kernel_rfl) (by kernel_rfl) (fun _ _ _ h => h) (Or.inl ⟨by rfl, ?_⟩) hHeld ?_
            rotate_left
            · intro W hW; obtain ⟨hW1, hW2⟩ := hW; go_simp <;> with_reducible rfl
            simp only [Act.put, List.setIfInBounds_toArray, List.set_cons_zero, List.set_cons_succ]
            refine wpAnyH_take (i := 24) (oi := ⟨some 7, _, _, _, _, _⟩) (v := ?_) rfl (by kernel_rfl) (by kernel_rfl) (by kernel_rfl) (fun _ _ _ h => h) (Or.inl ⟨by rfl, ?_⟩) hHeld ?_
            rotate_left
            · intro W hW; obtain ⟨hW1, hW2⟩ := hW; go_simp <;> with_reducible rfl
            simp only [Act.put, List.setIfInBounds_toArray, List.set_cons_zero, List.set_cons_succ]
            refine wpAnyH_take (i := 25) (oi := ⟨some 72, _, _, _, _, _⟩) (v := ?_) rfl (by kernel_rfl) (by kernel_rfl) (by kernel_rfl) (fun _ _ _ h => h) (Or.inl ⟨by rfl, ?_⟩) hHeld ?_
            rotate_left
            · intro W hW; obtain ⟨hW1, hW2⟩ := hW; go_simp <;> with_reducible rfl
            simp only [Act.put, List.setIfInBounds_toArray, List.set_cons_zero, List.set_cons_succ]
            refine wpAnyH_take (i := 26) (oi := ⟨some 73, _, _, _, _, _⟩) (v := ?_) rfl (by kernel_rfl) (by kernel_rfl) (by kernel_rfl) (fun _ _ _ h => h) (Or.inl ⟨by rfl, ?_⟩) hHeld ?_
            rotate_left
            · intro W hW; obtain ⟨hW1, hW2⟩ := hW; go_simp <;> with_reducible rfl
            simp only [Act.put, List.setIfInBounds_toArray, List.set_cons_zero, List.set_cons_succ]
            refine wpAnyH_ready (rs := [27]) (by kernel_rfl) (by simp) (AllReadyH.cons rfl (fun K1 hK1 => ?_) AllReadyH.nil)
            go_simp
            refine hK1.out _ _ ⟨(World.cell?_setCell_other _ ⟨db, 0, none⟩ ⟨db, 1, none⟩ _ (by simp)).trans s1, (World.cell?_setCell_other _ ⟨db, 0, none⟩ ⟨db, 1027, none⟩ _ (by simp)).trans sn⟩ (fun hHeld => ?_)
            clear hK1 K1
            refine wpAnyH_done (by kernel_rfl) ?_ _
            have s28 : w1.cell? ⟨db, 1028, none⟩ = some (.slice Ao 0 co) := by rw [HROW1.out.cell (by omega), HLOW1.out 1028 (by omega), HDS.out.fo]; rfl
            have u28 := HROW1.out.frozen 1028
            have hslP := cut1024 db 1029 no2 (by omega)
            have hslM := cutMid db 3 u nb (by omega) huN (by omega)
            have hrow2 := (HROW1.out.set 0 .nilIface).set 1028 (.slice (some ⟨db, 1029, none⟩) no2 1024)
            obtain ⟨W2, hW2⟩ : ∃ W2, (w1.setCell ⟨db, 0, none⟩ .nilIface).setCell ⟨db, 1028, none⟩ (.slice (some ⟨db, 1029, none⟩) no2 1024) = W2 := ⟨_, rfl⟩
            rw [hW2] at hrow2
            have hsrc : ∀ j, j < mm → W2.cell? ((⟨db, 3 + u, none⟩ : Addr).add j) = some (.int .u8 (((bl.drop u).getD j 0 : Nat) : Int)) := fun j hj => by
              rw [addr_add, hrow2.cell (by omega), if_neg (by omega), if_neg (by omega), HLOW1.out _ (by omega), show 3 + u + j = 3 + (u + j) by omega, HDS.out.fb _ (by rw [HNB.out]; omega), getD_drop]
            have y27 : W2.cell? ⟨db, 1027, none⟩ = some (.int .i64 (nb : Int)) := by
              rw [hrow2.cell (by omega), if_neg (by omega), if_neg (by omega), HLOW1.out 1027 (by omega), HDS.out.fn, HNB.out]
            have ROW2 := Lib.hid hrow2
            have HSRC := Lib.hid hsrc
            have HBD := Lib.hid (show (bl.drop u).length = mm by rw [List.length_drop, HNB.out]; exact hmm)
            have HMM := Lib.hid (show mm = Nat.min mm 1024 from (Nat.min_eq_left (by omega)).symm)
            have HW2 := Lib.hid hW2
            clear hrow2 hsrc
            go_wp2_with fail
            clear hW2
            refine wp_region_held_drew (S := fun _ => True) (by kernel_rfl) trivial (fun hHeld => ?_)
            refine wpAnyH_take (i := 0) (oi := ⟨some 84, _, _, _, _, _⟩) (v := ?_) rfl (by kernel_rfl) (by kernel_rfl) (by kernel_rfl) (fun _ _ _ h => h) (Or.inl ⟨by rfl, ?_⟩) hHeld ?_
            rotate_left
            · intro W hW; go_simp <;> with_reducible rfl
            simp only [Act.put, List.setIfInBounds_toArray, List.set_cons_zero, List.set_cons_succ]
            refine wpAnyH_take (i := 1) (oi := ⟨some 85, _, _, _, _, _⟩) (v := ?_) rfl (by kernel_rfl) (by kernel_rfl) (by kernel_rfl) (fun _ _ _ h => h) (Or.inl ⟨by rfl, ?_⟩) hHeld ?_
            rotate_left
            · intro W hW; go_simp <;> with_reducible rfl
            simp only [Act.put, List.setIfInBounds_toArray, List.set_cons_zero, List.set_cons_succ]
            refine wpAnyH_take (i := 2) (oi := ⟨some 86, _, _, _, _, _⟩) (v := ?_) rfl (by kernel_rfl) (by kernel_rfl) (by kernel_rfl) (fun _ _ _ h => h) (Or.inl ⟨by rfl, ?_⟩) hHeld ?_
            rotate_left
            · intro W hW; go_simp <;> with_reducible rfl
            simp only [Act.put, List.setIfInBounds_toArray, List.set_cons_zero, List.set_cons_succ]
            refine wpAnyH_take (i := 3) (oi := ⟨some 87, _, _, _, _, _⟩) (v := ?_) rfl (by kernel_rfl) (by kernel_rfl) (by kernel_rfl) (fun _ _ _ h => h) (Or.inl ⟨by rfl, ?_⟩) hHeld ?_
            rotate_left
            · intro W hW; go_simp <;> with_reducible rfl
            simp only [Act.put, List.setIfInBounds_toArray, List.set_cons_zero, List.set_cons_succ]
            refine wpAnyH_take (i := 4) (oi := ⟨some 88, _, _, _, _, _⟩) (v := ?_) rfl (by kernel_rfl) (by kernel_rfl) (by kernel_rfl) (fun _ _ _ h => h) (Or.inl ⟨by rfl, ?_⟩) hHeld ?_
            rotate_left
            · intro W hW; go_simp <;> with_reducible rfl
            simp only [Act.put, List.setIfInBounds_toArray, List.set_cons_zero, List.set_cons_succ]
            refine wpAnyH_take (i := 5) (oi := ⟨some 89, _, _, _, _, _⟩) (v := ?_) rfl (by kernel_rfl) (by kernel_rfl) (by kernel_rfl) (fun _ _ _ h => h) (Or.inl ⟨by rfl, ?_⟩) hHeld ?_
            rotate_left
            · intro W hW; go_simp <;> with_reducible rfl
            simp only [Act.put, List.setIfInBounds_toArray, List.set_cons_zero, List.set_cons_succ]
            refine wpAnyH_take (i := 6) (oi := ⟨some 90, _, _, _, _, _⟩) (v := ?_) rfl (by kernel_rfl) (by kernel_rfl) (by kernel_rfl) (fun _ _ _ h => h) (Or.inl ⟨by rfl, ?_⟩) hHeld ?_
            rotate_left
            · intro W hW; go_simp <;> with_reducible rfl
            simp only [Act.put, List.setIfInBounds_toArray, List.set_cons_zero, List.set_cons_succ]
            refine wpAnyH_take (i := 7) (oi := ⟨some 91, _, _, _, _, _⟩) (v := ?_) rfl (by kernel_rfl) (by kernel_rfl) (by kernel_rfl) (fun _ _ _ h => h) (Or.inl ⟨by rfl, ?_⟩) hHeld ?_
            rotate_left
            · intro W hW; go_simp <;> with_reducible rfl
            simp only [Act.put, List.setIfInBounds_toArray, List.set_cons_zero, List.set_cons_succ]
            refine wpAnyH_take (i := 8) (oi := ⟨some 92, _, _, _, _, _⟩) (v := ?_) rfl (by kernel_rfl) (by kernel_rfl) (by kernel_rfl) (fun _ _ _ h => h) (Or.inl ⟨by rfl, ?_⟩) hHeld ?_
            rotate_left
            · intro W hW; go_simp <;> with_reducible rfl
            simp only [Act.put, List.setIfInBounds_toArray, List.set_cons_zero, List.set_cons_succ]
            refine wpAnyH_take (i := 9) (oi := ⟨some 93, _, _, _, _, _⟩) (v := ?_) rfl (by kernel_rfl) (by kernel_rfl) (by kernel_rfl) (fun _ _ _ h => h) (Or.inl ⟨by rfl, ?_⟩) hHeld ?_
            rotate_left
            · intro W hW; go_simp <;> with_reducible rfl
            simp only [Act.put, List.setIfInBounds_toArray, List.set_cons_zero, List.set_cons_succ]
            refine wpAnyH_take (i := 10) (oi := ⟨some 94, _, _, _, _, _⟩) (v := ?_) rfl (by kernel_rfl) (by kernel_rfl) (by kernel_rfl) (fun _ _ _ h => h) (Or.inl ⟨by rfl, ?_⟩) hHeld ?_
            rotate_left
            · intro W hW; go_simp <;> with_reducible rfl
            simp only [Act.put, List.setIfInBounds_toArray, List.set_cons_zero, List.set_cons_succ]
            refine wpAnyH_take (i := 11) (oi := ⟨some 95, _, _, _, _, _⟩) (v := ?_) rfl (by kernel_rfl) (by kernel_rfl) (by kernel_rfl) (fun _ _ _ h => h) (Or.inl ⟨by rfl, ?_⟩) hHeld ?_
            rotate_left
            · intro W hW; go_simp <;> with_reducible rfl
            simp only [Act.put, List.setIfInBounds_toArray, List.set_cons_zero, List.set_cons_succ]
            refine wpAnyH_ready (rs := [12]) (by kernel_rfl) (by simp) (AllReadyH.cons rfl (fun K1 hK1 => ?_) AllReadyH.nil)
            go_simp
            refine hK1.out _ _ trivial (fun hHeld => ?_)
            clear hK1 K1
            refine wpAnyH_take (i := 13) (oi := ⟨some 97, _, _, _, _, _⟩) (v := ?_) rfl (by kernel_rfl) (by kernel_rfl) (by kernel_rfl) (fun _ _ _ h => h) (Or.inl ⟨by rfl, ?_⟩) hHeld ?_
            rotate_left
            · intro W hW; go_simp <;> with_reducible rfl
            simp only [Act.put, List.setIfInBounds_toArray, List.set_cons_zero, List.set_cons_succ]
            refine wpAnyH_ready (rs := [14]) (by kernel_rfl) (by simp) (AllReadyH.cons rfl (fun K1 hK1 => ?_) AllReadyH.nil)
            refine step_copy rfl _ _ rfl db 3 1024 1024 2053 mm (1024 - u) mm ⟨db, 3 + u, none⟩ 69 _ (bl.drop u) rfl rfl ROW2.out HBD.out HMM.out HSRC.out (by omega) ?_
            intro w3 f3 hrow3 hon3 hlow3 htxt3
            have t27 : w3.cell? ⟨db, 1027, none⟩ = some (.int .i64 (nb : Int)) := by
              rw [hrow3.cell (by omega), hlow3 1027 (by omega), if_neg (by omega), if_neg (by omega), HLOW1.out 1027 (by omega), HDS.out.fn, HNB.out]
            have v27 := hrow3.frozen 1027
            have HROW3 := Lib.hid hrow3
            have HON3 := Lib.hid (show Only db W2 w3 from ⟨hon3.os, hon3.tape, hon3.output, hon3.size, hon3.block⟩)
            have HLOW3 := Lib.hid hlow3
            have HTXT3 := Lib.hid htxt3
            refine hK1.out _ _ trivial (fun hHeld => ?_)
            clear hK1 K1 hrow3 hon3 hlow3 htxt3
            refine wpAnyH_take (i := 15) (oi := ⟨some 99, _, _, _, _, _⟩) (v := ?_) rfl (by kernel_rfl) (by kernel_rfl) (by kernel_rfl) (fun _ _ _ h => h) (Or.inl ⟨by rfl, ?_⟩) hHeld ?_
            rotate_left
            · intro W hW; go_simp <;> with_reducible rfl
            simp only [Act.put, List.setIfInBounds_toArray]
            refine wpAnyH_take (i := 16) (oi := ⟨some 100, _, _, _, _, _⟩) (v := ?_) rfl (by kernel_rfl) (by kernel_rfl) (by kernel_rfl) (fun _ _ _ h => h) (Or.inl ⟨by rfl, ?_⟩) hHeld ?_
            rotate_left
            · intro W hW; go_simp <;> with_reducible rfl
            simp only [Act.put]
            refine wpAnyH_ready (rs := [17]) (by kernel_rfl) (by simp) (AllReadyH.cons rfl (fun K1 hK1 => ?_) AllReadyH.nil)
            go_simp
            refine hK1.out _ _ trivial (fun hHeld => ?_)
            clear hK1 K1
            refine wpAnyH_done (by kernel_rfl) ?_ _
            go_wp2
            obtain ⟨f4, hD4⟩ := HDS.out.fill hrd HON1.out HLOW1.out HOL.out (by omega) HLT1.out HTXT1.out (by rw [HNB.out]; exact huN) (by rw [HNB.out]; exact hmm) (show Only db ((w1.setCell ⟨db, 0, none⟩ .nilIface).setCell ⟨db, 1028, none⟩ (.slice (some ⟨db, 1029, none⟩) no2 1024)) w3 from HW2.out ▸ HON3.out) HROW3.out HLOW3.out HTXT3.out
            have hF4 : Few [db, rb] w (w3.setCell ⟨db, 1027, none⟩ (.int .i64 (mm : Int))) := ((HFW.out.trans (HON1.out.few (by simp))).trans ((((Few.refl [db, rb] w1).set (by simp) 0 .nilIface).set (by simp) 1028 (.slice (some ⟨db, 1029, none⟩) no2 1024)).trans (HW2.out ▸ HON3.out.few (by simp)))).set (by simp) 1027 _
            have hS4 := HST0.out.few hF4 (by simp [HST0.out.sd, HST0.out.sr]) (by simp [HST0.out.td, HST0.out.tr])
            exact ⟨⟨⟨rfl, rfl⟩, f4, _, _, _, _, _, _, ⟨hS4, hD4, HI2.out, hF4⟩⟩, lt_of_eq_of_lt (show toDo db rb N _ = _ from hD4.toDo) (by rw [HDS.out.toDo, HOL.out]; simp; omega)⟩
        · obtain rfl : o = [] := List.eq_nil_of_length_eq_zero (by omega)
          obtain ⟨hdig, hle4⟩ := hpt.2.2 rfl (by omega)
          rw [HNB.out] at hle4
          have hpN : p < N := by
            have := HSI.out.left HC.out hc1 hc2 hdig
            rw [HTN.out] at this
            exact this
          have hnb4 : nb ≤ 4 := hle4
          clear hdg hI2 hpt hno2 hdig HI2
          as_aux_lemma =>
            have hslO := cut1024 db 3 nb (by omega)
            have HBB := Lib.hid (HDS.out.bs HNB.out)
            go_wp2_with fail
            refine wp_region_held_drew (S := fun W => W.cell? ⟨db, 1, none⟩ = some .nilIface ∧ W.cell? ⟨db, 1027, none⟩ = some (.int .i64 (nb : Int))) (by kernel_rfl) ⟨k1, kn⟩ (fun hHeld => ?_)
            refine wpAnyH_take (i := 0) (oi := ⟨some 50, _, _, _, _, _⟩) (v := ?_) rfl (by kernel_rfl) (by kernel_rfl) (by kernel_rfl) (fun _ _ _ h => h) (Or.inl ⟨by rfl, ?_⟩) hHeld ?_
            rotate_left
            · intro W hW; obtain ⟨hW1, hW2⟩ := hW; go_simp <;> with_reducible rfl
            simp only [Act.put, List.setIfInBounds_toArray, List.set_cons_zero, List.set_cons_succ]
            refine wpAnyH_take (i := 1) (oi := ⟨some 51, _, _, _, _, _⟩) (v := ?_) rfl (by kernel_rfl) (by kernel_rfl) (by kernel_rfl) (fun _ _ _ h => h) (Or.inl ⟨by rfl, ?_⟩) hHeld ?_
            rotate_left
            · intro W hW; obtain ⟨hW1, hW2⟩ := hW; go_simp <;> with_reducible rfl
            simp only [Act.put, List.setIfInBounds_toArray, List.set_cons_zero, List.set_cons_succ]
            refine wpAnyH_take (i := 2) (oi := ⟨some 52, _, _, _, _, _⟩) (v := ?_) rfl (by kernel_rfl) (by kernel_rfl) (by kernel_rfl) (fun _ _ _ h => h) (Or.inl ⟨by rfl, ?_⟩) hHeld ?_
            rotate_left
            · intro W hW; obtain ⟨hW1, hW2⟩ := hW; go_simp <;> with_reducible rfl
            simp only [Act.put, List.setIfInBounds_toArray, List.set_cons_zero, List.set_cons_succ]
            refine wpAnyH_take (i := 3) (oi := ⟨some 53, _, _, _, _, _⟩) (v := ?_) rfl (by kernel_rfl) (by kernel_rfl) (by kernel_rfl) (fun _ _ _ h => h) (Or.inl ⟨by rfl, ?_⟩) hHeld ?_
            rotate_left
            · intro W hW; obtain ⟨hW1, hW2⟩ := hW; go_simp <;> with_reducible rfl
            simp only [Act.put, List.setIfInBounds_toArray, List.set_cons_zero, List.set_cons_succ]
            refine wpAnyH_take (i := 4) (oi := ⟨some 54, _, _, _, _, _⟩) (v := ?_) rfl (by kernel_rfl) (by kernel_rfl) (by kernel_rfl) (fun _ _ _ h => h) (Or.inl ⟨by rfl, ?_⟩) hHeld ?_
            rotate_left
            · intro W hW; obtain ⟨hW1, hW2⟩ := hW; go_simp <;> with_reducible rfl
            simp only [Act.put, List.setIfInBounds_toArray, List.set_cons_zero, List.set_cons_succ]
            refine wpAnyH_take (i := 5) (oi := ⟨some 55, _, _, _, _, _⟩) (v := ?_) rfl (by kernel_rfl) (by kernel_rfl) (by kernel_rfl) (fun _ _ _ h => h) (Or.inl ⟨by rfl, ?_⟩) hHeld ?_
            rotate_left
            · intro W hW; obtain ⟨hW1, hW2⟩ := hW; go_simp <;> with_reducible rfl
            simp only [Act.put, List.setIfInBounds_toArray, List.set_cons_zero, List.set_cons_succ]
            refine wpAnyH_take (i := 6) (oi := ⟨some 56, _, _, _, _, _⟩) (v := ?_) rfl (by kernel_rfl) (by kernel_rfl) (by kernel_rfl) (fun _ _ _ h => h) (Or.inl ⟨by rfl, ?_⟩) hHeld ?_
            rotate_left
            · intro W hW; obtain ⟨hW1, hW2⟩ := hW; go_simp <;> with_reducible rfl
            simp only [Act.put, List.setIfInBounds_toArray, List.set_cons_zero, List.set_cons_succ]
            refine wpAnyH_take (i := 7) (oi := ⟨some 57, _, _, _, _, _⟩) (v := ?_) rfl (by kernel_rfl) (by kernel_rfl) (by kernel_rfl) (fun _ _ _ h => h) (Or.inl ⟨by rfl, ?_⟩) hHeld ?_
            rotate_left
            · intro W hW; obtain ⟨hW1, hW2⟩ := hW; go_simp <;> with_reducible rfl
            simp only [Act.put, List.setIfInBounds_toArray, List.set_cons_zero, List.set_cons_succ]
            refine wpAnyH_take (i := 8) (oi := ⟨some 58, _, _, _, _, _⟩) (v := ?_) rfl (by kernel_rfl) (by kernel_rfl) (by kernel_rfl) (fun _ _ _ h => h) (Or.inl ⟨by rfl, ?_⟩) hHeld ?_
            rotate_left
            · intro W hW; obtain ⟨hW1, hW2⟩ := hW; go_simp <;> with_reducible rfl
            simp only [Act.put, List.setIfInBounds_toArray, List.set_cons_zero, List.set_cons_succ]
            refine wpAnyH_take (i := 9) (oi := ⟨some 59, _, _, _, _, _⟩) (v := ?_) rfl (by kernel_rfl) (by kernel_rfl) (by kernel_rfl) (fun _ _ _ h => h) (Or.inl ⟨by rfl, ?_⟩) hHeld ?_
            rotate_left
            · intro W hW; obtain ⟨hW1, hW2⟩ := hW; go_simp <;> with_reducible rfl
            simp only [Act.put, List.setIfInBounds_toArray, List.set_cons_zero, List.set_cons_succ]
            refine wpAnyH_take (i := 10) (oi := ⟨some 60, _, _, _, _, _⟩) (v := ?_) rfl (by kernel_rfl) (by kernel_rfl) (by kernel_rfl) (fun _ _ _ h => h) (Or.inl ⟨by rfl, ?_⟩) hHeld ?_
            rotate_left
            · intro W hW; obtain ⟨hW1, hW2⟩ := hW; go_simp <;> with_reducible rfl
            simp only [Act.put, List.setIfInBounds_toArray, List.set_cons_zero, List.set_cons_succ]
            refine wpAnyH_take (i := 11) (oi := ⟨some 61, _, _, _, _, _⟩) (v := ?_) rfl (by kernel_rfl) (by kernel_rfl) (by kernel_rfl) (fun _ _ _ h => h) (Or.inl ⟨by rfl, ?_⟩) hHeld ?_
            rotate_left
            · intro W hW; obtain ⟨hW1, hW2⟩ := hW; go_simp <;> with_reducible rfl
            simp only [Act.put, List.setIfInBounds_toArray, List.set_cons_zero, List.set_cons_succ]
            refine wpAnyH_take (i := 12) (oi := ⟨some 62, _, _, _, _, _⟩) (v := ?_) rfl (by kernel_rfl) (by kernel_rfl) (by kernel_rfl) (fun _ _ _ h => h) (Or.inl ⟨by rfl, ?_⟩) hHeld ?_
            rotate_left
            · intro W hW; obtain ⟨hW1, hW2⟩ := hW; go_simp <;> with_reducible rfl
            simp only [Act.put, List.setIfInBounds_toArray, List.set_cons_zero, List.set_cons_succ]
            refine wpAnyH_take (i := 13) (oi := ⟨some 63, _, _, _, _, _⟩) (v := ?_) rfl (by kernel_rfl) (by kernel_rfl) (by kernel_rfl) (fun _ _ _ h => h) (Or.inl ⟨by rfl, ?_⟩) hHeld ?_
            rotate_left
            · intro W hW; obtain ⟨hW1, hW2⟩ := hW; go_simp <;> with_reducible rfl
            simp only [Act.put, List.setIfInBounds_toArray, List.set_cons_zero, List.set_cons_succ]
            refine wpAnyH_take (i := 14) (oi := ⟨some 64, _, _, _, _, _⟩) (v := ?_) rfl (by kernel_rfl) (by kernel_rfl) (by kernel_rfl) (fun _ _ _ h => h) (Or.inl ⟨by rfl, ?_⟩) hHeld ?_
            rotate_left
            · intro W hW; obtain ⟨hW1, hW2⟩ := hW; go_simp <;> with_reducible rfl
            simp only [Act.put, List.setIfInBounds_toArray, List.set_cons_zero, List.set_cons_succ]
            refine wpAnyH_take (i := 15) (oi := ⟨some 65, _, _, _, _, _⟩) (v := ?_) rfl (by kernel_rfl) (by kernel_rfl) (by kernel_rfl) (fun _ _ _ h => h) (Or.inl ⟨by rfl, ?_⟩) hHeld ?_
            rotate_left
            · intro W hW; obtain ⟨hW1, hW2⟩ := hW; go_simp <;> with_reducible rfl
            simp only [Act.put, List.setIfInBounds_toArray, List.set_cons_zero, List.set_cons_succ]
            refine wpAnyH_take (i := 16) (oi := ⟨some 66, _, _, _, _, _⟩) (v := ?_) rfl (by kernel_rfl) (by kernel_rfl) (by kernel_rfl) (fun _ _ _ h => h) (Or.inl ⟨by rfl, ?_⟩) hHeld ?_
            rotate_left
            · intro W hW; obtain ⟨hW1, hW2⟩ := hW; go_simp <;> with_reducible rfl
            simp only [Act.put, List.setIfInBounds_toArray, List.set_cons_zero, List.set_cons_succ]
            refine wpAnyH_take (i := 17) (oi := ⟨some 67, _, _, _, _, _⟩) (v := ?_) rfl (by kernel_rfl) (by kernel_rfl) (by kernel_rfl) (fun _ _ _ h => h) (Or.inl ⟨by rfl, ?_⟩) hHeld ?_
            rotate_left
            · intro W hW; obtain ⟨hW1, hW2⟩ := hW; go_simp <;> with_reducible rfl
            simp only [Act.put, List.setIfInBounds_toArray, List.set_cons_zero, List.set_cons_succ]
            refine wpAnyH_ready (rs := [18]) (by kernel_rfl) (by simp) (AllReadyH.cons rfl (fun K1 hK1 => ?_) AllReadyH.nil)
            go_simp
            refine (decode_any db 1029 1024 1024 2053 69 f (some ⟨db, 3, none⟩) nb 1024 bl false wr.drew wr.heap.size HDS.out.row.drew (by omega) (by omega) (by unfold maxLen; omega) HBB.out.drew (by omega) (by unfold maxLen; omega) (fun _ b' o' e' _ => by injection e' with e'; injection e' with _ e2; omega)).mono ?_
            rintro e w1 ⟨f1, hrow1, hon1, hlow1, hres⟩
            rw [HDG.out] at hres
            simp only at hres
            obtain ⟨rfl, _, _, _⟩ := hres
            have s1 : w1.cell? ⟨db, 1, none⟩ = some .nilIface := by rw [hrow1.cell (by omega), hlow1 1 (by omega), HDS.out.f1]
            have sn : w1.cell? ⟨db, 1027, none⟩ = some (.int .i64 (nb : Int)) := by rw [hrow1.cell (by omega), hlow1 1027 (by omega), HDS.out.fn, HNB.out]
            have s0 : w1.cell? ⟨db, 0, none⟩ = some .nilIface := by rw [hrow1.cell (by omega), hlow1 0 (by omega), HDS.out.f0]
            have u0 := hrow1.frozen 0
            have ho1 : Only db wr w1 := ⟨hon1.os, hon1.tape, hon1.output, hon1.size, hon1.block⟩
            have HROW1 := Lib.hid hrow1
            have HON1 := Lib.hid ho1
            have HLOW1 := Lib.hid hlow1
            refine hK1.out _ _ ⟨s1, sn⟩ (fun hHeld => ?_)
            clear hK1 K1 hrow1 hon1 hlow1 ho1 
            refine wpAnyH_take (i := 19) (oi := ⟨some 49, _, _, _, _, _⟩) (v := ?_) rfl (by kernel_rfl) (by kernel_rfl) (by kernel_rfl) (fun _ _ _ h => h) (Or.inl ⟨by rfl, ?_⟩) hHeld ?_
            rotate_left
            · intro W hW; obtain ⟨hW1, hW2⟩ := hW; go_simp <;> with_reducible rfl
            simp only [Act.put, List.setIfInBounds_toArray, List.set_cons_zero, List.set_cons_succ]
            refine wpAnyH_take (i := 20) (oi := ⟨some 69, _, _, _, _, _⟩) (v := ?_) rfl (by kernel_rfl) (by kernel_rfl) (by kernel_rfl) (fun _ _ _ h => h) (Or.inl ⟨by rfl, ?_⟩) hHeld ?_
            rotate_left
            · intro W hW; obtain ⟨hW1, hW2⟩ := hW; go_simp <;> with_reducible rfl
            simp only [Act.put, List.setIfInBounds_toArray, List.set_cons_zero, List.set_cons_succ]
            refine wpAnyH_take (i := 21) (oi := ⟨some 70, _, _, _, _, _⟩) (v := ?_) rfl (by kernel_rfl) (by kernel_rfl) (by kernel_rfl) (fun _ _ _ h => h) (Or.inl ⟨by rfl, ?_⟩) hHeld ?_
            rotate_left
            · intro W hW; obtain ⟨hW1, hW2⟩ := hW; go_simp <;> with_reducible rfl
            simp only [Act.put, List.setIfInBounds_toArray, List.set_cons_zero, List.set_cons_succ]
            refine wpAnyH_take (i := 22) (oi := ⟨some 71, _, _, _, _, _⟩) (v := ?_) rfl (by kernel_rfl) (by kernel_rfl) (by kernel_rfl) (fun _ _ _ h => h) (Or.inl ⟨by rfl, ?_⟩) hHeld ?_
            rotate_left
            · intro W hW; obtain ⟨hW1, hW2⟩ := hW; go_simp <;> with_reducible rfl
            simp only [Act.put, List.setIfInBounds_toArray, List.set_cons_zero, List.set_cons_succ]
            refine wpAnyH_take (i := 23) (oi := ⟨some 8, _, _, _, _, _⟩) (v := ?_) rfl (by kernel_rfl) (by kernel_rfl) (by kernel_rfl) (fun _ _ _ h => h) (Or.inl ⟨by rfl, ?_⟩) hHeld ?_
            rotate_left
            · intro W hW; obtain ⟨hW1, hW2⟩ := hW; go_simp <;> with_reducible rfl
            simp only [Act.put, List.setIfInBounds_toArray, List.set_cons_zero, List.set_cons_succ]
            refine wpAnyH_take (i := 24) (oi := ⟨some 7, _, _, _, _, _⟩) (v := ?_) rfl (by kernel_rfl) (by kernel_rfl) (by kernel_rfl) (fun _ _ _ h => h) (Or.inl ⟨by rfl, ?_⟩) hHeld ?_
            rotate_left
            · intro W hW; obtain ⟨hW1, hW2⟩ := hW; go_simp <;> with_reducible rfl
            simp only [Act.put, List.setIfInBounds_toArray, List.set_cons_zero, List.set_cons_succ]
            refine wpAnyH_take (i := 25) (oi := ⟨some 72, _, _, _, _, _⟩) (v := ?_) rfl (by kernel_rfl) (by kernel_rfl) (by kernel_rfl) (fun _ _ _ h => h) (Or.inl ⟨by rfl, ?_⟩) hHeld ?_
            rotate_left
            · intro W hW; obtain ⟨hW1, hW2⟩ := hW; go_simp <;> with_reducible rfl
            simp only [Act.put, List.setIfInBounds_toArray, List.set_cons_zero, List.set_cons_succ]
            refine wpAnyH_take (i := 26) (oi := ⟨some 73, _, _, _, _, _⟩) (v := ?_) rfl (by kernel_rfl) (by kernel_rfl) (by kernel_rfl) (fun _ _ _ h => h) (Or.inl ⟨by rfl, ?_⟩) hHeld ?_
            rotate_left
            · intro W hW; obtain ⟨hW1, hW2⟩ := hW; go_simp <;> with_reducible rfl
            simp only [Act.put, List.setIfInBounds_toArray, List.set_cons_zero, List.set_cons_succ]
            refine wpAnyH_ready (rs := [27]) (by kernel_rfl) (by simp) (AllReadyH.cons rfl (fun K1 hK1 => ?_) AllReadyH.nil)
            go_simp
            refine hK1.out _ _ ⟨(World.cell?_setCell_other _ ⟨db, 0, none⟩ ⟨db, 1, none⟩ _ (by simp)).trans s1, (World.cell?_setCell_other _ ⟨db, 0, none⟩ ⟨db, 1027, none⟩ _ (by simp)).trans sn⟩ (fun hHeld => ?_)
            clear hK1 K1
            refine wpAnyH_done (by kernel_rfl) ?_ _
            have hrowz := HROW1.out.set 0 .nilIface
            have HZ := Lib.hid hrowz
            clear hrowz
            obtain ⟨wo, rfl⟩ : ∃ wo : World, wo = wr := ⟨_, rfl⟩
            go_wp2
            go_loopw [9, 10] (fun off i wi => FtRel (w1.setCell ⟨db, 0, none⟩ .nilIface) db nb (fun j => if j = 0 then .nilIface else f1 j) off i wi) (fun _ i _ => nb - (intOf i).toNat)
            case atStart => exact ⟨0, _, Nat.zero_le _, rfl, rfl, HZ.out.drew, fun _ => rfl, ⟨rfl, rfl, rfl, rfl, fun _ _ => rfl⟩⟩
            case round =>
              obtain ⟨k, f2, hknb, rfl, rfl, hrow2, heq2, hon2⟩ := hrel
              obtain ⟨wi, rfl⟩ : ∃ wi : World, wi = wr := ⟨_, rfl⟩
              have heq2 : ∀ j, f2 j = (if j = 0 then .nilIface else f1 j) := heq2
              have w27 : wi.cell? ⟨db, 1027, none⟩ = some (.int .i64 (nb : Int)) := by rw [hrow2.cell (by omega), heq2 1027, if_neg (by omega), HLOW1.out 1027 (by omega), HDS.out.fn, HNB.out]
              have w0 : wi.cell? ⟨db, 0, none⟩ = some .nilIface := by rw [hrow2.cell (by omega), heq2 0, if_pos rfl]
              have w1' : wi.cell? ⟨db, 1, none⟩ = some .nilIface := by rw [hrow2.cell (by omega), heq2 1, if_neg (by omega), HLOW1.out 1 (by omega), HDS.out.f1]
              have x27 := hrow2.frozen 1027
              have HROW2 := Lib.hid hrow2
              have HEQ2 := Lib.hid heq2
              have HON2 := Lib.hid hon2
              by_cases hk : k < nb
              · obtain ⟨x, hx⟩ : ∃ x, bl.getD k 0 = x := ⟨_, rfl⟩
                have hx1 : 32 < x := by
                  rw [← hx, List.getD_eq_getElem?_getD, List.getElem?_eq_getElem (by rw [HNB.out]; exact hk)]
                  exact HG32.out _ (List.getElem_mem _)
                have hx2 : x < 256 := by rw [← hx]; exact getD_lt HDS.out.blt k
                have hfx : (if 3 + k = 0 then Value.nilIface else f1 (3 + k)) = .int .u8 (x : Int) := by rw [if_neg (by omega), HLOW1.out (3 + k) (by omega), HDS.out.fb k (by rw [HNB.out]; exact hk), hx]
                have cX : wi.cell? ⟨db, 3 + k, none⟩ = some (.int .u8 (x : Int)) := by rw [hrow2.cell (by omega), heq2 (3 + k), hfx]
                have fX := hrow2.frozen (3 + k)
                have e1 : decide ((k : Int) < (nb : Int)) = true := decide_eq_true (by omega)
                have e2 : decide (32 < (x : Int)) = true := decide_eq_true (by omega)
                have hki : (k : Int) < 1024 := by omega
                have HFX := Lib.hid hfx
                clear hrow2 heq2 hon2 hx hfx
                go_wp2_with fail
                refine wp_region_held_drew (S := fun W => W.cell? ⟨db, 3 + k, none⟩ = some (.int .u8 (x : Int))) (by kernel_rfl) cX (fun hHeld => ?_)
                refine wpAnyH_take (i := 0) (oi := ⟨some 125, _, _, _, _, _⟩) (v := ?_) rfl (by kernel_rfl) (by kernel_rfl) (by kernel_rfl) (fun _ _ _ h => h) (Or.inl ⟨by rfl, ?_⟩) hHeld ?_
                rotate_left
                · intro W hW; go_simp <;> with_reducible rfl
                simp only [Act.put, List.setIfInBounds_toArray, List.set_cons_zero, List.set_cons_succ]
                refine wpAnyH_take (i := 1) (oi := ⟨some 126, _, _, _, _, _⟩) (v := ?_) rfl (by kernel_rfl) (by kernel_rfl) (by kernel_rfl) (fun _ _ _ h => h) (Or.inl ⟨by rfl, ?_⟩) hHeld ?_
                rotate_left
                · intro W hW; go_simp <;> with_reducible rfl
                simp only [Act.put, List.setIfInBounds_toArray, List.set_cons_zero, List.set_cons_succ]
                refine wpAnyH_take (i := 2) (oi := ⟨some 127, _, _, _, _, _⟩) (v := ?_) rfl (by kernel_rfl) (by kernel_rfl) (by kernel_rfl) (fun _ _ _ h => h) (Or.inl ⟨by rfl, ?_⟩) hHeld ?_
                rotate_left
                · intro W hW; go_simp <;> with_reducible rfl
                simp only [Act.put, List.setIfInBounds_toArray, List.set_cons_zero, List.set_cons_succ]
                refine wpAnyH_take (i := 3) (oi := ⟨some 128, _, _, _, _, _⟩) (v := ?_) rfl (by kernel_rfl) (by kernel_rfl) (by kernel_rfl) (fun _ _ _ h => h) (Or.inl ⟨by rfl, ?_⟩) hHeld ?_
                rotate_left
                · intro W hW; go_simp <;> with_reducible rfl
                simp only [Act.put, List.setIfInBounds_toArray, List.set_cons_zero, List.set_cons_succ]
                refine wpAnyH_take (i := 4) (oi := ⟨some 129, _, _, _, _, _⟩) (v := ?_) rfl (by kernel_rfl) (by kernel_rfl) (by kernel_rfl) (fun _ _ _ h => h) (Or.inl ⟨by rfl, ?_⟩) hHeld ?_
                rotate_left
                · intro W hW; go_simp <;> with_reducible rfl
                simp only [Act.put, List.setIfInBounds_toArray, List.set_cons_zero, List.set_cons_succ]
                refine wpAnyH_take (i := 5) (oi := ⟨some 130, _, _, _, _, _⟩) (v := ?_) rfl (by kernel_rfl) (by kernel_rfl) (by kernel_rfl) (fun _ _ _ h => h) (Or.inl ⟨by rfl, ?_⟩) hHeld ?_
                rotate_left
                · intro W hW; go_simp <;> with_reducible rfl
                simp only [Act.put, List.setIfInBounds_toArray, List.set_cons_zero, List.set_cons_succ]
                refine wpAnyH_take (i := 6) (oi := ⟨some 131, _, _, _, _, _⟩) (v := ?_) rfl (by kernel_rfl) (by kernel_rfl) (by kernel_rfl) (fun _ _ _ h => h) (Or.inl ⟨by rfl, ?_⟩) hHeld ?_
                rotate_left
                · intro W hW; go_simp <;> with_reducible rfl
                simp only [Act.put, List.setIfInBounds_toArray, List.set_cons_zero, List.set_cons_succ]
                refine wpAnyH_take (i := 7) (oi := ⟨some 132, _, _, _, _, _⟩) (v := ?_) rfl (by kernel_rfl) (by kernel_rfl) (by kernel_rfl) (fun _ _ _ h => h) (Or.inl ⟨by rfl, ?_⟩) hHeld ?_
                rotate_left
                · intro W hW; go_simp <;> with_reducible rfl
                simp only [Act.put, List.setIfInBounds_toArray, List.set_cons_zero, List.set_cons_succ]
                refine wpAnyH_take (i := 8) (oi := ⟨some 133, _, _, _, _, _⟩) (v := ?_) rfl (by kernel_rfl) (by kernel_rfl) (by kernel_rfl) (fun _ _ _ h => h) (Or.inl ⟨by rfl, ?_⟩) hHeld ?_
                rotate_left
                · intro W hW; go_simp <;> with_reducible rfl
                simp only [Act.put, List.setIfInBounds_toArray, List.set_cons_zero, List.set_cons_succ]
                refine wpAnyH_take (i := 9) (oi := ⟨some 134, _, _, _, _, _⟩) (v := ?_) rfl (by kernel_rfl) (by kernel_rfl) (by kernel_rfl) (fun _ _ _ h => h) (Or.inl ⟨by rfl, ?_⟩) hHeld ?_
                rotate_left
                · intro W hW; go_simp <;> with_reducible rfl
                simp only [Act.put, List.setIfInBounds_toArray, List.set_cons_zero, List.set_cons_succ]
                refine wpAnyH_take (i := 10) (oi := ⟨some 135, _, _, _, _, _⟩) (v := ?_) rfl (by kernel_rfl) (by kernel_rfl) (by kernel_rfl) (fun _ _ _ h => h) (Or.inl ⟨by rfl, ?_⟩) hHeld ?_
                rotate_left
                · intro W hW; go_simp <;> with_reducible rfl
                simp only [Act.put, List.setIfInBounds_toArray, List.set_cons_zero, List.set_cons_succ]
                refine wpAnyH_ready (rs := [11]) (by kernel_rfl) (by simp) (AllReadyH.cons rfl (fun K1 hK1 => ?_) AllReadyH.nil)
                go_simp
                refine hK1.out _ _ (show (wi.setCell ⟨db, 3 + k, none⟩ (.int .u8 (x : Int))).cell? ⟨db, 3 + k, none⟩ = some (.int .u8 (x : Int)) by rw [(HROW2.out.set (3 + k) _).cell (by omega), if_pos rfl]) (fun hHeld => ?_)
                clear hK1 K1
                refine wpAnyH_done (by kernel_rfl) ?_ _
                go_wp2
                refine ⟨⟨k + 1, _, hk, by simp, by simp, (HROW2.out.set (3 + k) (.int .u8 (x : Int))).drew, fun j => ?_, (show Only db (w1.setCell ⟨db, 0, none⟩ .nilIface) _ from ⟨HON2.out.os, HON2.out.tape, HON2.out.output, ((HON2.out.set (3 + k) (.int .u8 (x : Int)))).size, (HON2.out.set (3 + k) (.int .u8 (x : Int))).block⟩)⟩, by simp [intOf]; omega⟩
                by_cases hj : j = 3 + k
                · rw [if_pos hj, hj]; exact HFX.out.symm
                · rw [if_neg hj]; exact HEQ2.out j
              · obtain rfl : k = nb := by omega
                have e1 : decide ((k : Int) < (k : Int)) = false := decide_eq_false (by omega)
                have hrbw : wi.heap[rb]? = wo.heap[rb]? := (hon2.block rb hrd).trans ((set_other hrd).trans (HON1.out.block rb hrd))
                obtain ⟨f4, hD⟩ : ∃ f4, DSt (wi.setCell ⟨db, 1027, none⟩ (.int .i64 (k : Int))) db sb rb tb ot N ct f4 bl [] Ao co p pv := ⟨_, HDS.out.sieve hrd HLOW1.out hrbw hrow2 HNB.out heq2⟩
                have hF : Few [db, rb] w (wi.setCell ⟨db, 1027, none⟩ (.int .i64 (k : Int))) := (((HFW.out.trans (HON1.out.few (by simp))).set (by simp) 0 .nilIface).trans (hon2.few (by simp))).set (by simp) 1027 _
                obtain ⟨W4, hW4⟩ : ∃ W4, wi.setCell ⟨db, 1027, none⟩ (.int .i64 (k : Int)) = W4 := ⟨_, rfl⟩
                rw [hW4] at hD hF
                have hSt := HST0.out.few hF (by simp [HST0.out.sd, HST0.out.sr]) (by simp [HST0.out.td, HST0.out.tr])
                have k2 : W4.cell? ⟨db, 2, none⟩ = some (.iface 52 (.pointer (some ⟨sb, 0, none⟩))) := by rw [hD.row.cell (by omega), hD.f2]
                have kn : W4.cell? ⟨db, 1027, none⟩ = some (.int .i64 (k : Int)) := by rw [hD.row.cell (by omega), hD.fn, HNB.out]
                have k0' : W4.cell? ⟨db, 0, none⟩ = some .nilIface := by rw [hD.row.cell (by omega), hD.f0]
                have k1' : W4.cell? ⟨db, 1, none⟩ = some .nilIface := by rw [hD.row.cell (by omega), hD.f1]
                have HD := Lib.hid hD
                have HF := Lib.hid hF
                have HS := Lib.hid hSt
                have HI := HSI
                clear hD hF hSt hrow2 heq2 hon2 hrbw
                have hslL := cutLow db 3 k (by omega)
                have m1 := sr_find ⟨sb, 0, none⟩
                have m2 := sr_enter
                have m3 := sr_ahead ⟨sb, 0, none⟩
                go_wp2_with fail
                refine wp_region_held_drew (S := fun W => W.cell? ⟨db, 2, none⟩ = some (.iface 52 (.pointer (some ⟨sb, 0, none⟩))) ∧ W.cell? ⟨db, 1027, none⟩ = some (.int .i64 (k : Int))) (by kernel_rfl) ⟨k2, kn⟩ (fun hHeld => ?_)
                refine wpAnyH_take (i := 0) (oi := ⟨some 168, _, _, _, _, _⟩) (v := ?_) rfl (by kernel_rfl) (by kernel_rfl) (by kernel_rfl) (fun _ _ _ h => h) (Or.inl ⟨by rfl, ?_⟩) hHeld ?_
                rotate_left
                · intro W hW; obtain ⟨hW1, hW2⟩ := hW; go_simp <;> with_reducible rfl
                simp only [Act.put, List.setIfInBounds_toArray, List.set_cons_zero, List.set_cons_succ]
                refine wpAnyH_take (i := 1) (oi := ⟨some 169, _, _, _, _, _⟩) (v := ?_) rfl (by kernel_rfl) (by kernel_rfl) (by kernel_rfl) (fun _ _ _ h => h) (Or.inl ⟨by rfl, ?_⟩) hHeld ?_
                rotate_left
                · intro W hW; obtain ⟨hW1, hW2⟩ := hW; go_simp <;> with_reducible rfl
                simp only [Act.put, List.setIfInBounds_toArray, List.set_cons_zero, List.set_cons_succ]
                refine wpAnyH_take (i := 2) (oi := ⟨some 170, _, _, _, _, _⟩) (v := ?_) rfl (by kernel_rfl) (by kernel_rfl) (by kernel_rfl) (fun _ _ _ h => h) (Or.inl ⟨by rfl, ?_⟩) hHeld ?_
                rotate_left
                · intro W hW; obtain ⟨hW1, hW2⟩ := hW; go_simp <;> with_reducible rfl
                simp only [Act.put, List.setIfInBounds_toArray, List.set_cons_zero, List.set_cons_succ]
                refine wpAnyH_take (i := 3) (oi := ⟨some 171, _, _, _, _, _⟩) (v := ?_) rfl (by kernel_rfl) (by kernel_rfl) (by kernel_rfl) (fun _ _ _ h => h) (Or.inl ⟨by rfl, ?_⟩) hHeld ?_
                rotate_left
                · intro W hW; obtain ⟨hW1, hW2⟩ := hW; go_simp <;> with_reducible rfl
                simp only [Act.put, List.setIfInBounds_toArray, List.set_cons_zero, List.set_cons_succ]
                refine wpAnyH_take (i := 4) (oi := ⟨some 172, _, _, _, _, _⟩) (v := ?_) rfl (by kernel_rfl) (by kernel_rfl) (by kernel_rfl) (fun _ _ _ h => h) (Or.inl ⟨by rfl, ?_⟩) hHeld ?_
                rotate_left
                · intro W hW; obtain ⟨hW1, hW2⟩ := hW; go_simp <;> with_reducible rfl
                simp only [Act.put, List.setIfInBounds_toArray, List.set_cons_zero, List.set_cons_succ]
                refine wpAnyH_take (i := 5) (oi := ⟨some 173, _, _, _, _, _⟩) (v := ?_) rfl (by kernel_rfl) (by kernel_rfl) (by kernel_rfl) (fun _ _ _ h => h) (Or.inl ⟨by rfl, ?_⟩) hHeld ?_
                rotate_left
                · intro W hW; obtain ⟨hW1, hW2⟩ := hW; go_simp <;> with_reducible rfl
                simp only [Act.put, List.setIfInBounds_toArray, List.set_cons_zero, List.set_cons_succ]
                refine wpAnyH_take (i := 6) (oi := ⟨some 174, _, _, _, _, _⟩) (v := ?_) rfl (by kernel_rfl) (by kernel_rfl) (by kernel_rfl) (fun _ _ _ h => h) (Or.inl ⟨by rfl, ?_⟩) hHeld ?_
                rotate_left
                · intro W hW; obtain ⟨hW1, hW2⟩ := hW; go_simp <;> with_reducible rfl
                simp only [Act.put, List.setIfInBounds_toArray, List.set_cons_zero, List.set_cons_succ]
                refine wpAnyH_take (i := 7) (oi := ⟨some 175, _, _, _, _, _⟩) (v := ?_) rfl (by kernel_rfl) (by kernel_rfl) (by kernel_rfl) (fun _ _ _ h => h) (Or.inl ⟨by rfl, ?_⟩) hHeld ?_
                rotate_left
                · intro W hW; obtain ⟨hW1, hW2⟩ := hW; go_simp <;> with_reducible rfl
                simp only [Act.put, List.setIfInBounds_toArray, List.set_cons_zero, List.set_cons_succ]
                refine wpAnyH_take (i := 8) (oi := ⟨some 176, _, _, _, _, _⟩) (v := ?_) rfl (by kernel_rfl) (by kernel_rfl) (by kernel_rfl) (fun _ _ _ h => h) (Or.inl ⟨by rfl, ?_⟩) hHeld ?_
                rotate_left
                · intro W hW; obtain ⟨hW1, hW2⟩ := hW; go_simp <;> with_reducible rfl
                simp only [Act.put, List.setIfInBounds_toArray, List.set_cons_zero, List.set_cons_succ]
                refine wpAnyH_take (i := 9) (oi := ⟨some 177, _, _, _, _, _⟩) (v := ?_) rfl (by kernel_rfl) (by kernel_rfl) (by kernel_rfl) (fun _ _ _ h => h) (Or.inl ⟨by rfl, ?_⟩) hHeld ?_
                rotate_left
                · intro W hW; obtain ⟨hW1, hW2⟩ := hW; go_simp <;> with_reducible rfl
                simp only [Act.put, List.setIfInBounds_toArray, List.set_cons_zero, List.set_cons_succ]
                refine wpAnyH_take (i := 10) (oi := ⟨some 178, _, _, _, _, _⟩) (v := ?_) rfl (by kernel_rfl) (by kernel_rfl) (by kernel_rfl) (fun _ _ _ h => h) (Or.inl ⟨by rfl, ?_⟩) hHeld ?_
                rotate_left
                · intro W hW; obtain ⟨hW1, hW2⟩ := hW; go_simp <;> with_reducible rfl
                simp only [Act.put, List.setIfInBounds_toArray, List.set_cons_zero, List.set_cons_succ]
                refine wpAnyH_take (i := 11) (oi := ⟨some 179, _, _, _, _, _⟩) (v := ?_) rfl (by kernel_rfl) (by kernel_rfl) (by kernel_rfl) (fun _ _ _ h => h) (Or.inl ⟨by rfl, ?_⟩) hHeld ?_
                rotate_left
                · intro W hW; obtain ⟨hW1, hW2⟩ := hW; go_simp <;> with_reducible rfl
                simp only [Act.put, List.setIfInBounds_toArray, List.set_cons_zero, List.set_cons_succ]
                refine wpAnyH_take (i := 12) (oi := ⟨some 180, _, _, _, _, _⟩) (v := ?_) rfl (by kernel_rfl) (by kernel_rfl) (by kernel_rfl) (fun _ _ _ h => h) (Or.inl ⟨by rfl, ?_⟩) hHeld ?_
                rotate_left
                · intro W hW; obtain ⟨hW1, hW2⟩ := hW; go_simp <;> with_reducible rfl
                simp only [Act.put, List.setIfInBounds_toArray, List.set_cons_zero, List.set_cons_succ]
                refine wpAnyH_take (i := 13) (oi := ⟨some 181, _, _, _, _, _⟩) (v := ?_) rfl (by kernel_rfl) (by kernel_rfl) (by kernel_rfl) (fun _ _ _ h => h) (Or.inl ⟨by rfl, ?_⟩) hHeld ?_
                rotate_left
                · intro W hW; obtain ⟨hW1, hW2⟩ := hW; go_simp <;> with_reducible rfl
                simp only [Act.put, List.setIfInBounds_toArray, List.set_cons_zero, List.set_cons_succ]
                refine wpAnyH_take (i := 14) (oi := ⟨some 182, _, _, _, _, _⟩) (v := ?_) rfl (by kernel_rfl) (by kernel_rfl) (by kernel_rfl) (fun _ _ _ h => h) (Or.inl ⟨by rfl, ?_⟩) hHeld ?_
                rotate_left
                · intro W hW; obtain ⟨hW1, hW2⟩ := hW; go_simp <;> with_reducible rfl
                simp only [Act.put, List.setIfInBounds_toArray, List.set_cons_zero, List.set_cons_succ]
                refine wpAnyH_ready (rs := [15]) (by kernel_rfl) (by simp) (AllReadyH.cons rfl (fun K1 hK1 => ?_) AllReadyH.nil)
                go_simp
                refine (source_read sb rb db (3 + k) (1024 - k) (1024 - k) 2053 pc 69 f4 tb ot N ct p pv T W4.drew HS.out.src HD.out.rd HS.out.tx.drew HS.out.nc HS.out.cm HD.out.row.drew (by omega) (Nat.le_refl _) (by unfold maxLen; omega) hpN hrd HS.out.tr HS.out.sr HS.out.sd).mono ?_
                rintro e w5 ⟨m, f', hm, rfl, hrb5, hrow5, hlow5, htxt5, hfew5⟩
                have hm4 : m ≤ 1024 - k := by rw [hm]; exact Nat.le_trans (Nat.min_le_right _ _) (Nat.min_le_right _ _)
                have hm1 : 1 ≤ m := by rw [hm]; exact Nat.le_min.2 ⟨by omega, Nat.le_min.2 ⟨HS.out.pc1, by omega⟩⟩
                have hmN : m ≤ N - p := by rw [hm]; exact Nat.min_le_left _ _
                have s2 : w5.cell? ⟨db, 2, none⟩ = some (.iface 52 (.pointer (some ⟨sb, 0, none⟩))) := by rw [hrow5.cell (by omega), hlow5 2 (by omega), HD.out.f2]
                have sn : w5.cell? ⟨db, 1027, none⟩ = some (.int .i64 (k : Int)) := by rw [hrow5.cell (by omega), hlow5 1027 (by omega), HD.out.fn, HNB.out]
                have s1 : w5.cell? ⟨db, 1, none⟩ = some .nilIface := by rw [hrow5.cell (by omega), hlow5 1 (by omega), HD.out.f1]
                have u1 := hrow5.frozen 1
                have un := hrow5.frozen 1027
                have HD5 := Lib.hid (HD.out.more HS.out HNB.out hnb4 hm hrb5 hrow5 hlow5 htxt5)
                have HF5 := Lib.hid (few_turn hfew5)
                refine hK1.out _ _ ⟨s2, sn⟩ (fun hHeld => ?_)
                clear hK1 K1 hm hrb5 hrow5 hlow5 htxt5 hfew5
                refine wpAnyH_take (i := 16) (oi := ⟨some 167, _, _, _, _, _⟩) (v := ?_) rfl (by kernel_rfl) (by kernel_rfl) (by kernel_rfl) (fun _ _ _ h => h) (Or.inl ⟨by rfl, ?_⟩) hHeld ?_
                rotate_left
                · intro W hW; obtain ⟨hW1, hW2⟩ := hW; go_simp <;> with_reducible rfl
                simp only [Act.put, List.setIfInBounds_toArray, List.set_cons_zero, List.set_cons_succ]
                refine wpAnyH_take (i := 17) (oi := ⟨some 184, _, _, _, _, _⟩) (v := ?_) rfl (by kernel_rfl) (by kernel_rfl) (by kernel_rfl) (fun _ _ _ h => h) (Or.inl ⟨by rfl, ?_⟩) hHeld ?_
                rotate_left
                · intro W hW; obtain ⟨hW1, hW2⟩ := hW; go_simp <;> with_reducible rfl
                simp only [Act.put, List.setIfInBounds_toArray, List.set_cons_zero, List.set_cons_succ]
                refine wpAnyH_take (i := 18) (oi := ⟨some 185, _, _, _, _, _⟩) (v := ?_) rfl (by kernel_rfl) (by kernel_rfl) (by kernel_rfl) (fun _ _ _ h => h) (Or.inl ⟨by rfl, ?_⟩) hHeld ?_
                rotate_left
                · intro W hW; obtain ⟨hW1, hW2⟩ := hW; go_simp <;> with_reducible rfl
                simp only [Act.put, List.setIfInBounds_toArray, List.set_cons_zero, List.set_cons_succ]
                refine wpAnyH_take (i := 19) (oi := ⟨some 6, _, _, _, _, _⟩) (v := ?_) rfl (by kernel_rfl) (by kernel_rfl) (by kernel_rfl) (fun _ _ _ h => h) (Or.inl ⟨by rfl, ?_⟩) hHeld ?_
                rotate_left
                · intro W hW; obtain ⟨hW1, hW2⟩ := hW; go_simp <;> with_reducible rfl
                simp only [Act.put, List.setIfInBounds_toArray, List.set_cons_zero, List.set_cons_succ]
                refine wpAnyH_take (i := 20) (oi := ⟨some 186, _, _, _, _, _⟩) (v := ?_) rfl (by kernel_rfl) (by kernel_rfl) (by kernel_rfl) (fun _ _ _ h => h) (Or.inl ⟨by rfl, ?_⟩) hHeld ?_
                rotate_left
                · intro W hW; obtain ⟨hW1, hW2⟩ := hW; go_simp <;> with_reducible rfl
                simp only [Act.put, List.setIfInBounds_toArray, List.set_cons_zero, List.set_cons_succ]
                refine wpAnyH_take (i := 21) (oi := ⟨some 187, _, _, _, _, _⟩) (v := ?_) rfl (by kernel_rfl) (by kernel_rfl) (by kernel_rfl) (fun _ _ _ h => h) (Or.inl ⟨by rfl, ?_⟩) hHeld ?_
                rotate_left
                · intro W hW; obtain ⟨hW1, hW2⟩ := hW; go_simp <;> with_reducible rfl
                simp only [Act.put, List.setIfInBounds_toArray, List.set_cons_zero, List.set_cons_succ]
                refine wpAnyH_ready (rs := [22]) (by kernel_rfl) (by simp) (AllReadyH.cons rfl (fun K1 hK1 => ?_) AllReadyH.nil)
                go_simp
                refine hK1.out _ _ ⟨(World.cell?_setCell_other _ ⟨db, 1, none⟩ ⟨db, 2, none⟩ _ (by simp)).trans s2, (World.cell?_setCell_other _ ⟨db, 1, none⟩ ⟨db, 1027, none⟩ _ (by simp)).trans sn⟩ (fun hHeld => ?_)
                clear hK1 K1
                refine wpAnyH_done (by kernel_rfl) ?_ _
                go_wp2
                obtain ⟨f6, hD6⟩ := HD5.out
                have hF6 : Few [db, rb] w ((w5.setCell ⟨db, 1, none⟩ .nilIface).setCell ⟨db, 1027, none⟩ (.int .i64 ((k : Int) + (m : Int)))) := ((HF.out.trans (show Few [db, rb] W4 w5 from ⟨HF5.out.os, HF5.out.tape, HF5.out.output, HF5.out.size, HF5.out.block⟩)).set (by simp) 1 _).set (by simp) 1027 _
                have hS6 : Stat ((w5.setCell ⟨db, 1, none⟩ .nilIface).setCell ⟨db, 1027, none⟩ (.int .i64 ((k : Int) + (m : Int)))) db sb rb tb ot N ct pc T := HST0.out.few hF6 (by simp [HST0.out.sd, HST0.out.sr]) (by simp [HST0.out.td, HST0.out.tr])
                have hT6 := hD6.toDo
                exact ⟨⟨⟨rfl, rfl⟩, f6, _, _, _, _, _, _, ⟨hS6, hD6, HI.out.more, hF6⟩⟩, lt_of_eq_of_lt (show toDo db rb N _ = _ from hT6) (by rw [HDS.out.toDo]; simp; omega)⟩
    · as_aux_lemma =>
        obtain rfl : nb = 0 := by omega
        have hbl0 : bl = [] := List.eq_nil_of_length_eq_zero HNB.out
        have hpN : p < N := by
          have := HSI.out.left HC.out hc1 hc2 (fun x hx => by rw [hbl0] at hx; cases hx)
          rw [HTN.out] at this
          exact this
        have hnb4 : 0 ≤ 4 := by omega
        have HD := HDS
        have HF := HFW
        have HS := HSTR
        have HI := HSI
        clear hbl0
        have hslL := cutLow db 3 0 (by omega)
        have m1 := sr_find ⟨sb, 0, none⟩
        have m2 := sr_enter
        have m3 := sr_ahead ⟨sb, 0, none⟩
        go_wp2_with fail
        refine wp_region_held_drew (S := fun W => W.cell? ⟨db, 2, none⟩ = some (.iface 52 (.pointer (some ⟨sb, 0, none⟩))) ∧ W.cell? ⟨db, 1027, none⟩ = some (.int .i64 ((0 : Nat) : Int))) (by kernel_rfl) ⟨k2, kn⟩ (fun hHeld => ?_)
        refine wpAnyH_take (i := 0) (oi := ⟨some 168, _, _, _, _, _⟩) (v := ?_) rfl (by kernel_rfl) (by kernel_rfl) (by kernel_rfl) (fun _ _ _ h => h) (Or.inl ⟨by rfl, ?_⟩) hHeld ?_
        rotate_left
        · intro W hW; obtain ⟨hW1, hW2⟩ := hW; go_simp <;> with_reducible rfl
        simp only [Act.put, List.setIfInBounds_toArray, List.set_cons_zero, List.set_cons_succ]
        refine wpAnyH_take (i := 1) (oi := ⟨some 169, _, _, _, _, _⟩) (v := ?_) rfl (by kernel_rfl) (by kernel_rfl) (by kernel_rfl) (fun _ _ _ h => h) (Or.inl ⟨by rfl, ?_⟩) hHeld ?_
        rotate_left
        · intro W hW; obtain ⟨hW1, hW2⟩ := hW; go_simp <;> with_reducible rfl
        simp only [Act.put, List.setIfInBounds_toArray, List.set_cons_zero, List.set_cons_succ]
        refine wpAnyH_take (i := 2) (oi := ⟨some 170, _, _, _, _, _⟩) (v := ?_) rfl (by kernel_rfl) (by kernel_rfl) (by kernel_rfl) (fun _ _ _ h => h) (Or.inl ⟨by rfl, ?_⟩) hHeld ?_
        rotate_left
        · intro W hW; obtain ⟨hW1, hW2⟩ := hW; go_simp <;> with_reducible rfl
        simp only [Act.put, List.setIfInBounds_toArray, List.set_cons_zero, List.set_cons_succ]
        refine wpAnyH_take (i := 3) (oi := ⟨some 171, _, _, _, _, _⟩) (v := ?_) rfl (by kernel_rfl) (by kernel_rfl) (by kernel_rfl) (fun _ _ _ h => h) (Or.inl ⟨by rfl, ?_⟩) hHeld ?_
        rotate_left
        · intro W hW; obtain ⟨hW1, hW2⟩ := hW; go_simp <;> with_reducible rfl
        simp only [Act.put, List.setIfInBounds_toArray, List.set_cons_zero, List.set_cons_succ]
        refine wpAnyH_take (i := 4) (oi := ⟨some 172, _, _, _, _, _⟩) (v := ?_) rfl (by kernel_rfl) (by kernel_rfl) (by kernel_rfl) (fun _ _ _ h => h) (Or.inl ⟨by rfl, ?_⟩) hHeld ?_
        rotate_left
        · intro W hW; obtain ⟨hW1, hW2⟩ := hW; go_simp <;> with_reducible rfl
        simp only [Act.put, List.setIfInBounds_toArray, List.set_cons_zero, List.set_cons_succ]
        refine wpAnyH_take (i := 5) (oi := ⟨some 173, _, _, _, _, _⟩) (v := ?_) rfl (by kernel_rfl) (by kernel_rfl) (by kernel_rfl) (fun _ _ _ h => h) (Or.inl ⟨by rfl, ?_⟩) hHeld ?_
        rotate_left
        · intro W hW; obtain ⟨hW1, hW2⟩ := hW; go_simp <;> with_reducible rfl
        simp only [Act.put, List.setIfInBounds_toArray, List.set_cons_zero, List.set_cons_succ]
        refine wpAnyH_take (i := 6) (oi := ⟨some 174, _, _, _, _, _⟩) (v := ?_) rfl (by kernel_rfl) (by kernel_rfl) (by kernel_rfl) (fun _ _ _ h => h) (Or.inl ⟨by rfl, ?_⟩) hHeld ?_
        rotate_left
        · intro W hW; obtain ⟨hW1, hW2⟩ := hW; go_simp <;> with_reducible rfl
        simp only [Act.put, List.setIfInBounds_toArray, List.set_cons_zero, List.set_cons_succ]
        refine wpAnyH_take (i := 7) (oi := ⟨some 175, _, _, _, _, _⟩) (v := ?_) rfl (by kernel_rfl) (by kernel_rfl) (by kernel_rfl) (fun _ _ _ h => h) (Or.inl ⟨by rfl, ?_⟩) hHeld ?_
        rotate_left
        · intro W hW; obtain ⟨hW1, hW2⟩ := hW; go_simp <;> with_reducible rfl
        simp only [Act.put, List.setIfInBounds_toArray, List.set_cons_zero, List.set_cons_succ]
        refine wpAnyH_take (i := 8) (oi := ⟨some 176, _, _, _, _, _⟩) (v := ?_) rfl (by kernel_rfl) (by kernel_rfl) (by kernel_rfl) (fun _ _ _ h => h) (Or.inl ⟨by rfl, ?_⟩) hHeld ?_
        rotate_left
        · intro W hW; obtain ⟨hW1, hW2⟩ := hW; go_simp <;> with_reducible rfl
        simp only [Act.put, List.setIfInBounds_toArray, List.set_cons_zero, List.set_cons_succ]
        refine wpAnyH_take (i := 9) (oi := ⟨some 177, _, _, _, _, _⟩) (v := ?_) rfl (by kernel_rfl) (by kernel_rfl) (by kernel_rfl) (fun _ _ _ h => h) (Or.inl ⟨by rfl, ?_⟩) hHeld ?_
        rotate_left
        · intro W hW; obtain ⟨hW1, hW2⟩ := hW; go_simp <;> with_reducible rfl
        simp only [Act.put, List.setIfInBounds_toArray, List.set_cons_zero, List.set_cons_succ]
        refine wpAnyH_take (i := 10) (oi := ⟨some 178, _, _, _, _, _⟩) (v := ?_) rfl (by kernel_rfl) (by kernel_rfl) (by kernel_rfl) (fun _ _ _ h => h) (Or.inl ⟨by rfl, ?_⟩) hHeld ?_
        rotate_left
        · intro W hW; obtain ⟨hW1, hW2⟩ := hW; go_simp <;> with_reducible rfl
        simp only [Act.put, List.setIfInBounds_toArray, List.set_cons_zero, List.set_cons_succ]
        refine wpAnyH_take (i := 11) (oi := ⟨some 179, _, _, _, _, _⟩) (v := ?_) rfl (by kernel_rfl) (by kernel_rfl) (by kernel_rfl) (fun _ _ _ h => h) (Or.inl ⟨by rfl, ?_⟩) hHeld ?_
        rotate_left
        · intro W hW; obtain ⟨hW1, hW2⟩ := hW; go_simp <;> with_reducible rfl
        simp only [Act.put, List.setIfInBounds_toArray, List.set_cons_zero, List.set_cons_succ]
        refine wpAnyH_take (i := 12) (oi := ⟨some 180, _, _, _, _, _⟩) (v := ?_) rfl (by kernel_rfl) (by kernel_rfl) (by kernel_rfl) (fun _ _ _ h => h) (Or.inl ⟨by rfl, ?_⟩) hHeld ?_
        rotate_left
        · intro W hW; obtain ⟨hW1, hW2⟩ := hW; go_simp <;> with_reducible rfl
        simp only [Act.put, List.setIfInBounds_toArray, List.set_cons_zero, List.set_cons_succ]
        refine wpAnyH_take (i := 13) (oi := ⟨some 181, _, _, _, _, _⟩) (v := ?_) rfl (by kernel_rfl) (by kernel_rfl) (by kernel_rfl) (fun _ _ _ h => h) (Or.inl ⟨by rfl, ?_⟩) hHeld ?_
        rotate_left
        · intro W hW; obtain ⟨hW1, hW2⟩ := hW; go_simp <;> with_reducible rfl
        simp only [Act.put, List.setIfInBounds_toArray, List.set_cons_zero, List.set_cons_succ]
        refine wpAnyH_take (i := 14) (oi := ⟨some 182, _, _, _, _, _⟩) (v := ?_) rfl (by kernel_rfl) (by kernel_rfl) (by kernel_rfl) (fun _ _ _ h => h) (Or.inl ⟨by rfl, ?_⟩) hHeld ?_
        rotate_left
        · intro W hW; obtain ⟨hW1, hW2⟩ := hW; go_simp <;> with_reducible rfl
        simp only [Act.put, List.setIfInBounds_toArray, List.set_cons_zero, List.set_cons_succ]
        refine wpAnyH_ready (rs := [15]) (by kernel_rfl) (by simp) (AllReadyH.cons rfl (fun K1 hK1 => ?_) AllReadyH.nil)
        go_simp
        refine (source_read sb rb db (3 + 0) (1024 - 0) (1024 - 0) 2053 pc 69 f tb ot N ct p pv T wr.drew HS.out.src HD.out.rd HS.out.tx.drew HS.out.nc HS.out.cm HD.out.row.drew (by omega) (Nat.le_refl _) (by unfold maxLen; omega) hpN hrd HS.out.tr HS.out.sr HS.out.sd).mono ?_
        rintro e w5 ⟨m, f', hm, rfl, hrb5, hrow5, hlow5, htxt5, hfew5⟩
        have hm4 : m ≤ 1024 - 0 := by rw [hm]; exact Nat.le_trans (Nat.min_le_right _ _) (Nat.min_le_right _ _)
        have hm1 : 1 ≤ m := by rw [hm]; exact Nat.le_min.2 ⟨by omega, Nat.le_min.2 ⟨HS.out.pc1, by omega⟩⟩
        have hmN : m ≤ N - p := by rw [hm]; exact Nat.min_le_left _ _
        have s2 : w5.cell? ⟨db, 2, none⟩ = some (.iface 52 (.pointer (some ⟨sb, 0, none⟩))) := by rw [hrow5.cell (by omega), hlow5 2 (by omega), HD.out.f2]
        have sn : w5.cell? ⟨db, 1027, none⟩ = some (.int .i64 ((0 : Nat) : Int)) := by rw [hrow5.cell (by omega), hlow5 1027 (by omega), HD.out.fn, HNB.out]
        have s1 : w5.cell? ⟨db, 1, none⟩ = some .nilIface := by rw [hrow5.cell (by omega), hlow5 1 (by omega), HD.out.f1]
        have u1 := hrow5.frozen 1
        have un := hrow5.frozen 1027
        have HD5 := Lib.hid (HD.out.more HS.out HNB.out hnb4 hm hrb5 hrow5 hlow5 htxt5)
        have HF5 := Lib.hid (few_turn hfew5)
        refine hK1.out _ _ ⟨s2, sn⟩ (fun hHeld => ?_)
        clear hK1 K1 hm hrb5 hrow5 hlow5 htxt5 hfew5
        refine wpAnyH_take (i := 16) (oi := ⟨some 167, _, _, _, _, _⟩) (v := ?_) rfl (by kernel_rfl) (by kernel_rfl) (by kernel_rfl) (fun _ _ _ h => h) (Or.inl ⟨by rfl, ?_⟩) hHeld ?_
        rotate_left
        · intro W hW; obtain ⟨hW1, hW2⟩ := hW; go_simp <;> with_reducible rfl
        simp only [Act.put, List.setIfInBounds_toArray, List.set_cons_zero, List.set_cons_succ]
        refine wpAnyH_take (i := 17) (oi := ⟨some 184, _, _, _, _, _⟩) (v := ?_) rfl (by kernel_rfl) (by kernel_rfl) (by kernel_rfl) (fun _ _ _ h => h) (Or.inl ⟨by rfl, ?_⟩) hHeld ?_
        rotate_left
        · intro W hW; obtain ⟨hW1, hW2⟩ := hW; go_simp <;> with_reducible rfl
        simp only [Act.put, List.setIfInBounds_toArray, List.set_cons_zero, List.set_cons_succ]
        refine wpAnyH_take (i := 18) (oi := ⟨some 185, _, _, _, _, _⟩) (v := ?_) rfl (by kernel_rfl) (by kernel_rfl) (by kernel_rfl) (fun _ _ _ h => h) (Or.inl ⟨by rfl, ?_⟩) hHeld ?_
        rotate_left
        · intro W hW; obtain ⟨hW1, hW2⟩ := hW; go_simp <;> with_reducible rfl
        simp only [Act.put, List.setIfInBounds_toArray, List.set_cons_zero, List.set_cons_succ]
        refine wpAnyH_take (i := 19) (oi := ⟨some 6, _, _, _, _, _⟩) (v := ?_) rfl (by kernel_rfl) (by kernel_rfl) (by kernel_rfl) (fun _ _ _ h => h) (Or.inl ⟨by rfl, ?_⟩) hHeld ?_
        rotate_left
        · intro W hW; obtain ⟨hW1, hW2⟩ := hW; go_simp <;> with_reducible rfl
        simp only [Act.put, List.setIfInBounds_toArray, List.set_cons_zero, List.set_cons_succ]
        refine wpAnyH_take (i := 20) (oi := ⟨some 186, _, _, _, _, _⟩) (v := ?_) rfl (by kernel_rfl) (by kernel_rfl) (by kernel_rfl) (fun _ _ _ h => h) (Or.inl ⟨by rfl, ?_⟩) hHeld ?_
        rotate_left
        · intro W hW; obtain ⟨hW1, hW2⟩ := hW; go_simp <;> with_reducible rfl
        simp only [Act.put, List.setIfInBounds_toArray, List.set_cons_zero, List.set_cons_succ]
        refine wpAnyH_take (i := 21) (oi := ⟨some 187, _, _, _, _, _⟩) (v := ?_) rfl (by kernel_rfl) (by kernel_rfl) (by kernel_rfl) (fun _ _ _ h => h) (Or.inl ⟨by rfl, ?_⟩) hHeld ?_
        rotate_left
        · intro W hW; obtain ⟨hW1, hW2⟩ := hW; go_simp <;> with_reducible rfl
        simp only [Act.put, List.setIfInBounds_toArray, List.set_cons_zero, List.set_cons_succ]
        refine wpAnyH_ready (rs := [22]) (by kernel_rfl) (by simp) (AllReadyH.cons rfl (fun K1 hK1 => ?_) AllReadyH.nil)
        go_simp
        refine hK1.out _ _ ⟨(World.cell?_setCell_other _ ⟨db, 1, none⟩ ⟨db, 2, none⟩ _ (by simp)).trans s2, (World.cell?_setCell_other _ ⟨db, 1, none⟩ ⟨db, 1027, none⟩ _ (by simp)).trans sn⟩ (fun hHeld => ?_)
        clear hK1 K1
        refine wpAnyH_done (by kernel_rfl) ?_ _
        go_wp2
        obtain ⟨f6, hD6⟩ := HD5.out
        rw [show ((0 : Nat) : Int) + (m : Int) = (m : Int) by omega] at hD6
        have hF6 : Few [db, rb] w ((w5.setCell ⟨db, 1, none⟩ .nilIface).setCell ⟨db, 1027, none⟩ (.int .i64 (m : Int))) := ((HF.out.trans (show Few [db, rb] wr w5 from ⟨HF5.out.os, HF5.out.tape, HF5.out.output, HF5.out.size, HF5.out.block⟩)).set (by simp) 1 _).set (by simp) 1027 _
        have hS6 : Stat ((w5.setCell ⟨db, 1, none⟩ .nilIface).setCell ⟨db, 1027, none⟩ (.int .i64 (m : Int))) db sb rb tb ot N ct pc T := HST0.out.few hF6 (by simp [HST0.out.sd, HST0.out.sr]) (by simp [HST0.out.td, HST0.out.tr])
        have hT6 := hD6.toDo
        exact ⟨⟨⟨rfl, rfl⟩, f6, _, _, _, _, _, _, ⟨hS6, hD6, HI.out.more, hF6⟩⟩, lt_of_eq_of_lt (show toDo db rb N _ = _ from hT6) (by rw [HDS.out.toDo]; simp; omega)⟩

end Go.Proofs.YthhbcnjbnfjiiaaDoor

/-
  The walk of laws.script, for whatever kind of hash: it returns true where the answers are those of the plain model. Written by scriptgen.py. Conditions: laws.hashOf does what 'HashOf' says; at most 2^40 steps with at most 2^40 bytes together.
-/
import Derived.Test.YtdpjdglcienbfaaScriptRel
import Derived.Test.YtdpjdglcienbfaaHashOf
import Derived.Test.YtdpjdglcienbfaaJoined
import Derived.Test.YtdpjdglcienbfaaPlainAns
import Derived.Test.YtdpjdglcienbfaaSame
import Derived.Test.YtdpjdglcienbfaaNumber
import Derived.Test.YtdpjdglcienbfaaCutPlain
import Derived.Deep.RegionHeld3
namespace Go.Proofs.Ytdpjdglcienbfaa
open Go.RowKit

theorem an_more (K : Kind) (M : List Stp) : ∀ r : RS, ∃ t, (M.foldl (stepM K) r).an = r.an ++ t := by
  induction M with
  | nil => intro r; exact ⟨[], by simp⟩
  | cons s M ih =>
    intro r
    obtain ⟨a, ha⟩ := stepM_as K r s
    obtain ⟨t, ht⟩ := ih (stepM K r s)
    exact ⟨[a] ++ t, by rw [List.foldl_cons, ht, ha, List.append_assoc]⟩
theorem ScrR.here {K : Kind} {B0 : Nat} {w wr : World} {L : List Stp} {slv svv isv : Value} {k : Nat} {D : List (Value × List Nat)} {V : List (Value × Option (List Nat))} {a : Ans} {ss : List Nat} (h : ScrR K B0 w L slv svv isv wr k D V)
    (hm : runM K (L.take (k + 1)) = ⟨ss, (runM K (L.take k)).an ++ [a]⟩) : (runM K L).an.getD k Ans.zero = a := by
  have hal := h.al
  obtain ⟨t, ht⟩ := an_more K (L.drop (k + 1)) (runM K (L.take (k + 1)))
  have e : (runM K L).an = (runM K (L.take (k + 1))).an ++ t := by
    rw [← ht]
    unfold runM
    rw [← List.foldl_append, List.take_append_drop]
  rw [e, hm, List.getD_eq_getElem?_getD, List.getElem?_append_left (by simp; omega), List.getElem?_append_right (by omega), hal]
  simp
theorem stepM_bad (K : Kind) (r : RS) (s : Stp) (h : ¬ ((0 ≤ s.slot ∧ s.slot < r.ss.length) ∧ 0 ≤ s.op ∧ s.op ≤ 8)) : stepM K r s = ⟨r.ss, r.an ++ [Ans.zero]⟩ := by
  unfold stepM
  split
  · next hs =>
    have h2 : ¬ (0 ≤ s.op ∧ s.op ≤ 8) := fun h2 => h ⟨hs, h2⟩
    have e : ∀ st, doM K r s st = (r.ss, Ans.zero) := fun st => by
      unfold doM
      rw [if_neg (by omega), if_neg (by omega), if_neg (by omega), if_neg (by omega), if_neg (by omega), if_neg (by omega), if_neg (by omega), if_neg (by omega), if_neg (by omega)]
    rw [e]
  · rfl
/-- What the number of a sum is. -/
def Val8 (K : Kind) : Prop := ∀ s, K.ok s → (K.size ≤ 8 ∧ num (K.bytes s) = K.val s) ∨ (8 < K.size ∧ K.val s = 0)
theorem fold_fits {P : Program} {K : Kind} (G : Good P K) (l : List Nat) : ∀ s, (∀ x ∈ l, x < 256) → K.ok s → K.ok (l.foldl K.step s) := by
  induction l with
  | nil => intro s _ h; exact h
  | cons x r ih => intro s hl h; exact ih _ (fun y hy => hl y (by simp [hy])) (G.step_ok s x h (hl x (by simp)))
theorem Try.infoBool : (Try.prog.info? 4).map (fun i => (i.zero, i.size, i.bytes)) = some (some (.bool false), 1, 1) := by kernel_rfl

def ScrRel (K : Kind) (w : World) (L : List Stp) (i slv : Value) (wr : World) : Prop := ∃ k D V, ScrR K w.heap.size w L slv (.slice (some ⟨w.heap.size + 1 + 1, 0, none⟩) L.length L.length) (.slice (some ⟨w.heap.size + 1 + 1 + 1, 0, none⟩) L.length L.length) wr k D V ∧ i = .int .i64 (k : Int)
def RetTrue (w : World) (e : Ending) (w' : World) : Prop := e = .returned (.bool true) ∧ Below w.heap.size w w'
/-- The world of a round with its step and its answer laid. -/
theorem scr_cells {wr w2 : World} {x y z u x' y' z' u' : Value} (hb2 : Below ((wr.alloc (.cells #[x, y, z, u] 36)).alloc (.cells #[x', y', z', u'] 40)).heap.size ((wr.alloc (.cells #[x, y, z, u] 36)).alloc (.cells #[x', y', z', u'] 40)) w2) :
    Below wr.heap.size wr w2 ∧ w2.cell? ⟨wr.heap.size, 0, none⟩ = some x ∧ w2.cell? ⟨wr.heap.size, 1, none⟩ = some y ∧ w2.cell? ⟨wr.heap.size, 2, none⟩ = some z ∧ w2.cell? ⟨wr.heap.size, 3, none⟩ = some u ∧
      w2.cell? ⟨wr.heap.size + 1, 0, none⟩ = some x' ∧ w2.cell? ⟨wr.heap.size + 1, 1, none⟩ = some y' ∧ w2.cell? ⟨wr.heap.size + 1, 2, none⟩ = some z' ∧ w2.cell? ⟨wr.heap.size + 1, 3, none⟩ = some u' ∧ wr.heap.size + 2 ≤ w2.heap.size := by
  have hs := hb2.size
  simp at hs
  have b1 : w2.heap[wr.heap.size]? = some (.cells #[x, y, z, u] 36 (0, 0)) :=
    (hb2.block _ (by simp; omega)).trans ((((Below.refl (wr.alloc (.cells #[x, y, z, u] 36)).heap.size _).alloc (Nat.le_refl _) (.cells #[x', y', z', u'] 40)).block wr.heap.size (by simp)).trans (_root_.Go.heap_alloc_new wr _))
  have b2 : w2.heap[wr.heap.size + 1]? = some (.cells #[x', y', z', u'] 40 (0, 0)) := (hb2.block _ (by simp)).trans (heap_new _ _ _ (by simp))
  obtain ⟨s0, s1, s2, s3, _⟩ := four_cells b1
  obtain ⟨a0, a1, a2, a3, _⟩ := four_cells b2
  exact ⟨(((Below.refl _ _).alloc (Nat.le_refl _) _).alloc (by simp) _).trans (hb2.mono (by simp; omega)), s0, s1, s2, s3, a0, a1, a2, a3, by omega⟩

set_option maxRecDepth 100000 in
set_option maxHeartbeats 20000000 in
theorem script_any (K : Kind) (G : Good Try.prog K) (kd : Int) (HK : HashOf K kd) (hv8 : Val8 K) (blk : Int) (hbk : blk < 0 ∨ blk = (K.block : Int)) (w : World) (A : Option Addr) (n c : Nat) (L : List Stp) (hS : SS w w.heap.size A n L) (A2 : Option Addr) (c2 : Nat) (hA : SA w w.heap.size A2 n (runM K L).an)
    (hn : n ≤ 1099511627776) (ht : (L.map (·.data.length)).sum ≤ 1099511627776) : Calls Try.prog 17 #[.int .i64 kd, .slice A n c, .slice A2 n c2, .int .i64 blk] w fun e w' => RetTrue w e w' := by
  obtain rfl : L.length = n := hS.len
  have HS := Lib.hid hS
  have HA := Lib.hid hA
  have HO := Lib.hid HK
  have HV8 := Lib.hid hv8
  have HG := Lib.hid G
  have HT := Lib.hid ht
  obtain ⟨i, hi, hzz⟩ := Option.map_eq_some_iff.1 Try.infoBytes
  simp only [Prod.mk.injEq] at hzz
  obtain ⟨hz, hsz, hby⟩ := hzz
  have HI := Lib.hid hi
  have HZ := Lib.hid hz
  have HSZ := Lib.hid hsz
  have HBY := Lib.hid hby
  clear hS hA HK hv8 G ht hi hz hsz hby
  have hmk1 := fun W => run_make_row' (P := Try.prog) 33 22 (.slice none 0 0) 24 Try.underlying33 Try.infoBytes rfl .i64 .i64 L.length (by omega) (by omega) W
  have hmk2 := fun W => run_make_row' (P := Try.prog) 46 4 (.bool false) 1 Try.underlying46 Try.infoBool rfl .i64 .i64 L.length (by omega) (by omega) W
  go_enter Try.func17, Try.ntmps17
  go_wp2
  clear hmk1 hmk2
  go_loopw [34, 9] (fun i slv wr => ScrRel K w L i slv wr) (fun i _ _ => L.length - (intOf i).toNat)
  case atStart =>
    have o0 := Own.empty w
    have r1 := row_lit (w.alloc (.cells #[] 5)) #[.slice (some ⟨w.heap.size, 0, none⟩) 0 0] 22 w.heap.size 1 1 rfl (by simp) (by unfold maxLen; omega)
    simp only [World.size_alloc] at r1
    refine ⟨0, [(.slice (some ⟨w.heap.size, 0, none⟩) 0 0, [])], List.replicate L.length (.slice none 0 0, none), ⟨Nat.zero_le _, ?_, rfl, ?_, by simp, by simp, ?_, ?_, ?_, ?_, ?_, ?_, ?_⟩, rfl⟩
    · exact (r1.alloc _).alloc _
    · intro d hd
      rcases List.mem_singleton.1 hd with rfl
      exact ⟨(((o0.alloc _).alloc _).alloc _), Nat.zero_le _⟩
    · have h := World.ownsRow_lit (e := 22) (size := 1) (base := w.heap.size) ((w.alloc (.cells #[] 5)).alloc (.cells #[.slice (some ⟨w.heap.size, 0, none⟩) 0 0] 22)) (madeCells #[.slice none 0 0] L.length) L.length (by simp; omega) (by unfold maxLen; omega) (by rw [size_madeCells]; omega)
      rw [toList_madeCells_one] at h
      simp only [World.size_alloc] at h
      rw [List.map_replicate]
      exact h.alloc _
    · have h := World.ownsRow_lit (e := 4) (size := 1) (base := w.heap.size) (((w.alloc (.cells #[] 5)).alloc (.cells #[.slice (some ⟨w.heap.size, 0, none⟩) 0 0] 22)).alloc (.cells (madeCells #[.slice none 0 0] L.length) 22)) (madeCells #[.bool false] L.length) L.length (by simp; omega) (by unfold maxLen; omega) (by rw [size_madeCells]; omega)
      rw [toList_madeCells_one] at h
      simp only [World.size_alloc] at h
      rw [List.map_replicate]
      exact h
    · intro v hv l hl
      rw [List.eq_of_mem_replicate hv] at hl
      cases hl
    · intro i hi
      omega
    · intro i _
      rw [List.getD_eq_getElem?_getD, List.getElem?_replicate]
      split <;> rfl
    · simp [Value.ownBlock]
    · exact ((((Below.refl _ _).alloc (Nat.le_refl _) _).alloc (by simp) _).alloc (by simp; omega) _).alloc (by simp; omega) _
  case round =>
    obtain ⟨k, D, V, hR, rfl⟩ := hrel
    have hbel := hR.bel
    have hB := hbel.size
    have hkl := hR.kl
    have hdk := hR.dk
    have HRR := Lib.hid hR
    obtain ⟨As, cs, rfl, hsc, hsm, hsg⟩ := row_at hR.slots
    have HSG := Lib.hid hsg
    unfold maxLen at hsm
    clear hR hsg
    by_cases hlt : k < L.length
    · obtain ⟨g, o, hAeq, hgB, hst⟩ := (HS.out.below hbel).spot (by omega)
      obtain ⟨Ai, ni, ci, hs⟩ := hst k hlt
      obtain ⟨ga, oa, hAeq2, hgaB, hat⟩ := (HA.out.below hbel).spot (by omega)
      obtain ⟨Ab, nb, cb, ha⟩ := hat k hlt
      have HAA := Lib.hid ha
      clear hst hat ha
      have HBS := Lib.hid hs.bs
      have hnc := hs.nc
      have hcm := hs.cm
      have h0 := hs.c0
      have h1 := hs.c1
      have h2 := hs.c2
      have h3 := hs.c3
      have HM := Lib.hid (runM_take K L k hlt)
      have hT1 := tot_succ L k hlt
      have hT2 := Nat.le_trans (tot_le L (k + 1)) HT.out
      have hgr : g < wr.heap.size := by omega
      have hgar : ga < wr.heap.size := by omega
      clear hs
      subst hAeq
      subst hAeq2
      generalize L.getD k Stp.zero = st at *
      obtain ⟨op, slot, frm, data⟩ := st
      simp only at h0 h1 h2 h3 hT1
      have hdn := HBS.out.len
      simp only at hdn
      rw [hdn] at hT1
      have HDN := Lib.hid hdn
      clear hdn
      obtain ⟨tk, htk⟩ : ∃ tk, tot L k = tk := ⟨_, rfl⟩
      rw [htk] at hT1
      have HTK := Lib.hid htk
      have HTK1 := Lib.hid hT1
      have hni : tk + ni ≤ 1099511627776 := by rw [← hT1]; exact hT2
      clear htk hT1 hT2
      unfold maxLen at hcm
      by_cases hgood : (0 ≤ slot ∧ slot < (D.length : Int)) ∧ 0 ≤ op ∧ op ≤ 8
      · obtain ⟨⟨hsl0, hsl1⟩, hop0, hop8⟩ := hgood
        obtain ⟨j, rfl⟩ : ∃ j : Nat, slot = (j : Int) := ⟨slot.toNat, by omega⟩
        have hj : j < D.length := by omega
        obtain ⟨gs, rfl, hgsB, hcs⟩ := HSG.out (by omega)
        have hdj := HRR.out.dow _ (getD_mem (d := (Value.nilIface, [])) hj)
        have hcell := hcs j (D.getD j (Value.nilIface, [])).1 (by rw [List.getElem?_map, List.getElem?_eq_getElem hj, List.getD_eq_getElem?_getD, List.getElem?_eq_getElem hj]; rfl)
        have hgs := World.block_lt_of_cell? wr _ hcell
        simp only at hgs
        have hsj : (runM K (L.take k)).ss.getD j 0 = (D.getD j (Value.nilIface, [])).2.foldl K.step K.init := by
          rw [← HRR.out.dss, List.getD_eq_getElem?_getD, List.getElem?_map, List.getElem?_eq_getElem hj, List.getD_eq_getElem?_getD, List.getElem?_eq_getElem hj]; rfl
        generalize D.getD j (Value.nilIface, []) = dj at *
        obtain ⟨vj, lj⟩ := dj
        simp only at hdj hcell hsj
        obtain ⟨hoj, hljl⟩ := hdj
        have HOJ := Lib.hid hoj
        rw [HTK.out] at hljl
        obtain ⟨nn, hnn⟩ : ∃ nn, lj.length = nn := ⟨_, rfl⟩
        obtain ⟨An, cn, rfl, hncn, hcmn, hbn⟩ := hoj.at_ hnn
        rw [hnn] at hljl
        have HN := Lib.hid hbn
        have HNN := Lib.hid hnn
        have HM0 := Lib.hid (show runM K (L.take (k + 1)) = ⟨(doM K (runM K (L.take k)) ⟨op, j, frm, data⟩ (lj.foldl K.step K.init)).1, (runM K (L.take k)).an ++ [(doM K (runM K (L.take k)) ⟨op, j, frm, data⟩ (lj.foldl K.step K.init)).2]⟩ by
          rw [HM.out, stepM, if_pos ⟨hsl0, by rw [HRR.out.sl]; exact hsl1⟩, ← hsj]; rfl)
        have hok := fold_fits HG.out lj K.init hoj.2 HG.out.init_ok
        have HOK := Lib.hid hok
        clear hoj hnn hbn hsj hok hcs hsl0 hsl1 HM
        have e1 : decide (D.length ≤ j) = false := decide_eq_false (by omega)
        have e2 : decide ((D.length : Int) ≤ (j : Int)) = false := decide_eq_false (by omega)
        have e3 : decide (op < 0) = false := decide_eq_false (by omega)
        have e4 : decide (8 < op) = false := decide_eq_false (by omega)
        obtain ⟨an, han⟩ : ∃ an, (runM K L).an.getD k Ans.zero = an := ⟨_, rfl⟩
        rw [han] at HAA
        obtain ⟨ad, av, am, af, asv⟩ := an
        have HAN := Lib.hid han
        have g0 := HAA.out.c0
        have g1 := HAA.out.c1
        have g2 := HAA.out.c2
        have g3 := HAA.out.c3
        have HAB := Lib.hid HAA.out.bs
        simp only at g0 g1 g2 g3 HAB
        clear han HAA
        go_wp2_with fail
        refine (HO.out An nn cn lj _ wr.heap.size (by simp; omega) hncn hcmn ((HN.out.alloc (Nat.le_refl _) _).alloc (by simp) _)).mono ?_
        rintro e w2 ⟨vh, rfl, hoh, hb2⟩
        obtain ⟨nh, hnh⟩ : ∃ nh, (K.bytes (lj.foldl K.step K.init)).length = nh := ⟨_, rfl⟩
        obtain ⟨Ah, ch, rfl, hhc, hhm, hhb⟩ := hoh.at_ hnh
        have HHB := Lib.hid hhb
        have hnk : nh = K.size := by rw [← hnh]; exact HG.out.bytes_len _
        obtain ⟨hB2, sc0, sc1, sc2, sc3, ac0, ac1, ac2, ac3, hz2⟩ := scr_cells hb2
        have HB2 := Lib.hid hB2
        clear hoh hnh hhb hb2 hB2 h0 h1 h2 h3 g0 g1 g2 g3 hcell
        subst hnk
        clear e1 e2 e3 e4
        by_cases ho0 : op = 0
        · subst ho0
          as_aux_lemma =>
            have hmm : runM K (L.take (k + 1)) = ⟨(runM K (L.take k)).ss.set j ((lj ++ data).foldl K.step K.init), (runM K (L.take k)).an ++ [⟨[], 0, ni, false, none⟩]⟩ := by
              rw [HM0.out, List.foldl_append, ← HDN.out]; rfl
            have hea := (HRR.out.here hmm).symm.trans HAN.out
            injection hea with ea1 ea2 ea3 ea4 ea5
            subst ea1 ea2 ea3 ea4 ea5
            have hnb := HAB.out.len
            simp only [List.length_nil] at hnb
            subst hnb
            have HMM := Lib.hid hmm
            clear hmm HAN
            go_wp2_with fail
            refine (plain_true Ab cb (ni : Int) w2).mono ?_
            rintro e w3 ⟨rfl, hb3⟩
            have sc1 := (hb3.cell (p := ⟨wr.heap.size, 1, none⟩) (by simp only; omega)).trans sc1
            have sc2 := (hb3.cell (p := ⟨wr.heap.size, 2, none⟩) (by simp only; omega)).trans sc2
            have sc3 := (hb3.cell (p := ⟨wr.heap.size, 3, none⟩) (by simp only; omega)).trans sc3
            have hz3 : wr.heap.size + 2 ≤ w3.heap.size := by have := hb3.size; omega
            have HB3 := Lib.hid (HB2.out.trans (hb3.mono (by omega)))
            clear hb3
            go_wp2_with fail
            refine wp_region_held_drew (S := fun W => W.cell? ⟨wr.heap.size, 1, none⟩ = some (.int .i64 (j : Int)) ∧ W.cell? ⟨wr.heap.size, 3, none⟩ = some (.slice Ai ni ci)) (by kernel_rfl) ⟨sc1, sc3⟩ (fun hHeld => ?_)
            refine wpAnyH_take (i := 0) (oi := ⟨some 83, _, _, _, _, _⟩) (v := ?_) rfl (by kernel_rfl) (by kernel_rfl) (by kernel_rfl) (fun _ _ _ h => h) (Or.inl ⟨by rfl, ?_⟩) hHeld ?_
            rotate_left
            · intro W hW; obtain ⟨q1, q3⟩ := hW; go_simp <;> with_reducible rfl
            simp only [Act.put, List.setIfInBounds_toArray, List.set_cons_zero, List.set_cons_succ]
            refine wpAnyH_take (i := 1) (oi := ⟨some 84, _, _, _, _, _⟩) (v := ?_) rfl (by kernel_rfl) (by kernel_rfl) (by kernel_rfl) (fun _ _ _ h => h) (Or.inl ⟨by rfl, ?_⟩) hHeld ?_
            rotate_left
            · intro W hW; obtain ⟨q1, q3⟩ := hW; go_simp <;> with_reducible rfl
            simp only [Act.put, List.setIfInBounds_toArray, List.set_cons_zero, List.set_cons_succ]
            refine wpAnyH_take (i := 2) (oi := ⟨some 85, _, _, _, _, _⟩) (v := ?_) rfl (by kernel_rfl) (by kernel_rfl) (by kernel_rfl) (fun _ _ _ h => h) (Or.inl ⟨by rfl, ?_⟩) hHeld ?_
            rotate_left
            · intro W hW; obtain ⟨q1, q3⟩ := hW; go_simp <;> with_reducible rfl
            simp only [Act.put, List.setIfInBounds_toArray, List.set_cons_zero, List.set_cons_succ]
            refine wpAnyH_take (i := 3) (oi := ⟨some 86, _, _, _, _, _⟩) (v := ?_) rfl (by kernel_rfl) (by kernel_rfl) (by kernel_rfl) (fun _ _ _ h => h) (Or.inl ⟨by rfl, ?_⟩) hHeld ?_
            rotate_left
            · intro W hW; obtain ⟨q1, q3⟩ := hW; go_simp <;> with_reducible rfl
            simp only [Act.put, List.setIfInBounds_toArray, List.set_cons_zero, List.set_cons_succ]
            refine wpAnyH_take (i := 4) (oi := ⟨some 87, _, _, _, _, _⟩) (v := ?_) rfl (by kernel_rfl) (by kernel_rfl) (by kernel_rfl) (fun _ _ _ h => h) (Or.inl ⟨by rfl, ?_⟩) hHeld ?_
            rotate_left
            · intro W hW; obtain ⟨q1, q3⟩ := hW; go_simp <;> with_reducible rfl
            simp only [Act.put, List.setIfInBounds_toArray, List.set_cons_zero, List.set_cons_succ]
            refine wpAnyH_take (i := 5) (oi := ⟨some 88, _, _, _, _, _⟩) (v := ?_) rfl (by kernel_rfl) (by kernel_rfl) (by kernel_rfl) (fun _ _ _ h => h) (Or.inl ⟨by rfl, ?_⟩) hHeld ?_
            rotate_left
            · intro W hW; obtain ⟨q1, q3⟩ := hW; go_simp <;> with_reducible rfl
            simp only [Act.put, List.setIfInBounds_toArray, List.set_cons_zero, List.set_cons_succ]
            refine wpAnyH_ready (rs := [6]) (by kernel_rfl) (by simp) (AllReadyH.cons rfl (fun K1 hK1 => ?_) AllReadyH.nil)
            go_simp
            refine (joined_any w3.drew wr.heap.size An nn cn lj Ai ni ci data (show wr.heap.size ≤ w3.heap.size by omega) (HN.out.below HB3.out).drew ((HBS.out.mono hB).below HB3.out).drew (by omega)).mono ?_
            rintro e w4 ⟨v4, rfl, ho4, hb4⟩
            have hb4' : Below w3.heap.size w3 w4 := ⟨hb4.os, hb4.tape, hb4.output, hb4.size, hb4.block⟩
            obtain ⟨n4, hn4⟩ : ∃ m, (lj ++ data).length = m := ⟨_, rfl⟩
            have HO4 := Lib.hid ho4
            obtain ⟨A4, c4, rfl, _, _, _⟩ := ho4.at_ hn4
            have HB4 := Lib.hid (HB3.out.trans (hb4'.mono (by omega)))
            have HR4 := Lib.hid (HRR.out.below hB HB4.out)
            have hz4 : wr.heap.size + 2 ≤ w4.heap.size := by have := hb4'.size; omega
            have hS4 : w4.cell? ⟨wr.heap.size, 1, none⟩ = some (.int .i64 (j : Int)) ∧ w4.cell? ⟨wr.heap.size, 3, none⟩ = some (.slice Ai ni ci) := ⟨(hb4'.cell (p := ⟨wr.heap.size, 1, none⟩) (by simp only; omega)).trans sc1, (hb4'.cell (p := ⟨wr.heap.size, 3, none⟩) (by simp only; omega)).trans sc3⟩
            have cW := HR4.out.slots.cellAt j (by omega)
            rw [List.getElem?_map, List.getElem?_eq_getElem hj] at cW
            have fW := HR4.out.slots.frozenAt j
            refine hK1.out _ _ hS4 (fun hHeld => ?_)
            clear hK1 K1 ho4 hb4 hb4' hn4
            refine wpAnyH_take (i := 7) (oi := ⟨some 90, _, _, _, _, _⟩) (v := ?_) rfl (by kernel_rfl) (by kernel_rfl) (by kernel_rfl) (fun _ _ _ h => h) (Or.inl ⟨by rfl, ?_⟩) hHeld ?_
            rotate_left
            · intro W hW; obtain ⟨q1, q3⟩ := hW; go_simp <;> with_reducible rfl
            simp only [Act.put, List.setIfInBounds_toArray, List.set_cons_zero, List.set_cons_succ]
            refine wpAnyH_ready (rs := [8]) (by kernel_rfl) (by simp) (AllReadyH.cons rfl (fun K1 hK1 => ?_) AllReadyH.nil)
            go_simp
            refine hK1.out _ _ ⟨by rw [World.cell?_setCell_other _ _ _ _ (fun e => by injection e with e1; omega)]; exact hS4.1, by rw [World.cell?_setCell_other _ _ _ _ (fun e => by injection e with e1; omega)]; exact hS4.2⟩ (fun hHeld => ?_)
            clear hK1 K1
            refine wpAnyH_done (by kernel_rfl) ?_ _
            have HF := Lib.hid (HR4.out.set (by omega) hlt (HO4.out.mono (by simp; omega)) (by rw [List.length_append, HNN.out, HDN.out, HTK1.out]; omega) HMM.out rfl)
            go_wp2
            exact ⟨⟨k + 1, D.set j (_, _), V, HF.out, by simp⟩, by simp [intOf]; omega⟩
        by_cases ho1 : op = 1
        · subst ho1
          as_aux_lemma =>
            have hmm : runM K (L.take (k + 1)) = ⟨(runM K (L.take k)).ss, (runM K (L.take k)).an ++ [⟨data ++ K.bytes (lj.foldl K.step K.init), 0, 0, false, none⟩]⟩ := HM0.out
            have hea := (HRR.out.here hmm).symm.trans HAN.out
            injection hea with ea1 ea2 ea3 ea4 ea5
            subst ea1 ea2 ea3 ea4 ea5
            have hnb := HAB.out.len
            have HMM := Lib.hid hmm
            clear hmm HAN
            rw [List.length_append, HDN.out, HG.out.bytes_len] at hnb
            have hk16 := HG.out.size_le
            go_wp2_with fail
            refine wp_region_held_drew (S := fun W => Below w2.heap.size w2 W) (by kernel_rfl) ⟨rfl, rfl, rfl, Nat.le_refl _, fun _ _ => rfl⟩ (fun hHeld => ?_)
            refine wpAnyH_take (i := 0) (oi := ⟨some 93, _, _, _, _, _⟩) (v := ?_) rfl (by kernel_rfl) (by kernel_rfl) (by kernel_rfl) (fun _ _ _ h => h) (Or.inl ⟨by rfl, ?_⟩) hHeld ?_
            rotate_left
            · intro W hW; go_simp <;> with_reducible rfl
            simp only [Act.put, List.setIfInBounds_toArray, List.set_cons_zero, List.set_cons_succ]
            refine wpAnyH_take (i := 1) (oi := ⟨some 94, _, _, _, _, _⟩) (v := ?_) rfl (by kernel_rfl) (by kernel_rfl) (by kernel_rfl) (fun _ _ _ h => h) (Or.inl ⟨by rfl, ?_⟩) hHeld ?_
            rotate_left
            · intro W hW; have q := (hW.cell (p := ⟨wr.heap.size + 1, 0, none⟩) (by simp only; omega)).trans ac0; go_simp <;> with_reducible rfl
            simp only [Act.put, List.setIfInBounds_toArray, List.set_cons_zero, List.set_cons_succ]
            refine wpAnyH_take (i := 2) (oi := ⟨some 95, _, _, _, _, _⟩) (v := ?_) rfl (by kernel_rfl) (by kernel_rfl) (by kernel_rfl) (fun _ _ _ h => h) (Or.inl ⟨by rfl, ?_⟩) hHeld ?_
            rotate_left
            · intro W hW; go_simp <;> with_reducible rfl
            simp only [Act.put, List.setIfInBounds_toArray, List.set_cons_zero, List.set_cons_succ]
            refine wpAnyH_take (i := 3) (oi := ⟨some 96, _, _, _, _, _⟩) (v := ?_) rfl (by kernel_rfl) (by kernel_rfl) (by kernel_rfl) (fun _ _ _ h => h) (Or.inl ⟨by rfl, ?_⟩) hHeld ?_
            rotate_left
            · intro W hW; have q := (hW.cell (p := ⟨wr.heap.size, 3, none⟩) (by simp only; omega)).trans sc3; go_simp <;> with_reducible rfl
            simp only [Act.put, List.setIfInBounds_toArray, List.set_cons_zero, List.set_cons_succ]
            refine wpAnyH_take (i := 4) (oi := ⟨some 97, _, _, _, _, _⟩) (v := ?_) rfl (by kernel_rfl) (by kernel_rfl) (by kernel_rfl) (fun _ _ _ h => h) (Or.inl ⟨by rfl, ?_⟩) hHeld ?_
            rotate_left
            · intro W hW; go_simp <;> with_reducible rfl
            simp only [Act.put, List.setIfInBounds_toArray, List.set_cons_zero, List.set_cons_succ]
            refine wpAnyH_ready (rs := [5]) (by kernel_rfl) (by simp) (AllReadyH.cons rfl (fun K1 hK1 => ?_) AllReadyH.nil)
            go_simp
            refine (joined_any w2.drew w2.heap.size Ai ni ci data Ah K.size ch (K.bytes (lj.foldl K.step K.init)) (show w2.heap.size ≤ w2.heap.size from Nat.le_refl _) (((HBS.out.mono hB).below HB2.out).mono (by omega)).drew HHB.out.drew (by omega)).mono ?_
            rintro e w4 ⟨v4, rfl, ho4, hb4⟩
            have hb4' : Below w2.heap.size w2 w4 := ⟨hb4.os, hb4.tape, hb4.output, hb4.size, hb4.block⟩
            obtain ⟨A4, c4, rfl, _, _, hbs4⟩ := ho4.at_ (n := nb) (by rw [List.length_append, HDN.out, HG.out.bytes_len]; exact hnb)
            have HB4 := Lib.hid (HB2.out.trans (hb4'.mono (by omega)))
            have HBS4 := Lib.hid hbs4
            refine hK1.out _ _ hb4' (fun hHeld => ?_)
            clear hK1 K1 ho4 hb4 hbs4
            refine wpAnyH_ready (rs := [6]) (by kernel_rfl) (by simp) (AllReadyH.cons rfl (fun K1 hK1 => ?_) AllReadyH.nil)
            go_simp
            refine (same_true Ab nb cb A4 nb c4 (data ++ K.bytes (lj.foldl K.step K.init)) w4 _ _ (by omega) ((HAB.out.mono hB).below HB4.out) HBS4.out).mono ?_
            rintro e w5 ⟨rfl, rfl⟩
            refine hK1.out _ _ hb4' (fun hHeld => ?_)
            clear hK1 K1
            refine wpAnyH_take (i := 7) (oi := ⟨some 100, _, _, _, _, _⟩) (v := ?_) rfl (by kernel_rfl) (by kernel_rfl) (by kernel_rfl) (fun _ _ _ h => h) (Or.inl ⟨by rfl, ?_⟩) hHeld ?_
            rotate_left
            · intro W hW; go_simp <;> with_reducible rfl
            simp only [Act.put, List.setIfInBounds_toArray, List.set_cons_zero, List.set_cons_succ]
            refine wpAnyH_take (i := 8) (oi := ⟨some 101, _, _, _, _, _⟩) (v := ?_) rfl (by kernel_rfl) (by kernel_rfl) (by kernel_rfl) (fun _ _ _ h => h) (Or.inl ⟨by rfl, ?_⟩) hHeld ?_
            rotate_left
            · intro W hW; go_simp <;> with_reducible rfl
            simp only [Act.put, List.setIfInBounds_toArray, List.set_cons_zero, List.set_cons_succ]
            refine wpAnyH_take (i := 9) (oi := ⟨some 102, _, _, _, _, _⟩) (v := ?_) rfl (by kernel_rfl) (by kernel_rfl) (by kernel_rfl) (fun _ _ _ h => h) (Or.inl ⟨by rfl, ?_⟩) hHeld ?_
            rotate_left
            · intro W hW; have q := (hW.cell (p := ⟨wr.heap.size + 1, 3, none⟩) (by simp only; omega)).trans ac3; go_simp <;> with_reducible rfl
            simp only [Act.put, List.setIfInBounds_toArray, List.set_cons_zero, List.set_cons_succ]
            refine wpAnyH_take (i := 10) (oi := ⟨some 103, _, _, _, _, _⟩) (v := ?_) rfl (by kernel_rfl) (by kernel_rfl) (by kernel_rfl) (fun _ _ _ h => h) (Or.inl ⟨by rfl, ?_⟩) hHeld ?_
            rotate_left
            · intro W hW; go_simp <;> with_reducible rfl
            simp only [Act.put, List.setIfInBounds_toArray, List.set_cons_zero, List.set_cons_succ]
            refine wpAnyH_take (i := 11) (oi := ⟨some 104, _, _, _, _, _⟩) (v := ?_) rfl (by kernel_rfl) (by kernel_rfl) (by kernel_rfl) (fun _ _ _ h => h) (Or.inl ⟨by rfl, ?_⟩) hHeld ?_
            rotate_left
            · intro W hW; go_simp <;> with_reducible rfl
            simp only [Act.put, List.setIfInBounds_toArray, List.set_cons_zero, List.set_cons_succ]
            refine wpAnyH_take (i := 12) (oi := ⟨some 17, _, _, _, _, _⟩) (v := ?_) rfl (by kernel_rfl) (by kernel_rfl) (by kernel_rfl) (fun _ _ _ h => h) (Or.inl ⟨by rfl, ?_⟩) hHeld ?_
            rotate_left
            · intro W hW; go_simp <;> with_reducible rfl
            simp only [Act.put, List.setIfInBounds_toArray, List.set_cons_zero, List.set_cons_succ]
            refine wpAnyH_done (by kernel_rfl) ?_ _
            have HF := Lib.hid ((HRR.out.below hB HB4.out).quiet hlt HMM.out rfl)
            go_wp2
            exact ⟨⟨k + 1, D, V, HF.out, by simp⟩, by simp [intOf]; omega⟩
        by_cases ho2 : op = 2
        · subst ho2
          as_aux_lemma =>
            have hmm : runM K (L.take (k + 1)) = ⟨(runM K (L.take k)).ss.set j (([] : List Nat).foldl K.step K.init), (runM K (L.take k)).an ++ [⟨[], 0, 0, false, none⟩]⟩ := HM0.out
            have hea := (HRR.out.here hmm).symm.trans HAN.out
            injection hea with ea1 ea2 ea3 ea4 ea5
            subst ea1 ea2 ea3 ea4 ea5
            have hnb := HAB.out.len
            simp only [List.length_nil] at hnb
            subst hnb
            have HMM := Lib.hid hmm
            clear hmm HAN
            go_wp2_with fail
            refine (plain_true Ab cb 0 w2).mono ?_
            rintro e w3 ⟨rfl, hb3⟩
            have sc1 := (hb3.cell (p := ⟨wr.heap.size, 1, none⟩) (by simp only; omega)).trans sc1
            have sc2 := (hb3.cell (p := ⟨wr.heap.size, 2, none⟩) (by simp only; omega)).trans sc2
            have sc3 := (hb3.cell (p := ⟨wr.heap.size, 3, none⟩) (by simp only; omega)).trans sc3
            have hz3 : wr.heap.size + 2 ≤ w3.heap.size := by have := hb3.size; omega
            have HB3 := Lib.hid (HB2.out.trans (hb3.mono (by omega)))
            clear hb3
            have HR3 := Lib.hid ((HRR.out.below hB HB3.out).below (by omega) ((Below.refl w3.heap.size w3).alloc (Nat.le_refl _) (.cells #[] 5)))
            have cW := HR3.out.slots.cellAt j (by omega)
            rw [List.getElem?_map, List.getElem?_eq_getElem hj] at cW
            have fW := HR3.out.slots.frozenAt j
            have HF := Lib.hid (HR3.out.set (by simp; omega) hlt ((Own.empty w3).mono (by omega)) (Nat.zero_le _) HMM.out rfl)
            go_wp2
            exact ⟨⟨k + 1, D.set j (_, _), V, HF.out, by simp⟩, by simp [intOf]; omega⟩
        by_cases ho3 : op = 3
        · subst ho3
          as_aux_lemma =>
            have hmm : runM K (L.take (k + 1)) = ⟨(runM K (L.take k)).ss, (runM K (L.take k)).an ++ [⟨[], 0, K.size, false, none⟩]⟩ := HM0.out
            have hea := (HRR.out.here hmm).symm.trans HAN.out
            injection hea with ea1 ea2 ea3 ea4 ea5
            subst ea1 ea2 ea3 ea4 ea5
            have hnb := HAB.out.len
            simp only [List.length_nil] at hnb
            subst hnb
            have HMM := Lib.hid hmm
            clear hmm HAN
            go_wp2_with fail
            refine (plain_true Ab cb (K.size : Int) w2).mono ?_
            rintro e w3 ⟨rfl, hb3⟩
            have sc1 := (hb3.cell (p := ⟨wr.heap.size, 1, none⟩) (by simp only; omega)).trans sc1
            have sc2 := (hb3.cell (p := ⟨wr.heap.size, 2, none⟩) (by simp only; omega)).trans sc2
            have sc3 := (hb3.cell (p := ⟨wr.heap.size, 3, none⟩) (by simp only; omega)).trans sc3
            have hz3 : wr.heap.size + 2 ≤ w3.heap.size := by have := hb3.size; omega
            have HB3 := Lib.hid (HB2.out.trans (hb3.mono (by omega)))
            clear hb3
            have HF := Lib.hid ((HRR.out.below hB HB3.out).quiet hlt HMM.out rfl)
            go_wp2
            exact ⟨⟨k + 1, D, V, HF.out, by simp⟩, by simp [intOf]; omega⟩
        by_cases ho4 : op = 4
        · subst ho4
          as_aux_lemma =>
            have hmm : runM K (L.take (k + 1)) = ⟨(runM K (L.take k)).ss, (runM K (L.take k)).an ++ [⟨[], 0, K.block, false, none⟩]⟩ := HM0.out
            have hea := (HRR.out.here hmm).symm.trans HAN.out
            injection hea with ea1 ea2 ea3 ea4 ea5
            subst ea1 ea2 ea3 ea4 ea5
            have hnb := HAB.out.len
            simp only [List.length_nil] at hnb
            subst hnb
            have HMM := Lib.hid hmm
            clear hmm HAN
            rcases hbk with hbk | rfl
            · have eb : decide (blk < 0) = true := decide_eq_true hbk
              have HF := Lib.hid ((HRR.out.below hB HB2.out).quiet hlt HMM.out rfl)
              go_wp2
              exact ⟨⟨k + 1, D, V, HF.out, by simp⟩, by simp [intOf]; omega⟩
            · have eb : decide ((K.block : Int) < 0) = false := decide_eq_false (by omega)
              go_wp2_with fail
              refine (plain_true Ab cb (K.block : Int) w2).mono ?_
              rintro e w3 ⟨rfl, hb3⟩
              have sc1 := (hb3.cell (p := ⟨wr.heap.size, 1, none⟩) (by simp only; omega)).trans sc1
              have sc2 := (hb3.cell (p := ⟨wr.heap.size, 2, none⟩) (by simp only; omega)).trans sc2
              have sc3 := (hb3.cell (p := ⟨wr.heap.size, 3, none⟩) (by simp only; omega)).trans sc3
              have hz3 : wr.heap.size + 2 ≤ w3.heap.size := by have := hb3.size; omega
              have HB3 := Lib.hid (HB2.out.trans (hb3.mono (by omega)))
              clear hb3
              have HF := Lib.hid ((HRR.out.below hB HB3.out).quiet hlt HMM.out rfl)
              go_wp2
              exact ⟨⟨k + 1, D, V, HF.out, by simp⟩, by simp [intOf]; omega⟩
        by_cases ho5 : op = 5
        · subst ho5
          as_aux_lemma =>
            have hmm : runM K (L.take (k + 1)) = ⟨(runM K (L.take k)).ss ++ [(lj ++ []).foldl K.step K.init], (runM K (L.take k)).an ++ [⟨[], 0, D.length, false, none⟩]⟩ := by
              rw [HM0.out, ← HRR.out.sl, List.append_nil]; rfl
            have hea := (HRR.out.here hmm).symm.trans HAN.out
            injection hea with ea1 ea2 ea3 ea4 ea5
            subst ea1 ea2 ea3 ea4 ea5
            have hnb := HAB.out.len
            simp only [List.length_nil] at hnb
            subst hnb
            have HMM := Lib.hid hmm
            clear hmm HAN
            go_wp2_with fail
            refine (plain_true Ab cb (D.length : Int) w2).mono ?_
            rintro e w3 ⟨rfl, hb3⟩
            have sc1 := (hb3.cell (p := ⟨wr.heap.size, 1, none⟩) (by simp only; omega)).trans sc1
            have sc2 := (hb3.cell (p := ⟨wr.heap.size, 2, none⟩) (by simp only; omega)).trans sc2
            have sc3 := (hb3.cell (p := ⟨wr.heap.size, 3, none⟩) (by simp only; omega)).trans sc3
            have hz3 : wr.heap.size + 2 ≤ w3.heap.size := by have := hb3.size; omega
            have HB3 := Lib.hid (HB2.out.trans (hb3.mono (by omega)))
            clear hb3
            go_wp2_with fail
            refine (joined_any w3 wr.heap.size An nn cn lj none 0 0 [] (by omega) (HN.out.below HB3.out) (BS.nil _ _ _) (by omega)).mono ?_
            rintro e w4 ⟨v4, rfl, ho4, hb4⟩
            obtain ⟨n4, hn4⟩ : ∃ m, (lj ++ []).length = m := ⟨_, rfl⟩
            have HO4 := Lib.hid ho4
            obtain ⟨A4, c4, rfl, _, _, _⟩ := ho4.at_ hn4
            have HB4 := Lib.hid (HB3.out.trans (hb4.mono (by omega)))
            have hz4 : wr.heap.size + 2 ≤ w4.heap.size := by have := hb4.size; omega
            have HR5 := Lib.hid ((HRR.out.below hB HB4.out).below (by omega) ((Below.refl w4.heap.size w4).alloc (Nat.le_refl _) (.cells #[.slice A4 n4 c4] 22)))
            clear ho4 hb4 hn4
            go_wp2_with (at_builtin; refine wpList_append_src _ (o := ⟨some 139, _, _, _, _, _⟩) rfl _ _ 33 rfl w.heap.size 22 i (.slice none 0 0) 1 Try.underlying33 HI.out HZ.out HSZ.out rfl (by omega) (.slice (some ⟨gs, 0, none⟩) D.length cs) D.length (D.map (·.1)) rfl HR5.out.slots _ 1 1 [.slice A4 n4 c4] rfl ?hs (by simp [Value.oneCell']) (by unfold maxLen; omega) (by rw [HBY.out]; omega) ?hb ?_)
            case hs => exact src_slice _ _ _ _ (by simp)
            case hb => first | omega | (simp; omega)
            intro v9 w9 hrow9 hg9 hbl9
            have HF := Lib.hid (HR5.out.more (by simp; omega) hlt hg9 hrow9 (by simpa using hbl9) ((HO4.out.mono (by omega)).alloc _) (by rw [List.append_nil, HNN.out, HTK1.out]; omega) HMM.out rfl)
            go_wp2
            exact ⟨⟨k + 1, D ++ [(_, _)], V, HF.out, by simp⟩, by simp [intOf]; omega⟩
        by_cases ho6 : op = 6
        · subst ho6
          as_aux_lemma =>
            have hmm : runM K (L.take (k + 1)) = ⟨(runM K (L.take k)).ss, (runM K (L.take k)).an ++ [⟨K.magic ++ K.bytes (lj.foldl K.step K.init), 0, 0, false, some (lj.foldl K.step K.init)⟩]⟩ := HM0.out
            have hea := (HRR.out.here hmm).symm.trans HAN.out
            injection hea with ea1 ea2 ea3 ea4 ea5
            subst ea1 ea2 ea3 ea4 ea5
            have hnb := HAB.out.len
            have HMM := Lib.hid hmm
            clear hmm HAN
            have HR2 := Lib.hid (HRR.out.below hB HB2.out)
            have hvl := HRR.out.vl
            have cW := HR2.out.saved.cellAt k (by omega)
            rw [List.getElem?_map, List.getElem?_eq_getElem (by omega)] at cW
            have fW := HR2.out.saved.frozenAt k
            have cW2 := HR2.out.isS.cellAt k (by omega)
            rw [List.getElem?_map, List.getElem?_eq_getElem (by omega)] at cW2
            have fW2 := HR2.out.isS.frozenAt k
            have HOJ2 := Lib.hid (HOJ.out.below HB2.out)
            clear HAB hnb
            have HF := Lib.hid (HR2.out.save (by omega) hlt HOJ2.out (by rw [HNN.out, HTK1.out]; omega) HMM.out rfl)
            go_wp2
            exact ⟨⟨k + 1, D, V.set k (_, _), HF.out, by simp⟩, by simp [intOf]; omega⟩
        by_cases ho7 : op = 7
        · subst ho7
          as_aux_lemma =>
            by_cases hfr : 0 ≤ frm ∧ frm < (k : Int)
            · obtain ⟨hf0, hf1⟩ := hfr
              obtain ⟨f, rfl⟩ : ∃ f : Nat, frm = (f : Int) := ⟨frm.toNat, by omega⟩
              have hfk : f < k := by omega
              have e3 : decide ((f : Int) < (k : Int)) = true := decide_eq_true hf1
              have e4 : decide (f < k) = true := decide_eq_true hfk
              have hvl := HRR.out.vl
              have hfV : f < V.length := by omega
              have hsv : savedAt (runM K (L.take k)).an (f : Int) = (V.getD f (.nilIface, none)).2.map (·.foldl K.step K.init) := by
                unfold savedAt
                rw [if_pos ⟨by omega, by rw [HRR.out.al]; exact hf1⟩, Int.toNat_natCast, ← HRR.out.vsv f hfk]
              have cF := HRR.out.isS.cellAt f (by omega)
              rw [List.getElem?_map, List.getElem?_eq_getElem hfV] at cF
              have cV := HRR.out.saved.cellAt f (by omega)
              rw [List.getElem?_map, List.getElem?_eq_getElem hfV] at cV
              have hvo := HRR.out.vow (V.getD f (.nilIface, none)) (getD_mem hfV)
              have evf : V[f]'hfV = V.getD f (.nilIface, none) := by rw [List.getD_eq_getElem?_getD, List.getElem?_eq_getElem hfV]; rfl
              simp only [Option.map_some, evf] at cF cV
              clear evf
              generalize V.getD f (.nilIface, none) = pf at *
              obtain ⟨pv, pl⟩ := pf
              simp only at cF cV hvo hsv
              clear hf0 hf1
              cases pl with
              | some lf =>
                obtain ⟨hof, hlf⟩ := hvo lf rfl
                rw [HTK.out] at hlf
                simp only [Option.isSome_some, Option.map_some] at cF hsv
                obtain ⟨nf, hnf⟩ : ∃ m, lf.length = m := ⟨_, rfl⟩
                obtain ⟨Af, cf, rfl, _, _, hbf⟩ := hof.at_ hnf
                rw [hnf] at hlf
                have HFB := Lib.hid hbf
                have HNF := Lib.hid hnf
                have HSV := Lib.hid hsv
                clear hof hbf hnf hsv hvo
                have hmm : runM K (L.take (k + 1)) = ⟨(runM K (L.take k)).ss.set j ((lf ++ []).foldl K.step K.init), (runM K (L.take k)).an ++ [⟨[], 0, 0, false, none⟩]⟩ := by rw [HM0.out, doM_hit HSV.out, List.append_nil]; rfl
                have hea := (HRR.out.here hmm).symm.trans HAN.out
                injection hea with ea1 ea2 ea3 ea4 ea5
                subst ea1 ea2 ea3 ea4 ea5
                have hnb := HAB.out.len
                simp only [List.length_nil] at hnb
                subst hnb
                have HMM := Lib.hid hmm
                clear hmm HAN


                have cF := (HB2.out.cell (p := ⟨w.heap.size + 1 + 1 + 1, f, none⟩) (World.block_lt_of_cell? wr _ cF)).trans cF
                have cV := (HB2.out.cell (p := ⟨w.heap.size + 1 + 1, f, none⟩) (World.block_lt_of_cell? wr _ cV)).trans cV
                have hgv : w.heap.size + 1 + 1 < wr.heap.size := (HRR.out.saved.lt _ rfl).2
                have hfL : f < L.length := by omega
                have hgne : w.heap.size + 1 + 1 ≠ gs := fun e => HRR.out.ap (by rw [e]; rfl)
                go_wp2_with fail
                refine (plain_true Ab cb 0 w2).mono ?_
                rintro e w3 ⟨rfl, hb3⟩
                have sc1 := (hb3.cell (p := ⟨wr.heap.size, 1, none⟩) (by simp only; omega)).trans sc1
                have sc2 := (hb3.cell (p := ⟨wr.heap.size, 2, none⟩) (by simp only; omega)).trans sc2
                have sc3 := (hb3.cell (p := ⟨wr.heap.size, 3, none⟩) (by simp only; omega)).trans sc3
                have hz3 : wr.heap.size + 2 ≤ w3.heap.size := by have := hb3.size; omega
                have HB3 := Lib.hid (HB2.out.trans (hb3.mono (by omega)))
                clear hb3

                have cV := (HB3.out.cell (p := ⟨w.heap.size + 1 + 1, f, none⟩) hgv).trans ((HB2.out.cell (p := ⟨w.heap.size + 1 + 1, f, none⟩) hgv).symm.trans cV)
                go_wp2_with fail
                refine wp_region_held_drew (S := fun W => W.cell? ⟨wr.heap.size, 1, none⟩ = some (.int .i64 (j : Int)) ∧ W.cell? ⟨wr.heap.size, 2, none⟩ = some (.int .i64 (f : Int)) ∧ W.cell? ⟨w.heap.size + 1 + 1, f, none⟩ = some (.slice Af nf cf)) (by kernel_rfl) ⟨sc1, sc2, cV⟩ (fun hHeld => ?_)
                refine wpAnyH_take (i := 0) (oi := ⟨some 172, _, _, _, _, _⟩) (v := ?_) rfl (by kernel_rfl) (by kernel_rfl) (by kernel_rfl) (fun _ _ _ h => h) (Or.inl ⟨by rfl, ?_⟩) hHeld ?_
                rotate_left
                · intro W hW; obtain ⟨q1, q2, q3⟩ := hW; go_simp <;> with_reducible rfl
                simp only [Act.put, List.setIfInBounds_toArray, List.set_cons_zero, List.set_cons_succ]
                refine wpAnyH_take (i := 1) (oi := ⟨some 173, _, _, _, _, _⟩) (v := ?_) rfl (by kernel_rfl) (by kernel_rfl) (by kernel_rfl) (fun _ _ _ h => h) (Or.inl ⟨by rfl, ?_⟩) hHeld ?_
                rotate_left
                · intro W hW; obtain ⟨q1, q2, q3⟩ := hW; go_simp <;> with_reducible rfl
                simp only [Act.put, List.setIfInBounds_toArray, List.set_cons_zero, List.set_cons_succ]
                refine wpAnyH_take (i := 2) (oi := ⟨some 174, _, _, _, _, _⟩) (v := ?_) rfl (by kernel_rfl) (by kernel_rfl) (by kernel_rfl) (fun _ _ _ h => h) (Or.inl ⟨by rfl, ?_⟩) hHeld ?_
                rotate_left
                · intro W hW; obtain ⟨q1, q2, q3⟩ := hW; go_simp <;> with_reducible rfl
                simp only [Act.put, List.setIfInBounds_toArray, List.set_cons_zero, List.set_cons_succ]
                refine wpAnyH_take (i := 3) (oi := ⟨some 175, _, _, _, _, _⟩) (v := ?_) rfl (by kernel_rfl) (by kernel_rfl) (by kernel_rfl) (fun _ _ _ h => h) (Or.inl ⟨by rfl, ?_⟩) hHeld ?_
                rotate_left
                · intro W hW; obtain ⟨q1, q2, q3⟩ := hW; go_simp <;> with_reducible rfl
                simp only [Act.put, List.setIfInBounds_toArray, List.set_cons_zero, List.set_cons_succ]
                refine wpAnyH_take (i := 4) (oi := ⟨some 176, _, _, _, _, _⟩) (v := ?_) rfl (by kernel_rfl) (by kernel_rfl) (by kernel_rfl) (fun _ _ _ h => h) (Or.inl ⟨by rfl, ?_⟩) hHeld ?_
                rotate_left
                · intro W hW; obtain ⟨q1, q2, q3⟩ := hW; go_simp <;> with_reducible rfl
                simp only [Act.put, List.setIfInBounds_toArray, List.set_cons_zero, List.set_cons_succ]
                refine wpAnyH_take (i := 5) (oi := ⟨some 177, _, _, _, _, _⟩) (v := ?_) rfl (by kernel_rfl) (by kernel_rfl) (by kernel_rfl) (fun _ _ _ h => h) (Or.inl ⟨by rfl, ?_⟩) hHeld ?_
                rotate_left
                · intro W hW; obtain ⟨q1, q2, q3⟩ := hW; go_simp <;> with_reducible rfl
                simp only [Act.put, List.setIfInBounds_toArray, List.set_cons_zero, List.set_cons_succ]
                refine wpAnyH_take (i := 6) (oi := ⟨some 178, _, _, _, _, _⟩) (v := ?_) rfl (by kernel_rfl) (by kernel_rfl) (by kernel_rfl) (fun _ _ _ h => h) (Or.inl ⟨by rfl, ?_⟩) hHeld ?_
                rotate_left
                · intro W hW; obtain ⟨q1, q2, q3⟩ := hW; go_simp <;> with_reducible rfl
                simp only [Act.put, List.setIfInBounds_toArray, List.set_cons_zero, List.set_cons_succ]
                refine wpAnyH_take (i := 7) (oi := ⟨some 179, _, _, _, _, _⟩) (v := ?_) rfl (by kernel_rfl) (by kernel_rfl) (by kernel_rfl) (fun _ _ _ h => h) (Or.inl ⟨by rfl, ?_⟩) hHeld ?_
                rotate_left
                · intro W hW; obtain ⟨q1, q2, q3⟩ := hW; go_simp <;> with_reducible rfl
                simp only [Act.put, List.setIfInBounds_toArray, List.set_cons_zero, List.set_cons_succ]
                refine wpAnyH_ready (rs := [8]) (by kernel_rfl) (by simp) (AllReadyH.cons rfl (fun K1 hK1 => ?_) AllReadyH.nil)
                go_simp
                refine (joined_any w3.drew wr.heap.size Af nf cf lf none 0 0 [] (show wr.heap.size ≤ w3.heap.size by omega) (HFB.out.below HB3.out).drew (BS.nil _ _ _) (by omega)).mono ?_
                rintro e w4 ⟨v4, rfl, ho4, hb4⟩
                have hb4' : Below w3.heap.size w3 w4 := ⟨hb4.os, hb4.tape, hb4.output, hb4.size, hb4.block⟩
                obtain ⟨n4, hn4⟩ : ∃ m, (lf ++ []).length = m := ⟨_, rfl⟩
                have HO4 := Lib.hid ho4
                obtain ⟨A4, c4, rfl, _, _, _⟩ := ho4.at_ hn4
                have HB4 := Lib.hid (HB3.out.trans (hb4'.mono (by omega)))
                have HR4 := Lib.hid (HRR.out.below hB HB4.out)
                have hz4 : wr.heap.size + 2 ≤ w4.heap.size := by have := hb4'.size; omega
                have hS4 : w4.cell? ⟨wr.heap.size, 1, none⟩ = some (.int .i64 (j : Int)) ∧ w4.cell? ⟨wr.heap.size, 2, none⟩ = some (.int .i64 (f : Int)) ∧ w4.cell? ⟨w.heap.size + 1 + 1, f, none⟩ = some (.slice Af nf cf) := ⟨(hb4'.cell (p := ⟨wr.heap.size, 1, none⟩) (by simp only; omega)).trans sc1, (hb4'.cell (p := ⟨wr.heap.size, 2, none⟩) (by simp only; omega)).trans sc2, (hb4'.cell (p := ⟨w.heap.size + 1 + 1, f, none⟩) (by simp only; omega)).trans cV⟩
                have cW := HR4.out.slots.cellAt j (by omega)
                rw [List.getElem?_map, List.getElem?_eq_getElem hj] at cW
                have fW := HR4.out.slots.frozenAt j
                refine hK1.out _ _ hS4 (fun hHeld => ?_)
                clear hK1 K1 ho4 hb4 hb4' hn4
                refine wpAnyH_take (i := 9) (oi := ⟨some 181, _, _, _, _, _⟩) (v := ?_) rfl (by kernel_rfl) (by kernel_rfl) (by kernel_rfl) (fun _ _ _ h => h) (Or.inl ⟨by rfl, ?_⟩) hHeld ?_
                rotate_left
                · intro W hW; obtain ⟨q1, q2, q3⟩ := hW; go_simp <;> with_reducible rfl
                simp only [Act.put, List.setIfInBounds_toArray, List.set_cons_zero, List.set_cons_succ]
                refine wpAnyH_ready (rs := [10]) (by kernel_rfl) (by simp) (AllReadyH.cons rfl (fun K1 hK1 => ?_) AllReadyH.nil)
                go_simp
                refine hK1.out _ _ ⟨by rw [World.cell?_setCell_other _ _ _ _ (fun e => by injection e with e1; omega)]; exact hS4.1, by rw [World.cell?_setCell_other _ _ _ _ (fun e => by injection e with e1; omega)]; exact hS4.2.1, by rw [World.cell?_setCell_other _ _ _ _ (fun e => by injection e with e1; omega)]; exact hS4.2.2⟩ (fun hHeld => ?_)
                clear hK1 K1
                refine wpAnyH_done (by kernel_rfl) ?_ _
                have HF := Lib.hid (HR4.out.set (by omega) hlt (HO4.out.mono (by simp; omega)) (by rw [List.append_nil, HNF.out, HTK1.out]; omega) HMM.out rfl)
                go_wp2
                exact ⟨⟨k + 1, D.set j (_, _), V, HF.out, by simp⟩, by simp [intOf]; omega⟩
              | none =>
                simp only [Option.isSome_none, Option.map_none] at cF hsv
                have HSV := Lib.hid hsv
                clear hsv hvo cV
                have hmm : runM K (L.take (k + 1)) = ⟨(runM K (L.take k)).ss, (runM K (L.take k)).an ++ [⟨[], 0, 0, true, none⟩]⟩ := by rw [HM0.out, doM_miss HSV.out]
                have hea := (HRR.out.here hmm).symm.trans HAN.out
                injection hea with ea1 ea2 ea3 ea4 ea5
                subst ea1 ea2 ea3 ea4 ea5
                have hnb := HAB.out.len
                simp only [List.length_nil] at hnb
                subst hnb
                have HMM := Lib.hid hmm
                clear hmm HAN
                have cF := (HB2.out.cell (p := ⟨w.heap.size + 1 + 1 + 1, f, none⟩) (World.block_lt_of_cell? wr _ cF)).trans cF
                have HF := Lib.hid ((HRR.out.below hB HB2.out).quiet hlt HMM.out rfl)
                go_wp2
                exact ⟨⟨k + 1, D, V, HF.out, by simp⟩, by simp [intOf]; omega⟩
            · have hsv : savedAt (runM K (L.take k)).an frm = none := by
                unfold savedAt
                rw [if_neg (by rw [HRR.out.al]; exact hfr)]
              have HSV := Lib.hid hsv
              clear hsv
              by_cases hf0 : 0 ≤ frm
              · have e3 : decide (0 ≤ frm) = true := decide_eq_true hf0
                have e4 : decide (frm < (k : Int)) = false := decide_eq_false (by omega)
                have hmm : runM K (L.take (k + 1)) = ⟨(runM K (L.take k)).ss, (runM K (L.take k)).an ++ [⟨[], 0, 0, true, none⟩]⟩ := by rw [HM0.out, doM_miss HSV.out]
                have hea := (HRR.out.here hmm).symm.trans HAN.out
                injection hea with ea1 ea2 ea3 ea4 ea5
                subst ea1 ea2 ea3 ea4 ea5
                have hnb := HAB.out.len
                simp only [List.length_nil] at hnb
                subst hnb
                have HMM := Lib.hid hmm
                clear hmm HAN
                have HF := Lib.hid ((HRR.out.below hB HB2.out).quiet hlt HMM.out rfl)
                go_wp2
                exact ⟨⟨k + 1, D, V, HF.out, by simp⟩, by simp [intOf]; omega⟩
              · have e3 : decide (0 ≤ frm) = false := decide_eq_false hf0
                have hmm : runM K (L.take (k + 1)) = ⟨(runM K (L.take k)).ss, (runM K (L.take k)).an ++ [⟨[], 0, 0, true, none⟩]⟩ := by rw [HM0.out, doM_miss HSV.out]
                have hea := (HRR.out.here hmm).symm.trans HAN.out
                injection hea with ea1 ea2 ea3 ea4 ea5
                subst ea1 ea2 ea3 ea4 ea5
                have hnb := HAB.out.len
                simp only [List.length_nil] at hnb
                subst hnb
                have HMM := Lib.hid hmm
                clear hmm HAN
                have HF := Lib.hid ((HRR.out.below hB HB2.out).quiet hlt HMM.out rfl)
                go_wp2
                exact ⟨⟨k + 1, D, V, HF.out, by simp⟩, by simp [intOf]; omega⟩
        by_cases ho8 : op = 8
        · subst ho8
          as_aux_lemma =>
            have hmm : runM K (L.take (k + 1)) = ⟨(runM K (L.take k)).ss, (runM K (L.take k)).an ++ [⟨[], K.val (lj.foldl K.step K.init), 0, false, none⟩]⟩ := HM0.out
            have hea := (HRR.out.here hmm).symm.trans HAN.out
            injection hea with ea1 ea2 ea3 ea4 ea5
            subst ea1 ea2 ea3 ea4 ea5
            have hnb := HAB.out.len
            simp only [List.length_nil] at hnb
            subst hnb
            have HMM := Lib.hid hmm
            clear hmm HAN
            have hval := HV8.out _ HOK.out
            obtain ⟨xv, hxv⟩ : ∃ xv, K.val (lj.foldl K.step K.init) = xv := ⟨_, rfl⟩
            rw [hxv] at ac1 hval
            clear hxv
            rcases hval with ⟨hs8, hnum⟩ | ⟨hs8, rfl⟩
            · have HNUM := Lib.hid hnum
              clear hnum
              have e8 : decide ((K.size : Int) ≤ 8) = true := decide_eq_true (by omega)
              go_wp2_with fail
              refine (number_any Ah K.size ch _ w2 _ hs8 HHB.out).mono ?_
              rintro e w3 ⟨rfl, rfl⟩
              rw [HNUM.out]
              have HF := Lib.hid ((HRR.out.below hB HB2.out).quiet hlt HMM.out rfl)
              go_wp2
              exact ⟨⟨k + 1, D, V, HF.out, by simp⟩, by simp [intOf]; omega⟩
            · have e8 : decide ((K.size : Int) ≤ 8) = false := decide_eq_false (by omega)
              have HF := Lib.hid ((HRR.out.below hB HB2.out).quiet hlt HMM.out rfl)
              go_wp2
              exact ⟨⟨k + 1, D, V, HF.out, by simp⟩, by simp [intOf]; omega⟩
        omega
      · have hmm : runM K (L.take (k + 1)) = ⟨(runM K (L.take k)).ss, (runM K (L.take k)).an ++ [Ans.zero]⟩ := by
          rw [HM.out]; exact stepM_bad K _ _ (by rw [HRR.out.sl]; exact hgood)
        have hea := HRR.out.here hmm
        have g0 := HAA.out.c0
        have g1 : wr.cell? ⟨ga, oa + k * 4 + 1, none⟩ = some (.int .u64 0) := by have := HAA.out.c1; rw [hea] at this; exact this
        have g2 : wr.cell? ⟨ga, oa + k * 4 + 2, none⟩ = some (.int .i64 0) := by have := HAA.out.c2; rw [hea] at this; exact this
        have g3 : wr.cell? ⟨ga, oa + k * 4 + 3, none⟩ = some (.bool false) := by have := HAA.out.c3; rw [hea] at this; exact this
        have hab := HAA.out.bs
        rw [hea] at hab
        have hnb : 0 = nb := hab.len
        subst hnb
        have HMM := Lib.hid hmm
        clear hab hea hmm HAA
        by_cases hs0 : slot < 0
        · have e0 : decide (slot < 0) = true := decide_eq_true hs0
          as_aux_lemma =>
            go_wp2_with fail
            refine (plain_true Ab cb 0 _).mono ?_
            rintro e w2 ⟨rfl, hb2⟩
            obtain ⟨hB2, _⟩ := scr_cells hb2
            have HF := Lib.hid ((HRR.out.below hB hB2).quiet hlt HMM.out rfl)
            go_wp2
            exact ⟨⟨k + 1, D, V, HF.out, by simp⟩, by simp [intOf]; omega⟩
        have e0 : decide (slot < 0) = false := decide_eq_false hs0
        by_cases hs1 : (D.length : Int) ≤ slot
        · have e1 : decide ((D.length : Int) ≤ slot) = true := decide_eq_true hs1
          as_aux_lemma =>
            go_wp2_with fail
            refine (plain_true Ab cb 0 _).mono ?_
            rintro e w2 ⟨rfl, hb2⟩
            obtain ⟨hB2, _⟩ := scr_cells hb2
            have HF := Lib.hid ((HRR.out.below hB hB2).quiet hlt HMM.out rfl)
            go_wp2
            exact ⟨⟨k + 1, D, V, HF.out, by simp⟩, by simp [intOf]; omega⟩
        have e1 : decide ((D.length : Int) ≤ slot) = false := decide_eq_false hs1
        by_cases hp0 : op < 0
        · have e2 : decide (op < 0) = true := decide_eq_true hp0
          as_aux_lemma =>
            go_wp2_with fail
            refine (plain_true Ab cb 0 _).mono ?_
            rintro e w2 ⟨rfl, hb2⟩
            obtain ⟨hB2, _⟩ := scr_cells hb2
            have HF := Lib.hid ((HRR.out.below hB hB2).quiet hlt HMM.out rfl)
            go_wp2
            exact ⟨⟨k + 1, D, V, HF.out, by simp⟩, by simp [intOf]; omega⟩
        have e2 : decide (op < 0) = false := decide_eq_false hp0
        have e3 : decide (8 < op) = true := decide_eq_true (by omega)
        as_aux_lemma =>
          go_wp2_with fail
          refine (plain_true Ab cb 0 _).mono ?_
          rintro e w2 ⟨rfl, hb2⟩
          obtain ⟨hB2, _⟩ := scr_cells hb2
          have HF := Lib.hid ((HRR.out.below hB hB2).quiet hlt HMM.out rfl)
          go_wp2
          exact ⟨⟨k + 1, D, V, HF.out, by simp⟩, by simp [intOf]; omega⟩
    · obtain rfl : k = L.length := by omega
      go_wp2
      go_ret
      exact ⟨rfl, hbel⟩

end Go.Proofs.Ytdpjdglcienbfaa

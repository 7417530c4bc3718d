/-
  What holds at each round of laws.script, and how a step carries it on. Conditions: those that each fact names.
-/
import Derived.Test.YtdpjdglcienbfaaSteps
import Derived.Laws.OwnMore
namespace Go.Proofs.Ytdpjdglcienbfaa
open Go.RowKit

/-- The bytes of the first k steps. -/
def tot (L : List Stp) (k : Nat) : Nat := ((L.take k).map (·.data.length)).sum
theorem tot_succ (L : List Stp) (k : Nat) (hk : k < L.length) : tot L (k + 1) = tot L k + (L.getD k Stp.zero).data.length := by
  unfold tot
  rw [List.take_succ_eq_append_getElem hk, List.map_append, List.sum_append, List.getD_eq_getElem?_getD, List.getElem?_eq_getElem hk]; simp
theorem tot_le (L : List Stp) : ∀ k, tot L k ≤ (L.map (·.data.length)).sum := by
  intro k
  have e : (L.map (·.data.length)).sum = tot L k + ((L.drop k).map (·.data.length)).sum := by
    unfold tot
    rw [← List.sum_append, ← List.map_append, List.take_append_drop]
  omega

structure AnsAt (w : World) (B g o : Nat) (a : Ans) (A : Option Addr) (n c : Nat) : Prop where
  c0 : w.cell? ⟨g, o, none⟩ = some (.slice A n c)
  c1 : w.cell? ⟨g, o + 1, none⟩ = some (.int .u64 ((a.value : Nat) : Int))
  c2 : w.cell? ⟨g, o + 2, none⟩ = some (.int .i64 ((a.number : Nat) : Int))
  c3 : w.cell? ⟨g, o + 3, none⟩ = some (.bool a.fail)
  bs : BS w B A n a.data
  nc : n ≤ c
  cm : c ≤ maxLen
/-- A slice of answers that reads as M, in blocks below B. -/
structure SA (w : World) (B : Nat) (A : Option Addr) (n : Nat) (M : List Ans) : Prop where
  len : M.length = n
  spot : 0 < n → ∃ g o, A = some ⟨g, o, none⟩ ∧ g < B ∧ ∀ i, i < n → ∃ Ai ni ci, AnsAt w B g (o + i * 4) (M.getD i Ans.zero) Ai ni ci
theorem SA.below {w w' : World} {B n : Nat} {A : Option Addr} {M : List Ans} (h : SA w B A n M) (hb : Below B w w') : SA w' B A n M :=
  ⟨h.len, fun hn => by
    obtain ⟨g, o, e, hg, hs⟩ := h.spot hn
    refine ⟨g, o, e, hg, fun i hi => ?_⟩
    obtain ⟨Ai, ni, ci, hc⟩ := hs i hi
    exact ⟨Ai, ni, ci, (hb.cell (p := ⟨g, _, none⟩) hg).trans hc.c0, (hb.cell (p := ⟨g, _, none⟩) hg).trans hc.c1, (hb.cell (p := ⟨g, _, none⟩) hg).trans hc.c2, (hb.cell (p := ⟨g, _, none⟩) hg).trans hc.c3, hc.bs.below hb, hc.nc, hc.cm⟩⟩
/-- What impl.run hands back, as a slice of answers. -/
theorem sa_of_run {K : Kind} {B0 : Nat} {w w' : World} {L : List Stp} {e : Ending} (h : RetRun K B0 w L e w') : ∃ A n c, e = .returned (.slice A n c) ∧ SA w' w'.heap.size A n (runM K L).an ∧ n = L.length ∧ n ≤ c ∧ Below B0 w w' := by
  obtain ⟨v, P, rfl, ho, hp, hdat, hb⟩ := h
  have hpl : P.length = L.length := by
    have := congrArg List.length hp
    rw [List.length_map, runM_len] at this
    exact this
  rcases Nat.eq_zero_or_pos P.length with h0 | h0
  · obtain ⟨A, c, rfl, hc, _⟩ := row_at ho
    exact ⟨A, P.length, c, rfl, ⟨by rw [← hp]; simp, fun h => by omega⟩, hpl, hc, hb⟩
  · obtain ⟨A0, c0, rfl, hc0, _⟩ := row_at ho
    obtain ⟨g, c, ev, hglt, hc⟩ := answers_open ho hdat h0 hp
    have hal : (runM K L).an.length = P.length := by rw [← hp]; simp
    injection ev with e1 e2 e3
    subst e1 e3
    refine ⟨_, P.length, _, rfl, ⟨hal, fun _ => ⟨g, 0, rfl, hglt, fun i hi => ?_⟩⟩, hpl, hc0, hb⟩
    obtain ⟨A', cc, p0, hn, hm, hbs, p1, p2, p3⟩ := hc i (by omega)
    exact ⟨A', _, cc, by simpa using p0, by simpa using p1, by simpa using p2, by simpa using p3, hbs, hn, hm⟩

structure ScrR (K : Kind) (B0 : Nat) (w : World) (L : List Stp) (slv svv isv : Value) (wr : World) (k : Nat) (D : List (Value × List Nat)) (V : List (Value × Option (List Nat))) : Prop where
  kl : k ≤ L.length
  slots : wr.ownsRow B0 22 1 slv D.length (D.map (·.1))
  dss : D.map (fun d => d.2.foldl K.step K.init) = (runM K (L.take k)).ss
  dow : ∀ d ∈ D, Own wr B0 d.1 d.2 ∧ d.2.length ≤ tot L k
  dk : D.length ≤ k + 1
  vl : V.length = L.length
  saved : wr.ownsRow B0 22 1 svv L.length (V.map (·.1))
  isS : wr.ownsRow B0 4 1 isv L.length (V.map fun v => .bool v.2.isSome)
  vow : ∀ v ∈ V, ∀ l, v.2 = some l → Own wr B0 v.1 l ∧ l.length ≤ tot L k
  vsv : ∀ i, i < k → (V.getD i (.nilIface, none)).2.map (·.foldl K.step K.init) = ((runM K (L.take k)).an.getD i Ans.zero).sav
  vno : ∀ i, k ≤ i → (V.getD i (.nilIface, none)).2 = none
  ap : svv.ownBlock ≠ slv.ownBlock
  bel : Below B0 w wr

section
variable {K : Kind} {B0 : Nat} {w : World} {L : List Stp} {slv svv isv : Value} {wr w1 : World} {k : Nat} {D : List (Value × List Nat)} {V : List (Value × Option (List Nat))} {a : Ans}

theorem grow_of_below (h : Below wr.heap.size wr w1) : wr.grownBy w1 none := ⟨h.os, h.tape, h.output, h.size, fun k hk _ => h.block k hk⟩
theorem ScrR.below (h : ScrR K B0 w L slv svv isv wr k D V) (hB : B0 ≤ wr.heap.size) (hb : Below wr.heap.size wr w1) : ScrR K B0 w L slv svv isv w1 k D V :=
  have hg := grow_of_below hb
  { h with
    slots := h.slots.kept hg none_or
    dow := fun d hd => ⟨(h.dow d hd).1.grown hg none_or, (h.dow d hd).2⟩
    saved := h.saved.kept hg none_or
    isS := h.isS.kept hg none_or
    vow := fun v hv l hl => ⟨(h.vow v hv l hl).1.grown hg none_or, (h.vow v hv l hl).2⟩
    bel := h.bel.grown hg hB (fun _ e => by cases e) }
theorem ScrR.al (h : ScrR K B0 w L slv svv isv wr k D V) : (runM K (L.take k)).an.length = k := by
  have := h.kl
  rw [runM_len, List.length_take]; omega
theorem ScrR.sl (h : ScrR K B0 w L slv svv isv wr k D V) : (runM K (L.take k)).ss.length = D.length := by rw [← h.dss]; simp
theorem tot_mono (L : List Stp) (k : Nat) (hk : k < L.length) : tot L k ≤ tot L (k + 1) := by rw [tot_succ L k hk]; omega
theorem vsv_next (h : ScrR K B0 w L slv svv isv wr k D V) {V' : List (Value × Option (List Nat))} {ss : List Nat} (hm : runM K (L.take (k + 1)) = ⟨ss, (runM K (L.take k)).an ++ [a]⟩)
    (hV : ∀ i, i < k → V'.getD i (.nilIface, none) = V.getD i (.nilIface, none)) (ha : (V'.getD k (.nilIface, none)).2.map (·.foldl K.step K.init) = a.sav) :
    ∀ i, i < k + 1 → (V'.getD i (.nilIface, none)).2.map (·.foldl K.step K.init) = ((runM K (L.take (k + 1))).an.getD i Ans.zero).sav := by
  intro i hi
  rw [hm]
  have hal := h.al
  by_cases e : i < k
  · rw [hV i e, h.vsv i e, List.getD_eq_getElem?_getD, List.getD_eq_getElem?_getD, List.getElem?_append_left (by omega)]
  · obtain rfl : i = k := by omega
    rw [ha, List.getD_eq_getElem?_getD, List.getElem?_append_right (by omega), hal]; simp
/-- A step that turns no slot and saves nothing. -/
theorem ScrR.quiet (h : ScrR K B0 w L slv svv isv wr k D V) (hk : k < L.length) (hm : runM K (L.take (k + 1)) = ⟨(runM K (L.take k)).ss, (runM K (L.take k)).an ++ [a]⟩) (ha : a.sav = none) : ScrR K B0 w L slv svv isv wr (k + 1) D V :=
  have ht := tot_mono L k hk
  { h with
    kl := hk
    dss := by rw [hm]; exact h.dss
    dow := fun d hd => ⟨(h.dow d hd).1, Nat.le_trans (h.dow d hd).2 ht⟩
    dk := by have := h.dk; omega
    vow := fun v hv l hl => ⟨(h.vow v hv l hl).1, Nat.le_trans (h.vow v hv l hl).2 ht⟩
    vsv := vsv_next h hm (fun _ _ => rfl) (by rw [h.vno k (Nat.le_refl _), ha]; rfl)
    vno := fun i hi => h.vno i (by omega) }
/-- A step that turns one slot. -/
theorem ScrR.set {gs cs j : Nat} {v' : Value} {l' : List Nat} (h : ScrR K B0 w L (.slice (some ⟨gs, 0, none⟩) D.length cs) svv isv wr k D V) (hB : B0 ≤ wr.heap.size) (hk : k < L.length) (hv : Own wr B0 v' l') (hl : l'.length ≤ tot L (k + 1))
    (hm : runM K (L.take (k + 1)) = ⟨(runM K (L.take k)).ss.set j (l'.foldl K.step K.init), (runM K (L.take k)).an ++ [a]⟩) (ha : a.sav = none) :
    ScrR K B0 w L (.slice (some ⟨gs, 0, none⟩) D.length cs) svv isv (wr.setCell ⟨gs, j, none⟩ v') (k + 1) (D.set j (v', l')) V := by
  have ht := tot_mono L k hk
  obtain ⟨hs, hg⟩ := h.slots.stored j v'
  have hne : ∀ {v l}, Own wr B0 v l → v.ownBlock = none ∨ v.ownBlock ≠ some gs := fun ho => rows_apart ho.1 h.slots (by decide)
  exact {
    kl := hk
    slots := by rw [List.length_set, List.map_set]; exact hs
    dss := by rw [hm, List.map_set, h.dss]
    dow := fun d hd => by
      rcases List.mem_or_eq_of_mem_set hd with hd | rfl
      · exact ⟨(h.dow d hd).1.grown hg (hne (h.dow d hd).1), Nat.le_trans (h.dow d hd).2 ht⟩
      · exact ⟨hv.grown hg (hne hv), hl⟩
    dk := by have := h.dk; rw [List.length_set]; omega
    vl := h.vl
    saved := h.saved.kept hg (.inr h.ap)
    isS := h.isS.kept hg (rows_apart h.isS h.slots (by decide))
    vow := fun v hv l hl => ⟨(h.vow v hv l hl).1.grown hg (hne (h.vow v hv l hl).1), Nat.le_trans (h.vow v hv l hl).2 ht⟩
    vsv := vsv_next h hm (fun _ _ => rfl) (by rw [h.vno k (Nat.le_refl _), ha]; rfl)
    vno := fun i hi => h.vno i (by omega)
    ap := h.ap
    bel := h.bel.grown hg hB (fun k' e => by cases e; exact (h.slots.lt _ rfl).1) }
/-- A step that lays a new slot. -/
theorem ScrR.more {slv' v' : Value} {l' : List Nat} (h : ScrR K B0 w L slv svv isv wr k D V) (hB : B0 ≤ wr.heap.size) (hk : k < L.length) (hg : wr.grownBy w1 slv.ownBlock) (hs : w1.ownsRow B0 22 1 slv' (D.length + 1) (D.map (·.1) ++ [v'])) (hblk : slv'.ownBlock = slv.ownBlock ∨ slv'.ownBlock = some wr.heap.size) (hv : Own wr B0 v' l') (hl : l'.length ≤ tot L (k + 1))
    (hm : runM K (L.take (k + 1)) = ⟨(runM K (L.take k)).ss ++ [l'.foldl K.step K.init], (runM K (L.take k)).an ++ [a]⟩) (ha : a.sav = none) :
    ScrR K B0 w L slv' svv isv w1 (k + 1) (D ++ [(v', l')]) V := by
  have ht := tot_mono L k hk
  have hne : ∀ {v l}, Own wr B0 v l → v.ownBlock = none ∨ v.ownBlock ≠ slv.ownBlock := fun ho => rows_apart ho.1 h.slots (by decide)
  exact {
    kl := hk
    slots := by rw [List.length_append, List.map_append]; exact hs
    dss := by rw [hm, List.map_append, h.dss]; rfl
    dow := fun d hd => by
      rcases List.mem_append.1 hd with hd | hd
      · exact ⟨(h.dow d hd).1.grown hg (hne (h.dow d hd).1), Nat.le_trans (h.dow d hd).2 ht⟩
      · rcases List.mem_singleton.1 hd with rfl
        exact ⟨hv.grown hg (hne hv), hl⟩
    dk := by have := h.dk; rw [List.length_append]; simp; omega
    vl := h.vl
    saved := h.saved.kept hg (.inr h.ap)
    isS := h.isS.kept hg (rows_apart h.isS h.slots (by decide))
    vow := fun v hv l hl => ⟨(h.vow v hv l hl).1.grown hg (hne (h.vow v hv l hl).1), Nat.le_trans (h.vow v hv l hl).2 ht⟩
    vsv := vsv_next h hm (fun _ _ => rfl) (by rw [h.vno k (Nat.le_refl _), ha]; rfl)
    vno := fun i hi => h.vno i (by omega)
    ap := by
      rcases hblk with e | e
      · rw [e]; exact h.ap
      · rw [e]
        intro e2
        have := (h.saved.lt _ e2).2
        omega
    bel := h.bel.grown hg hB (fun k' e => (h.slots.lt k' e).1) }
/-- A step that saves a slot's data. -/
theorem ScrR.save {gv gi cv ci : Nat} {v' : Value} {l' : List Nat} (h : ScrR K B0 w L slv (.slice (some ⟨gv, 0, none⟩) L.length cv) (.slice (some ⟨gi, 0, none⟩) L.length ci) wr k D V) (hB : B0 ≤ wr.heap.size) (hk : k < L.length) (hv : Own wr B0 v' l') (hl : l'.length ≤ tot L (k + 1))
    (hm : runM K (L.take (k + 1)) = ⟨(runM K (L.take k)).ss, (runM K (L.take k)).an ++ [a]⟩) (ha : a.sav = some (l'.foldl K.step K.init)) :
    ScrR K B0 w L slv (.slice (some ⟨gv, 0, none⟩) L.length cv) (.slice (some ⟨gi, 0, none⟩) L.length ci) ((wr.setCell ⟨gv, k, none⟩ v').setCell ⟨gi, k, none⟩ (.bool true)) (k + 1) D (V.set k (v', some l')) := by
  have ht := tot_mono L k hk
  have hvl := h.vl
  obtain ⟨hs1, hg1⟩ := h.saved.stored k v'
  have hi1 := h.isS.kept hg1 (rows_apart h.isS h.saved (by decide))
  obtain ⟨hi2, hg2⟩ := hi1.stored k (.bool true)
  have hne1 : ∀ {v l}, Own wr B0 v l → v.ownBlock = none ∨ v.ownBlock ≠ some gv := fun ho => rows_apart ho.1 h.saved (by decide)
  have own2 : ∀ {v l}, Own wr B0 v l → Own ((wr.setCell ⟨gv, k, none⟩ v').setCell ⟨gi, k, none⟩ (.bool true)) B0 v l := fun ho =>
    have h1 := ho.grown hg1 (hne1 ho)
    h1.grown hg2 (rows_apart h1.1 hi1 (by decide))
  have hsl1 := h.slots.kept hg1 (.inr (Ne.symm h.ap))
  have hV : ∀ i, i ≠ k → (V.set k (v', some l')).getD i (.nilIface, none) = V.getD i (.nilIface, none) := fun i hi => by
    rw [List.getD_eq_getElem?_getD, List.getD_eq_getElem?_getD, List.getElem?_set_ne (Ne.symm hi)]
  exact {
    kl := hk
    slots := hsl1.kept hg2 (rows_apart hsl1 hi1 (by decide))
    dss := by rw [hm]; exact h.dss
    dow := fun d hd => ⟨own2 (h.dow d hd).1, Nat.le_trans (h.dow d hd).2 ht⟩
    dk := by have := h.dk; omega
    vl := by rw [List.length_set]; exact hvl
    saved := by rw [List.map_set]; exact hs1.kept hg2 (rows_apart hs1 hi1 (by decide))
    isS := by rw [List.map_set]; exact hi2
    vow := fun v hv' l hl' => by
      rcases List.mem_or_eq_of_mem_set hv' with hv' | rfl
      · exact ⟨own2 (h.vow v hv' l hl').1, Nat.le_trans (h.vow v hv' l hl').2 ht⟩
      · injection hl' with hl'
        subst hl'
        exact ⟨own2 hv, hl⟩
    vsv := vsv_next h hm (fun i hi => hV i (by omega)) (by
      rw [List.getD_eq_getElem?_getD, List.getElem?_set_self (by omega), ha]; rfl)
    vno := fun i hi => by rw [hV i (by omega)]; exact h.vno i (by omega)
    ap := h.ap
    bel := (h.bel.grown hg1 hB (fun k' e => by cases e; exact (h.saved.lt _ rfl).1)).grown hg2 (by have := hg1.size; omega) (fun k' e => by cases e; exact (h.isS.lt _ rfl).1) }
end

end Go.Proofs.Ytdpjdglcienbfaa

/-
  How a slice of steps among the arguments of a law is opened: its value, the list that it reads as, and that its bulk bounds the number of its steps and of their bytes. Conditions: it reads as data.
-/
import Derived.Test.YtdpjdglcienbfaaRows
import Derived.Test.YtdpjdglcienbfaaScriptRel
import Derived.Test.YtdpjdglcienbfaaOpenArgs
import Derived.Deep.Slices
namespace Go.Proofs.Ytdpjdglcienbfaa
open Go.ChangeShapes Go.WideShapes Go.ChangeAt Go.RowKit Go.Deep

theorem bulk_one {H : Type} (d : DataW H) : 1 ≤ Rows.uptoBulk d := by
  cases d with
  | lit l => cases l <;> simp [Rows.uptoBulk]
  | nil => simp [Rows.uptoBulk]
  | ptr d => simp [Rows.uptoBulk]
  | slice elems spare => simp [Rows.uptoBulk]
  | agg parts => simp [Rows.uptoBulk]
  | iface t d => simp [Rows.uptoBulk]
  | map entries => simp [Rows.uptoBulk]
  | held h => simp [Rows.uptoBulk]
theorem bulk_len {H : Type} (l : List (DataW H)) : l.length ≤ Rows.uptoBulkAll l := by
  induction l with
  | nil => simp [Rows.uptoBulkAll]
  | cons x r ih => have := bulk_one x; simp only [Rows.uptoBulkAll, List.length_cons]; omega
theorem bulk_append {H : Type} (l m : List (DataW H)) : Rows.uptoBulkAll (l ++ m) = Rows.uptoBulkAll l + Rows.uptoBulkAll m := by
  induction l with
  | nil => simp [Rows.uptoBulkAll]
  | cons x r ih => simp only [List.cons_append, Rows.uptoBulkAll, ih]; omega
theorem bulk_sum {H : Type} (D : Nat → DataW H) (S : Nat → Nat) : ∀ n, (∀ i, i < n → S i ≤ Rows.uptoBulk (D i)) → ((List.range n).map S).sum ≤ Rows.uptoBulkAll ((List.range n).map D) := by
  intro n
  induction n with
  | zero => intro _; simp
  | succ n ih =>
    intro h
    have h1 := ih (fun i hi => h i (by omega))
    have h2 := h n (by omega)
    rw [List.range_succ, List.map_append, List.map_append, List.sum_append, bulk_append]
    simp only [List.map_cons, List.map_nil, List.sum_cons, List.sum_nil, Rows.uptoBulkAll]
    omega
theorem bulk_slice {H : Type} (elems spare : List (DataW H)) : elems.length + spare.length + 1 ≤ Rows.uptoBulk (.slice elems spare) := by
  have h1 := bulk_len elems
  have h2 := bulk_len spare
  simp only [Rows.uptoBulk]
  omega

section
variable {H : Type} {enc : TypeId × Value → H} {w : World} {held : Bool}
/-- A field that is a byte slice. -/
theorem open_field {n : Nat} {v : Value} {y : DataW H × List MemPlace} (h : DataW.trod enc Try.prog w 0 (fun _ => true) held n 22 [v] = some y) :
    ∃ (A : Option Addr) (n c : Nat) (l : List Nat), v = .slice A n c ∧ BS w w.heap.size A n l ∧ n ≤ c ∧ c ≤ maxLen ∧ l.length ≤ Rows.uptoBulk y.1 := by
  rcases open_ints Try.underlying22 Try.underlying5 (by kernel_rfl) h with ⟨hcs, rfl⟩ | ⟨x, len, cap, zs, hcs, _, hl, hm, hz, rfl, hcell, hwz⟩
  · injection hcs with hcs
    exact ⟨none, 0, 0, [], hcs, BS.nil _ _ _, Nat.le_refl _, Nat.zero_le _, by simp⟩
  · injection hcs with hcs
    simp only [if_true] at hz
    obtain ⟨_, _, l, hb⟩ := bs_of_row (w := w) (a := some x) (len := len) (cap := cap) (zs := zs) (.inr ⟨x, rfl, hl, hm, hz, hcell, hwz⟩)
    refine ⟨_, _, _, l, hcs, hb, hl, hm, ?_⟩
    have h1 := bulk_slice (H := H) (lits .u8 (zs.take len)) (lits .u8 (zs.drop len))
    have h2 := hb.len
    have h3 : (lits (H := H) .u8 (zs.take len)).length = len := by simp [lits]; omega
    rw [h3] at h1
    simp only
    omega
set_option maxRecDepth 100000 in
/-- One step of the slice. -/
theorem open_step {n : Nat} {a : Addr} {y : DataW H × List MemPlace} {cs : List Value} (hc : w.cells? 0 a 4 = some cs) (h : DataW.trod enc Try.prog w 0 (fun _ => true) held n 36 cs = some y) :
    ∃ (s : Stp) (A : Option Addr) (n c : Nat), w.cell? (a.add 0) = some (.int .i64 s.op) ∧ w.cell? (a.add 1) = some (.int .i64 s.slot) ∧ w.cell? (a.add 2) = some (.int .i64 s.frm) ∧ w.cell? (a.add 3) = some (.slice A n c) ∧ BS w w.heap.size A n s.data ∧ n ≤ c ∧ c ≤ maxLen ∧ s.data.length ≤ Rows.uptoBulk y.1 := by
  obtain ⟨ys, n2, _, rfl, _, hyl, hfld⟩ := DataW.trod_struct Try.underlying36 h
  obtain ⟨_, hcl, hat⟩ := World.cells?_some hc
  match cs, hcl with
  | [v0, v1, v2, v3], _ =>
    match ys, hyl with
    | [y0, y1, y2, y3], _ =>
      have g0 := hfld 0 _ rfl
      have g1 := hfld 1 _ rfl
      have g2 := hfld 2 _ rfl
      have g3 := hfld 3 _ rfl
      simp only [List.getElem?_cons_zero, List.getElem?_cons_succ] at g0 g1 g2 g3
      obtain ⟨x0, e0, _, _⟩ := DataW.trod_int Try.underlying3 g0
      obtain ⟨x1, e1, _, _⟩ := DataW.trod_int Try.underlying3 g1
      obtain ⟨x2, e2, _, _⟩ := DataW.trod_int Try.underlying3 g2
      obtain ⟨A, m, c, l, rfl, hb, hnc, hcm, hle⟩ := open_field g3
      injection e0 with e0
      injection e1 with e1
      injection e2 with e2
      subst e0 e1 e2
      refine ⟨⟨x0, x1, x2, l⟩, A, m, c, hat 0 (by omega), hat 1 (by omega), hat 2 (by omega), hat 3 (by omega), hb, hnc, hcm, ?_⟩
      simp only [List.map_cons, List.map_nil, Rows.uptoBulk, Rows.uptoBulkAll]
      omega
set_option maxRecDepth 100000 in
theorem open_steps {r : Reach} {b0 : Nat} {v : Value} {d : DataW H} {p : List MemPlace} (hv : Value.okWide Try.prog w r b0 28 v) (h : DataW.Trod enc Try.prog w 0 (fun _ => true) held 28 v d p) :
    ∃ (A : Option Addr) (n c : Nat) (L : List Stp), v = .slice A n c ∧ SS w w.heap.size A n L ∧ n ≤ c ∧ c ≤ Rows.uptoBulk d ∧ (L.map (·.data.length)).sum ≤ Rows.uptoBulk d := by
  obtain ⟨A, n, c, rfl⟩ := okWide_slice Try.underlying28 hv
  obtain ⟨fuel, hf⟩ := h
  rcases open_slice Try.underlying28 hf with ⟨hcs, hx⟩ | ⟨a, len, cap, m, n', D, Pl, hcs, _, hl, hm, hmm, hx, hi⟩
  · simp [Value.cells] at hcs
    obtain ⟨rfl, rfl, rfl⟩ := hcs
    exact ⟨none, 0, 0, [], rfl, ⟨rfl, fun h => absurd h (by omega)⟩, Nat.le_refl _, Nat.zero_le _, by simp⟩
  · simp [Value.cells] at hcs
    obtain ⟨rfl, rfl, rfl⟩ := hcs
    simp only [if_true] at hmm
    subst hmm
    simp only [Prod.mk.injEq] at hx
    obtain ⟨rfl, rfl⟩ := hx
    have each : ∀ i, i < m → ∃ q : Stp × Option Addr × Nat × Nat, w.cell? (a.add (i * 4)) = some (.int .i64 q.1.op) ∧ w.cell? (a.add (i * 4 + 1)) = some (.int .i64 q.1.slot) ∧ w.cell? (a.add (i * 4 + 2)) = some (.int .i64 q.1.frm) ∧ w.cell? (a.add (i * 4 + 3)) = some (.slice q.2.1 q.2.2.1 q.2.2.2) ∧ BS w w.heap.size q.2.1 q.2.2.1 q.1.data ∧ q.2.2.1 ≤ q.2.2.2 ∧ q.2.2.2 ≤ maxLen ∧ q.1.data.length ≤ Rows.uptoBulk (D i) := by
      intro i him
      obtain ⟨cs', h1, h2⟩ := hi i him
      rw [show Try.prog.cellsOf 36 = 4 from by kernel_rfl] at h1
      obtain ⟨s, A, m', c', q0, q1, q2, q3, hb, hnc, hcm, hle⟩ := open_step h1 h2
      rw [add_add] at q0 q1 q2 q3
      exact ⟨(s, A, m', c'), q0, q1, q2, q3, hb, hnc, hcm, hle⟩
    have inh : Inhabited (Stp × Option Addr × Nat × Nat) := ⟨(Stp.zero, none, 0, 0)⟩
    obtain ⟨Q, hQ⟩ := choose_lt each
    have hsp : 0 < m → a.spot = none := fun h0 => by
      have := World.cell?_spot (hQ 0 h0).1
      simpa [Addr.add] using this
    have hbd := bulk_slice (H := H) ((List.range n).map D) ((List.range (m - n)).map fun j => D (n + j))
    simp at hbd
    have hsum := bulk_sum D (fun i => (Q i).1.data.length) n (fun i hi' => (hQ i (by omega)).2.2.2.2.2.2.2)
    refine ⟨some a, n, m, (List.range n).map fun i => (Q i).1, rfl, ⟨by simp, fun h0 => ?_⟩, hl, by omega, ?_⟩
    · obtain ⟨b, o, sp⟩ := a
      have hs : sp = none := hsp (by omega)
      subst hs
      have hc0 := (hQ 0 (by omega)).1
      rw [show (0 : Nat) * 4 = 0 from rfl] at hc0
      have hlt := World.block_lt_of_cell? w _ hc0
      have hadd : ∀ i, (⟨b, o, none⟩ : Addr).add i = ⟨b, o + i, none⟩ := fun i => addr_add b o i
      rw [hadd] at hlt
      refine ⟨b, o, rfl, hlt, fun i hi' => ?_⟩
      obtain ⟨q0, q1, q2, q3, hb, hnc, hcm, _⟩ := hQ i (by omega)
      rw [hadd] at q0 q1 q2 q3
      have eL : ((List.range n).map fun i => (Q i).1).getD i Stp.zero = (Q i).1 := by
        rw [List.getD_eq_getElem?_getD, List.getElem?_map, List.getElem?_range hi']; rfl
      rw [eL]
      exact ⟨_, _, _, q0, q1, q2, q3, hb, hnc, hcm⟩
    · rw [List.map_map]
      have : Rows.uptoBulk (DataW.slice ((List.range n).map D) ((List.range (m - n)).map fun j => D (n + j))) = Rows.uptoBulkAll ((List.range n).map D) + Rows.uptoBulkAll ((List.range (m - n)).map fun j => D (n + j)) + 1 := by simp only [Rows.uptoBulk]
      rw [this]
      exact Nat.le_trans hsum (by omega)
end

end Go.Proofs.Ytdpjdglcienbfaa

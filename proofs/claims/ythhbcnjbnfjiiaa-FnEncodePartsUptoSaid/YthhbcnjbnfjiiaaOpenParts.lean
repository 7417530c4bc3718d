/-
  How a slice of byte slices among the arguments of a law is opened: its value, the lists that it reads as, and that its bulk bounds the number of its parts and of their bytes. Conditions: it reads as data.
-/
import Derived.Test.YthhbcnjbnfjiiaaRows
import Derived.Test.YthhbcnjbnfjiiaaParts
import Derived.Test.YthhbcnjbnfjiiaaOpenArgs
import Derived.Deep.Slices
namespace Go.Proofs.Ythhbcnjbnfjiiaa
open Go.ChangeShapes Go.WideShapes Go.ChangeAt Go.RowKit Go.Deep

theorem bulk_one {H : Type} (d : DataW H) : 1 ≤ Rows.uptoBulk d := by
  cases d with
  | lit l => cases l <;> simp [Rows.uptoBulk]
  | nil => simp [Rows.uptoBulk]
  | ptr d => simp [Rows.uptoBulk]
  | slice elems spare => simp [Rows.uptoBulk]
  | agg parts => simp [Rows.uptoBulk]
  | iface t d => simp [Rows.uptoBulk]
  | map entries => simp [Rows.uptoBulk]
  | held h => simp [Rows.uptoBulk]
theorem bulk_len {H : Type} (l : List (DataW H)) : l.length ≤ Rows.uptoBulkAll l := by
  induction l with
  | nil => simp [Rows.uptoBulkAll]
  | cons x r ih => have := bulk_one x; simp only [Rows.uptoBulkAll, List.length_cons]; omega
theorem bulk_append {H : Type} (l m : List (DataW H)) : Rows.uptoBulkAll (l ++ m) = Rows.uptoBulkAll l + Rows.uptoBulkAll m := by
  induction l with
  | nil => simp [Rows.uptoBulkAll]
  | cons x r ih => simp only [List.cons_append, Rows.uptoBulkAll, ih]; omega
theorem bulk_sum {H : Type} (D : Nat → DataW H) (S : Nat → Nat) : ∀ n, (∀ i, i < n → S i ≤ Rows.uptoBulk (D i)) → ((List.range n).map S).sum ≤ Rows.uptoBulkAll ((List.range n).map D) := by
  intro n
  induction n with
  | zero => intro _; simp
  | succ n ih =>
    intro h
    have h1 := ih (fun i hi => h i (by omega))
    have h2 := h n (by omega)
    rw [List.range_succ, List.map_append, List.map_append, List.sum_append, bulk_append]
    simp only [List.map_cons, List.map_nil, List.sum_cons, List.sum_nil, Rows.uptoBulkAll]
    omega
theorem bulk_slice {H : Type} (elems spare : List (DataW H)) : elems.length + spare.length + 1 ≤ Rows.uptoBulk (.slice elems spare) := by
  have h1 := bulk_len elems
  have h2 := bulk_len spare
  simp only [Rows.uptoBulk]
  omega

section
variable {H : Type} {enc : TypeId × Value → H} {w : World} {held : Bool}
/-- A part that is a byte slice. -/
theorem open_field {n : Nat} {v : Value} {y : DataW H × List MemPlace} (h : DataW.trod enc Try.prog w 0 (fun _ => true) held n 25 [v] = some y) :
    ∃ (A : Option Addr) (n c : Nat) (l : List Nat), v = .slice A n c ∧ BS w w.heap.size A n l ∧ n ≤ c ∧ c ≤ maxLen ∧ l.length ≤ Rows.uptoBulk y.1 := by
  rcases open_ints Try.underlying25 Try.underlying5 (by kernel_rfl) h with ⟨hcs, rfl⟩ | ⟨x, len, cap, zs, hcs, _, hl, hm, hz, rfl, hcell, hwz⟩
  · injection hcs with hcs
    exact ⟨none, 0, 0, [], hcs, BS.nil _ _ _, Nat.le_refl _, Nat.zero_le _, by simp⟩
  · injection hcs with hcs
    simp only [if_true] at hz
    obtain ⟨_, _, l, hb⟩ := bs_of_row (w := w) (a := some x) (len := len) (cap := cap) (zs := zs) (.inr ⟨x, rfl, hl, hm, hz, hcell, hwz⟩)
    refine ⟨_, _, _, l, hcs, hb, hl, hm, ?_⟩
    have h1 := bulk_slice (H := H) (lits .u8 (zs.take len)) (lits .u8 (zs.drop len))
    have h2 := hb.len
    have h3 : (lits (H := H) .u8 (zs.take len)).length = len := by simp [lits]; omega
    rw [h3] at h1
    simp only
    omega
set_option maxRecDepth 100000 in
theorem open_parts {r : Reach} {b0 : Nat} {v : Value} {d : DataW H} {p : List MemPlace} (hv : Value.okWide Try.prog w r b0 24 v) (h : DataW.Trod enc Try.prog w 0 (fun _ => true) held 24 v d p) :
    ∃ (A : Option Addr) (n c : Nat) (L : List (List Nat)), v = .slice A n c ∧ RS2 w w.heap.size A n L ∧ n ≤ c ∧ c ≤ Rows.uptoBulk d ∧ (L.map (·.length)).sum ≤ Rows.uptoBulk d := by
  obtain ⟨A, n, c, rfl⟩ := okWide_slice Try.underlying24 hv
  obtain ⟨fuel, hf⟩ := h
  rcases open_slice Try.underlying24 hf with ⟨hcs, hx⟩ | ⟨a, len, cap, m, n', D, Pl, hcs, _, hl, hm, hmm, hx, hi⟩
  · simp [Value.cells] at hcs
    obtain ⟨rfl, rfl, rfl⟩ := hcs
    exact ⟨none, 0, 0, [], rfl, ⟨rfl, fun h => absurd h (by omega)⟩, Nat.le_refl _, Nat.zero_le _, by simp⟩
  · simp [Value.cells] at hcs
    obtain ⟨rfl, rfl, rfl⟩ := hcs
    simp only [if_true] at hmm
    subst hmm
    simp only [Prod.mk.injEq] at hx
    obtain ⟨rfl, rfl⟩ := hx
    have each : ∀ i, i < m → ∃ q : List Nat × Option Addr × Nat × Nat, w.cell? (a.add i) = some (.slice q.2.1 q.2.2.1 q.2.2.2) ∧ BS w w.heap.size q.2.1 q.2.2.1 q.1 ∧ q.2.2.1 ≤ q.2.2.2 ∧ q.2.2.2 ≤ maxLen ∧ q.1.length ≤ Rows.uptoBulk (D i) := by
      intro i him
      obtain ⟨cs', h1, h2⟩ := hi i him
      rw [show Try.prog.cellsOf 25 = 1 from by kernel_rfl, Nat.mul_one] at h1
      obtain ⟨_, hcl, hat⟩ := World.cells?_some h1
      match cs', hcl with
      | [v0], _ =>
        obtain ⟨A, m', c', l, rfl, hb, hnc, hcm, hle⟩ := open_field h2
        have q0 := hat 0 (by omega)
        rw [add_add, Nat.add_zero] at q0
        exact ⟨(l, A, m', c'), q0, hb, hnc, hcm, hle⟩
    have inh : Inhabited (List Nat × Option Addr × Nat × Nat) := ⟨([], none, 0, 0)⟩
    obtain ⟨Q, hQ⟩ := choose_lt each
    have hsp : 0 < m → a.spot = none := fun h0 => by
      have := World.cell?_spot (hQ 0 h0).1
      simpa [Addr.add] using this
    have hbd := bulk_slice (H := H) ((List.range n).map D) ((List.range (m - n)).map fun j => D (n + j))
    simp at hbd
    have hsum := bulk_sum D (fun i => (Q i).1.length) n (fun i hi' => (hQ i (by omega)).2.2.2.2)
    refine ⟨some a, n, m, (List.range n).map fun i => (Q i).1, rfl, ⟨by simp, fun h0 => ?_⟩, hl, by omega, ?_⟩
    · obtain ⟨b, o, sp⟩ := a
      have hs : sp = none := hsp (by omega)
      subst hs
      have hc0 := (hQ 0 (by omega)).1
      have hlt := World.block_lt_of_cell? w _ hc0
      have hadd : ∀ i, (⟨b, o, none⟩ : Addr).add i = ⟨b, o + i, none⟩ := fun i => addr_add b o i
      rw [hadd] at hlt
      refine ⟨b, o, rfl, hlt, fun i hi' => ?_⟩
      obtain ⟨q0, hb, hnc, hcm, _⟩ := hQ i (by omega)
      rw [hadd] at q0
      have eL : ((List.range n).map fun i => (Q i).1).getD i [] = (Q i).1 := by
        rw [List.getD_eq_getElem?_getD, List.getElem?_map, List.getElem?_range hi']; rfl
      rw [eL]
      exact ⟨_, _, _, q0, hb, hnc, hcm⟩
    · rw [List.map_map]
      have : Rows.uptoBulk (DataW.slice ((List.range n).map D) ((List.range (m - n)).map fun j => D (n + j))) = Rows.uptoBulkAll ((List.range n).map D) + Rows.uptoBulkAll ((List.range (m - n)).map fun j => D (n + j)) + 1 := by simp only [Rows.uptoBulk]
      rw [this]
      exact Nat.le_trans hsum (by omega)
end

end Go.Proofs.Ythhbcnjbnfjiiaa

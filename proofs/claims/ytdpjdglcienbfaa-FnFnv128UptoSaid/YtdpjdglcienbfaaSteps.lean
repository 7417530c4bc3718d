/-
  Steps that a law lays itself: a literal of steps reads as a list; the walks of laws.write, laws.sum, laws.fits; the answers read as cells. Conditions: those that each fact names.
-/
import Derived.Test.YtdpjdglcienbfaaImplHash
namespace Go.Proofs.Ytdpjdglcienbfaa
open Go.RowKit

def stpCells : List (Stp × Value) → List Value
  | [] => []
  | (s, v) :: r => .int .i64 s.op :: .int .i64 s.slot :: .int .i64 s.frm :: v :: stpCells r
theorem stpCells_at (Q : List (Stp × Value)) (rest : List Value) : ∀ i, i < Q.length → (stpCells Q ++ rest)[i * 4]? = some (.int .i64 (Q.getD i (Stp.zero, .nilIface)).1.op) ∧ (stpCells Q ++ rest)[i * 4 + 1]? = some (.int .i64 (Q.getD i (Stp.zero, .nilIface)).1.slot) ∧
    (stpCells Q ++ rest)[i * 4 + 2]? = some (.int .i64 (Q.getD i (Stp.zero, .nilIface)).1.frm) ∧ (stpCells Q ++ rest)[i * 4 + 3]? = some (Q.getD i (Stp.zero, .nilIface)).2 := by
  induction Q with
  | nil => intro i hi; simp at hi
  | cons x r ih =>
    obtain ⟨s, v⟩ := x
    intro i hi
    cases i with
    | zero => simp [stpCells]
    | succ i =>
      have := ih i (by simpa using hi)
      simp only [stpCells, List.getD_cons_succ, List.cons_append]
      rw [show (i + 1) * 4 = i * 4 + 1 + 1 + 1 + 1 by omega]
      simp only [List.getElem?_cons_succ]
      exact this
/-- Steps in a block reads as a list of steps. -/
theorem ss_of_block {w : World} {g B : Nat} {cs : Array Value} {t : TypeId} {Q : List (Stp × Value)} {rest : List Value} (hb : w.heap[g]? = some (.cells cs t (0, 0))) (hc : cs.toList = stpCells Q ++ rest) (hg : g < B)
    (hd : ∀ q ∈ Q, ∃ A n c, q.2 = .slice A n c ∧ BS w B A n q.1.data ∧ n ≤ c ∧ c ≤ maxLen) : SS w B (some ⟨g, 0, none⟩) Q.length (Q.map (·.1)) := by
  refine ⟨by simp, fun _ => ⟨g, 0, rfl, hg, fun i hi => ?_⟩⟩
  have hcell : ∀ j u, (stpCells Q ++ rest)[j]? = some u → w.cell? ⟨g, 0 + j, none⟩ = some u := by
    intro j u hu
    rw [Nat.zero_add, cell_of_row w g j cs t (0, 0) hb]
    rw [← hc] at hu
    simpa using hu
  obtain ⟨h0, h1, h2, h3⟩ := stpCells_at Q rest i hi
  have hq : Q.getD i (Stp.zero, .nilIface) ∈ Q := getD_mem hi
  have hm : (Q.map (·.1)).getD i Stp.zero = (Q.getD i (Stp.zero, .nilIface)).1 := by
    rw [List.getD_eq_getElem?_getD, List.getD_eq_getElem?_getD, List.getElem?_map]
    cases Q[i]? <;> rfl
  obtain ⟨A, n, c, e, hbs, hnc, hcm⟩ := hd _ hq
  rw [hm]
  rw [e] at h3
  exact ⟨A, n, c, hcell _ _ h0, hcell _ _ h1, hcell _ _ h2, hcell _ _ h3, hbs, hnc, hcm⟩

/-- A literal of steps that has just been laid. -/
theorem ss_lit (W : World) (Q : List (Stp × Value)) (hd : ∀ q ∈ Q, ∃ A n c, q.2 = .slice A n c ∧ BS W W.heap.size A n q.1.data ∧ n ≤ c ∧ c ≤ maxLen) :
    SS (W.alloc (.cells (stpCells Q).toArray 36)) (W.alloc (.cells (stpCells Q).toArray 36)).heap.size (some ⟨W.heap.size, 0, none⟩) Q.length (Q.map (·.1)) := by
  refine ss_of_block (rest := []) (_root_.Go.heap_alloc_new W _) (by simp) (by simp) fun q hq => ?_
  obtain ⟨A, n, c, e, hb, hn, hc⟩ := hd q hq
  exact ⟨A, n, c, e, (hb.alloc (Nat.le_refl _) _).mono (by simp), hn, hc⟩

set_option maxRecDepth 100000 in
theorem write_any (slot : Int) (A : Option Addr) (n c : Nat) (w : World) :
    Calls Try.prog 26 #[.int .i64 slot, .slice A n c] w fun e w' => e = .returned (.agg #[.int .i64 0, .int .i64 slot, .int .i64 0, .slice A n c]) ∧ Below w.heap.size w w' := by
  go_enter Try.func26, Try.ntmps26
  go_wp2
  exact bodyPost_ret (v := .agg #[.int .i64 0, .int .i64 slot, .int .i64 0, .slice A n c]) (by simp [results, Try.results26, go_sem]) rfl ⟨rfl, (Below.refl _ _).alloc (Nat.le_refl _) _⟩
set_option maxRecDepth 100000 in
theorem sum_any (slot : Int) (w : World) :
    Calls Try.prog 29 #[.int .i64 slot] w fun e w' => e = .returned (.agg #[.int .i64 1, .int .i64 slot, .int .i64 0, .slice none 0 0]) ∧ Below w.heap.size w w' := by
  go_enter Try.func29, Try.ntmps29
  go_wp2
  exact bodyPost_ret (v := .agg #[.int .i64 1, .int .i64 slot, .int .i64 0, .slice none 0 0]) (by simp [results, Try.results29, go_sem]) rfl ⟨rfl, (Below.refl _ _).alloc (Nat.le_refl _) _⟩
def fitsB (kd : Int) : Bool := decide (0 ≤ kd ∧ kd ≤ 6)
set_option maxRecDepth 100000 in
theorem fits_any (kd : Int) (w : World) : Calls Try.prog 27 #[.int .i64 kd] w fun e w' => e = .returned (.bool (fitsB kd)) ∧ w = w' := by
  by_cases h0 : 0 ≤ kd
  · have e0 : decide (0 ≤ kd) = true := decide_eq_true h0
    by_cases h6 : kd ≤ 6
    · have e6 : decide (kd ≤ 6) = true := decide_eq_true h6
      have e : fitsB kd = true := decide_eq_true ⟨h0, h6⟩
      rw [e]
      go_enter Try.func27, Try.ntmps27
      go_wp2
      go_ret
      exact ⟨rfl, rfl⟩
    · have e6 : decide (kd ≤ 6) = false := decide_eq_false h6
      have e : fitsB kd = false := decide_eq_false (by omega)
      rw [e]
      go_enter Try.func27, Try.ntmps27
      go_wp2
      go_ret
      exact ⟨rfl, rfl⟩
  · have e0 : decide (0 ≤ kd) = false := decide_eq_false h0
    have e : fitsB kd = false := decide_eq_false (by omega)
    rw [e]
    go_enter Try.func27, Try.ntmps27
    go_wp2
    go_ret
    exact ⟨rfl, rfl⟩

/-- The answers, opened: the slice, and the cells of each. -/
theorem answers_open {w' : World} {B0 : Nat} {v : Value} {P : List (Value × Ans)} (h : w'.ownsRow B0 40 4 v P.length (ansCells P)) (hdat : ∀ p ∈ P, Own w' B0 p.1 p.2.data) (hpos : 0 < P.length) {an : List Ans} (hp : P.map (·.2) = an) :
    ∃ g c, v = .slice (some ⟨g, 0, none⟩) an.length c ∧ g < w'.heap.size ∧ ∀ i, i < an.length → ∃ A cc, w'.cell? ⟨g, i * 4, none⟩ = some (.slice A (an.getD i Ans.zero).data.length cc) ∧ (an.getD i Ans.zero).data.length ≤ cc ∧ cc ≤ maxLen ∧ BS w' w'.heap.size A (an.getD i Ans.zero).data.length (an.getD i Ans.zero).data ∧
      w'.cell? ⟨g, i * 4 + 1, none⟩ = some (.int .u64 (((an.getD i Ans.zero).value : Nat) : Int)) ∧ w'.cell? ⟨g, i * 4 + 2, none⟩ = some (.int .i64 (((an.getD i Ans.zero).number : Nat) : Int)) ∧ w'.cell? ⟨g, i * 4 + 3, none⟩ = some (.bool (an.getD i Ans.zero).fail) := by
  subst hp
  obtain ⟨A, c, rfl, hnc, hcm, hg⟩ := row_at h
  obtain ⟨g, rfl, hgB, hcell⟩ := hg hpos
  have hl : (P.map (·.2)).length = P.length := by simp
  rw [hl]
  obtain ⟨q0, _⟩ := ansCells_at P 0 hpos
  have hglt := World.block_lt_of_cell? w' _ (hcell _ _ q0)
  refine ⟨g, c, rfl, hglt, fun i hi => ?_⟩
  have hm : (P.map (·.2)).getD i Ans.zero = (P.getD i (.nilIface, Ans.zero)).2 := by
    rw [List.getD_eq_getElem?_getD, List.getD_eq_getElem?_getD, List.getElem?_map]
    cases P[i]? <;> rfl
  rw [hm]
  obtain ⟨h0, h1, h2, h3⟩ := ansCells_at P i hi
  obtain ⟨A', cc, e, hn, hc, hbs⟩ := (hdat _ (getD_mem (d := (Value.nilIface, Ans.zero)) hi)).at_ rfl
  rw [e] at h0
  exact ⟨A', cc, hcell _ _ h0, hn, hc, hbs, hcell _ _ h1, hcell _ _ h2, hcell _ _ h3⟩

end Go.Proofs.Ytdpjdglcienbfaa

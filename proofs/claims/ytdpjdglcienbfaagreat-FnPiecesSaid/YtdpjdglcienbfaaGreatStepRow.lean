/-
  A row of steps that a law lays itself by append, read as a list of steps. Conditions: those that each fact names.
-/
import Derived.Test.YtdpjdglcienbfaaGreatPieces
import Derived.Test.YtdpjdglcienbfaaGreatCut
namespace Go.Proofs.YtdpjdglcienbfaaGreat
open Go.RowKit

def zeroStp : Value := .agg #[.int .i64 0, .int .i64 0, .int .i64 0, .slice none 0 0]
theorem Tryz.infoStp : (Tryz.prog.info? 31).map (fun i => (i.zero, i.size, i.bytes)) = some (some zeroStp, 4, 48) := by kernel_rfl
theorem stpCells_append (a b : List (Stp × Value)) : stpCells (a ++ b) = stpCells a ++ stpCells b := by
  induction a with
  | nil => rfl
  | cons x r ih => obtain ⟨s, v⟩ := x; simp [stpCells, ih]
theorem ss_of_row {w : World} {B0 : Nat} {v : Value} {Q : List (Stp × Value)} (h : w.ownsRow B0 31 4 v Q.length (stpCells Q))
    (hd : ∀ q ∈ Q, ∃ A n c, q.2 = .slice A n c ∧ BS w w.heap.size A n q.1.data ∧ n ≤ c ∧ c ≤ maxLen) : ∃ A c, v = .slice A Q.length c ∧ SS w w.heap.size A Q.length (Q.map (·.1)) := by
  obtain ⟨A, c, rfl, _, _, hg⟩ := row_at h
  refine ⟨A, c, rfl, by simp, fun h0 => ?_⟩
  obtain ⟨g, rfl, _, hcell⟩ := hg h0
  have hc : ∀ j u, (stpCells Q)[j]? = some u → w.cell? ⟨g, 0 + j, none⟩ = some u := fun j u hu => by rw [Nat.zero_add]; exact hcell j u hu
  obtain ⟨q0, _⟩ := stpCells_at Q [] 0 h0
  rw [List.append_nil] at q0
  have hlt := World.block_lt_of_cell? w _ (hc _ _ q0)
  refine ⟨g, 0, rfl, hlt, fun i hi => ?_⟩
  obtain ⟨h0, h1, h2, h3⟩ := stpCells_at Q [] i hi
  rw [List.append_nil] at h0 h1 h2 h3
  have hq : Q.getD i (Stp.zero, .nilIface) ∈ Q := getD_mem hi
  have hm : (Q.map (·.1)).getD i Stp.zero = (Q.getD i (Stp.zero, .nilIface)).1 := by
    rw [List.getD_eq_getElem?_getD, List.getD_eq_getElem?_getD, List.getElem?_map]
    cases Q[i]? <;> rfl
  obtain ⟨A, n, c, e, hbs, hnc, hcm⟩ := hd _ hq
  rw [hm]
  rw [e] at h3
  exact ⟨A, n, c, hc _ _ h0, hc _ _ h1, hc _ _ h2, hc _ _ h3, hbs, hnc, hcm⟩
/-- The steps that write some pieces. -/
def qOf (P : List (Value × List Nat)) : List (Stp × Value) := P.map fun p => (wr0 p.2, p.1)
theorem qOf_length (P : List (Value × List Nat)) : (qOf P).length = P.length := by simp [qOf]
theorem qOf_fst (P : List (Value × List Nat)) : (qOf P).map (·.1) = (P.map (·.2)).map wr0 := by simp [qOf]
theorem qOf_snoc (P : List (Value × List Nat)) (k : Nat) (hk : k < P.length) : qOf (P.take (k + 1)) = qOf (P.take k) ++ [(wr0 (P.getD k (.nilIface, [])).2, (P.getD k (.nilIface, [])).1)] := by
  unfold qOf
  rw [List.take_succ_eq_append_getElem hk, List.map_append, List.getD_eq_getElem?_getD, List.getElem?_eq_getElem hk]; rfl
structure PieR (w : World) (pv : Value) (P : List (Value × List Nat)) (v : Value) (wr : World) (k : Nat) : Prop where
  kl : k ≤ P.length
  row : wr.ownsRow w.heap.size 31 4 v k (stpCells (qOf (P.take k)))
  prow : wr.ownsRow w.heap.size 27 1 pv P.length (P.map (·.1))
  bel : Below w.heap.size w wr
def PieRel (w : World) (pv : Value) (P : List (Value × List Nat)) (i v : Value) (wr : World) : Prop := ∃ k : Nat, PieR w pv P v wr k ∧ i = .int .i64 (k : Int)
/-- One piece more. -/
theorem PieR.next {w wr w2 w3 : World} {pv v v' : Value} {P : List (Value × List Nat)} {k : Nat} {X : Obj} (h : PieR w pv P v wr k) (hk : k < P.length) (hb : Below wr.heap.size wr w2) (hg : (w2.alloc X).grownBy w3 v.ownBlock)
    (hr : w3.ownsRow w.heap.size 31 4 v' (k + 1) (stpCells (qOf (P.take k)) ++ [.int .i64 0, .int .i64 0, .int .i64 0, (P.getD k (.nilIface, [])).1])) : PieR w pv P v' w3 (k + 1) := by
  have hg1 : wr.grownBy w3 v.ownBlock := grow_trans (grow_alloc ((⟨hb.os, hb.tape, hb.output, hb.size, fun k hk _ => hb.block k hk⟩ : wr.grownBy w2 none).of_none) X) hg
  refine ⟨hk, ?_, h.prow.kept hg1 (rows_apart h.prow h.row (by decide)), h.bel.grown hg1 h.bel.size (fun k' e => (h.row.lt k' e).1)⟩
  rw [qOf_snoc P k hk, stpCells_append]
  exact hr
theorem src_step (w : World) (x y z u : Value) (t : TypeId) (k : Nat) (hk : k = w.heap.size) : Src (w.alloc (.cells #[x, y, z, u] t)) 4 (some ⟨k, 0, none⟩) 1 [x, y, z, u] := src_four w x y z u t k hk

end Go.Proofs.YtdpjdglcienbfaaGreat

/-
  A plain model of laws.cut: the pieces of some data, by the lengths that some bytes say. Conditions: those that each fact names.
-/
import Derived.Test.YthhbcnjbnfjiiaaBoth
namespace Go.Proofs.Ythhbcnjbnfjiiaa
open Go.RowKit

def cutM : List Nat → List Nat → List (List Nat)
  | l, [] => [l]
  | l, c :: cs => l.take (min c l.length) :: cutM (l.drop (min c l.length)) cs
theorem cutM_flat (cs : List Nat) : ∀ l, (cutM l cs).flatten = l := by
  induction cs with
  | nil => intro l; simp [cutM]
  | cons c cs ih => intro l; simp only [cutM, List.flatten_cons, ih, List.take_append_drop]
theorem cutM_len (cs : List Nat) : ∀ l, (cutM l cs).length = cs.length + 1 := by
  induction cs with
  | nil => intro l; simp [cutM]
  | cons c cs ih => intro l; simp [cutM, ih]
/-- A piece: a byte slice in a block below B. -/
def Piece (w : World) (B : Nat) (p : Value × List Nat) : Prop := ∃ A n c, p.1 = .slice A n c ∧ BS w B A n p.2 ∧ n ≤ c ∧ c ≤ maxLen
theorem Piece.below {w w' : World} {B : Nat} {p : Value × List Nat} (h : Piece w B p) (hb : Below B w w') : Piece w' B p := by
  obtain ⟨A, n, c, e, hs, h1, h2⟩ := h
  exact ⟨A, n, c, e, hs.below hb, h1, h2⟩
structure CutR (w : World) (B : Nat) (l cuts : List Nat) (out : Value) (A : Option Addr) (n c : Nat) (wr : World) (k : Nat) (P : List (Value × List Nat)) (r : List Nat) : Prop where
  kl : k ≤ cuts.length
  row : wr.ownsRow w.heap.size 25 1 out P.length (P.map (·.1))
  ps : ∀ p ∈ P, Piece wr B p
  eq : P.map (·.2) ++ cutM r (cuts.drop k) = cutM l cuts
  pk : P.length = k
  bs : BS wr B A n r
  nc : n ≤ c
  cm : c ≤ maxLen
  bel : Below w.heap.size w wr
def CutRel (w : World) (B : Nat) (l cuts : List Nat) (i out data : Value) (wr : World) : Prop := ∃ k P A n c r, CutR w B l cuts out A n c wr k P r ∧ i = .int .i64 (k : Int) ∧ data = .slice A n c
/-- What laws.cut hands back. -/
def RetCut (w : World) (B : Nat) (ps : List (List Nat)) (e : Ending) (w' : World) : Prop := ∃ (v : Value) (P : List (Value × List Nat)), e = .returned v ∧ w'.ownsRow w.heap.size 25 1 v P.length (P.map (·.1)) ∧ P.map (·.2) = ps ∧ (∀ p ∈ P, Piece w' B p) ∧ Below w.heap.size w w'
theorem cutM_drop (cuts : List Nat) (k : Nat) (r : List Nat) (hk : k < cuts.length) : cutM r (cuts.drop k) = r.take (min (cuts.getD k 0) r.length) :: cutM (r.drop (min (cuts.getD k 0) r.length)) (cuts.drop (k + 1)) := by
  have e : cuts.drop k = cuts.getD k 0 :: cuts.drop (k + 1) := by
    rw [List.getD_eq_getElem?_getD, List.getElem?_eq_getElem hk, Option.getD_some, List.getElem_cons_drop]
  rw [e, cutM]
theorem Try.infoBytes : (Try.prog.info? 25).map (fun i => (i.zero, i.size, i.bytes)) = some (some (.slice none 0 0), 1, 24) := by kernel_rfl
theorem src_slice (w : World) (v : Value) (t : TypeId) (k : Nat) (hk : k = w.heap.size) : Src (w.alloc (.cells #[v] t)) 1 (some ⟨k, 0, none⟩) 1 [v] := by
  subst hk
  refine ⟨rfl, fun _ => ⟨_, rfl, fun j u hu => ?_⟩⟩
  have hj : j = 0 := by
    rcases Nat.eq_zero_or_pos j with h | h
    · exact h
    · rw [List.getElem?_eq_none (by simp; omega)] at hu; cases hu
  subst hj
  simp only [List.getElem?_cons_zero, Option.some.injEq] at hu
  subst hu
  rw [addr_add, cell_of_row _ w.heap.size (0 + 0) #[v] t (0, 0) (_root_.Go.heap_alloc_new w _)]
  rfl

end Go.Proofs.Ythhbcnjbnfjiiaa

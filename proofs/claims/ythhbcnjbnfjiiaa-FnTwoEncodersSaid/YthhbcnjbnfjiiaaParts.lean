/-
  A slice of byte slices that reads as a list of lists. Conditions: those that each fact names.
-/
import Derived.Test.YthhbcnjbnfjiiaaCutPlain
namespace Go.Proofs.Ythhbcnjbnfjiiaa
open Go.RowKit

structure RS2 (w : World) (B : Nat) (A : Option Addr) (n : Nat) (L : List (List Nat)) : Prop where
  len : L.length = n
  spot : 0 < n → ∃ g o, A = some ⟨g, o, none⟩ ∧ g < B ∧ ∀ i, i < n → ∃ Ai ni ci, w.cell? ⟨g, o + i, none⟩ = some (.slice Ai ni ci) ∧ BS w B Ai ni (L.getD i []) ∧ ni ≤ ci ∧ ci ≤ maxLen
theorem RS2.below {w w' : World} {B n : Nat} {A : Option Addr} {L : List (List Nat)} (h : RS2 w B A n L) (hb : Below B w w') : RS2 w' B A n L :=
  ⟨h.len, fun hn => by
    obtain ⟨g, o, e, hg, hs⟩ := h.spot hn
    refine ⟨g, o, e, hg, fun i hi => ?_⟩
    obtain ⟨Ai, ni, ci, hc, hbs, h1, h2⟩ := hs i hi
    exact ⟨Ai, ni, ci, (hb.cell (p := ⟨g, _, none⟩) hg).trans hc, hbs.below hb, h1, h2⟩⟩
theorem RS2.drew {w : World} {B n : Nat} {A : Option Addr} {L : List (List Nat)} (h : RS2 w B A n L) : RS2 w.drew B A n L :=
  ⟨h.len, fun hn => by
    obtain ⟨g, o, e, hg, hs⟩ := h.spot hn
    refine ⟨g, o, e, hg, fun i hi => ?_⟩
    obtain ⟨Ai, ni, ci, hc, hbs, h1, h2⟩ := hs i hi
    exact ⟨Ai, ni, ci, hc, hbs.drew, h1, h2⟩⟩
theorem flat_take (L : List (List Nat)) (k : Nat) (h : k < L.length) : (L.take (k + 1)).flatten = (L.take k).flatten ++ L.getD k [] := by
  rw [List.take_add_one, List.flatten_append, List.getD_eq_getElem?_getD, List.getElem?_eq_getElem h]
  simp
theorem flat_len (L : List (List Nat)) : L.flatten.length = (L.map (·.length)).sum := by
  induction L with
  | nil => rfl
  | cons x r ih => simp [ih]
theorem flat_take_le (L : List (List Nat)) (k : Nat) (h : k < L.length) : (L.take k).flatten.length + (L.getD k []).length ≤ L.flatten.length := by
  have e : L.flatten = (L.take (k + 1)).flatten ++ (L.drop (k + 1)).flatten := by rw [← List.flatten_append, List.take_append_drop]
  rw [e, List.length_append, flat_take L k h, List.length_append]
  omega
/-- What laws.cut hands back. -/
theorem RetCut.parts {w w' : World} {B : Nat} {ps : List (List Nat)} {v : Value} {P : List (Value × List Nat)} (hrow : w'.ownsRow w.heap.size 25 1 v P.length (P.map (·.1))) (he : P.map (·.2) = ps) (hp : ∀ p ∈ P, Piece w' B p) (hB : B ≤ w'.heap.size) :
    ∃ A c, v = .slice A ps.length c ∧ ps.length ≤ c ∧ c ≤ maxLen ∧ RS2 w' w'.heap.size A ps.length ps := by
  have hl : ps.length = P.length := by rw [← he, List.length_map]
  rcases hrow.2 with ⟨rfl, h0⟩ | ⟨g, cap, cur, rfl, hbg, hg, hnc, hcm, hcs, htk⟩
  · rw [hl, h0]
    exact ⟨none, 0, rfl, Nat.le_refl _, Nat.zero_le _, ⟨by rw [hl, h0], fun h => absurd h (by omega)⟩⟩
  · rw [hl]
    have hgl : g < w'.heap.size := by
      rcases Nat.lt_or_ge g w'.heap.size with h | h
      · exact h
      · rw [Array.getElem?_eq_none h] at hg
        cases hg
    refine ⟨_, _, rfl, hnc, hcm, ⟨hl, fun _ => ⟨g, 0, rfl, hgl, fun i hi => ?_⟩⟩⟩
    have hPi := List.getElem?_eq_getElem hi
    obtain ⟨A, n, c, e, hbs, h1, h2⟩ := hp P[i] (List.getElem_mem hi)
    refine ⟨A, n, c, ?_, ?_, h1, h2⟩
    · rw [cell_of_row _ g (0 + i) cur 25 (0, 0) hg, Nat.zero_add, ← Array.getElem?_toList]
      have h3 : (cur.toList.take (P.length * 1))[i]? = (P.map (·.1))[i]? := by rw [htk]
      rw [List.getElem?_take, if_pos (by omega), List.getElem?_map, hPi] at h3
      rw [h3, ← e]; rfl
    · have : ps.getD i [] = P[i].2 := by rw [← he, List.getD_eq_getElem?_getD, List.getElem?_map, hPi]; rfl
      rw [this]
      exact hbs.mono hB

end Go.Proofs.Ythhbcnjbnfjiiaa

/-
  How a byte slice among the arguments of a law is opened: its value, the list that it reads as, and how many places its datum has. Conditions: it reads as data.
-/
import Derived.Test.YthhbcnjbnfjiiaaDoorWords
import Derived.ProofKit
import Derived.OpenShut
namespace Go.Proofs.YthhbcnjbnfjiiaaDoor
open Go.ChangeShapes Go.WideShapes Go.ChangeAt Go.RowKit

section
variable {H : Type} {enc : TypeId × Value → H} {P : Program} {w : World} {held : Bool}
theorem open_bytes {r : Reach} {b0 : Nat} {t e : TypeId} {v : Value} {d : DataW H} {p : List MemPlace} (ht : P.underlying t = some (.slice e)) (he : P.underlying e = some (.int .u8)) (hE : P.cellsOf e = 1)
    (hv : Value.okWide P w r b0 t v) (h : DataW.Trod enc P w 0 (fun _ => true) held t v d p) :
    ∃ (A : Option Addr) (n c : Nat) (l : List Nat), v = .slice A n c ∧ BS w w.heap.size A n l ∧ n ≤ c ∧ ((d = .nil ∧ c = 0) ∨ ∃ es sp, d = .slice es sp ∧ es.length + sp.length = c) := by
  obtain ⟨A, n, c, rfl⟩ := okWide_slice ht hv
  obtain ⟨fuel, hf⟩ := h
  rcases open_ints ht he hE hf with ⟨hcs, hx⟩ | ⟨x, len, cap, zs, hcs, _, hl, hm, hz, hx, hcell, hwz⟩
  · simp [Value.cells] at hcs
    obtain ⟨rfl, rfl, rfl⟩ := hcs
    simp only [Prod.mk.injEq] at hx
    exact ⟨none, 0, 0, [], rfl, BS.nil _ _ _, Nat.le_refl _, .inl ⟨hx.1, rfl⟩⟩
  · simp [Value.cells] at hcs
    obtain ⟨rfl, rfl, rfl⟩ := hcs
    simp only [if_true] at hz
    simp only [Prod.mk.injEq] at hx
    obtain ⟨_, _, l, hb⟩ := bs_of_row (w := w) (a := some x) (len := n) (cap := c) (zs := zs) (.inr ⟨x, rfl, hl, hm, by simpa using hz, hcell, hwz⟩)
    refine ⟨_, _, _, l, rfl, hb, hl, .inr ⟨_, _, hx.1, ?_⟩⟩
    simp [lits]
    omega
end

end Go.Proofs.YthhbcnjbnfjiiaaDoor

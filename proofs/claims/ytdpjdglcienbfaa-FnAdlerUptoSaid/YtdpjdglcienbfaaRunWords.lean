/-
  Words for impl.run: rows of interfaces and of answers, what grows and what is kept. Conditions: those that each fact names.
-/
import Derived.Test.YtdpjdglcienbfaaImplSave
namespace Go.Proofs.Ytdpjdglcienbfaa
open Go.RowKit

theorem Try.infoHash : (Try.prog.info? 58).map (fun i => (i.zero, i.size, i.bytes)) = some (some .nilIface, 1, 16) := by kernel_rfl
def zeroAns : Value := .agg #[.slice none 0 0, .int .u64 0, .int .i64 0, .bool false]
theorem Try.infoAns : (Try.prog.info? 40).map (fun i => (i.zero, i.size, i.bytes)) = some (some zeroAns, 4, 48) := by kernel_rfl

section
variable {w w1 w2 : World} {row : Option Nat}
theorem _root_.Go.World.grownBy.of_none {w w1 : World} {row : Option Nat} (h : w.grownBy w1 none) : w.grownBy w1 row := ⟨h.os, h.tape, h.output, h.size, fun k hk _ => h.block k hk (by simp)⟩
theorem grow_trans (h1 : w.grownBy w1 row) (h2 : w1.grownBy w2 row) : w.grownBy w2 row :=
  ⟨h2.os.trans h1.os, h2.tape.trans h1.tape, h2.output.trans h1.output, Nat.le_trans h1.size h2.size, fun k hk hne => (h2.block k (Nat.lt_of_lt_of_le hk h1.size) hne).trans (h1.block k hk hne)⟩
theorem grow_fresh {row2 : Option Nat} (h1 : w.grownBy w1 row) (h2 : w1.grownBy w2 row2) (hf : ∀ k, row2 = some k → w.heap.size ≤ k) : w.grownBy w2 row :=
  ⟨h2.os.trans h1.os, h2.tape.trans h1.tape, h2.output.trans h1.output, Nat.le_trans h1.size h2.size, fun k hk hne => (h2.block k (Nat.lt_of_lt_of_le hk h1.size) (fun e => by have := hf k e.symm; omega)).trans (h1.block k hk hne)⟩
theorem grow_below {B : Nat} (h1 : w.grownBy w1 row) (h2 : Below B w1 w2) (hB : w.heap.size ≤ B) : w.grownBy w2 row :=
  ⟨h2.os.trans h1.os, h2.tape.trans h1.tape, h2.output.trans h1.output, Nat.le_trans h1.size h2.size, fun k hk hne => (h2.block k (Nat.lt_of_lt_of_le hk hB)).trans (h1.block k hk hne)⟩
theorem grow_only {b : Nat} (h1 : w.grownBy w1 (some b)) (h2 : Only b w1 w2) : w.grownBy w2 (some b) :=
  ⟨h2.os.trans h1.os, h2.tape.trans h1.tape, h2.output.trans h1.output, by rw [h2.size]; exact h1.size, fun k hk hne => (h2.block k (fun e => hne (by rw [e]))).trans (h1.block k hk hne)⟩
theorem grow_alloc (h1 : w.grownBy w1 row) (o : Obj) : w.grownBy (w1.alloc o) row := grow_trans h1 (World.grownBy_alloc w1 o row)
theorem grow_drew (h1 : w.grownBy w1 row) : w.grownBy w1.drew row := ⟨h1.os, h1.tape, h1.output, h1.size, h1.block⟩
theorem grow_set (h1 : w.grownBy w1 row) (b i : Nat) (v : Value) (hb : w.heap.size ≤ b) : w.grownBy (w1.setCell ⟨b, i, none⟩ v) row :=
  ⟨h1.os, h1.tape, h1.output, by simpa [World.setCell] using h1.size, fun k hk hne => (Below.heap_setCell w1 ⟨b, i, none⟩ v k (by simp; omega)).trans (h1.block k hk hne)⟩
theorem Rep.grown {K : Kind} {b s : Nat} (h : Rep K w b s) (hg : w.grownBy w1 row) (hne : some b ≠ row) : Rep K w1 b s := h.keep (hg.block b h.lt hne)
end

theorem Rep.set {K : Kind} {w : World} {b s : Nat} (h : Rep K w b s) (b' i : Nat) (v : Value) (hne : b ≠ b') : Rep K (w.setCell ⟨b', i, none⟩ v) b s := h.keep (Below.heap_setCell w ⟨b', i, none⟩ v b hne)
theorem src_one (w : World) (v : Value) (t : TypeId) : Src (w.alloc (.cells #[v] t)) 1 (some ⟨w.heap.size, 0, none⟩) 1 [v] := by
  refine ⟨rfl, fun _ => ⟨_, rfl, fun j u hu => ?_⟩⟩
  have hj : j = 0 := by
    rcases Nat.eq_zero_or_pos j with h | h
    · exact h
    · rw [List.getElem?_eq_none (by simp; omega)] at hu; cases hu
  subst hj
  simp only [List.getElem?_cons_zero, Option.some.injEq] at hu
  subst hu
  rw [addr_add]
  exact cell_of_one (_root_.Go.heap_alloc_new w _)
theorem src_one' (w : World) (v : Value) (t : TypeId) (k : Nat) (hk : k = w.heap.size) : Src (w.alloc (.cells #[v] t)) 1 (some ⟨k, 0, none⟩) 1 [v] := by
  subst hk; exact src_one w v t
theorem heap_new (w : World) (o : Obj) (k : Nat) (hk : k = w.heap.size) : (w.alloc o).heap[k]? = some o := by
  subst hk; exact _root_.Go.heap_alloc_new w o
theorem rowOfBlock {w : World} {b : Nat} {cs : Array Value} {t : TypeId} (h : w.heap[b]? = some (.cells cs t (0, 0))) : w.ownsRow 0 t cs.size (.slice (some ⟨b, 0, none⟩) 0 1) 0 [] :=
  ⟨by simp, .inr ⟨b, 1, cs, rfl, Nat.zero_le _, h, Nat.zero_le _, by unfold maxLen; omega, by simp, by simp⟩⟩

theorem row_at {w : World} {base n size : Nat} {e : TypeId} {v : Value} {xs : List Value} (h : w.ownsRow base e size v n xs) : ∃ A c, v = .slice A n c ∧ n ≤ c ∧ c ≤ maxLen ∧ (0 < n → ∃ g, A = some ⟨g, 0, none⟩ ∧ base ≤ g ∧ ∀ j u, xs[j]? = some u → w.cell? ⟨g, j, none⟩ = some u) := by
  have hcs := fun g (e : v.ownBlock = some g) => h.cells (g := g) e
  rcases h.2 with ⟨rfl, rfl⟩ | ⟨g, cap, cur, rfl, hb, hg, hnc, hcm, hrest⟩
  · exact ⟨none, 0, rfl, Nat.le_refl _, Nat.zero_le _, fun h => absurd h (by omega)⟩
  · refine ⟨_, cap, rfl, hnc, hcm, fun _ => ⟨g, rfl, hb, fun j u hu => ?_⟩⟩
    have := hcs g rfl j u hu
    rw [addr_add] at this
    simpa using this

/-- A block of one element type is no block of another one. -/
theorem rows_apart {w : World} {base base' n n' size size' : Nat} {e e' : TypeId} {v v' : Value} {xs xs' : List Value} (h : w.ownsRow base e size v n xs) (h' : w.ownsRow base' e' size' v' n' xs') (hne : e ≠ e') : v.ownBlock = none ∨ v.ownBlock ≠ v'.ownBlock := by
  rcases h.2 with ⟨rfl, _⟩ | ⟨g, cap, cur, rfl, hb, hg, _⟩
  · exact .inl rfl
  · rcases h'.2 with ⟨rfl, _⟩ | ⟨g', cap', cur', rfl, hb', hg', _⟩
    · exact .inr (by simp [Value.ownBlock])
    · refine .inr fun e0 => ?_
      simp only [Value.ownBlock, Option.some.injEq] at e0
      subst e0
      rw [hg] at hg'
      injection hg' with hg'
      injection hg' with _ h2
      exact hne h2
theorem rep_apart {K : Kind} {w : World} {base n size b s : Nat} {e : TypeId} {v : Value} {xs : List Value} (h : w.ownsRow base e size v n xs) (h' : Rep K w b s) (hne : e ≠ K.elem) : some b ≠ v.ownBlock := by
  rcases h.2 with ⟨rfl, _⟩ | ⟨g, cap, cur, rfl, hb, hg, _⟩
  · simp [Value.ownBlock]
  · intro e0
    simp only [Value.ownBlock, Option.some.injEq] at e0
    subst e0
    have := h'.1
    rw [hg] at this
    injection this with this
    injection this with _ h2
    exact hne h2

end Go.Proofs.Ytdpjdglcienbfaa

/-
  What holds at each round of impl.run, and how a step carries it on. Conditions: those that each fact names.
-/
import Derived.Test.YtdpjdglcienbfaaRunModel
namespace Go.Proofs.Ytdpjdglcienbfaa
open Go.RowKit

structure StepAt (w : World) (B g o : Nat) (s : Stp) (A : Option Addr) (n c : Nat) : Prop where
  c0 : w.cell? ⟨g, o, none⟩ = some (.int .i64 s.op)
  c1 : w.cell? ⟨g, o + 1, none⟩ = some (.int .i64 s.slot)
  c2 : w.cell? ⟨g, o + 2, none⟩ = some (.int .i64 s.frm)
  c3 : w.cell? ⟨g, o + 3, none⟩ = some (.slice A n c)
  bs : BS w B A n s.data
  nc : n ≤ c
  cm : c ≤ maxLen
/-- A slice of steps that reads as L, in blocks below B. -/
structure SS (w : World) (B : Nat) (A : Option Addr) (n : Nat) (L : List Stp) : Prop where
  len : L.length = n
  spot : 0 < n → ∃ g o, A = some ⟨g, o, none⟩ ∧ g < B ∧ ∀ i, i < n → ∃ Ai ni ci, StepAt w B g (o + i * 4) (L.getD i Stp.zero) Ai ni ci
theorem SS.below {w w' : World} {B n : Nat} {A : Option Addr} {L : List Stp} (h : SS w B A n L) (hb : Below B w w') : SS w' B A n L :=
  ⟨h.len, fun hn => by
    obtain ⟨g, o, e, hg, hs⟩ := h.spot hn
    refine ⟨g, o, e, hg, fun i hi => ?_⟩
    obtain ⟨Ai, ni, ci, hc⟩ := hs i hi
    exact ⟨Ai, ni, ci, (hb.cell (p := ⟨g, _, none⟩) hg).trans hc.c0, (hb.cell (p := ⟨g, _, none⟩) hg).trans hc.c1, (hb.cell (p := ⟨g, _, none⟩) hg).trans hc.c2, (hb.cell (p := ⟨g, _, none⟩) hg).trans hc.c3, hc.bs.below hb, hc.nc, hc.cm⟩⟩

/-- The blocks of a kind are of a type of their own. -/
structure Apart (K : Kind) : Prop where
  hash : 58 ≠ K.elem
  ans : 40 ≠ K.elem
  byte : 5 ≠ K.elem

def ifs (K : Kind) (bs : List Nat) : List Value := bs.map fun b => .iface K.dyn (hp b)
structure RunR (K : Kind) (B0 : Nat) (w : World) (L : List Stp) (slv anv : Value) (wr : World) (k : Nat) (bs : List Nat) (P : List (Value × Ans)) : Prop where
  kl : k ≤ L.length
  slots : wr.ownsRow B0 58 1 slv bs.length (ifs K bs)
  blen : bs.length = (runM K (L.take k)).ss.length
  bk : bs.length ≤ k + 1
  reps : ∀ j, j < bs.length → Rep K wr (bs.getD j 0) ((runM K (L.take k)).ss.getD j 0) ∧ B0 ≤ bs.getD j 0
  nodup : ∀ i j, i < bs.length → j < bs.length → bs.getD i 0 = bs.getD j 0 → i = j
  ans : wr.ownsRow B0 40 4 anv P.length (ansCells P)
  pas : P.map (·.2) = (runM K (L.take k)).an
  dat : ∀ p ∈ P, Own wr B0 p.1 p.2.data
  sok : ∀ p ∈ P, ∀ x, p.2.sav = some x → K.ok x
  bel : Below B0 w wr
structure Mid (K : Kind) (B0 : Nat) (w : World) (L : List Stp) (slv anv : Value) (w2 : World) (ab k : Nat) (bs : List Nat) (P : List (Value × Ans)) (v : Value) (a : Ans) : Prop where
  kl : k + 1 ≤ L.length
  slots : w2.ownsRow B0 58 1 slv bs.length (ifs K bs)
  blen : bs.length = (runM K (L.take (k + 1))).ss.length
  bk : bs.length ≤ k + 2
  reps : ∀ j, j < bs.length → Rep K w2 (bs.getD j 0) ((runM K (L.take (k + 1))).ss.getD j 0) ∧ B0 ≤ bs.getD j 0
  nodup : ∀ i j, i < bs.length → j < bs.length → bs.getD i 0 = bs.getD j 0 → i = j
  ans : w2.ownsRow B0 40 4 anv P.length (ansCells P)
  pas : P.map (·.2) ++ [a] = (runM K (L.take (k + 1))).an
  dat : ∀ p ∈ P, Own w2 B0 p.1 p.2.data
  sok : ∀ p ∈ P, ∀ x, p.2.sav = some x → K.ok x
  aok : ∀ x, a.sav = some x → K.ok x
  bel : Below B0 w w2
  blk : w2.heap[ab]? = some (.cells #[v, .int .u64 ((a.value : Nat) : Int), .int .i64 ((a.number : Nat) : Int), .bool a.fail] 40 (0, 0))
  own : Own w2 B0 v a.data

section
variable {K : Kind} {B0 : Nat} {w : World} {L : List Stp} {slv anv : Value} {wr w2 : World} {k ab : Nat} {bs : List Nat} {P : List (Value × Ans)} {v : Value} {a : Ans}

theorem _root_.Go.World.ownsRow.mono_base {w : World} {base base' n size : Nat} {e : TypeId} {v : Value} {xs : List Value} (h : w.ownsRow base e size v n xs) (hb : base' ≤ base) : w.ownsRow base' e size v n xs := by
  refine ⟨h.1, ?_⟩
  rcases h.2 with h0 | ⟨g, cap, cur, hv, hbg, hr⟩
  · exact .inl h0
  · exact .inr ⟨g, cap, cur, hv, by omega, hr⟩
theorem row_lit (w : World) (cs : Array Value) (t : TypeId) (base n size : Nat) (hs : cs.size = n * size) (hb : base ≤ w.heap.size) (hn : n ≤ maxLen) : (w.alloc (.cells cs t)).ownsRow base t size (.slice (some ⟨w.heap.size, 0, none⟩) n n) n cs.toList :=
  ⟨by simpa using hs, .inr ⟨w.heap.size, n, cs, rfl, hb, _root_.Go.heap_alloc_new w _, Nat.le_refl _, hn, hs, List.take_of_length_le (by rw [Array.length_toList, hs]; exact Nat.le_refl _)⟩⟩
theorem none_or {v : Value} : v.ownBlock = none ∨ v.ownBlock ≠ none := by cases v.ownBlock <;> simp
theorem getD_mem {α : Type} {l : List α} {d : α} {i : Nat} (h : i < l.length) : l.getD i d ∈ l := by
  rw [List.getD_eq_getElem?_getD, List.getElem?_eq_getElem h]; exact List.getElem_mem _

theorem RunR.pl (h : RunR K B0 w L slv anv wr k bs P) : P.length = k := by
  have h1 := congrArg List.length h.pas
  rw [List.length_map, runM_len, List.length_take] at h1
  have := h.kl
  omega
theorem RunR.at_ (h : RunR K B0 w L slv anv wr k bs P) (i : Nat) : (runM K (L.take k)).an.getD i Ans.zero = (P.getD i (.nilIface, Ans.zero)).2 := by
  rw [← h.pas, List.getD_eq_getElem?_getD, List.getD_eq_getElem?_getD, List.getElem?_map]
  cases P[i]? <;> rfl
theorem src_four (w : World) (x y z u : Value) (t : TypeId) (k : Nat) (hk : k = w.heap.size) : Src (w.alloc (.cells #[x, y, z, u] t)) 4 (some ⟨k, 0, none⟩) 1 [x, y, z, u] := by
  subst hk
  refine ⟨rfl, fun _ => ⟨_, rfl, fun j v hv => ?_⟩⟩
  obtain ⟨c0, c1, c2, c3, _⟩ := four_cells (_root_.Go.heap_alloc_new w (.cells #[x, y, z, u] t))
  rw [addr_add, Nat.zero_add]
  match j, hv with
  | 0, hv => simp at hv; subst hv; exact c0
  | 1, hv => simp at hv; subst hv; exact c1
  | 2, hv => simp at hv; subst hv; exact c2
  | 3, hv => simp at hv; subst hv; exact c3
  | n + 4, hv => simp at hv
theorem four_set {w : World} {b : Nat} {x y z u x' y' z' u' : Value} {t : TypeId} (h : w.heap[b]? = some (.cells #[x, y, z, u] t (0, 0))) :
    ((((w.setCell ⟨b, 0, none⟩ x').setCell ⟨b, 1, none⟩ y').setCell ⟨b, 2, none⟩ z').setCell ⟨b, 3, none⟩ u').heap[b]? = some (.cells #[x', y', z', u'] t (0, 0)) := by
  have one : ∀ (w : World) (cs : Array Value) (i : Nat) (v : Value), w.heap[b]? = some (.cells cs t (0, 0)) → (w.setCell ⟨b, i, none⟩ v).heap[b]? = some (.cells (cs.setIfInBounds i v) t (0, 0)) := by
    intro w cs i v h
    have hlt := lt_of_block h
    have h' : w.heap[b] = .cells cs t (0, 0) := by simpa [Array.getElem?_eq_getElem hlt] using h
    show (w.heap.modify b _)[b]? = _
    rw [Array.getElem?_eq_getElem (by simpa using hlt), Array.getElem_modify_self, h']
    rfl
  exact one _ _ _ _ (one _ _ _ _ (one _ _ _ _ (one _ _ _ _ h)))
theorem grow_four {w w1 : World} {row : Option Nat} (h : w.grownBy w1 row) (b : Nat) (hb : w.heap.size ≤ b) (x y z u : Value) : w.grownBy ((((w1.setCell ⟨b, 0, none⟩ x).setCell ⟨b, 1, none⟩ y).setCell ⟨b, 2, none⟩ z).setCell ⟨b, 3, none⟩ u) row :=
  grow_set (grow_set (grow_set (grow_set h b 0 x hb) b 1 y hb) b 2 z hb) b 3 u hb
theorem Rep.four {K : Kind} {w : World} {b s : Nat} (h : Rep K w b s) (b' : Nat) (hne : b ≠ b') (x y z u : Value) : Rep K ((((w.setCell ⟨b', 0, none⟩ x).setCell ⟨b', 1, none⟩ y).setCell ⟨b', 2, none⟩ z).setCell ⟨b', 3, none⟩ u) b s :=
  (((h.set b' 0 x hne).set b' 1 y hne).set b' 2 z hne).set b' 3 u hne
theorem Own.four {w : World} {base : Nat} {v : Value} {l : List Nat} (h : Own w base v l) (b : Nat) (hb : b < base) (x y z u : Value) : Own ((((w.setCell ⟨b, 0, none⟩ x).setCell ⟨b, 1, none⟩ y).setCell ⟨b, 2, none⟩ z).setCell ⟨b, 3, none⟩ u) base v l :=
  (((h.setCell 0 b x hb).setCell 1 b y hb).setCell 2 b z hb).setCell 3 b u hb

/-- A step that turns no hash. -/
theorem RunR.quiet (h : RunR K B0 w L slv anv wr k bs P) (hk : k < L.length) (hB : B0 ≤ wr.heap.size) (hg : wr.grownBy w2 none) (hm : runM K (L.take (k + 1)) = ⟨(runM K (L.take k)).ss, (runM K (L.take k)).an ++ [a]⟩)
    (blk : w2.heap[ab]? = some (.cells #[v, .int .u64 ((a.value : Nat) : Int), .int .i64 ((a.number : Nat) : Int), .bool a.fail] 40 (0, 0))) (own : Own w2 B0 v a.data) (aok : ∀ x, a.sav = some x → K.ok x) : Mid K B0 w L slv anv w2 ab k bs P v a where
  kl := hk
  slots := h.slots.kept hg none_or
  blen := by rw [hm]; exact h.blen
  bk := by have := h.bk; omega
  reps j hj := by rw [hm]; exact ⟨(h.reps j hj).1.grown hg (by simp), (h.reps j hj).2⟩
  nodup := h.nodup
  ans := h.ans.kept hg none_or
  pas := by rw [hm, h.pas]
  dat p hp := (h.dat p hp).grown hg none_or
  sok := h.sok
  aok := aok
  bel := h.bel.grown hg hB (fun _ e => by cases e)
  blk := blk
  own := own

/-- A step that turns one hash. -/
theorem RunR.turn (h : RunR K B0 w L slv anv wr k bs P) (hA : Apart K) (hk : k < L.length) (hB : B0 ≤ wr.heap.size) {j x : Nat} (hj : j < bs.length) (hg : wr.grownBy w2 (some (bs.getD j 0))) (hx : Rep K w2 (bs.getD j 0) x)
    (hm : runM K (L.take (k + 1)) = ⟨(runM K (L.take k)).ss.set j x, (runM K (L.take k)).an ++ [a]⟩)
    (blk : w2.heap[ab]? = some (.cells #[v, .int .u64 ((a.value : Nat) : Int), .int .i64 ((a.number : Nat) : Int), .bool a.fail] 40 (0, 0))) (own : Own w2 B0 v a.data) (aok : ∀ x, a.sav = some x → K.ok x) : Mid K B0 w L slv anv w2 ab k bs P v a where
  kl := hk
  slots := h.slots.kept hg (.inr fun e => rep_apart h.slots (h.reps j hj).1 hA.hash e.symm)
  blen := by rw [hm]; simpa using h.blen
  bk := by have := h.bk; omega
  reps i hi := by
    rw [hm]
    refine ⟨?_, (h.reps i hi).2⟩
    by_cases e : i = j
    · subst e
      have : ((runM K (L.take k)).ss.set i x).getD i 0 = x := by rw [List.getD_eq_getElem?_getD, List.getElem?_set_self (by rw [← h.blen]; exact hi)]; rfl
      rw [this]; exact hx
    · have : ((runM K (L.take k)).ss.set j x).getD i 0 = (runM K (L.take k)).ss.getD i 0 := by
        rw [List.getD_eq_getElem?_getD, List.getD_eq_getElem?_getD, List.getElem?_set_ne (fun e' => e e'.symm)]
      rw [this]
      exact (h.reps i hi).1.grown hg (fun e' => e (h.nodup i j hi hj (Option.some.inj e')))
  nodup := h.nodup
  ans := h.ans.kept hg (.inr fun e => rep_apart h.ans (h.reps j hj).1 hA.ans e.symm)
  pas := by rw [hm, h.pas]
  dat p hp := (h.dat p hp).grown hg (.inr fun e => rep_apart (h.dat p hp).1 (h.reps j hj).1 hA.byte e.symm)
  sok := h.sok
  aok := aok
  bel := h.bel.grown hg hB (fun k' e => by have := (h.reps j hj).2; cases e; exact this)
  blk := blk
  own := own

/-- A step that lays a new hash. -/
theorem RunR.more {slv' : Value} {b' x : Nat} (h : RunR K B0 w L slv anv wr k bs P) (hA : Apart K) (hk : k < L.length) (hB : B0 ≤ wr.heap.size) (hg : wr.grownBy w2 slv.ownBlock) (hs : w2.ownsRow B0 58 1 slv' (bs.length + 1) (ifs K bs ++ [.iface K.dyn (hp b')])) (hx : Rep K w2 b' x) (hb' : wr.heap.size ≤ b')
    (hm : runM K (L.take (k + 1)) = ⟨(runM K (L.take k)).ss ++ [x], (runM K (L.take k)).an ++ [a]⟩)
    (blk : w2.heap[ab]? = some (.cells #[v, .int .u64 ((a.value : Nat) : Int), .int .i64 ((a.number : Nat) : Int), .bool a.fail] 40 (0, 0))) (own : Own w2 B0 v a.data) (aok : ∀ x, a.sav = some x → K.ok x) : Mid K B0 w L slv' anv w2 ab k (bs ++ [b']) P v a where
  kl := hk
  slots := by
    have e : ifs K (bs ++ [b']) = ifs K bs ++ [.iface K.dyn (hp b')] := by simp [ifs]
    rw [e, List.length_append]; exact hs
  blen := by rw [hm]; simpa using h.blen
  bk := by have := h.bk; rw [List.length_append]; simp; omega
  reps i hi := by
    rw [hm]
    rw [List.length_append] at hi
    simp only [List.length_cons, List.length_nil] at hi
    by_cases e : i < bs.length
    · rw [List.getD_eq_getElem?_getD, List.getD_eq_getElem?_getD, List.getElem?_append_left e, List.getElem?_append_left (by rw [← h.blen]; exact e), ← List.getD_eq_getElem?_getD, ← List.getD_eq_getElem?_getD]
      exact ⟨(h.reps i e).1.grown hg (rep_apart h.slots (h.reps i e).1 hA.hash), (h.reps i e).2⟩
    · have hi2 : i = bs.length := by omega
      subst hi2
      rw [List.getD_eq_getElem?_getD, List.getD_eq_getElem?_getD, List.getElem?_append_right (Nat.le_refl _), List.getElem?_append_right (by rw [h.blen]; exact Nat.le_refl _), h.blen]
      simp only [Nat.sub_self, List.getElem?_cons_zero, Option.getD_some]
      exact ⟨hx, by omega⟩
  nodup i j hi hj e := by
    rw [List.length_append] at hi hj
    simp only [List.length_cons, List.length_nil] at hi hj
    have hlt : ∀ i, i < bs.length → (bs ++ [b']).getD i 0 = bs.getD i 0 := fun i hi => by
      rw [List.getD_eq_getElem?_getD, List.getD_eq_getElem?_getD, List.getElem?_append_left hi]
    have hat : (bs ++ [b']).getD bs.length 0 = b' := by
      rw [List.getD_eq_getElem?_getD, List.getElem?_append_right (Nat.le_refl _)]; simp
    by_cases e1 : i < bs.length
    · by_cases e2 : j < bs.length
      · rw [hlt i e1, hlt j e2] at e; exact h.nodup i j e1 e2 e
      · have hj2 : j = bs.length := by omega
        subst hj2
        rw [hlt i e1, hat] at e
        have := (h.reps i e1).1.lt
        omega
    · have hi2 : i = bs.length := by omega
      subst hi2
      by_cases e2 : j < bs.length
      · rw [hlt j e2, hat] at e
        have := (h.reps j e2).1.lt
        omega
      · omega
  ans := h.ans.kept hg (rows_apart h.ans h.slots (by decide))
  pas := by rw [hm, h.pas]
  dat p hp := (h.dat p hp).grown hg (rows_apart (h.dat p hp).1 h.slots (by decide))
  sok := h.sok
  aok := aok
  bel := h.bel.grown hg hB (fun k' e => (h.slots.lt k' e).1)
  blk := blk
  own := own

/-- The answer is appended. -/
theorem Mid.fin (h : Mid K B0 w L slv anv w2 ab k bs P v a) (hA : Apart K) (hB : B0 ≤ w2.heap.size) {v' : Value} {w3 : World} {X : Obj}
    (hrow : w3.ownsRow B0 40 4 v' (P.length + 1) (ansCells P ++ [v, .int .u64 ((a.value : Nat) : Int), .int .i64 ((a.number : Nat) : Int), .bool a.fail])) (hg0 : (w2.alloc X).grownBy w3 anv.ownBlock) :
    RunR K B0 w L slv v' w3 (k + 1) bs (P ++ [(v, a)]) := by
  have hg : w2.grownBy w3 anv.ownBlock := grow_trans (World.grownBy_alloc w2 X _) hg0
  exact {
    kl := h.kl
    slots := h.slots.kept hg (rows_apart h.slots h.ans (by decide))
    blen := h.blen
    bk := h.bk
    reps := fun j hj => ⟨(h.reps j hj).1.grown hg (rep_apart h.ans (h.reps j hj).1 hA.ans), (h.reps j hj).2⟩
    nodup := h.nodup
    ans := by rw [ansCells_append, List.length_append]; exact hrow
    pas := by rw [List.map_append]; exact h.pas
    dat := fun p hp => by
      rcases List.mem_append.1 hp with hp | hp
      · exact (h.dat p hp).grown hg (rows_apart (h.dat p hp).1 h.ans (by decide))
      · rcases List.mem_singleton.1 hp with rfl
        exact h.own.grown hg (rows_apart h.own.1 h.ans (by decide))
    sok := fun p hp => by
      rcases List.mem_append.1 hp with hp | hp
      · exact h.sok p hp
      · rcases List.mem_singleton.1 hp with rfl
        exact h.aok
    bel := h.bel.grown hg hB (fun k' e => (h.ans.lt k' e).1) }
end

end Go.Proofs.Ytdpjdglcienbfaa

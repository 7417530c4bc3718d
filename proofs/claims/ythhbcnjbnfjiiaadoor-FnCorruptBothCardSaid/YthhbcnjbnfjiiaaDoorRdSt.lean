/-
  Small facts for the walk of the stream decoder: copies into a row of cells, blocks of two and three cells, which blocks turn. Printed by rdgen.py. Conditions: those that each fact names.
-/
import Derived.Test.YthhbcnjbnfjiiaaDoorAppend
import Derived.Test.YthhbcnjbnfjiiaaDoorDec
import Derived.Test.YthhbcnjbnfjiiaaDoorStepApp
import Derived.Laws.CopyRow
import Derived.Laws.IdiomCopy
import Derived.OwnWalk
import Derived.Deep.RegionLaw
import Derived.Deep.RegionHeld3
namespace Go.Proofs.YthhbcnjbnfjiiaaDoor
open Go.RowKit

theorem lt_of_block' {w : World} {g : Nat} {o : Obj} (h : w.heap[g]? = some o) : g < w.heap.size := (Array.getElem?_eq_some_iff.1 h).1
theorem two_res {fn : Func} {t u : Tmp} (h : fn.results = #[.tmp t, .tmp u]) (tmps : Array Value) (P : Program) (w : World) :
    (results fn tmps).run P w = .ok (.tuple #[tmps.getD t undef, tmps.getD u undef]) w := by simp [results, h]
theorem entersB {f : FuncId} {fn : Func} {c : Code} (hf : Tryd.prog.funcs[f]? = some fn) (hname : (fn.name == "runtime.NumGoroutine") = false) (hb : fn.body = some c) (args : Array Value) (w : World) :
    (callFunc f args).run Tryd.prog w = .ok (.enter f args) w := by
  have h1 : fn.name ≠ "runtime.NumGoroutine" := by simpa using hname
  simp [callFunc, hf, h1, hb]
theorem two_cells {w : World} {b : Nat} {x y : Value} {t : TypeId} (h : w.heap[b]? = some (.cells #[x, y] t (0, 0))) :
    w.cell? ⟨b, 0, none⟩ = some x ∧ w.cell? ⟨b, 1, none⟩ = some y := by
  simp [World.cell?, h]
theorem three_cells {w : World} {b : Nat} {x y z : Value} {t : TypeId} (h : w.heap[b]? = some (.cells #[x, y, z] t (0, 0))) :
    w.cell? ⟨b, 0, none⟩ = some x ∧ w.cell? ⟨b, 1, none⟩ = some y ∧ w.cell? ⟨b, 2, none⟩ = some z ∧ w.frozen? ⟨b, 0, none⟩ = false ∧ w.frozen? ⟨b, 1, none⟩ = false ∧ w.frozen? ⟨b, 2, none⟩ = false := by
  simp [World.cell?, World.frozen?, h]
theorem set_three {w : World} {b : Nat} {x y z v : Value} {t : TypeId} (h : w.heap[b]? = some (.cells #[x, y, z] t (0, 0))) : (w.setCell ⟨b, 0, none⟩ v).heap[b]? = some (.cells #[v, y, z] t (0, 0)) ∧ (w.setCell ⟨b, 1, none⟩ v).heap[b]? = some (.cells #[x, v, z] t (0, 0)) ∧ (w.setCell ⟨b, 2, none⟩ v).heap[b]? = some (.cells #[x, y, v] t (0, 0)) := by
  have one : ∀ (i : Nat), (w.setCell ⟨b, i, none⟩ v).heap[b]? = some (.cells ((#[x, y, z] : Array Value).setIfInBounds i v) t (0, 0)) := by
    intro i
    have hlt := lt_of_block' h
    have h' : w.heap[b] = .cells #[x, y, z] t (0, 0) := by simpa [Array.getElem?_eq_getElem hlt] using h
    show (w.heap.modify b _)[b]? = _
    rw [Array.getElem?_eq_getElem (by simpa using hlt), Array.getElem_modify_self, h']
    rfl
  exact ⟨one 0, one 1, one 2⟩
theorem set_other {w : World} {b i k : Nat} {v : Value} (h : k ≠ b) : (w.setCell ⟨b, i, none⟩ v).heap[k]? = w.heap[k]? := Below.heap_setCell w ⟨b, i, none⟩ v k h
/-- No block turns but those in the list. -/
structure Few (bs : List Nat) (w w' : World) : Prop where
  os : w'.os = w.os
  tape : w'.tape = w.tape
  output : w'.output = w.output
  size : w'.heap.size = w.heap.size
  block : ∀ k, k ∉ bs → w'.heap[k]? = w.heap[k]?
theorem Few.refl (bs : List Nat) (w : World) : Few bs w w := ⟨rfl, rfl, rfl, rfl, fun _ _ => rfl⟩
theorem Few.trans {bs : List Nat} {w w1 w2 : World} (h : Few bs w w1) (k : Few bs w1 w2) : Few bs w w2 := ⟨k.os.trans h.os, k.tape.trans h.tape, k.output.trans h.output, k.size.trans h.size, fun i hi => (k.block i hi).trans (h.block i hi)⟩
theorem Few.mono {bs bs' : List Nat} {w w' : World} (h : Few bs w w') (hs : ∀ x ∈ bs, x ∈ bs') : Few bs' w w' := ⟨h.os, h.tape, h.output, h.size, fun k hk => h.block k (fun e => hk (hs k e))⟩
theorem Only.few {b : Nat} {bs : List Nat} {w w' : World} (h : Only b w w') (hb : b ∈ bs) : Few bs w w' := ⟨h.os, h.tape, h.output, h.size, fun k hk => h.block k (fun e => hk (by rw [e]; exact hb))⟩
theorem Few.set {b : Nat} {bs : List Nat} {w w' : World} (h : Few bs w w') (hb : b ∈ bs) (i : Nat) (v : Value) : Few bs w (w'.setCell ⟨b, i, none⟩ v) := h.trans ((Only.set (Only.refl b w') i v).few hb)
theorem Few.drew {bs : List Nat} {w w' : World} (h : Few bs w w') : Few bs w w'.drew := ⟨h.os, h.tape, h.output, h.size, h.block⟩
theorem Few.below {B : Nat} {bs : List Nat} {w w' : World} (h : Few bs w w') (hb : ∀ x ∈ bs, B ≤ x) : Below B w w' := ⟨h.os, h.tape, h.output, Nat.le_of_eq h.size.symm, fun k hk => h.block k (fun e => by have := hb k e; omega)⟩
theorem Few.bs {bs : List Nat} {w w' : World} {b o n B : Nat} {l : List Nat} (h : Few bs w w') (hb : b ∉ bs) (hl : BS w B (some ⟨b, o, none⟩) n l) : BS w' B (some ⟨b, o, none⟩) n l :=
  ⟨hl.len, hl.lt, fun hn => by
    obtain ⟨b0, o0, e, hB, hc⟩ := hl.spot hn
    injection e with e
    injection e with e1 e2
    subst e1 e2
    exact ⟨b, o, rfl, hB, fun i hi => (World.cell?_of_block (w := w) (h.block b hb)).trans (hc i hi)⟩⟩

/-- A copy into a row. -/
theorem copy_eq {w : World} {g od dLen dCap M sLen sCap m : Nat} {sa : Addr} {Ty ty : TypeId} {f : Nat → Value} {l : List Nat} (hrow : w.rowIs g Ty M f) (hl : l.length = m) (hm : m = Nat.min sLen dLen) (hsrc : ∀ j, j < m → w.cell? (sa.add j) = some (.int .u8 ((l.getD j 0 : Nat) : Int))) (hfit : od + m ≤ M) :
    ∃ w' f', (Builtin.copy_ #[22, 22] ty #[.slice (some ⟨g, od, none⟩) dLen dCap, .slice (some sa) sLen sCap]).run Tryd.prog w = .ok (.int .i64 (m : Int)) w' ∧ w'.rowIs g Ty M f' ∧ Only g w w' ∧ (∀ j, j < od ∨ od + m ≤ j → f' j = f j) ∧ (∀ j, j < m → f' (od + j) = .int .u8 ((l.getD j 0 : Nat) : Int)) := by
  have hinfo : (Tryd.prog.info? 5).map (·.size) = some 1 := by
    obtain ⟨i0, hi, hzz⟩ := Option.map_eq_some_iff.1 Tryd.infoByte
    simp only [Prod.mk.injEq] at hzz
    rw [hi]; simp [hzz.2.1]
  obtain ⟨cur, hcur, hsz, hf⟩ := id hrow
  have hbl : (bv l).length = m := by rw [bv_length, hl]
  have hcp := run_copy_row (P := Tryd.prog) w 22 22 ty 5 g od dLen dCap sa sLen sCap cur Ty (bv l) Tryd.underlying22 hinfo hcur (by rw [hbl]; exact hm) (fun j v hj => by
    have hjm : j < m := by
      rcases Nat.lt_or_ge j m with h | h
      · exact h
      · rw [List.getElem?_eq_none (by rw [hbl]; exact h)] at hj; cases hj
    rw [bv_at l j (by omega)] at hj
    rw [← Option.some.inj hj]
    exact hsrc j hjm) (by rw [hbl, hsz]; exact hfit) (bv_one l)
  rw [hbl] at hcp
  refine ⟨_, fun j => if od ≤ j ∧ j < od + m then .int .u8 ((l.getD (j - od) 0 : Nat) : Int) else f j, hcp, ⟨_, setRow_heap _ _ _ _ _ _ hcur, ?_, fun i hi => ?_⟩, ⟨rfl, rfl, rfl, by simp [World.setRow], fun k hk => setRow_other _ _ _ _ hk⟩, fun j hj => ?_, fun j hj => ?_⟩
  · simp only [List.size_toArray, List.length_append, List.length_take, List.length_drop, Array.length_toList, hbl, hsz]; omega
  · have h2 : (cur.toList.take od).length = od := by rw [List.length_take, Array.length_toList, hsz]; omega
    simp only [List.getElem?_toArray]
    by_cases h1 : i < od
    · rw [if_neg (by omega), List.append_assoc, List.getElem?_append_left (by omega), List.getElem?_take, if_pos h1, Array.getElem?_toList, hf i hi]
    · by_cases h3 : i < od + m
      · rw [if_pos ⟨by omega, h3⟩, List.append_assoc, List.getElem?_append_right (by omega), List.getElem?_append_left (by rw [hbl]; omega), h2, bv_at l (i - od) (by omega)]
      · rw [if_neg (by omega), List.getElem?_append_right (by rw [List.length_append, hbl]; omega), List.getElem?_drop, List.length_append, h2, hbl, show od + m + (i - (od + m)) = i by omega, Array.getElem?_toList, hf i hi]
  · show (if od ≤ j ∧ j < od + m then _ else f j) = f j
    rw [if_neg (by omega)]
  · show (if od ≤ od + j ∧ od + j < od + m then _ else f (od + j)) = _
    rw [if_pos ⟨by omega, by omega⟩, show od + j - od = j by omega]
/-- A copy into a row as one step of a region that draws its order. -/
theorem step_copy {ops : Array Oper} {o : Oper} {a : Act} {w : World} {K : Act → World → Prop} {Q : Exit → Act → World → Prop} {E : Prop} (hgd : o.guard = none) (d s : Operand)
    (ho : o.op = .call { callee := .builtin .copy, args := #[d, s], argTypes := #[22, 22] })
    (g od dLen dCap M sLen sCap m : Nat) (sa : Addr) (Ty : TypeId) (f : Nat → Value) (l : List Nat) (hd : a.eval d = .slice (some ⟨g, od, none⟩) dLen dCap) (hs : a.eval s = .slice (some sa) sLen sCap)
    (hrow : w.rowIs g Ty M f) (hl : l.length = m) (hm : m = Nat.min sLen dLen) (hsrc : ∀ j, j < m → w.cell? (sa.add j) = some (.int .u8 ((l.getD j 0 : Nat) : Int))) (hfit : od + m ≤ M)
    (h : ∀ w' f', w'.rowIs g Ty M f' → Only g w w' → (∀ j, j < od ∨ od + m ≤ j → f' j = f j) → (∀ j, j < m → f' (od + j) = .int .u8 ((l.getD j 0 : Nat) : Int)) → K (a.put o.dst (.int .i64 (m : Int))) w') :
    if Region.wanted o (yielded ops a.tmps) = true then Oper.wp Tryd.prog o a w K Q else E := by
  have hw : Region.wanted o (yielded ops a.tmps) = true := by simp [Region.wanted, hgd]
  rw [if_pos hw]
  obtain ⟨w', f', hrun, h1, h2, h3, h4⟩ := copy_eq (dCap := dCap) (sCap := sCap) (ty := o.type) hrow hl hm hsrc hfit
  have hk := h w' f' h1 h2 h3 h4
  unfold Oper.wp
  simp [execOp, ho, resolve, invoke, builtin, hd, hs, hrun, Result.andThen]
  exact hk
theorem cutp (bp off n c k : Nat) (hk : k ≤ n) (W : World) : (Instr.slice 22 (.slice (some ⟨bp, off, none⟩) n c) (some (.int .i64 (k : Int))) none none).run Tryd.prog W = .ok (.slice (if c = k then some ⟨bp, off, none⟩ else some ⟨bp, off + k, none⟩) (n - k) (c - k)) W := by
  have e2 : Tryd.prog.elem 22 = 5 := by kernel_rfl
  rw [run_slice_l (P := Tryd.prog) W 22 _ n c (by rw [e2]; exact Tryd.underlying22) .i64 (k : Int) (by omega) (by omega), e2]
  obtain ⟨i0, hi, hzz⟩ := Option.map_eq_some_iff.1 Tryd.infoByte
  simp only [Prod.mk.injEq] at hzz
  simp [sizeOf, typeInfo, hi, hzz.2.1, sliced, Result.andThen, addr_add]

end Go.Proofs.YthhbcnjbnfjiiaaDoor

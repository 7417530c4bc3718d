/-
  'append' on bytes as one step of a region that draws its order. Conditions: those that the fact names.
-/
import Derived.Test.YthhbcnjbnfjiiaaDoorAppend
import Derived.Deep.RegionLaw
namespace Go.Proofs.YthhbcnjbnfjiiaaDoor
open Go.RowKit

/-- 'append(v, x...)' on bytes as one step of a region that draws its order. -/
theorem step_append_bytes {ops : Array Oper} {o : Oper} {a : Act} {w : World} {K : Act → World → Prop} {Q : Exit → Act → World → Prop} {E : Prop} (hgd : o.guard = none) (s x : Operand)
    (ho : o.op = .call { callee := .builtin .append, args := #[s, x], argTypes := #[22, 22] })
    (base : Nat) (v : Value) (l : List Nat) (hs : a.eval s = v) (hown : Own w base v l)
    (B : Nat) (A : Option Addr) (m c : Nat) (l2 : List Nat) (hx : a.eval x = .slice A m c) (hsrc : BS w B A m l2)
    (hfit : l.length + m ≤ 211106232532992) (hbase : base ≤ w.heap.size)
    (h : ∀ v' w', Own w' base v' (l ++ l2) → w.grownBy w' v.ownBlock → (v'.ownBlock = v.ownBlock ∨ v'.ownBlock = some w.heap.size) → K (a.put o.dst v') w') :
    if Region.wanted o (yielded ops a.tmps) = true then Oper.wp Tryd.prog o a w K Q else E := by
  have hw : Region.wanted o (yielded ops a.tmps) = true := by simp [Region.wanted, hgd]
  rw [if_pos hw]
  obtain ⟨i, hi, hzz⟩ := Option.map_eq_some_iff.1 Tryd.infoByte
  simp only [Prod.mk.injEq] at hzz
  obtain ⟨hz, hsz, hb⟩ := hzz
  obtain ⟨v', w', hrun, h2, h3, h4⟩ := run_append_src (P := Tryd.prog) w base 22 o.type 5 i (.int .u8 0) 1 Tryd.underlying22 hi hz hsz rfl (by omega) v l.length (bv l) hown.1 A m c (bv l2) hsrc.src (bv_one l2)
    (by unfold maxLen; omega) (by rw [hb]; omega) hbase
  have hk := h v' w' ⟨by rw [List.length_append, bv_append, hsrc.len]; exact h2, fun y hy => by
    rcases List.mem_append.1 hy with hy | hy
    · exact hown.2 y hy
    · exact hsrc.lt y hy⟩ h3 h4
  unfold Oper.wp
  simp [execOp, ho, resolve, invoke, builtin, hs, hx, hrun, Result.andThen]
  exact hk

end Go.Proofs.YthhbcnjbnfjiiaaDoor

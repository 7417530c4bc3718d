/-
  How a hash behind an interface is met: its methods are found and entered, it is a saver and a Cloner; 'append' as one step of a region that draws its order. Conditions: none but those that each fact names.
-/
import Derived.Test.YtdpjdglcienbfaaHashAid
import Derived.Stop.Asserts
import Derived.Deep.RegionLaw
namespace Go.Proofs.Ytdpjdglcienbfaa
open Go.RowKit

/-- A method is found, its value is not nil, and it is entered. -/
structure Meth (P : Program) (D : TypeId) (name : String) (f : FuncId) : Prop where
  find : ∀ (a : Addr) (w : World), (Go.method 232 D (.pointer (some a)) name).run P w = .ok (f, .pointer (some a)) w
  ahead : ∀ (a : Addr) (w : World), (Go.nilAhead 232 D (.pointer (some a)) name).run P w = .ok (some false) w
  enter : ∀ (args : Array Value) (w : World), (callFunc f args).run P w = .ok (.enter f args) w

structure Linked (K : Kind) : Prop where
  saver : ∀ (v : Value) (w : World), (Instr.typeAssert (.iface K.dyn v) 58 98 true).run Try.prog w = .ok (.tuple #[.iface K.dyn v, .bool true]) w
  cloner : ∀ (v : Value) (w : World), (Instr.typeAssert (.iface K.dyn v) 58 93 true).run Try.prog w = .ok (.tuple #[.iface K.dyn v, .bool true]) w
  write : Meth Try.prog K.dyn "Write" K.fWrite
  sum : Meth Try.prog K.dyn "Sum" K.fSum
  reset : Meth Try.prog K.dyn "Reset" K.fReset
  size : Meth Try.prog K.dyn "Size" K.fSize
  block : Meth Try.prog K.dyn "BlockSize" K.fBlock
  clone : Meth Try.prog K.dyn "Clone" K.fClone
  marshal : Meth Try.prog K.dyn "MarshalBinary" K.fMarshal
  unmarshal : Meth Try.prog K.dyn "UnmarshalBinary" K.fUnmarshal
  value : ∀ (w : World) (b s : Nat), Rep K w b s → Calls Try.prog 50 #[.iface K.dyn (hp b)] w fun e w' => e = .returned (.int .u64 ((K.val s : Nat) : Int)) ∧ w = w'

theorem entered {P : Program} {f : FuncId} {fn : Func} {c : Code} (hf : P.funcs[f]? = some fn) (hname : (fn.name == "runtime.NumGoroutine") = false) (hb : fn.body = some c) (args : Array Value) (w : World) :
    (callFunc f args).run P w = .ok (.enter f args) w := by
  have h1 : fn.name ≠ "runtime.NumGoroutine" := by simpa using hname
  simp [callFunc, hf, h1, hb]

/-- 'append(v, x...)' on bytes as one step of a region that draws its order. -/
theorem step_append_bytes {ops : Array Oper} {o : Oper} {a : Act} {w : World} {K : Act → World → Prop} {Q : Exit → Act → World → Prop} {E : Prop} (hgd : o.guard = none) (s x : Operand)
    (ho : o.op = .call { callee := .builtin .append, args := #[s, x], argTypes := #[22, 22] })
    (base : Nat) (v : Value) (l : List Nat) (hs : a.eval s = v) (hown : Own w base v l)
    (B : Nat) (A : Option Addr) (m c : Nat) (l2 : List Nat) (hx : a.eval x = .slice A m c) (hsrc : BS w B A m l2)
    (hfit : l.length + m ≤ 211106232532992) (hbase : base ≤ w.heap.size)
    (h : ∀ v' w', Own w' base v' (l ++ l2) → w.grownBy w' v.ownBlock → (v'.ownBlock = v.ownBlock ∨ v'.ownBlock = some w.heap.size) → K (a.put o.dst v') w') :
    if Region.wanted o (yielded ops a.tmps) = true then Oper.wp Try.prog o a w K Q else E := by
  have hw : Region.wanted o (yielded ops a.tmps) = true := by simp [Region.wanted, hgd]
  rw [if_pos hw]
  obtain ⟨i, hi, hzz⟩ := Option.map_eq_some_iff.1 Try.infoByte
  simp only [Prod.mk.injEq] at hzz
  obtain ⟨hz, hsz, hb⟩ := hzz
  obtain ⟨v', w', hrun, h2, h3, h4⟩ := run_append_src (P := Try.prog) w base 22 o.type 5 i (.int .u8 0) 1 Try.underlying22 hi hz hsz rfl (by omega) v l.length (bv l) hown.1 A m c (bv l2) hsrc.src (bv_one l2)
    (by unfold maxLen; omega) (by rw [hb]; omega) hbase
  have hk := h v' w' ⟨by rw [List.length_append, bv_append, hsrc.len]; exact h2, fun y hy => by
    rcases List.mem_append.1 hy with hy | hy
    · exact hown.2 y hy
    · exact hsrc.lt y hy⟩ h3 h4
  unfold Oper.wp
  simp [execOp, ho, resolve, invoke, builtin, hs, hx, hrun, Result.andThen]
  exact hk

end Go.Proofs.Ytdpjdglcienbfaa

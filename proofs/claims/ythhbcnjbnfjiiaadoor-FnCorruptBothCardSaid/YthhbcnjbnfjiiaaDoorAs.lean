/-
  errors.As at the target '*ascii85.CorruptInputError' and impl.corrupt: of a nil error false and 0; of a CorruptInputError true and its number. After the kit's worked example on errors.As at a concrete target. Conditions: errors.errorType holds the handle of the type error, as the row lists it.
-/
import Derived.Test.YthhbcnjbnfjiiaaDoorProg
import Derived.Test.YthhbcnjbnfjiiaaDoorWords
import Derived.WalkKit
import Derived.LaidEql
import Derived.Stop.Asserts
import Derived.RowKitTokens
import Derived.BigQuiet
import Derived.Deep.QuietTactic
import Derived.Outline
namespace Go.Proofs.YthhbcnjbnfjiiaaDoor
open Go.RowKit Go.Extern.Stop Go.Stop Go.Extern

/-- errors.As(nil, target). -/
theorem as_nil (t : Value) (w : World) :
    Calls Tryd.prog 36 #[.nilIface, t] w fun e w' => e = .returned (.bool false) ∧ w = w' := by
  go_enter Tryd.func36, Tryd.ntmps36
  go_wp2
  go_ret
  exact ⟨rfl, rfl⟩

theorem As.valueOfP (t : Addr) (w : World) : (ReflectliteValue.unpack (.iface 65 (.pointer (some t)))).run Tryd.prog w
    = .ok (.agg #[.pointer (some ⟨2, 65, none⟩), .pointer (some ⟨w.heap.size, 0, none⟩), .int .u64 150]) (w.alloc (.cells #[.pointer (some t)] 65)) := by kernel_rfl
theorem As.typeP (a : Addr) (w : World) : (ReflectliteValue.methodAny (ReflectliteValue.valueError "reflectlite.Value.Type" 0) (fun t _ _ _ => ReflectliteType.toType t) #[.agg #[.pointer (some ⟨2, 65, none⟩), .pointer (some a), .int .u64 150]]).run Tryd.prog w
    = .ok (.iface 86 (.agg #[.pointer (some ⟨2, 65, none⟩)])) w := by kernel_rfl
theorem As.kindP (w : World) : ((ReflectliteType.abiMethod fun t => (fun a : Nat => Value.int IntKind.u8 (a : Int)) <$> Rtype.kind t) #[.pointer (some ⟨2, 65, none⟩)]).run Tryd.prog w = .ok (.int .u8 22) w := by kernel_rfl
theorem As.kindE (w : World) : ((ReflectliteType.abiMethod fun t => (fun a : Nat => Value.int IntKind.u8 (a : Int)) <$> Rtype.kind t) #[.pointer (some ⟨2, 63, none⟩)]).run Tryd.prog w = .ok (.int .u8 6) w := by kernel_rfl
theorem rlm (z : Sem Value) (f : TypeId → Addr → Nat → Nat → Sem Value) (v : Value) :
    ReflectliteValue.method z f #[v] = (do match ← ReflectliteValue.parts v with | none => z | some (t, a, fl) => f t a fl (fl % 32)) := rfl
theorem As.partsP (a : Addr) (w : World) : (ReflectliteValue.parts (.agg #[.pointer (some ⟨2, 65, none⟩), .pointer (some a), .int .u64 150])).run Tryd.prog w = .ok (some (65, a, 150)) w := by kernel_rfl
theorem As.isNilP (a p : Addr) (W : World) (ha : W.cell? a = some (.pointer (some p))) :
    (ReflectliteValue.method (ReflectliteValue.valueError "reflectlite.Value.IsNil" 0) ReflectliteValue.isNil #[.agg #[.pointer (some ⟨2, 65, none⟩), .pointer (some a), .int .u64 150]]).run Tryd.prog W = .ok (.bool false) W := by
  rw [rlm]
  simp only [Sem.run_bind, As.partsP, Result.andThen]
  simp [ReflectliteValue.isNil, loadVar, isAgg, underlying, Tryd.underlying65, ha, Result.andThen]
theorem As.elemP (w : World) : (ReflectliteType.method ReflectliteType.elem #[.agg #[.pointer (some ⟨2, 65, none⟩)]]).run Tryd.prog w = .ok (.iface 86 (.agg #[.pointer (some ⟨2, 63, none⟩)])) w := by kernel_rfl
theorem As.implementsE (w : World) : (ReflectliteType.relation "Implements" ReflectliteType.implements_ #[.agg #[.pointer (some ⟨2, 63, none⟩)], .iface 86 (.agg #[.pointer (some ⟨2, 42, none⟩)])]).run Tryd.prog w = .ok (.bool true) w := by kernel_rfl
theorem As.typeOfE (v : Value) (w : World) : (ReflectliteType.typeOf #[.iface 63 v]).run Tryd.prog w = .ok (.iface 86 (.agg #[.pointer (some ⟨2, 63, none⟩)])) w := by kernel_rfl
theorem As.assignableE (w : World) : (ReflectliteType.relation "AssignableTo" ReflectliteType.assignableTo #[.agg #[.pointer (some ⟨2, 63, none⟩)], .iface 86 (.agg #[.pointer (some ⟨2, 63, none⟩)])]).run Tryd.prog w = .ok (.bool true) w := by kernel_rfl
theorem As.valueOfE (i : Int) (w : World) : (ReflectliteValue.unpack (.iface 63 (.int .i64 i))).run Tryd.prog w
    = .ok (.agg #[.pointer (some ⟨2, 63, none⟩), .pointer (some ⟨w.heap.size, 0, none⟩), .int .u64 134]) (w.alloc (.cells #[.int .i64 i] 63)) := by kernel_rfl
theorem As.elemOfP (w : World) : (Rtype.elem? 65).run Tryd.prog w = .ok (some 63) w := by kernel_rfl
theorem As.mkE (p : Addr) (w : World) : (ReflectliteValue.mk 63 p ReflectliteValue.flagAddr).run Tryd.prog w = .ok (.agg #[.pointer (some ⟨2, 63, none⟩), .pointer (some p), .int .u64 390]) w := by kernel_rfl
theorem As.elemVP (a p : Addr) (W : World) (ha : W.cell? a = some (.pointer (some p))) :
    (ReflectliteValue.method (ReflectliteValue.valueError "reflectlite.Value.Elem" 0) ReflectliteValue.elem #[.agg #[.pointer (some ⟨2, 65, none⟩), .pointer (some a), .int .u64 150]]).run Tryd.prog W
      = .ok (.agg #[.pointer (some ⟨2, 63, none⟩), .pointer (some p), .int .u64 390]) W := by
  rw [rlm]
  simp only [Sem.run_bind, As.partsP, Result.andThen]
  simp [ReflectliteValue.elem, loadVar, isAgg, underlying, Tryd.underlying65, ha, Result.andThen, As.elemOfP, As.mkE]
theorem As.partsEa (a : Addr) (w : World) : (ReflectliteValue.parts (.agg #[.pointer (some ⟨2, 63, none⟩), .pointer (some a), .int .u64 390])).run Tryd.prog w = .ok (some (63, a, 390)) w := by kernel_rfl
theorem As.partsE (a : Addr) (w : World) : (ReflectliteValue.parts (.agg #[.pointer (some ⟨2, 63, none⟩), .pointer (some a), .int .u64 134])).run Tryd.prog w = .ok (some (63, a, 134)) w := by kernel_rfl
theorem As.directE (w : World) : (Rtype.directlyAssignable 63 63).run Tryd.prog w = .ok true w := by kernel_rfl
theorem As.methodKind (h : Value) (w : World) : (Go.method 231 86 (.agg #[h]) "Kind").run Tryd.prog w = .ok (58, h) w := by kernel_rfl
theorem As.methodElem (h : Value) (w : World) : (Go.method 231 86 (.agg #[h]) "Elem").run Tryd.prog w = .ok (72, .agg #[h]) w := by kernel_rfl
theorem As.methodImplements (h : Value) (w : World) : (Go.method 231 86 (.agg #[h]) "Implements").run Tryd.prog w = .ok (73, .agg #[h]) w := by kernel_rfl
theorem As.methodAssignableTo (h : Value) (w : World) : (Go.method 231 86 (.agg #[h]) "AssignableTo").run Tryd.prog w = .ok (70, .agg #[h]) w := by kernel_rfl
theorem rls (v x : Value) : ReflectliteValue.set #[v, x] = (do
    let (some (dst, a, fl), some (src, b, _)) := (← ReflectliteValue.parts v, ← ReflectliteValue.parts x)
      | unsupported (.noEntry "extern/(internal/reflectlite.Value).Set.zeroValue")
    if fl / ReflectliteValue.flagAddr % 2 == 0 then unsupported (.noEntry "extern/(internal/reflectlite.Value).Set.unaddressable")
    let val ← loadVar src b
    if ← Rtype.directlyAssignable dst src then storeVar dst a val
    else if ← Rtype.implements dst src then
      if (← Rtype.kind src) == 20 then
        match val with
        | .nilIface => unsupported (.noEntry "extern/reflectlite: a nil value of one interface type handed on as a value of another")
        | _ => storeVar dst a val
      else storeVar dst a (.iface src val)
    else panicString ("reflectlite.Set: value of type " ++ (← Rtype.spelt src) ++ " is not assignable to type " ++ (← Rtype.spelt dst))
    pure (.tuple #[])) := rfl
theorem As.setE (ta b : Addr) (i : Int) (old : Value) (W : World) (hb : W.cell? b = some (.int .i64 i)) (ht : W.cell? ta = some old) (hf : W.frozen? ta = false) :
    (ReflectliteValue.set #[.agg #[.pointer (some ⟨2, 63, none⟩), .pointer (some ta), .int .u64 390], .agg #[.pointer (some ⟨2, 63, none⟩), .pointer (some b), .int .u64 134]]).run Tryd.prog W
      = .ok (.tuple #[]) (W.setCell ta (.int .i64 i)) := by
  rw [rls]
  simp only [Sem.run_bind, As.partsEa, As.partsE, Result.andThen]
  simp [ReflectliteValue.flagAddr, loadVar, isAgg, underlying, Tryd.underlying63, hb, Result.andThen, As.directE, storeVar, Value.cells, storeCells, Addr.add]
  rw [run_store Tryd.prog W ta _ _ (by rfl)]
  simp [ht, hf]

set_option maxRecDepth 100000 in
set_option maxHeartbeats 4000000 in
theorem as_hit (i : Int) (t : Addr) (old : Value) (w : World) (hg : w.cell? ⟨0, 0, none⟩ = some (.iface 86 (.agg #[.pointer (some ⟨2, 42, none⟩)]))) (ht0 : w.cell? t = some old) (hf0 : w.frozen? t = false) :
    Calls Tryd.prog 36 #[.iface 63 (.int .i64 i), .iface 65 (.pointer (some t))] w fun ev w' => ev = .returned (.bool true) ∧ w' = ((((w.alloc (.cells #[.pointer (some t)] 65)).alloc (.cells #[.pointer (some ⟨2, 65, none⟩), .pointer (some ⟨w.heap.size, 0, none⟩), .int .u64 150] 75)).alloc (.cells #[.pointer (some ⟨2, 65, none⟩), .pointer (some ⟨w.heap.size, 0, none⟩), .int .u64 150] 75)).alloc (.cells #[.int .i64 i] 63)).setCell t (.int .i64 i) := by
  have h6 := @run_callFunc_extern Tryd.prog 37 _ (fun args => ReflectliteValue.unpack (args.getD 0 (.tuple #[]))) Tryd.func37 (by kernel_rfl) (by kernel_rfl) (by kernel_rfl) (by kernel_rfl)
  have h7 := @run_callFunc_extern Tryd.prog 38 _ (ReflectliteValue.methodAny (ReflectliteValue.valueError "reflectlite.Value.Type" 0) (fun t _ _ _ => ReflectliteType.toType t)) Tryd.func38 (by kernel_rfl) (by kernel_rfl) (by kernel_rfl) (by kernel_rfl)
  have h8 := @run_callFunc_extern Tryd.prog 39 _ (ReflectliteValue.method (ReflectliteValue.valueError "reflectlite.Value.IsNil" 0) ReflectliteValue.isNil) Tryd.func39 (by kernel_rfl) (by kernel_rfl) (by kernel_rfl) (by kernel_rfl)
  have h27 := @run_callFunc_extern Tryd.prog 58 _ (ReflectliteType.abiMethod fun t => do pure (.int .u8 (← Rtype.kind t))) Tryd.func58 (by kernel_rfl) (by kernel_rfl) (by kernel_rfl) (by kernel_rfl)
  have h37 := @run_callFunc_extern Tryd.prog 72 _ (ReflectliteType.method ReflectliteType.elem) Tryd.func72 (by kernel_rfl) (by kernel_rfl) (by kernel_rfl) (by kernel_rfl)
  have h38 := @run_callFunc_extern Tryd.prog 73 _ (ReflectliteType.relation "Implements" ReflectliteType.implements_) Tryd.func73 (by kernel_rfl) (by kernel_rfl) (by kernel_rfl) (by kernel_rfl)
  have h10 := @run_callFunc_extern Tryd.prog 41 _ (ReflectliteType.typeOf) Tryd.func41 (by kernel_rfl) (by kernel_rfl) (by kernel_rfl) (by kernel_rfl)
  have h35 := @run_callFunc_extern Tryd.prog 70 _ (ReflectliteType.relation "AssignableTo" ReflectliteType.assignableTo) Tryd.func70 (by kernel_rfl) (by kernel_rfl) (by kernel_rfl) (by kernel_rfl)
  have h11 := @run_callFunc_extern Tryd.prog 42 _ (ReflectliteValue.method (ReflectliteValue.valueError "reflectlite.Value.Elem" 0) ReflectliteValue.elem) Tryd.func42 (by kernel_rfl) (by kernel_rfl) (by kernel_rfl) (by kernel_rfl)
  have h12 := @run_callFunc_extern Tryd.prog 43 _ (ReflectliteValue.set) Tryd.func43 (by kernel_rfl) (by kernel_rfl) (by kernel_rfl) (by kernel_rfl)
  have tO := As.typeOfE
  have mA := As.methodAssignableTo
  have aE := As.assignableE
  have vE := As.valueOfE
  have f6 := As.valueOfP
  have f7 := As.typeP
  have mK := As.methodKind
  have mE := As.methodElem
  have mI := As.methodImplements
  have kP := As.kindP
  have kE := As.kindE
  have eP := As.elemP
  have iE := As.implementsE
  have n8 := As.isNilP ⟨w.heap.size, 0, none⟩ t ((w.alloc (.cells #[.pointer (some t)] 65)).alloc (.cells #[.pointer (some ⟨2, 65, none⟩), .pointer (some ⟨w.heap.size, 0, none⟩), .int .u64 150] 75)) (by simp)
  have hlt : 0 < w.heap.size := by
    rcases Nat.eq_zero_or_pos w.heap.size with h0 | h
    · simp [World.cell?, h0] at hg
    · exact h
  have hg2 : ((w.alloc (.cells #[.pointer (some t)] 65)).alloc (.cells #[.pointer (some ⟨2, 65, none⟩), .pointer (some ⟨w.heap.size, 0, none⟩), .int .u64 150] 75)).cell? ⟨0, 0, none⟩ = some (.iface 86 (.agg #[.pointer (some ⟨2, 42, none⟩)])) := by
    rw [World.cell?_alloc_lt _ _ ⟨0, 0, none⟩ (by simp), World.cell?_alloc_lt _ _ ⟨0, 0, none⟩ hlt]; exact hg
  have htl : t.block < w.heap.size := by
    rcases Nat.lt_or_ge t.block w.heap.size with h | h
    · exact h
    · simp [World.cell?, Array.getElem?_eq_none h] at ht0
  have el := As.elemVP ⟨w.heap.size, 0, none⟩ t (((w.alloc (.cells #[.pointer (some t)] 65)).alloc (.cells #[.pointer (some ⟨2, 65, none⟩), .pointer (some ⟨w.heap.size, 0, none⟩), .int .u64 150] 75)).alloc (.cells #[.pointer (some ⟨2, 65, none⟩), .pointer (some ⟨w.heap.size, 0, none⟩), .int .u64 150] 75)) (by rw [World.cell?_alloc_lt _ _ ⟨w.heap.size, 0, none⟩ (by simp; omega)]; simp)
  have st := As.setE t ⟨w.heap.size + 1 + 1 + 1, 0, none⟩ i old ((((w.alloc (.cells #[.pointer (some t)] 65)).alloc (.cells #[.pointer (some ⟨2, 65, none⟩), .pointer (some ⟨w.heap.size, 0, none⟩), .int .u64 150] 75)).alloc (.cells #[.pointer (some ⟨2, 65, none⟩), .pointer (some ⟨w.heap.size, 0, none⟩), .int .u64 150] 75)).alloc (.cells #[.int .i64 i] 63))
    (by rw [World.cell?_alloc_at _ _ _ _ (by simp)]; rfl)
    (by rw [World.cell?_alloc_lt _ _ t (by simp; omega), World.cell?_alloc_lt _ _ t (by simp; omega), World.cell?_alloc_lt _ _ t (by simp; omega), World.cell?_alloc_lt _ _ t htl]; exact ht0)
    (by rw [World.frozen?_alloc_old _ _ t (by simp; omega), World.frozen?_alloc_old _ _ t (by simp; omega), World.frozen?_alloc_old _ _ t (by simp; omega), World.frozen?_alloc_old _ _ t (Nat.ne_of_lt htl)]; exact hf0)
  go_enter Tryd.func36, Tryd.ntmps36
  go_wp2
  refine wp_loop_rounds 1 ?_
  rw [rounds_succ]
  go_wp2
  go_ret
  exact ⟨rfl, rfl⟩

end Go.Proofs.YthhbcnjbnfjiiaaDoor

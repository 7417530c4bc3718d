/-
  What a row that lists errors.errorType gives a walk, and a world that meets the list. After the kit's worked example on a handle. Conditions: the row's list.
-/
import Derived.Test.YthhbcnjbnfjiiaaDoorRows
import Derived.Test.YthhbcnjbnfjiiaaDoorCorrupt
import Derived.ChangeSame
import Derived.ChangeVars
import Derived.JoinedOf
import Derived.RowKit
import Derived.RowKitTokens
import Derived.LaidLaws
import Derived.LaidHandle
import Derived.Stop.Joined
namespace Go.Proofs.YthhbcnjbnfjiiaaDoor
open Go.ChangeShapes Go.WideShapes Go.RowKit

theorem Door.own : ownKnob Tryd.prog.godebug = none := by kernel_rfl
theorem Door.laidOut : laidOutB Tryd.prog = true := by kernel_rfl
theorem Door.et : Tryd.prog.globalNamed "errors.errorType" = some 0 := by kernel_rfl
theorem Door.rt : (Tryd.prog.cutTypes.find? (·.1 == "internal/reflectlite.rtype")).map (·.2) = some 86 := by kernel_rfl
theorem Door.oneRow : ((List.range 131).filter fun t => Tryd.prog.rowNamed t [101, 114, 114, 111, 114]) = [42] := by kernel_rfl
theorem Door.size : Tryd.prog.types.size = 131 := by kernel_rfl

theorem handle_of_laid {W : World} (h : laidMetH Tryd.prog [("errors.errorType", Rows.laid_errors_errorType)] W) : ErrType W := by
  have h' : laidMet Tryd.prog [] W ∧ handlesMet Tryd.prog [("errors.errorType", Rows.laid_errors_errorType)] W := h
  obtain ⟨name, u, ty, e1, e2, e3, e4, e5⟩ := h'.2 _ (List.mem_singleton.2 rfl)
  have en : name = [101, 114, 114, 111, 114] := (Option.some.inj e1).symm
  subst en
  obtain rfl := Option.some.inj (Door.rt.symm.trans e2)
  have hm : ty ∈ (List.range 131).filter fun t => Tryd.prog.rowNamed t [101, 114, 114, 111, 114] := List.mem_filter.2 ⟨List.mem_range.2 (by rw [← Door.size]; exact e3), e4⟩
  rw [Door.oneRow] at hm
  obtain rfl := List.mem_singleton.1 hm
  have hh : typeHandle Tryd.prog 42 = .pointer (some ⟨2, 42, none⟩) := by kernel_rfl
  rw [hh] at e5
  have := World.var?_cell Door.et e5 0
  unfold ErrType
  simpa using this

/-- A world that meets the list: the settled one, the variable's cell laid. -/
noncomputable def Door.laidWorld (os : Os) : World :=
  { World.holding Tryd.prog os ⟨#[], #[], []⟩ with heap := (World.holding Tryd.prog os ⟨#[], #[], []⟩).heap.modify 0 fun
      | .cells _ t frozen => .cells #[.iface 86 (.agg #[.pointer (some ⟨2, 42, none⟩)])] t frozen
      | o => o }
theorem Door.met (os : Os) (args : Array Value) : laidMetH Tryd.prog [("errors.errorType", Rows.laid_errors_errorType)] ((Door.laidWorld os).forCall (fun _ _ => 0) ⟨#[], args, []⟩).memory :=
  laidMetH_of_parts (laidMet_nil _ _) (by kernel_rfl)

end Go.Proofs.YthhbcnjbnfjiiaaDoor

/-
  The walk of laws.plain: true for an answer with nothing in it but that number. Conditions: the answer is such a one.
-/
import Derived.Test.YtdpjdglcienbfaaGreatSteps
namespace Go.Proofs.YtdpjdglcienbfaaGreat
open Go.RowKit

set_option maxRecDepth 100000 in
theorem plain_true (A : Option Addr) (c : Nat) (m : Int) (w : World) :
    Calls Tryz.prog 29 #[.agg #[.slice A 0 c, .int .u64 0, .int .i64 m, .bool false], .int .i64 m] w fun e w' => e = .returned (.bool true) ∧ Below w.heap.size w w' := by
  go_enter Tryz.func29, Tryz.ntmps29
  go_wp2
  go_ret
  exact ⟨by simp, (Below.refl _ _).alloc (Nat.le_refl _) _⟩

end Go.Proofs.YtdpjdglcienbfaaGreat

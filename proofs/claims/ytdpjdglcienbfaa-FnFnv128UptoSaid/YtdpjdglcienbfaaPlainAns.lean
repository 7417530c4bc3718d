/-
  The walk of laws.plain: true for an answer with nothing in it but that number. Conditions: the answer is such a one.
-/
import Derived.Test.YtdpjdglcienbfaaSteps
namespace Go.Proofs.Ytdpjdglcienbfaa
open Go.RowKit

set_option maxRecDepth 100000 in
theorem plain_true (A : Option Addr) (c : Nat) (m : Int) (w : World) :
    Calls Try.prog 31 #[.agg #[.slice A 0 c, .int .u64 0, .int .i64 m, .bool false], .int .i64 m] w fun e w' => e = .returned (.bool true) ∧ Below w.heap.size w w' := by
  go_enter Try.func31, Try.ntmps31
  go_wp2
  go_ret
  exact ⟨by simp, (Below.refl _ _).alloc (Nat.le_refl _) _⟩

end Go.Proofs.Ytdpjdglcienbfaa

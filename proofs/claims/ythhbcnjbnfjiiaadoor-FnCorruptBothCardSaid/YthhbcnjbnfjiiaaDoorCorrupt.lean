/-
  The walk of impl.corrupt: of a nil error false and 0; of a CorruptInputError true and its number. Conditions: errors.errorType holds the handle of the type error.
-/
import Derived.Test.YthhbcnjbnfjiiaaDoorAs
import Derived.WalkSmall
import Derived.Lib.Hide
namespace Go.Proofs.YthhbcnjbnfjiiaaDoor
open Go.RowKit

/-- errors.errorType as the row lists it. -/
def ErrType (w : World) : Prop := w.cell? ⟨0, 0, none⟩ = some (.iface 86 (.agg #[.pointer (some ⟨2, 42, none⟩)]))
theorem ErrType.pos {w : World} (h : ErrType w) : 0 < w.heap.size := by
  rcases Nat.eq_zero_or_pos w.heap.size with h0 | h'
  · unfold ErrType at h; simp [World.cell?, h0] at h
  · exact h'
theorem ErrType.below {B : Nat} {w w' : World} (h : ErrType w) (hb : Below B w w') (hB : 0 < B) : ErrType w' := (hb.cell (p := ⟨0, 0, none⟩) hB).trans h

def RetCor (w : World) (b : Bool) (i : Int) (e : Ending) (w' : World) : Prop := e = .returned (.tuple #[.bool b, .int .i64 i]) ∧ Below w.heap.size w w'

theorem corrupt_nil (w : World) : Calls Tryd.prog 26 #[.nilIface] w fun e w' => RetCor w false 0 e w' := by
  go_enter Tryd.func26, Tryd.ntmps26
  go_wp2_with fail
  refine (as_nil _ _).mono ?_
  rintro e w' ⟨rfl, rfl⟩
  go_wp2
  go_ret2
  exact ⟨rfl, (Below.refl _ _).alloc (Nat.le_refl _) _⟩

set_option maxHeartbeats 1000000 in
theorem corrupt_hit (i : Int) (w : World) (hg : ErrType w) : Calls Tryd.prog 26 #[.iface 63 (.int .i64 i)] w fun e w' => RetCor w true i e w' := by
  have hp := hg.pos
  have hg1 : ErrType (w.alloc (.cells #[.int .i64 0] 63)) := hg.below ((Below.refl _ _).alloc (Nat.le_refl _) _) hp
  have HG := Lib.hid hg1
  clear hg hg1
  go_enter Tryd.func26, Tryd.ntmps26
  go_wp2_with fail
  refine (as_hit i ⟨w.heap.size, 0, none⟩ (.int .i64 0) _ HG.out (by simp) (by simp)).mono ?_
  rintro e w' ⟨rfl, rfl⟩
  go_wp2
  go_quiet (fail)
  go_wp2
  go_ret2
  exact ⟨rfl, below_drewN (((((((Below.refl _ _).alloc (Nat.le_refl _) _).alloc (by simp) _).alloc (by simp; omega) _).alloc (by simp; omega) _).alloc (by simp; omega) _)) nq⟩

end Go.Proofs.YthhbcnjbnfjiiaaDoor

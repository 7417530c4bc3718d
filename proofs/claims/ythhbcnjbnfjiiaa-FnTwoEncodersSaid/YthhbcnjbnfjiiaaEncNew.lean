/-
  The walk of ascii85.NewEncoder: a new encoder over the buffer. Conditions: none but those that it names.
-/
import Derived.Test.YthhbcnjbnfjiiaaEncSt
namespace Go.Proofs.Ythhbcnjbnfjiiaa
open Go.RowKit

/-- The cells of a zero encoder. -/
noncomputable def encZ : Array Value := (((Try.prog.info? 56).bind (·.zero)).getD undef).cells
theorem encZ_size : encZ.size = 1031 := by kernel_rfl
theorem encZ_0 : encZ[0]? = some .nilIface := by kernel_rfl
theorem encZ_6 : encZ[6]? = some (.int .i64 0) := by kernel_rfl
theorem run_zero (W : World) : (zeroValue 56).run Try.prog W = .ok (.agg encZ) W := by kernel_rfl
theorem enc_new (b : Nat) (w : World) : ∃ f, EncS (w.alloc (.cells (encZ.setIfInBounds 1 (.iface 33 (.pointer (some ⟨b, 0, none⟩)))) 56)) w.heap.size b f [] := by
  have hsz : (encZ.setIfInBounds 1 (.iface 33 (.pointer (some ⟨b, 0, none⟩)))).size = 1031 := by rw [Array.size_setIfInBounds, encZ_size]
  have hrow := World.rowIs_alloc w (encZ.setIfInBounds 1 (.iface 33 (.pointer (some ⟨b, 0, none⟩)))) 56 (fun i => ((encZ.setIfInBounds 1 (.iface 33 (.pointer (some ⟨b, 0, none⟩))))[i]?).getD undef) (fun i hi => by
    rw [Array.getElem?_eq_getElem hi]; rfl)
  rw [hsz] at hrow
  refine ⟨_, hrow, ?_, ?_, ?_, fun i hi => by simp at hi, by simp, by simp⟩
  · simp only [Array.getElem?_setIfInBounds, encZ_0]; simp
  · simp only [Array.getElem?_setIfInBounds, encZ_size]; simp
  · simp only [Array.getElem?_setIfInBounds, encZ_6]; simp
set_option maxRecDepth 100000 in
theorem newEnc (b : Nat) (w : World) : Calls Try.prog 21 #[(.iface 33 (.pointer (some ⟨b, 0, none⟩)))] w fun e w' => e = .returned (.iface 52 (.pointer (some ⟨w.heap.size, 0, none⟩))) ∧ w' = w.alloc (.cells (encZ.setIfInBounds 1 (.iface 33 (.pointer (some ⟨b, 0, none⟩)))) 56) := by
  have hz := run_zero
  have hs := encZ_size
  generalize encZ = Z at *
  go_enter Try.func21, Try.ntmps21
  go_wp2
  go_ret
  exact ⟨rfl, rfl⟩

end Go.Proofs.Ythhbcnjbnfjiiaa

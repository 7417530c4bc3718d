/-
  The walks of bytes.NewReader and ascii85.NewDecoder: a new reader, a new decoder. Conditions: none but those that each names.
-/
import Derived.Test.YthhbcnjbnfjiiaaDoorRdInv
namespace Go.Proofs.YthhbcnjbnfjiiaaDoor
open Go.RowKit

/-- The cells of a zero decoder. -/
noncomputable def decZ : Array Value := (((Tryd.prog.info? 69).bind (·.zero)).getD undef).cells
theorem decZ_size : decZ.size = 2053 := by kernel_rfl
theorem decZ_0 : decZ[0]? = some .nilIface := by kernel_rfl
theorem decZ_1 : decZ[1]? = some .nilIface := by kernel_rfl
theorem decZ_n : decZ[1027]? = some (.int .i64 0) := by kernel_rfl
theorem decZ_o : decZ[1028]? = some (.slice none 0 0) := by kernel_rfl
theorem run_zeroD (W : World) : (zeroValue 69).run Tryd.prog W = .ok (.agg decZ) W := by kernel_rfl
theorem newReader (A : Option Addr) (n c : Nat) (w : World) : Calls Tryd.prog 30 #[.slice A n c] w fun e w' => e = .returned (.pointer (some ⟨w.heap.size, 0, none⟩)) ∧ w' = w.alloc (.cells #[.slice A n c, .int .i64 0, .int .i64 (-1)] 71) := by
  go_enter Tryd.func30, Tryd.ntmps30
  go_wp2
  go_ret
  exact ⟨rfl, rfl⟩
set_option maxRecDepth 100000 in
theorem newDec (sb : Nat) (w : World) : Calls Tryd.prog 29 #[(.iface 52 (.pointer (some ⟨sb, 0, none⟩)))] w fun e w' => e = .returned (.iface 66 (.pointer (some ⟨w.heap.size, 0, none⟩))) ∧ w' = w.alloc (.cells (decZ.setIfInBounds 2 (.iface 52 (.pointer (some ⟨sb, 0, none⟩)))) 69) := by
  have hz := run_zeroD
  have hs := decZ_size
  generalize decZ = Z at *
  go_enter Tryd.func29, Tryd.ntmps29
  go_wp2
  go_ret
  exact ⟨rfl, rfl⟩
theorem dec_new (sb rb tb ot N ct : Nat) (pv : Int) (w : World) (hr : w.heap[rb]? = some (.cells #[.slice (some ⟨tb, ot, none⟩) N ct, .int .i64 ((0 : Nat) : Int), .int .i64 pv] 71 (0, 0))) :
    ∃ f, DSt (w.alloc (.cells (decZ.setIfInBounds 2 (.iface 52 (.pointer (some ⟨sb, 0, none⟩)))) 69)) w.heap.size sb rb tb ot N ct f [] [] none 0 0 pv := by
  have hsz : (decZ.setIfInBounds 2 (.iface 52 (.pointer (some ⟨sb, 0, none⟩)))).size = 2053 := by rw [Array.size_setIfInBounds, decZ_size]
  have hrow := World.rowIs_alloc w (decZ.setIfInBounds 2 (.iface 52 (.pointer (some ⟨sb, 0, none⟩)))) 69 (fun i => ((decZ.setIfInBounds 2 (.iface 52 (.pointer (some ⟨sb, 0, none⟩))))[i]?).getD undef) (fun i hi => by
    rw [Array.getElem?_eq_getElem hi]; rfl)
  rw [hsz] at hrow
  refine ⟨_, hrow, ?_, ?_, ?_, ?_, fun i hi => by simp at hi, by simp, by simp, ?_, fun h => by simp at h, by simp, by simp, by simp, ?_, Nat.zero_le _⟩
  · simp only [Array.getElem?_setIfInBounds, decZ_0]; simp
  · simp only [Array.getElem?_setIfInBounds, decZ_1]; simp
  · simp only [Array.getElem?_setIfInBounds, decZ_size]; simp
  · simp only [Array.getElem?_setIfInBounds, decZ_n]; simp
  · simp only [Array.getElem?_setIfInBounds, decZ_o]; simp
  · exact (Below.heap_alloc w _ rb (lt_of_block' hr)).trans hr

end Go.Proofs.YthhbcnjbnfjiiaaDoor

/-
  What impl.run answers where pieces are written one behind the other. Conditions: none.
-/
import Derived.Test.YtdpjdglcienbfaaGreatSteps
namespace Go.Proofs.YtdpjdglcienbfaaGreat
open Go.RowKit

def wr0 (p : List Nat) : Stp := ⟨0, 0, 0, p⟩
theorem run_writes (K : Kind) (ps : List (List Nat)) : runM K (ps.map wr0) = ⟨[ps.flatten.foldl K.step K.init], ps.map fun p => ⟨[], 0, p.length, false, none⟩⟩ := by
  refine snoc_ind (P := fun ps => runM K (ps.map wr0) = ⟨[ps.flatten.foldl K.step K.init], ps.map fun p => ⟨[], 0, p.length, false, none⟩⟩) rfl (fun ps p ih => ?_) ps
  rw [List.map_append, List.map_cons, List.map_nil, runM_snoc, ih]
  simp [stepM, doM, wr0, List.foldl_append]
theorem run_writes_sum (K : Kind) (ps : List (List Nat)) : (runM K (ps.map wr0 ++ [⟨1, 0, 0, []⟩])).an = (ps.map fun p => (⟨[], 0, p.length, false, none⟩ : Ans)) ++ [⟨K.bytes (ps.flatten.foldl K.step K.init), 0, 0, false, none⟩] := by
  rw [runM_snoc, run_writes]
  simp [stepM, doM]
theorem run_writes_value (K : Kind) (ps : List (List Nat)) : (runM K (ps.map wr0 ++ [⟨8, 0, 0, []⟩])).an = (ps.map fun p => (⟨[], 0, p.length, false, none⟩ : Ans)) ++ [⟨[], K.val (ps.flatten.foldl K.step K.init), 0, false, none⟩] := by
  rw [runM_snoc, run_writes]
  simp [stepM, doM]

end Go.Proofs.YtdpjdglcienbfaaGreat

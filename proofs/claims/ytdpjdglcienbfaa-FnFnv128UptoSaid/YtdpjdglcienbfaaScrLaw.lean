/-
  What the laws over scripts share: a slice of steps seen from above, the numbers of the sums. Conditions: those that each fact names.
-/
import Derived.Test.YtdpjdglcienbfaaScript
import Derived.Test.YtdpjdglcienbfaaOpenSteps
namespace Go.Proofs.Ytdpjdglcienbfaa
open Go.RowKit

theorem SS.mono {w : World} {B B' n : Nat} {A : Option Addr} {L : List Stp} (h : SS w B A n L) (hB : B ≤ B') : SS w B' A n L :=
  ⟨h.len, fun hn => by
    obtain ⟨g, o, e, hg, hs⟩ := h.spot hn
    refine ⟨g, o, e, by omega, fun i hi => ?_⟩
    obtain ⟨Ai, ni, ci, hc⟩ := hs i hi
    exact ⟨Ai, ni, ci, hc.c0, hc.c1, hc.c2, hc.c3, hc.bs.mono hB, hc.nc, hc.cm⟩⟩
theorem data_le (L : List Stp) : ∀ s ∈ L, s.data.length ≤ (L.map (·.data.length)).sum := by
  induction L with
  | nil => intro s hs; cases hs
  | cons x r ih =>
    intro s hs
    rw [List.map_cons, List.sum_cons]
    rcases List.mem_cons.1 hs with rfl | hs
    · omega
    · have := ih s hs; omega
theorem v8Sum32 : Val8 kSum32 := fun s hs => .inl ⟨by decide, num_be4 s hs⟩
theorem v8Sum32a : Val8 kSum32a := fun s hs => .inl ⟨by decide, num_be4 s hs⟩
theorem v8Sum64 : Val8 kSum64 := fun s hs => .inl ⟨by decide, num_be8 s hs⟩
theorem v8Sum64a : Val8 kSum64a := fun s hs => .inl ⟨by decide, num_be8 s hs⟩
theorem v8Sum128 : Val8 kSum128 := fun _ _ => .inr ⟨by decide, rfl⟩
theorem v8Sum128a : Val8 kSum128a := fun _ _ => .inr ⟨by decide, rfl⟩
theorem v8Digest : Val8 kDigest := fun s hs => .inl ⟨by decide, num_be4 s (by have := hs.1; have := hs.2; omega)⟩

end Go.Proofs.Ytdpjdglcienbfaa

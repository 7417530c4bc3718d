/-
  The walk of (*bytes.Buffer).Bytes: the buffer's own row. Conditions: the buffer has only been written.
-/
import Derived.Test.YthhbcnjbnfjiiaaBufPut
namespace Go.Proofs.Ythhbcnjbnfjiiaa
open Go.RowKit

set_option maxRecDepth 100000 in
theorem bufBytes (B b : Nat) (A : Option Addr) (m cap : Nat) (lr : Int) (l : List Nat) (w : World) (h : Buf w B b A m cap lr l) :
    Calls Try.prog 22 #[.pointer (some ⟨b, 0, none⟩)] w fun e w' => e = .returned (.slice A m cap) ∧ ∃ k, w' = w.drewN k := by
  obtain ⟨c0, c1, c2, f0, f1, f2⟩ := three_cells h.blk
  have how := h.own.1.2
  have hl := h.len
  clear h
  rcases how with ⟨hv, hn0⟩ | ⟨g, cap', cur, hv, hBg, hg, hnc, hcm, hcs, htk⟩
  · injection hv with e1 e2 e3
    subst e1 e2 e3
    clear hl hn0
    go_enter Try.func22, Try.ntmps22
    go_wp2
    go_quiet (fail)
    go_wp2
    go_ret
    exact ⟨by simp, _, rfl⟩
  · injection hv with e1 e2 e3
    subst e1 e3
    rw [hl] at hnc
    clear hl e2 htk hg hcs
    unfold maxLen at hcm
    go_enter Try.func22, Try.ntmps22
    go_wp2
    go_quiet (fail)
    go_wp2
    go_ret
    exact ⟨by simp, _, rfl⟩

end Go.Proofs.Ythhbcnjbnfjiiaa

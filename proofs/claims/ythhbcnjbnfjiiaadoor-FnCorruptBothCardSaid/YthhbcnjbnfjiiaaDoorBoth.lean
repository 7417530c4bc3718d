/-
  The walk of laws.both: one byte list behind another one, in new memory. Conditions: both are byte slices that read as lists; together at most 2^47 and a half of it again.
-/
import Derived.Test.YthhbcnjbnfjiiaaDoorAppend
import Derived.Outline
import Derived.Lib.Hide
namespace Go.Proofs.YthhbcnjbnfjiiaaDoor
open Go.RowKit

/-- A call that hands back a byte slice of its own and leaves all that was there. -/
def RetOwn (w : World) (l : List Nat) (e : Ending) (w' : World) : Prop := ∃ v, e = .returned v ∧ Own w' w.heap.size v l ∧ Below w.heap.size w w'

set_option maxHeartbeats 400000 in
theorem both_any (w : World) (B : Nat) (A : Option Addr) (n c : Nat) (l : List Nat) (A2 : Option Addr) (n2 c2 : Nat) (l2 : List Nat) (hB : B ≤ w.heap.size) (h1 : BS w B A n l) (h2 : BS w B A2 n2 l2) (hs : n + n2 ≤ 211106232532992) :
    Calls Tryd.prog 16 #[.slice A n c, .slice A2 n2 c2] w fun e w' => RetOwn w (l ++ l2) e w' := by
  go_enter Tryd.func16, Tryd.ntmps16
  go_wp2_with (at_builtin; refine wpList_append_bytes _ (o := ⟨some 7, _, _, _, _, _⟩) rfl _ _ rfl w.heap.size _ [] rfl (Own.empty w) B A n c l rfl (h1.alloc hB _) (by simp; omega) (by simp) ?_)
  intro v1 w1 hown1 hg1 _
  have hb1 : Below w.heap.size w w1 := ((Below.refl _ _).alloc (Nat.le_refl _) _).grown hg1 (by simp) (fun k hk => by simp [Value.ownBlock] at hk; omega)
  have h21 := h2.below (hb1.mono hB)
  have hsz := hb1.size
  have hbl := hown1.block
  have HBL := Lib.hid hbl
  have hll : l.length = n := h1.len
  clear hg1 hbl h1 h2
  go_wp2_with (at_builtin; refine wpList_append_bytes _ (o := ⟨some 9, _, _, _, _, _⟩) rfl _ _ rfl w.heap.size _ l rfl hown1 B A2 n2 c2 l2 rfl h21 (by omega) hsz ?_)
  intro v2 w2 hown2 hg2 _
  have hb2 : Below w.heap.size w w2 := hb1.grown hg2 hsz HBL.out
  clear hg2
  go_wp2
  go_ret
  exact ⟨v2, rfl, hown2, hb2⟩
end Go.Proofs.YthhbcnjbnfjiiaaDoor

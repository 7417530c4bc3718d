/-
  The walk of laws.same: it returns true where both byte slices read as the same list. Conditions: both read as that list.
-/
import Derived.Test.YthhbcnjbnfjiiaaProg
import Derived.Test.YthhbcnjbnfjiiaaWords
import Derived.LoopTactic
import Derived.Outline
import Derived.WalkSpells
import Derived.WalkLawsBesides
import Derived.Lib.Hide
namespace Go.Proofs.Ythhbcnjbnfjiiaa
open Go.RowKit

def SameRel (l : List Nat) (i : Value) : Prop := ∃ k : Nat, k ≤ l.length ∧ i = .int .i64 (k : Int)

set_option maxHeartbeats 400000 in
theorem same_true (A : Option Addr) (n c : Nat) (A2 : Option Addr) (n2 c2 : Nat) (l : List Nat) (w : World) (B B2 : Nat) (hc : n ≤ 9223372036854775807) (h1 : BS w B A n l) (h2 : BS w B2 A2 n2 l) :
    Calls Try.prog 13 #[.slice A n c, .slice A2 n2 c2] w fun e w' => e = .returned (.bool true) ∧ w = w' := by
  obtain rfl : l.length = n := h1.len
  obtain rfl : l.length = n2 := h2.len
  go_enter Try.func13, Try.ntmps13
  go_wp2
  go_loop [9] (fun i => SameRel l i) (fun i => l.length - (intOf i).toNat)
  case atStart => exact ⟨0, Nat.zero_le _, rfl⟩
  case round =>
    obtain ⟨k, hk, rfl⟩ := hrel
    by_cases hkl : k < l.length
    · obtain ⟨b1, o1, rfl, hb1, h1⟩ := h1.open_ (by omega)
      obtain ⟨b2, o2, rfl, hb2, h2⟩ := h2.open_ (by omega)
      have cK := h1.cell hkl
      have cK2 := h2.cell hkl
      have hge : decide (l.length ≤ k) = false := decide_eq_false (by omega)
      have hge2 : decide ((l.length : Int) ≤ (k : Int)) = false := decide_eq_false (by omega)
      generalize l.getD k 0 = zk at *
      have hne : (((zk : Nat) : Int) != (zk : Int)) = false := by simp
      go_wp2
      exact ⟨⟨k + 1, by omega, by simp⟩, by simp [intOf]; omega⟩
    · obtain rfl : k = l.length := by omega
      go_wp2
      go_ret
      exact ⟨by simp, rfl⟩

end Go.Proofs.Ythhbcnjbnfjiiaa

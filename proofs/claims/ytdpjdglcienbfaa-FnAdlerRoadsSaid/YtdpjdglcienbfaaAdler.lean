/-
  The walks of spec.AdlerOf, adler32.Checksum, impl.AdlerChecksum: each gives the Adler-32 of the bytes. Conditions: the argument is a byte slice that reads as a list.
-/
import Derived.Test.YtdpjdglcienbfaaDueAid
namespace Go.Proofs.Ytdpjdglcienbfaa
open Go.RowKit

theorem checksum_any (A : Option Addr) (n c : Nat) (l : List Nat) (w : World) (B : Nat) (hc : n ≤ c) (hm : c ≤ maxLen) (hl : BS w B A n l) :
    Calls Try.prog 30 #[.slice A n c] w fun e w' => e = .returned (.int .u32 ((PlainAd.adler l : Nat) : Int)) ∧ ∃ k, w' = w.drewN k := by
  go_enter Try.func30, Try.ntmps30
  go_wp2_with fail
  refine (update_any 1 A n c l w B (by decide) (by decide) hc hm hl).mono ?_
  rintro e w' ⟨rfl, k, rfl⟩
  go_wp2
  go_ret
  exact ⟨rfl, k, rfl⟩

theorem adlerChecksum_any (A : Option Addr) (n c : Nat) (l : List Nat) (w : World) (B : Nat) (hc : n ≤ c) (hm : c ≤ maxLen) (hl : BS w B A n l) :
    Calls Try.prog 14 #[.slice A n c] w fun e w' => e = .returned (.int .u32 ((PlainAd.adler l : Nat) : Int)) ∧ ∃ k, w' = w.drewN k := by
  go_enter Try.func14, Try.ntmps14
  go_wp2_with fail
  refine (checksum_any A n c l w B hc hm hl).mono ?_
  rintro e w' ⟨rfl, k, rfl⟩
  go_wp2
  go_ret
  exact ⟨rfl, k, rfl⟩

end Go.Proofs.Ytdpjdglcienbfaa

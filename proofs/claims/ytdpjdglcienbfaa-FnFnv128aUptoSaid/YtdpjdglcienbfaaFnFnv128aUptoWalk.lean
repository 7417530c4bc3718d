/-
  The walk of the law FnFnv128a (with the bound of the second form): it returns true and changes nothing that was there. FnFnv128a, where what it reads is of bulk at most 1048576: a script over FNV-1a of 128 bits gives the hashes by definition of what was written.
-/
import Derived.Test.YtdpjdglcienbfaaProg
import Derived.Test.YtdpjdglcienbfaaOpenArgs
import Derived.WalkKit
import Derived.Below
import Derived.WalkSmall
import Derived.Lib.Hide
import Derived.Test.YtdpjdglcienbfaaScrLaw
import Derived.Test.YtdpjdglcienbfaaImplHash
namespace Go.Proofs.Ytdpjdglcienbfaa.fnFnv128aUpto
open Go.RowKit
set_option linter.unusedVariables false


set_option maxRecDepth 100000 in
set_option maxHeartbeats 2000000 in
theorem walk (A0 : Option Addr) (n0 c0 : Nat) (L0 : List Stp) (w : World) (b0 : SS w w.heap.size A0 n0 L0) (nc0 : n0 ≤ c0) (r0 : c0 ≤ 1048576) (t0 : (L0.map (·.data.length)).sum ≤ 1048576) :
    Calls Try.prog 10 #[.slice A0 n0 c0] w fun e w' => e = .returned (.bool true) ∧ Below w.heap.size w w' := by
  have HS := Lib.hid b0
  have hd : ∀ s ∈ L0, s.data.length ≤ 70368744177664 := fun s hs => by have := data_le L0 s hs; omega
  have HD := Lib.hid hd
  have HT := Lib.hid t0
  clear hd t0
  go_enter Try.func10, Try.ntmps10
  go_wp2_with fail
  refine (implSum128a A0 n0 c0 L0 w HS.out (by omega) HD.out).mono ?_
  intro e w1 hret
  obtain ⟨A1, n1, c1, rfl, hSA, hn1, _, hb1⟩ := sa_of_run hret
  obtain rfl : n0 = n1 := by rw [hn1, HS.out.len]
  have HSA := Lib.hid hSA
  clear hSA hn1 hret
  go_wp2_with fail
  refine (script_any kSum128a goodSum128a 129 hashOfSum128a v8Sum128a (-1) (.inl (by decide)) w1 A0 n0 c0 L0 ((HS.out.below hb1).mono hb1.size) A1 c1 HSA.out (by omega) (by have := HT.out; omega)).mono ?_
  rintro e w2 ⟨rfl, hb2⟩
  go_wp2
  go_ret
  exact ⟨rfl, hb1.trans (hb2.mono hb1.size)⟩

end Go.Proofs.Ytdpjdglcienbfaa.fnFnv128aUpto

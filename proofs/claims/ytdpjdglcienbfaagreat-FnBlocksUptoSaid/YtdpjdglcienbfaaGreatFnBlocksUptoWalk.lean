/-
  The walk of the law FnBlocks (with the bound of the second form): it returns true and changes nothing that was there. FnBlocks, where what it reads is of bulk at most 1048576: a block of FNV is one byte, and one of Adler-32 four.
-/
import Derived.Test.YtdpjdglcienbfaaGreatProg
import Derived.Test.YtdpjdglcienbfaaGreatOpenArgs
import Derived.WalkKit
import Derived.Below
import Derived.WalkSmall
import Derived.Lib.Hide
import Derived.Test.YtdpjdglcienbfaaGreatScrLaw
import Derived.Test.YtdpjdglcienbfaaGreatImplHash
namespace Go.Proofs.YtdpjdglcienbfaaGreat.fnBlocksUpto
open Go.RowKit
set_option linter.unusedVariables false


set_option maxRecDepth 100000 in
set_option maxHeartbeats 8000000 in
theorem walk (A0 : Option Addr) (n0 c0 : Nat) (L0 : List Stp) (w : World) (b0 : SS w w.heap.size A0 n0 L0) (nc0 : n0 ≤ c0) (r0 : c0 ≤ 1048576) (t0 : (L0.map (·.data.length)).sum ≤ 1048576) :
    Calls Tryz.prog 3 #[.slice A0 n0 c0] w fun e w' => e = .returned (.bool true) ∧ Below w.heap.size w w' := by
  have HS := Lib.hid b0
  have hd : ∀ s ∈ L0, s.data.length ≤ 70368744177664 := fun s hs => by have := data_le L0 s hs; omega
  have HD := Lib.hid hd
  have HT := Lib.hid t0
  have hlen : L0.length = n0 := b0.len
  have HLEN := Lib.hid hlen
  clear hd t0 b0 hlen
  go_enter Tryz.func3, Tryz.ntmps3
  have S0 : Below w.heap.size w w := Below.refl _ _
  go_wp2_with fail
  refine (implSum32 A0 n0 c0 L0 w ((HS.out.below S0).mono S0.size) (by omega) HD.out).mono ?_
  intro e x1 hret
  obtain ⟨B0, m0, d0, rfl, hSA, hn1, _, hb⟩ := sa_of_run hret
  obtain rfl : n0 = m0 := by rw [hn1, HLEN.out]
  have HSA0 := Lib.hid hSA
  have S1 := S0.trans (hb.mono S0.size)
  clear hSA hn1 hret hb
  go_wp2_with fail
  refine (script_any kSum32 goodSum32 32 hashOfSum32 v8Sum32 1 (.inr rfl) x1 A0 n0 c0 L0 ((HS.out.below S1).mono S1.size) B0 d0 HSA0.out (by omega) (by have := HT.out; omega)).mono ?_
  rintro e x2 ⟨rfl, hb⟩
  have S2 := S1.trans (hb.mono S1.size)
  clear hb
  go_wp2_with fail
  refine (implSum32a A0 n0 c0 L0 x2 ((HS.out.below S2).mono S2.size) (by omega) HD.out).mono ?_
  intro e x3 hret
  obtain ⟨B1, m1, d1, rfl, hSA, hn1, _, hb⟩ := sa_of_run hret
  obtain rfl : n0 = m1 := by rw [hn1, HLEN.out]
  have HSA1 := Lib.hid hSA
  have S3 := S2.trans (hb.mono S2.size)
  clear hSA hn1 hret hb
  go_wp2_with fail
  refine (script_any kSum32a goodSum32a 33 hashOfSum32a v8Sum32a 1 (.inr rfl) x3 A0 n0 c0 L0 ((HS.out.below S3).mono S3.size) B1 d1 HSA1.out (by omega) (by have := HT.out; omega)).mono ?_
  rintro e x4 ⟨rfl, hb⟩
  have S4 := S3.trans (hb.mono S3.size)
  clear hb
  go_wp2_with fail
  refine (implSum64 A0 n0 c0 L0 x4 ((HS.out.below S4).mono S4.size) (by omega) HD.out).mono ?_
  intro e x5 hret
  obtain ⟨B2, m2, d2, rfl, hSA, hn1, _, hb⟩ := sa_of_run hret
  obtain rfl : n0 = m2 := by rw [hn1, HLEN.out]
  have HSA2 := Lib.hid hSA
  have S5 := S4.trans (hb.mono S4.size)
  clear hSA hn1 hret hb
  go_wp2_with fail
  refine (script_any kSum64 goodSum64 64 hashOfSum64 v8Sum64 1 (.inr rfl) x5 A0 n0 c0 L0 ((HS.out.below S5).mono S5.size) B2 d2 HSA2.out (by omega) (by have := HT.out; omega)).mono ?_
  rintro e x6 ⟨rfl, hb⟩
  have S6 := S5.trans (hb.mono S5.size)
  clear hb
  go_wp2_with fail
  refine (implSum64a A0 n0 c0 L0 x6 ((HS.out.below S6).mono S6.size) (by omega) HD.out).mono ?_
  intro e x7 hret
  obtain ⟨B3, m3, d3, rfl, hSA, hn1, _, hb⟩ := sa_of_run hret
  obtain rfl : n0 = m3 := by rw [hn1, HLEN.out]
  have HSA3 := Lib.hid hSA
  have S7 := S6.trans (hb.mono S6.size)
  clear hSA hn1 hret hb
  go_wp2_with fail
  refine (script_any kSum64a goodSum64a 65 hashOfSum64a v8Sum64a 1 (.inr rfl) x7 A0 n0 c0 L0 ((HS.out.below S7).mono S7.size) B3 d3 HSA3.out (by omega) (by have := HT.out; omega)).mono ?_
  rintro e x8 ⟨rfl, hb⟩
  have S8 := S7.trans (hb.mono S7.size)
  clear hb
  go_wp2_with fail
  refine (implSum128 A0 n0 c0 L0 x8 ((HS.out.below S8).mono S8.size) (by omega) HD.out).mono ?_
  intro e x9 hret
  obtain ⟨B4, m4, d4, rfl, hSA, hn1, _, hb⟩ := sa_of_run hret
  obtain rfl : n0 = m4 := by rw [hn1, HLEN.out]
  have HSA4 := Lib.hid hSA
  have S9 := S8.trans (hb.mono S8.size)
  clear hSA hn1 hret hb
  go_wp2_with fail
  refine (script_any kSum128 goodSum128 128 hashOfSum128 v8Sum128 1 (.inr rfl) x9 A0 n0 c0 L0 ((HS.out.below S9).mono S9.size) B4 d4 HSA4.out (by omega) (by have := HT.out; omega)).mono ?_
  rintro e x10 ⟨rfl, hb⟩
  have S10 := S9.trans (hb.mono S9.size)
  clear hb
  go_wp2_with fail
  refine (implSum128a A0 n0 c0 L0 x10 ((HS.out.below S10).mono S10.size) (by omega) HD.out).mono ?_
  intro e x11 hret
  obtain ⟨B5, m5, d5, rfl, hSA, hn1, _, hb⟩ := sa_of_run hret
  obtain rfl : n0 = m5 := by rw [hn1, HLEN.out]
  have HSA5 := Lib.hid hSA
  have S11 := S10.trans (hb.mono S10.size)
  clear hSA hn1 hret hb
  go_wp2_with fail
  refine (script_any kSum128a goodSum128a 129 hashOfSum128a v8Sum128a 1 (.inr rfl) x11 A0 n0 c0 L0 ((HS.out.below S11).mono S11.size) B5 d5 HSA5.out (by omega) (by have := HT.out; omega)).mono ?_
  rintro e x12 ⟨rfl, hb⟩
  have S12 := S11.trans (hb.mono S11.size)
  clear hb
  go_wp2_with fail
  refine (implDigest A0 n0 c0 L0 x12 ((HS.out.below S12).mono S12.size) (by omega) HD.out).mono ?_
  intro e x13 hret
  obtain ⟨B6, m6, d6, rfl, hSA, hn1, _, hb⟩ := sa_of_run hret
  obtain rfl : n0 = m6 := by rw [hn1, HLEN.out]
  have HSA6 := Lib.hid hSA
  have S13 := S12.trans (hb.mono S12.size)
  clear hSA hn1 hret hb
  go_wp2_with fail
  refine (script_any kDigest goodDigest 0 hashOfDigest v8Digest 4 (.inr rfl) x13 A0 n0 c0 L0 ((HS.out.below S13).mono S13.size) B6 d6 HSA6.out (by omega) (by have := HT.out; omega)).mono ?_
  rintro e x14 ⟨rfl, hb⟩
  have S14 := S13.trans (hb.mono S13.size)
  clear hb
  go_wp2
  go_ret
  exact ⟨by simp, S14⟩

end Go.Proofs.YtdpjdglcienbfaaGreat.fnBlocksUpto

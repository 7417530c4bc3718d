/-
  The encoder of streams writes, however the data come in parts, what encoding at once gives.
-/
import Derived.Test.YthhbcnjbnfjiiaaRows
import Derived.Test.YthhbcnjbnfjiiaaFnTwoEncodersWalk
import Derived.WalkKit
import Derived.ProofKit
import Derived.OpenShut
import Derived.ShutString
import Derived.ChangeOld
import Derived.Below
import Derived.SizedLaws
import Derived.WalkSmall
namespace Go.Proofs.Ythhbcnjbnfjiiaa.fnTwoEncoders
open Go.ChangeShapes Go.WideShapes Go.ChangeAt Go.RowKit
open Go.ChangeMaps (open_string shut_string)
set_option linter.unusedVariables false

theorem own : ownKnob Try.prog.godebug = none := by kernel_rfl
theorem laidOut : laidOutB Try.prog = true := by kernel_rfl


set_option maxRecDepth 100000 in
theorem lifted (os : Os) (started : os.Started) (H : Type) (enc : TypeId × Value → H) :
    ReturnsInHanded {} Try.checked os 10 .any (Rows.fnTwoEncodersSpec.pre6 enc Try.prog Try.f10 Rows.fnTwoEncodersRow.domain false) (Rows.fnTwoEncodersSpec.post enc Try.prog Try.f10 false true false false) := by
  refine returnsInHanded_of_change_sized (C := Try.checked) own started (by kernel_rfl) Try.func10
    (ChangeSpec.witness6 (enc := enc) (C := Try.checked) false ⟨#[], #[.slice none 0 0, .slice none 0 0], []⟩ 8 (by kernel_rfl) (by kernel_rfl) (by kernel_rfl) (by kernel_rfl)) ?_
  intro W base args ds gs before hval0 hW hcnd hsz0 _
  have hval : ∀ (j : Nat) t v, Try.f10.params[j]? = some t → args[j]? = some v → Value.okWide Try.prog W .any base t v := hval0
  have hsz : (DataW.weightsEach Try.prog (Try.f10.params.toList ++ Rows.fnTwoEncodersSpec.plain.varTypes Try.prog) (ds ++ gs)).all (· ≤ reachBytes) = true := hsz0
  have hW' := hW
  obtain ⟨p, q, hA0, hV, rfl, hfz, hnd⟩ := hW
  have hA : DataW.TrodAll enc Try.prog W 0 (fun _ => true) true Try.f10.params.toList args.toList ds p := hA0
  rw [Try.params10] at hA hval hsz
  obtain ⟨v0, vs0, d0, ds0, p0, q0, hargs, rfl, rfl, h0, r00⟩ := trodAll_cons hA
  obtain ⟨v1, vs1, d1, ds1, p1, q1, rfl, rfl, rfl, h1, r10⟩ := trodAll_cons r00
  obtain ⟨rfl, rfl, rfl⟩ := trodAll_nil r10
  obtain rfl : args = #[v0, v1] := by cases args; simp_all
  obtain ⟨rfl, rfl⟩ := trodVars_none hV
  have k0 := h0
  have lt0 : ∀ x ∈ p0, x.block < W.heap.size := by obtain ⟨m, hm⟩ := k0; exact DataW.trod_lt m _ _ _ hm
  obtain ⟨A0, n0, c0, l0, rfl, b0, nc0, hd0⟩ := open_bytes Try.underlying25 Try.underlying5 (by kernel_rfl) (hval 0 25 v0 rfl rfl) h0
  have r0 : c0 ≤ 140737488351232 := by
    rcases hd0 with ⟨_, h⟩ | ⟨es, sp, hd, hc⟩
    · omega
    · have h := sized_slice hsz (j := 0) (t := 25) (e := 5) rfl (congrArg some hd) Try.underlying25
      rw [show Try.prog.bytesOf 5 = 1 from by kernel_rfl, hc] at h
      simp only [reachBytes] at h
      omega
  have k1 := h1
  have lt1 : ∀ x ∈ p1, x.block < W.heap.size := by obtain ⟨m, hm⟩ := k1; exact DataW.trod_lt m _ _ _ hm
  obtain ⟨A1, n1, c1, l1, rfl, b1, nc1, hd1⟩ := open_bytes Try.underlying25 Try.underlying5 (by kernel_rfl) (hval 1 25 v1 rfl rfl) h1
  have r1 : c1 ≤ 140737488351232 := by
    rcases hd1 with ⟨_, h⟩ | ⟨es, sp, hd, hc⟩
    · omega
    · have h := sized_slice hsz (j := 1) (t := 25) (e := 5) rfl (congrArg some hd) Try.underlying25
      rw [show Try.prog.bytesOf 5 = 1 from by kernel_rfl, hc] at h
      simp only [reachBytes] at h
      omega
  clear hA0 hval0
  refine (walk A0 n0 c0 l0 A1 n1 c1 l1 W b0 nc0 r0 b1 nc1 r1).mono fun e W' ⟨he, bel⟩ => ?_
  subst he
  exact ⟨_, rfl, _, _, _, [], _, [], hW', trodAll_mk1 (shut_bool Try.underlying4 _), (trodAll_cons_mk (Below.trod laidOut (by kernel_rfl) (of_decide_eq_true (by kernel_rfl)) k0 bel lt0) (trodAll_cons_mk (Below.trod laidOut (by kernel_rfl) (of_decide_eq_true (by kernel_rfl)) k1 bel lt1) trodAll_mk0)), rfl, bel.frame _, fun h => by cases h⟩

theorem over : Rows.fnTwoEncodersRow.holds Try.pinned (OpenSpec.ofChange Rows.fnTwoEncodersSpec) :=
  OpenClaim.holds_of_wide 10 Try.f10 rfl rfl rfl rfl rfl rfl rfl ⟨rfl, rfl, rfl, rfl, rfl⟩ rfl rfl rfl rfl rfl (by kernel_rfl) Try.func10 (by kernel_rfl)
    (of_decide_eq_true (by kernel_rfl)) (by unfold Func.isWrapper; first | (rw [if_pos (by decide +kernel)]; kernel_rfl) | (rw [if_neg (by decide +kernel)]; exact ⟨rfl, rfl⟩))
    (fun os started H enc _ => lifted os started H enc)

theorem proved : Rows.FnTwoEncodersSaid := over
#print axioms proved
end Go.Proofs.Ythhbcnjbnfjiiaa.fnTwoEncoders

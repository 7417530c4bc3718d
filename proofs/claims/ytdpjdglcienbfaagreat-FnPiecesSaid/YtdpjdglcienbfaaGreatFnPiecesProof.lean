/-
  FnPieces, for every input: data written in pieces of any lengths has the sum of the data written at once.
-/
import Derived.Test.YtdpjdglcienbfaaGreatRows
import Derived.Test.YtdpjdglcienbfaaGreatFnPiecesWalk
import Derived.WalkKit
import Derived.ProofKit
import Derived.OpenShut
import Derived.ShutString
import Derived.ChangeOld
import Derived.Below
import Derived.SizedLaws
import Derived.WalkSmall
namespace Go.Proofs.YtdpjdglcienbfaaGreat.fnPieces
open Go.ChangeShapes Go.WideShapes Go.ChangeAt Go.RowKit
open Go.ChangeMaps (open_string shut_string)
set_option linter.unusedVariables false

theorem own : ownKnob Tryz.prog.godebug = none := by kernel_rfl
theorem laidOut : laidOutB Tryz.prog = true := by kernel_rfl


set_option maxRecDepth 100000 in
theorem lifted (os : Os) (started : os.Started) (H : Type) (enc : TypeId × Value → H) :
    ReturnsInHanded {} Tryz.checked os 6 .any (Rows.fnPiecesSpec.pre6 enc Tryz.prog Tryz.f6 Rows.fnPiecesRow.domain false) (Rows.fnPiecesSpec.post enc Tryz.prog Tryz.f6 false true false false) := by
  refine returnsInHanded_of_change_sized (C := Tryz.checked) own started (by kernel_rfl) Tryz.func6
    (ChangeSpec.witness6 (enc := enc) (C := Tryz.checked) false ⟨#[], #[.int .i64 0, .slice none 0 0, .slice none 0 0], []⟩ 8 (by kernel_rfl) (by kernel_rfl) (by kernel_rfl) (by kernel_rfl)) ?_
  intro W base args ds gs before hval0 hW hcnd hsz0 _
  have hval : ∀ (j : Nat) t v, Tryz.f6.params[j]? = some t → args[j]? = some v → Value.okWide Tryz.prog W .any base t v := hval0
  have hsz : (DataW.weightsEach Tryz.prog (Tryz.f6.params.toList ++ Rows.fnPiecesSpec.plain.varTypes Tryz.prog) (ds ++ gs)).all (· ≤ reachBytes) = true := hsz0
  have hW' := hW
  obtain ⟨p, q, hA0, hV, rfl, hfz, hnd⟩ := hW
  have hA : DataW.TrodAll enc Tryz.prog W 0 (fun _ => true) true Tryz.f6.params.toList args.toList ds p := hA0
  rw [Tryz.params6] at hA hval hsz
  obtain ⟨v0, vs0, d0, ds0, p0, q0, hargs, rfl, rfl, h0, r00⟩ := trodAll_cons hA
  obtain ⟨v1, vs1, d1, ds1, p1, q1, rfl, rfl, rfl, h1, r10⟩ := trodAll_cons r00
  obtain ⟨v2, vs2, d2, ds2, p2, q2, rfl, rfl, rfl, h2, r20⟩ := trodAll_cons r10
  obtain ⟨rfl, rfl, rfl⟩ := trodAll_nil r20
  obtain rfl : args = #[v0, v1, v2] := by cases args; simp_all
  obtain ⟨rfl, rfl⟩ := trodVars_none hV
  obtain ⟨a0, rfl, rfl, rfl, w0⟩ := open_int Tryz.underlying3 (hval 0 3 v0 rfl rfl) h0
  have k1 := h1
  have lt1 : ∀ x ∈ p1, x.block < W.heap.size := by obtain ⟨m, hm⟩ := k1; exact DataW.trod_lt m _ _ _ hm
  obtain ⟨A1, n1, c1, l1, rfl, b1, nc1, hd1⟩ := open_bytes Tryz.underlying27 Tryz.underlying5 (by kernel_rfl) (hval 1 27 v1 rfl rfl) h1
  have r1 : c1 ≤ 140737488351232 := by
    rcases hd1 with ⟨_, h⟩ | ⟨es, sp, hd, hc⟩
    · omega
    · have h := sized_slice hsz (j := 1) (t := 27) (e := 5) rfl (congrArg some hd) Tryz.underlying27
      rw [show Tryz.prog.bytesOf 5 = 1 from by kernel_rfl, hc] at h
      simp only [reachBytes] at h
      omega
  have k2 := h2
  have lt2 : ∀ x ∈ p2, x.block < W.heap.size := by obtain ⟨m, hm⟩ := k2; exact DataW.trod_lt m _ _ _ hm
  obtain ⟨A2, n2, c2, l2, rfl, b2, nc2, hd2⟩ := open_bytes Tryz.underlying27 Tryz.underlying5 (by kernel_rfl) (hval 2 27 v2 rfl rfl) h2
  have r2 : c2 ≤ 140737488351232 := by
    rcases hd2 with ⟨_, h⟩ | ⟨es, sp, hd, hc⟩
    · omega
    · have h := sized_slice hsz (j := 2) (t := 27) (e := 5) rfl (congrArg some hd) Tryz.underlying27
      rw [show Tryz.prog.bytesOf 5 = 1 from by kernel_rfl, hc] at h
      simp only [reachBytes] at h
      omega
  clear hA0 hval0
  refine (walk a0 w0 A1 n1 c1 l1 A2 n2 c2 l2 W b1 nc1 r1 b2 nc2 r2).mono fun e W' ⟨he, bel⟩ => ?_
  subst he
  exact ⟨_, rfl, _, _, _, [], _, [], hW', trodAll_mk1 (shut_bool Tryz.underlying4 _), (trodAll_cons_mk (shut_int Tryz.underlying3 w0) (trodAll_cons_mk (Below.trod laidOut (by kernel_rfl) (of_decide_eq_true (by kernel_rfl)) k1 bel lt1) (trodAll_cons_mk (Below.trod laidOut (by kernel_rfl) (of_decide_eq_true (by kernel_rfl)) k2 bel lt2) trodAll_mk0))), rfl, bel.frame _, fun h => by cases h⟩

theorem over : Rows.fnPiecesRow.holds Tryz.pinned (OpenSpec.ofChange Rows.fnPiecesSpec) :=
  OpenClaim.holds_of_wide 6 Tryz.f6 rfl rfl rfl rfl rfl rfl rfl ⟨rfl, rfl, rfl, rfl, rfl⟩ rfl rfl rfl rfl rfl (by kernel_rfl) Tryz.func6 (by kernel_rfl)
    (of_decide_eq_true (by kernel_rfl)) (by unfold Func.isWrapper; first | (rw [if_pos (by decide +kernel)]; kernel_rfl) | (rw [if_neg (by decide +kernel)]; exact ⟨rfl, rfl⟩))
    (fun os started H enc _ => lifted os started H enc)

theorem proved : Rows.FnPiecesSaid := over
#print axioms proved
end Go.Proofs.YtdpjdglcienbfaaGreat.fnPieces

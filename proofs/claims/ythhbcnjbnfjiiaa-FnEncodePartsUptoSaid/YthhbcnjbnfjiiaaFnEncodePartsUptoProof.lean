/-
  An encoder that is closed has written the text of all that was written to it, however it was divided.
-/
import Derived.Test.YthhbcnjbnfjiiaaRows
import Derived.Test.YthhbcnjbnfjiiaaFnEncodePartsUptoWalk
import Derived.WalkKit
import Derived.ProofKit
import Derived.OpenShut
import Derived.ShutString
import Derived.ChangeOld
import Derived.Below
import Derived.SizedLaws
import Derived.WalkSmall
import Derived.JoinedCond
import Derived.Deep.CondSized
namespace Go.Proofs.Ythhbcnjbnfjiiaa.fnEncodePartsUpto
open Go.ChangeShapes Go.WideShapes Go.ChangeAt Go.RowKit
open Go.ChangeMaps (open_string shut_string)
set_option linter.unusedVariables false

theorem own : ownKnob Try.prog.godebug = none := by kernel_rfl
theorem laidOut : laidOutB Try.prog = true := by kernel_rfl


theorem one_le {H : Type} (d : DataW H) : 1 ≤ Rows.uptoBulk d := by
  cases d with
  | lit l => cases l <;> simp [Rows.uptoBulk]
  | nil => simp [Rows.uptoBulk]
  | ptr d => simp [Rows.uptoBulk]
  | slice elems spare => simp [Rows.uptoBulk]
  | agg parts => simp [Rows.uptoBulk]
  | iface t d => simp [Rows.uptoBulk]
  | map entries => simp [Rows.uptoBulk]
  | held h => simp [Rows.uptoBulk]
theorem length_le {H : Type} (l : List (DataW H)) : l.length ≤ Rows.uptoBulkAll l := by
  induction l with
  | nil => simp [Rows.uptoBulkAll]
  | cons x r ih => have := one_le x; simp only [Rows.uptoBulkAll, List.length_cons]; omega
theorem slice_le {H : Type} (elems spare : List (DataW H)) : elems.length + spare.length + 1 ≤ Rows.uptoBulk (.slice elems spare) := by
  have h1 := length_le elems
  have h2 := length_le spare
  simp only [Rows.uptoBulk]
  omega

set_option maxRecDepth 100000 in
theorem lifted (os : Os) (started : os.Started) (H : Type) (enc : TypeId × Value → H) (F : Stop.Interp) :
    ReturnsInHanded {} Try.checked os 4 .any ((Rows.OpenSpec.upto Rows.fnEncodePartsSpec).pre6 enc Try.prog Try.f4 Rows.fnEncodePartsUptoRow.domain false) (((Rows.OpenSpec.upto Rows.fnEncodePartsSpec).at F).post enc Try.prog Try.f4 false true false false) := by
  refine returnsInHanded_of_cond_sized (C := Try.checked) (s := Rows.OpenSpec.upto Rows.fnEncodePartsSpec) (k := Rows.uptoSmall) rfl own started (by kernel_rfl) Try.func4
    (OpenSpec.witness (enc := enc) (C := Try.checked) (s := Rows.OpenSpec.upto Rows.fnEncodePartsSpec) (k := Rows.uptoSmall) rfl false ⟨#[], #[.slice none 0 0], []⟩ 8 (by kernel_rfl) (by kernel_rfl) (by kernel_rfl)
      (x := ([.nil], [], [])) (by kernel_rfl) rfl (by kernel_rfl)) ?_
  intro W base args ds gs before hval0 hW hcnd hk hsz0 _
  have hval : ∀ (j : Nat) t v, Try.f4.params[j]? = some t → args[j]? = some v → Value.okWide Try.prog W .any base t v := hval0
  have hW' := hW
  obtain ⟨p, q, hA0, hV, rfl, hfz, hnd⟩ := hW
  have hA : DataW.TrodAll enc Try.prog W 0 (fun _ => true) true Try.f4.params.toList args.toList ds p := hA0
  rw [Try.params4] at hA hval
  obtain ⟨v0, vs0, d0, ds0, p0, q0, hargs, rfl, rfl, h0, r00⟩ := trodAll_cons hA
  obtain ⟨rfl, rfl, rfl⟩ := trodAll_nil r00
  obtain rfl : args = #[v0] := by cases args; simp_all
  obtain ⟨rfl, rfl⟩ := trodVars_none hV
  have hbulk : Rows.uptoBulkAll [d0] ≤ 1048576 := by
    have := of_decide_eq_true hk
    simpa using this
  simp only [Rows.uptoBulkAll] at hbulk
  have k0 := h0
  have lt0 : ∀ x ∈ p0, x.block < W.heap.size := by obtain ⟨m, hm⟩ := k0; exact DataW.trod_lt m _ _ _ hm
  obtain ⟨A0, n0, c0, L0, rfl, b0, nc0, rc0, rt0⟩ := open_parts (hval 0 24 v0 rfl rfl) h0
  have r0 : c0 ≤ 1048576 := by omega
  have t0 : (L0.map (·.length)).sum ≤ 1048576 := by omega
  clear hA0 hval0
  refine (walk A0 n0 c0 L0 W b0 nc0 r0 t0).mono fun e W' ⟨he, bel⟩ => ?_
  subst he
  exact ⟨_, rfl, _, _, _, [], _, [], hW', trodAll_mk1 (shut_bool Try.underlying4 _), (trodAll_cons_mk (Below.trod laidOut (by kernel_rfl) (of_decide_eq_true (by kernel_rfl)) k0 bel lt0) trodAll_mk0), rfl, bel.frame _, fun h => by cases h⟩

theorem over : Rows.fnEncodePartsUptoRow.holds Try.pinned (Rows.OpenSpec.upto Rows.fnEncodePartsSpec) :=
  OpenClaim.holds_of_cond 4 Try.f4 rfl rfl rfl rfl rfl rfl rfl ⟨rfl, rfl, rfl, rfl, rfl⟩ rfl rfl rfl rfl rfl (by kernel_rfl) Try.func4 (by kernel_rfl)
    (of_decide_eq_true (by kernel_rfl)) (by unfold Func.isWrapper; first | (rw [if_pos (by decide +kernel)]; kernel_rfl) | (rw [if_neg (by decide +kernel)]; exact ⟨rfl, rfl⟩))
    (fun os started H enc _ F => lifted os started H enc F)

theorem proved : Rows.FnEncodePartsUptoSaid := over
#print axioms proved
end Go.Proofs.Ythhbcnjbnfjiiaa.fnEncodePartsUpto

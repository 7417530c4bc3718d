/-
  FnDecodeMore, where the arguments hold at most 1048576 values: of a text that goes on, the whole groups are decoded and consumed, and a group that is begun is not.
-/
import Derived.Test.YthhbcnjbnfjiiaaDoorCards
import Derived.Test.YthhbcnjbnfjiiaaDoorTie
import Derived.Test.YthhbcnjbnfjiiaaDoorDoorKit
import Derived.Deep.DeepHandedRow
import Derived.Deep.CondSized
import Derived.JoinedCond
import Derived.Test.YthhbcnjbnfjiiaaDoorFnDecodeMoreUptoWalk
import Derived.WalkKit
import Derived.ProofKit
import Derived.OpenShut
import Derived.ShutString
import Derived.ChangeOld
import Derived.Below
import Derived.SizedLaws
import Derived.WalkSmall
import Derived.JoinedCond
import Derived.Deep.CondSized
namespace Go.Proofs.YthhbcnjbnfjiiaaDoor.fnDecodeMoreUpto
open Go.ChangeShapes Go.WideShapes Go.ChangeAt Go.RowKit
open Go.ChangeMaps (open_string shut_string)
set_option linter.unusedVariables false



theorem one_le {H : Type} (d : DataW H) : 1 ≤ Rows.uptoBulk d := by
  cases d with
  | lit l => cases l <;> simp [Rows.uptoBulk]
  | nil => simp [Rows.uptoBulk]
  | ptr d => simp [Rows.uptoBulk]
  | slice elems spare => simp [Rows.uptoBulk]
  | agg parts => simp [Rows.uptoBulk]
  | iface t d => simp [Rows.uptoBulk]
  | map entries => simp [Rows.uptoBulk]
  | held h => simp [Rows.uptoBulk]
theorem length_le {H : Type} (l : List (DataW H)) : l.length ≤ Rows.uptoBulkAll l := by
  induction l with
  | nil => simp [Rows.uptoBulkAll]
  | cons x r ih => have := one_le x; simp only [Rows.uptoBulkAll, List.length_cons]; omega
theorem slice_le {H : Type} (elems spare : List (DataW H)) : elems.length + spare.length + 1 ≤ Rows.uptoBulk (.slice elems spare) := by
  have h1 := length_le elems
  have h2 := length_le spare
  simp only [Rows.uptoBulk]
  omega

set_option maxRecDepth 100000 in
theorem lifted (os : Os) (started : os.Started) (H : Type) (enc : TypeId × Value → H) (F : Stop.Interp) :
    ReturnsInHanded {} Tryd.checked os 10 .any ((Rows.OpenSpec.upto Rows.fnDecodeMoreSpec).preRow enc Tryd.prog Tryd.f10 Rows.fnDecodeMoreUptoRow.domain false Rows.fnDecodeMoreUptoRow.laid) (((Rows.OpenSpec.upto Rows.fnDecodeMoreSpec).at F).post enc Tryd.prog Tryd.f10 false true false false) := by
  have hx : DataW.whole enc Tryd.prog ((Door.laidWorld os).forCall (fun _ _ => 0) ⟨#[], #[.slice none 0 0], []⟩).memory Tryd.f10.params.toList Rows.fnDecodeMoreSpec.vars false #[Value.slice none 0 0].toList 8 = some ([.nil], [], []) := by kernel_rfl
  refine returnsInHanded_of_row (C := Tryd.checked) (s := (Rows.OpenSpec.upto Rows.fnDecodeMoreSpec)) Door.own started (by kernel_rfl) Tryd.func10
    (witness_row_at (enc := enc) (C := Tryd.checked) false (Door.laidWorld os) #[.slice none 0 0] rfl (by kernel_rfl) (by kernel_rfl) (by kernel_rfl)
      (OpenSpec.preRow_of_cond 8 hx (by kernel_rfl) (fun k hk => by cases hk; kernel_rfl) (by kernel_rfl) (Door.met os _))) ?_
  intro W base args ds gs before hval0 hW hcnd hcond hsz0 hL _ _
  have hval : ∀ (j : Nat) t v, Tryd.f10.params[j]? = some t → args[j]? = some v → Value.okWide Tryd.prog W .any base t v := hval0
  have hsz : (DataW.weightsEach Tryd.prog (Tryd.f10.params.toList ++ (Rows.OpenSpec.upto Rows.fnDecodeMoreSpec).bare.plain.varTypes Tryd.prog) (ds ++ gs)).all (· ≤ reachBytes) = true := hsz0
  have hW' := hW
  obtain ⟨p, q, hA0, hV, rfl, hfz, hnd⟩ := hW
  have hA : DataW.TrodAll enc Tryd.prog W 0 (fun _ => true) true Tryd.f10.params.toList args.toList ds p := hA0
  rw [Tryd.params10] at hA hval hsz
  obtain ⟨v0, vs0, d0, ds0, p0, q0, hargs, rfl, rfl, h0, r00⟩ := trodAll_cons hA
  obtain ⟨rfl, rfl, rfl⟩ := trodAll_nil r00
  obtain rfl : args = #[v0] := by cases args; simp_all
  obtain ⟨rfl, rfl⟩ := trodVars_none hV
  have hbulk : Rows.uptoBulkAll [d0] ≤ 1048576 := by
    have := of_decide_eq_true (hcond _ rfl)
    simpa using this
  simp only [Rows.uptoBulkAll] at hbulk
  have k0 := h0
  have lt0 : ∀ x ∈ p0, x.block < W.heap.size := by obtain ⟨m, hm⟩ := k0; exact DataW.trod_lt m _ _ _ hm
  obtain ⟨A0, n0, c0, l0, rfl, b0, nc0, hd0⟩ := open_bytes Tryd.underlying22 Tryd.underlying5 (by kernel_rfl) (hval 0 22 v0 rfl rfl) h0
  have r0 : c0 ≤ 1048576 := by
    rcases hd0 with ⟨_, h⟩ | ⟨es, sp, hd, hc⟩
    · omega
    · have h := slice_le es sp
      rw [← hd] at h
      omega
  clear hA0 hval0
  refine (walk A0 n0 c0 l0 W b0 nc0 r0 (handle_of_laid hL)).mono fun e W' ⟨he, bel⟩ => ?_
  subst he
  exact ⟨_, rfl, _, _, _, [], _, [], hW', trodAll_mk1 (shut_bool Tryd.underlying4 _), (trodAll_cons_mk (Below.trod Door.laidOut (by kernel_rfl) (of_decide_eq_true (by kernel_rfl)) k0 bel lt0) trodAll_mk0), rfl, bel.frame _, fun h => by cases h⟩

theorem said : Rows.FnDecodeMoreUptoSaid :=
  OpenClaim.holds_of_cond 10 Tryd.f10 rfl rfl rfl rfl rfl rfl rfl ⟨rfl, rfl, rfl, rfl, rfl⟩ rfl rfl rfl rfl rfl (by kernel_rfl) Tryd.func10 (by kernel_rfl)
    (of_decide_eq_true (by kernel_rfl)) (by unfold Func.isWrapper; first | (rw [if_pos (by decide +kernel)]; kernel_rfl) | (rw [if_neg (by decide +kernel)]; exact ⟨rfl, rfl⟩))
    (fun os started H enc _ F => by rw [OpenClaim.pre_eq_preRow]; exact lifted os started H enc F)

theorem plain (f : FuncId) (fn : Func) (hf : Tryd.pinned.checked.prog.funcNamed "loop.example/lib-g03213/laws.FnDecodeMore" = some f) (hfn : Tryd.pinned.checked.prog.funcs[f]? = some fn) :
    true = Tryd.pinned.checked.prog.looks [] ∧ ∀ (j : Nat) t, fn.params[j]? = some t → Tryd.pinned.checked.prog.wantsStandIn t = false := by
  obtain rfl : f = 10 := Option.some.inj ((show Tryd.prog.funcNamed "loop.example/lib-g03213/laws.FnDecodeMore" = some 10 by kernel_rfl).symm.trans hf) |>.symm
  obtain rfl : fn = Tryd.f10 := (Option.some.inj (Tryd.func10.symm.trans hfn)).symm
  refine ⟨by kernel_rfl, fun j t ht => ?_⟩
  rw [Tryd.params10] at ht
  have hmem := Array.mem_of_getElem? ht
  simp only [List.mem_toArray, List.mem_cons, List.not_mem_nil, or_false] at hmem
  rcases hmem with rfl
  · exact (show Tryd.prog.wantsStandIn 22 = false by kernel_rfl)

theorem proved : Rows.FnDecodeMoreUptoCardSaid :=
  Claim7.holds_tied_plain_at .later [] _ _ _ _ said (fun _ h => by cases h) (by kernel_rfl) (fun _ h => by cases h) fnDecodeMoreUpto_row_tie rfl ⟨rfl, rfl⟩ (by kernel_rfl) rfl plain (by kernel_rfl)
#print axioms proved
end Go.Proofs.YthhbcnjbnfjiiaaDoor.fnDecodeMoreUpto

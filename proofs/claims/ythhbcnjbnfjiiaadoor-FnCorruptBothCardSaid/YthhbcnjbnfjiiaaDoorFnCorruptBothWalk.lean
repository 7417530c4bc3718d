/-
  The walk of the law FnCorruptBoth (in full): it returns true and changes nothing that was there. A byte that is no digit makes the text corrupt, for both decoders, and what is decoded before it is a beginning of the data.
-/
import Derived.Test.YthhbcnjbnfjiiaaDoorProg
import Derived.Test.YthhbcnjbnfjiiaaDoorOpenArgs
import Derived.WalkKit
import Derived.Below
import Derived.WalkSmall
import Derived.Lib.Hide
import Derived.Test.YthhbcnjbnfjiiaaDoorRdParts
import Derived.Test.YthhbcnjbnfjiiaaDoorImplDec
import Derived.Test.YthhbcnjbnfjiiaaDoorImplEnc
import Derived.Test.YthhbcnjbnfjiiaaDoorPlainDec3
import Derived.Test.YthhbcnjbnfjiiaaDoorEqual
import Derived.Test.YthhbcnjbnfjiiaaDoorEncoded
import Derived.Test.YthhbcnjbnfjiiaaDoorStepApp
import Derived.Test.YthhbcnjbnfjiiaaDoorDoorKit
import Derived.Deep.RegionHeld3
namespace Go.Proofs.YthhbcnjbnfjiiaaDoor.fnCorruptBoth
open Go.RowKit
set_option linter.unusedVariables false

open Plain85 (enc)
theorem bs_grown {w w' : World} {row : Option Nat} {B : Nat} {A : Option Addr} {n : Nat} {l : List Nat} (h : BS w B A n l) (hg : w.grownBy w' row) (hB : B ≤ w.heap.size) (hne : ∀ a, A = some a → row ≠ some a.block) : BS w' B A n l :=
  ⟨h.len, h.lt, fun hn => by
    obtain ⟨b, o, e, hb, hc⟩ := h.spot hn
    refine ⟨b, o, e, hb, fun i hi => ?_⟩
    rw [World.cell?_of_block (w := w) (hg.block b (by omega) (fun e' => hne _ e e'.symm))]
    exact hc i hi⟩
theorem own_drew {w : World} {base : Nat} {v : Value} {l : List Nat} (h : Own w base v l) : Own w.drew base v l := h
theorem cor_gt (t : List Nat) (p c : Nat) {l : List Nat} (ht : enc l = t) (hc : 117 < c) : ∀ x ∈ (t.take p ++ [c]) ++ t.drop p, 32 < x := by
  intro x hx
  have hg := PlainDec.enc_gt l
  rw [ht] at hg
  rcases List.mem_append.1 hx with hx | hx
  · rcases List.mem_append.1 hx with hx | hx
    · exact hg x (List.mem_of_mem_take hx)
    · rcases List.mem_singleton.1 hx with rfl; omega
  · exact hg x (List.mem_of_mem_drop hx)
theorem cor_bad (t : List Nat) (p c : Nat) (hc : 117 < c) (hz : c ≠ 122) : ∃ a, decM ((t.take p ++ [c]) ++ t.drop p) true = .bad a := by
  unfold decM
  exact PlainDec.dgo_corrupt hc hz _ 0 _ (by simp) (by simp [PlainDec.init])
theorem src_one (w : World) (v : Value) (t : TypeId) (k : Nat) (hk : k = w.heap.size) : Src (w.alloc (.cells #[v] t)) 1 (some ⟨k, 0, none⟩) 1 [v] := by
  subst hk
  refine ⟨rfl, fun _ => ⟨_, rfl, fun j u hu => ?_⟩⟩
  have hj : j = 0 := by
    rcases Nat.eq_zero_or_pos j with h | h
    · exact h
    · rw [List.getElem?_eq_none (by simp; omega)] at hu; cases hu
  subst hj
  simp only [List.getElem?_cons_zero, Option.some.injEq] at hu
  subst hu
  rw [addr_add, cell_of_row _ w.heap.size (0 + 0) #[v] t (0, 0) (_root_.Go.heap_alloc_new w _)]
  rfl
theorem sixty_of {w : World} {base k : Nat} {v : Value} (h : w.ownsRow base 30 1 v k (List.replicate k (.int .u16 64))) : ∃ A c, v = .slice A k c ∧ Sixty w w.heap.size A k := by
  rcases h.2 with ⟨rfl, h0⟩ | ⟨g, cap, cur, rfl, hbg, hg, hnc, hcm, hcs, htk⟩
  · subst h0
    exact ⟨none, 0, rfl, fun h => absurd h (by omega)⟩
  · refine ⟨_, _, rfl, fun _ => ⟨g, 0, rfl, lt_of_block' hg, fun i hi => ?_⟩⟩
    rw [cell_of_row _ g (0 + i) cur 30 (0, 0) hg, Nat.zero_add, ← Array.getElem?_toList]
    have h3 : (cur.toList.take (k * 1))[i]? = (List.replicate k (Value.int .u16 64))[i]? := by rw [htk]
    rw [List.getElem?_take, if_pos (by omega), List.getElem?_replicate, if_pos hi] at h3
    exact h3
structure LsR (w : World) (tot : Nat) (wl : World) (v : Value) (k : Nat) : Prop where
  kt : k ≤ tot
  row : wl.ownsRow w.heap.size 30 1 v k (List.replicate k (.int .u16 64))
  bel : Below w.heap.size w wl
def LsRel (w : World) (tot : Nat) (v i : Value) (wl : World) : Prop := ∃ k, LsR w tot wl v k ∧ i = .int .i64 (k : Int)
theorem cutq (A : Option Addr) (n c k : Nat) (hk : k ≤ n) (W : World) : (Instr.slice 22 (.slice A n c) (some (.int .i64 (k : Int))) none none).run Tryd.prog W = .ok (.slice (if c = k then A else A.map (·.add k)) (n - k) (c - k)) W := by
  have e2 : Tryd.prog.elem 22 = 5 := by kernel_rfl
  rw [run_slice_l (P := Tryd.prog) W 22 _ n c (by rw [e2]; exact Tryd.underlying22) .i64 (k : Int) (by omega) (by omega), e2]
  obtain ⟨i0, hi, hzz⟩ := Option.map_eq_some_iff.1 Tryd.infoByte
  simp only [Prod.mk.injEq] at hzz
  simp [sizeOf, typeInfo, hi, hzz.2.1, sliced, Result.andThen]
theorem infoU16 : (Tryd.prog.info? 30).map (fun i => (i.zero, i.size, i.bytes)) = some (some (.int .u16 0), 1, 2) := by kernel_rfl

set_option maxRecDepth 100000 in
set_option maxHeartbeats 16000000 in
theorem walk (A0 : Option Addr) (n0 c0 : Nat) (l0 : List Nat) (a1 : Int) (w1 : (Lit.int .i64 a1).wf = true) (a2 : Int) (w2 : (Lit.int .u8 a2).wf = true) (a3 : Int) (w3 : (Lit.int .u8 a3).wf = true) (w : World) (b0 : BS w w.heap.size A0 n0 l0) (nc0 : n0 ≤ c0) (r0 : c0 ≤ 140737488351232) (hg : ErrType w) :
    Calls Tryd.prog 5 #[.slice A0 n0 c0, .int .i64 a1, .int .u8 a2, .int .u8 a3] w fun e w' => e = .returned (.bool true) ∧ Below w.heap.size w w' := by
  have hm0 : c0 ≤ maxLen := by unfold maxLen; omega
  by_cases hbig : 5000 < n0
  · have q0 : decide (5000 < (n0 : Int)) = true := decide_eq_true (by omega)
    go_enter Tryd.func5, Tryd.ntmps5
    go_wp2
    go_ret
    exact ⟨rfl, Below.refl _ _⟩
  have q0 : decide (5000 < (n0 : Int)) = false := decide_eq_false (by omega)
  by_cases hneg : a1 < 0
  · have q1 : decide (a1 < 0) = true := decide_eq_true hneg
    go_enter Tryd.func5, Tryd.ntmps5
    go_wp2
    go_ret
    exact ⟨rfl, Below.refl _ _⟩
  have q1 : decide (a1 < 0) = false := decide_eq_false hneg
  have hr2 : 0 ≤ a2 ∧ a2 ≤ 255 := by simpa [Lit.wf, IntKind.min, IntKind.max, IntKind.signed, IntKind.bits] using w2
  have hr3 : 0 ≤ a3 ∧ a3 ≤ 255 := by simpa [Lit.wf, IntKind.min, IntKind.max, IntKind.signed, IntKind.bits] using w3
  obtain ⟨at_, rfl⟩ : ∃ n : Nat, a1 = (n : Int) := ⟨a1.toNat, by omega⟩
  obtain ⟨cc, rfl⟩ : ∃ n : Nat, a2 = (n : Int) := ⟨a2.toNat, by omega⟩
  obtain ⟨pz, rfl⟩ : ∃ n : Nat, a3 = (n : Int) := ⟨a3.toNat, by omega⟩
  have hpz : pz ≤ 255 := by omega
  clear w1 w2 w3 hr3 q1 hneg
  have q1 : decide ((at_ : Int) < 0) = false := decide_eq_false (by omega)
  by_cases h32 : cc ≤ 32
  · have q2 : decide ((cc : Int) ≤ 32) = true := decide_eq_true (by omega)
    go_enter Tryd.func5, Tryd.ntmps5
    go_wp2
    go_ret
    exact ⟨rfl, Below.refl _ _⟩
  have q2 : decide ((cc : Int) ≤ 32) = false := decide_eq_false (by omega)
  have q3 : decide (33 ≤ (cc : Int)) = true := decide_eq_true (by omega)
  by_cases h117 : cc ≤ 117
  · have q4 : decide ((cc : Int) ≤ 117) = true := decide_eq_true (by omega)
    go_enter Tryd.func5, Tryd.ntmps5
    go_wp2
    go_ret
    exact ⟨rfl, Below.refl _ _⟩
  have q4 : decide ((cc : Int) ≤ 117) = false := decide_eq_false (by omega)
  by_cases h122 : cc = 122
  · subst h122
    go_enter Tryd.func5, Tryd.ntmps5
    go_wp2
    go_ret
    exact ⟨rfl, Below.refl _ _⟩
  by_cases h127 : cc = 127
  · subst h127
    go_enter Tryd.func5, Tryd.ntmps5
    go_wp2
    go_ret
    exact ⟨rfl, Below.refl _ _⟩
  have q5 : ((cc : Int) == 122) = false := beq_eq_false_iff_ne.2 (by omega)
  have q6 : ((cc : Int) == 127) = false := beq_eq_false_iff_ne.2 (by omega)
  have hcc : 117 < cc := by omega
  have hcc2 : cc ≠ 122 := h122
  have hccb : ∀ x ∈ [cc], x < 256 := by intro x hx; rcases List.mem_singleton.1 hx with rfl; omega
  obtain ⟨i16, hi, hzz⟩ := Option.map_eq_some_iff.1 infoU16
  simp only [Prod.mk.injEq] at hzz
  obtain ⟨hz, hsz, hby⟩ := hzz
  have HI := Lib.hid hi
  have HZ := Lib.hid hz
  have HSZ := Lib.hid hsz
  have HBY := Lib.hid hby
  have hpos := hg.pos
  have HG := Lib.hid hg
  have HB0 := Lib.hid b0
  clear hg b0 hi hz hsz hby h122 h127 h32 h117 hr2
  obtain ⟨t, ht⟩ : ∃ t, enc l0 = t := ⟨_, rfl⟩
  obtain ⟨nt, hnt⟩ : ∃ nt, t.length = nt := ⟨_, rfl⟩
  have hntle : nt ≤ 7000 := by rw [← hnt, ← ht]; have := Plain85.enc_le l0; rw [HB0.out.len] at this; omega
  have HTE := Lib.hid ht
  have HTL := Lib.hid hnt
  clear ht hnt
  go_enter Tryd.func5, Tryd.ntmps5
  go_wp2_with fail
  refine (encoded_any A0 n0 c0 l0 w w.heap.size (Nat.le_refl _) nc0 hm0 (by omega) HB0.out).mono ?_
  rintro e w1 ⟨v1, rfl, hv1, hb1⟩
  rw [HTE.out] at hv1
  obtain ⟨A1, c1, rfl, hc1, hm1, bs1⟩ := hv1.at_ HTL.out
  have HBS1 := Lib.hid bs1
  have HBL1 := Lib.hid hb1
  have hw1 := hb1.size
  clear hv1 bs1 hb1
  by_cases hat : nt < at_
  · have q7 : decide ((nt : Int) < (at_ : Int)) = true := decide_eq_true (by omega)
    go_wp2
    go_ret
    exact ⟨rfl, HBL1.out⟩
  have q7 : decide ((nt : Int) < (at_ : Int)) = false := decide_eq_false (by omega)
  have hatle : at_ ≤ nt := by omega
  clear hat
  go_wp2_with fail
  refine (implEncode_any A0 n0 c0 l0 w1 w.heap.size hw1 nc0 hm0 (by omega) (HB0.out.below HBL1.out)).mono ?_
  rintro e wr ⟨v2, rfl, hv2, hb2⟩
  rw [HTE.out] at hv2
  obtain ⟨At, ct, rfl, hct, hcmt, bs2⟩ := hv2.at_ HTL.out
  unfold maxLen at hcmt
  have hatc : at_ ≤ ct := by omega
  have hw2 := hb2.size
  have HBT := Lib.hid bs2
  have HBW := Lib.hid (HBL1.out.trans (hb2.mono hw1))
  have hBr : w.heap.size ≤ wr.heap.size := by omega
  have bs1' := HBS1.out.below hb2
  clear hv2 hb2 bs2
  go_wp2_with fail
  refine (equal_any At nt ct A1 nt c1 t t wr _ _ HBT.out bs1').mono ?_
  rintro e w3 ⟨rfl, rfl⟩
  rw [decide_eq_true rfl]
  clear bs1'
  have hsp := cutq At nt ct at_ hatle
  obtain ⟨PA, hPA⟩ : ∃ PA, (if ct = at_ then At else At.map (·.add at_)) = PA := ⟨_, rfl⟩
  rw [hPA] at hsp
  have HPA := Lib.hid hPA
  clear hPA
  go_wp2_with fail
  refine wp_region_held_drew (S := fun _ => True) (by kernel_rfl) trivial (fun hHeld => ?_)
  refine wpAnyH_take (i := 1) (oi := ⟨some 59, _, _, _, _, _⟩) (v := ?_) rfl (by kernel_rfl) (by kernel_rfl) (by kernel_rfl) (fun _ _ _ h => h) (Or.inl ⟨by rfl, ?_⟩) hHeld ?_
  rotate_left
  · intro W hW; go_simp <;> with_reducible rfl
  simp only [Act.put, List.setIfInBounds_toArray, List.set_cons_zero, List.set_cons_succ]
  refine wpAnyH_take (i := 2) (oi := ⟨some 60, _, _, _, _, _⟩) (v := ?_) rfl (by kernel_rfl) (by kernel_rfl) (by kernel_rfl) (fun _ _ _ h => h) (Or.inl ⟨by rfl, ?_⟩) hHeld ?_
  rotate_left
  · intro W hW; go_simp <;> with_reducible rfl
  simp only [Act.put, List.setIfInBounds_toArray, List.set_cons_zero, List.set_cons_succ]
  refine wpAnyH_take (i := 3) (oi := ⟨some 61, _, _, _, _, _⟩) (v := ?_) rfl (by kernel_rfl) (by kernel_rfl) (by kernel_rfl) (fun _ _ _ h => h) (Or.inl ⟨by rfl, ?_⟩) hHeld ?_
  rotate_left
  · intro W hW; go_simp <;> with_reducible rfl
  simp only [Act.put, List.setIfInBounds_toArray, List.set_cons_zero, List.set_cons_succ]
  refine wpAnyH_take (i := 5) (oi := ⟨some 63, _, _, _, _, _⟩) (v := ?_) rfl (by kernel_rfl) (by kernel_rfl) (by kernel_rfl) (fun _ _ _ h => h) (Or.inl ⟨by rfl, ?_⟩) hHeld ?_
  rotate_left
  · intro W hW; go_simp <;> with_reducible rfl
  simp only [Act.put, List.setIfInBounds_toArray, List.set_cons_zero, List.set_cons_succ]
  refine wpAnyH_take (i := 8) (oi := ⟨some 66, _, _, _, _, _⟩) (v := ?_) rfl (by kernel_rfl) (by kernel_rfl) (by kernel_rfl) (fun _ _ _ h => h) (Or.inl ⟨by rfl, ?_⟩) hHeld ?_
  rotate_left
  · intro W hW; go_simp <;> with_reducible rfl
  simp only [Act.put, List.setIfInBounds_toArray, List.set_cons_zero, List.set_cons_succ]
  refine wpAnyH_take (i := 9) (oi := ⟨some 67, _, _, _, _, _⟩) (v := ?_) rfl (by kernel_rfl) (by kernel_rfl) (by kernel_rfl) (fun _ _ _ h => h) (Or.inl ⟨by rfl, ?_⟩) hHeld ?_
  rotate_left
  · intro W hW; go_simp <;> with_reducible rfl
  simp only [Act.put, List.setIfInBounds_toArray, List.set_cons_zero, List.set_cons_succ]
  refine wpAnyH_take (i := 10) (oi := ⟨some 68, _, _, _, _, _⟩) (v := ?_) rfl (by kernel_rfl) (by kernel_rfl) (by kernel_rfl) (fun _ _ _ h => h) (Or.inl ⟨by rfl, ?_⟩) hHeld ?_
  rotate_left
  · intro W hW; go_simp <;> with_reducible rfl
  simp only [Act.put, List.setIfInBounds_toArray, List.set_cons_zero, List.set_cons_succ]
  refine wpAnyH_ready (rs := [0, 6]) (by kernel_rfl) (by simp) (AllReadyH.cons rfl (fun K1 hK1 => ?_) (AllReadyH.cons rfl (fun K1 hK1 => ?_) AllReadyH.nil))
  · go_simp
    refine hK1.out _ _ trivial (fun hHeld => ?_)
    clear hK1 K1
    refine wpAnyH_ready (rs := [4, 6]) (by kernel_rfl) (by simp) (AllReadyH.cons rfl (fun K1 hK1 => ?_) (AllReadyH.cons rfl (fun K1 hK1 => ?_) AllReadyH.nil))
    · as_aux_lemma =>
        have HO := Lib.hid (Own.empty wr)
        have HS := Lib.hid ((HBT.out.take hatle).alloc (Nat.le_refl _) (.cells #[] 5))
        refine step_append_bytes rfl _ _ rfl wr.heap.size (.slice (some ⟨wr.heap.size, 0, none⟩) 0 0) [] rfl (own_drew HO.out) wr.heap.size At at_ ct (t.take at_) rfl HS.out.drew (by simp <;> omega) (by simp <;> omega) ?_
        intro v4 w4 ho4 hg4 _
        have hb4 : Below wr.heap.size wr w4 := (((Below.refl _ _).alloc (Nat.le_refl _) (.cells #[] 5)).drew).grown hg4 (by simp) (fun k hk => by simp [Value.ownBlock] at hk; omega)
        have HO5 := Lib.hid (ho4.alloc (.cells #[.int .u8 ((cc : Nat) : Int)] 5))
        have HC := Lib.hid (BS.lit w4 [cc] hccb)
        have hb5 : Below wr.heap.size wr (w4.alloc (.cells #[.int .u8 ((cc : Nat) : Int)] 5)) := hb4.alloc hb4.size _
        refine hK1.out _ _ trivial (fun hHeld => ?_)
        clear hK1 K1
        clear ho4 hg4 hb4
        refine wpAnyH_ready (rs := [6]) (by kernel_rfl) (by simp) (AllReadyH.cons rfl (fun K1 hK1 => ?_) AllReadyH.nil)
        go_simp
        refine hK1.out _ _ trivial (fun hHeld => ?_)
        clear hK1 K1
        have HB5 := Lib.hid hb5
        have hz5 := hb5.size
        refine wpAnyH_ready (rs := [7]) (by kernel_rfl) (by simp) (AllReadyH.cons rfl (fun K1 hK1 => ?_) AllReadyH.nil)
        refine step_append_bytes rfl _ _ rfl wr.heap.size v4 (t.take at_) rfl HO5.out _ (some ⟨w4.heap.size, 0, none⟩) 1 1 [cc] rfl HC.out (by rw [List.length_take]; omega) hz5 ?_
        intro v7 w7 ho7 hg7 _
        have hb7 : Below wr.heap.size wr w7 := HB5.out.grown hg7 hz5 HO5.out.block
        have HO7 := Lib.hid ho7
        have HB7 := Lib.hid hb7
        have hz7 := hb7.size
        have HT7 := Lib.hid (show BS w7 wr.heap.size PA (nt - at_) (t.drop at_) from HPA.out ▸ (HBT.out.cut (k := at_) (cap := ct) hatle hct).below hb7)
        refine hK1.out _ _ trivial (fun hHeld => ?_)
        clear hK1 K1
        clear ho7 hg7 hb7
        refine wpAnyH_ready (rs := [11]) (by kernel_rfl) (by simp) (AllReadyH.cons rfl (fun K1 hK1 => ?_) AllReadyH.nil)
        refine step_append_bytes rfl _ _ rfl wr.heap.size v7 (t.take at_ ++ [cc]) rfl HO7.out wr.heap.size PA (nt - at_) (ct - at_) (t.drop at_) rfl HT7.out (by rw [List.length_append, List.length_take]; simp only [List.length_cons, List.length_nil]; omega) hz7 ?_
        intro v9 w9 ho9 hg9 _
        have hb9 : Below wr.heap.size wr w9 := HB7.out.grown hg9 hz7 HO7.out.block
        have hlen9 : ((t.take at_ ++ [cc]) ++ t.drop at_).length = nt + 1 := by
          rw [List.length_append, List.length_append, List.length_take, List.length_drop, HTL.out]; simp only [List.length_cons, List.length_nil]; omega
        have HLEN9 := Lib.hid hlen9
        have HO9 := Lib.hid ho9
        have HB9 := Lib.hid hb9
        obtain ⟨A9, c9, rfl, _, _, _⟩ := ho9.at_ hlen9
        refine hK1.out _ _ trivial (fun hHeld => ?_)
        clear hK1 K1
        clear ho9 hg9 hb9 hlen9
        refine wpAnyH_take (i := 12) (oi := ⟨some 10, _, _, _, _, _⟩) (v := ?_) rfl (by kernel_rfl) (by kernel_rfl) (by kernel_rfl) (fun _ _ _ h => h) (Or.inl ⟨by rfl, ?_⟩) hHeld ?_
        rotate_left
        · intro W hW; go_simp <;> with_reducible rfl
        simp only [Act.put, List.setIfInBounds_toArray]
        refine wpAnyH_done (by kernel_rfl) ?_ _
        have hTg := cor_gt t at_ cc HTE.out hcc
        have hTm : ∃ a, decM ((t.take at_ ++ [cc]) ++ t.drop at_) true = .bad a := cor_bad t at_ cc hcc hcc2
        obtain ⟨T, hT⟩ : ∃ T, (t.take at_ ++ [cc]) ++ t.drop at_ = T := ⟨_, rfl⟩
        rw [hT] at HO9 hTg hTm
        have HTeq := Lib.hid (show T = t.take at_ ++ cc :: t.drop at_ by rw [← hT]; simp)
        have HTG := Lib.hid hTg
        obtain ⟨ab, hab⟩ := hTm
        have HDM := Lib.hid hab
        have hbel9 : Below w.heap.size w w9 := HBW.out.trans (HB9.out.mono hBr)
        have HE9 := Lib.hid (HG.out.below hbel9 hpos)
        have HBEL9 := Lib.hid hbel9
        have hz9 := HB9.out.size
        obtain ⟨A9', c9', e9, hc9, hm9, hbs9⟩ := HO9.out.at_ (n := nt + 1) (by rw [← hT]; exact HLEN9.out)
        injection e9 with e91 _ e93
        subst e91 e93
        have HBS9 := Lib.hid hbs9
        clear hTg hab hbel9 hbs9 hT
        go_wp2_with fail
        refine (implDecode_any A9 (nt + 1) c9 T true w9 w9.heap.size (Nat.le_refl _) hc9 hm9 (by omega) HBS9.out HE9.out).mono ?_
        rintro e w10 ⟨v10, rfl, hv10, hb10⟩
        rw [HDM.out] at hv10 ⊢
        simp only [outOf] at hv10
        simp only [usedOf, badOf, atOf, Int.natCast_zero]
        obtain ⟨A10, c10, rfl, _, _, bs10⟩ := hv10.at_ (n := 0) rfl
        have hz10 := hb10.size
        have HBS10 := Lib.hid bs10
        have HB10 := Lib.hid hb10
        clear hv10 bs10 hb10
        go_wp2
        go_loopw [15, 16] (fun v i wl => LsRel w10 (nt + 1 + n0 + 10) v i wl) (fun _ i _ => nt + 1 + n0 + 10 - (intOf i).toNat)
        case atStart => exact ⟨0, ⟨Nat.zero_le _, World.ownsRow_made w10 #[] 0 (Nat.le_refl _) (Nat.zero_le _) rfl, (Below.refl _ _).alloc (Nat.le_refl _) _⟩, rfl⟩
        case round =>
          obtain ⟨k, hR, rfl⟩ := hrel
          obtain ⟨wl, rfl⟩ : ∃ wl : World, wl = wr := ⟨_, rfl⟩
          have hkt := hR.kt
          have hbl := hR.bel.size
          have HRL := Lib.hid hR
          clear hR
          by_cases hk : k < nt + 1 + n0 + 10
          · have e1 : decide ((k : Int) < (nt : Int) + 1 + (n0 : Int) + 10) = true := decide_eq_true (by omega)
            go_wp2_with (at_builtin; refine wpList_append_src _ (o := ⟨some 90, _, _, _, _, _⟩) rfl _ _ 29 rfl w10.heap.size 30 i16 (.int .u16 0) 1 Tryd.underlying29 HI.out HZ.out HSZ.out rfl (by omega) _ k (List.replicate k (.int .u16 64)) rfl (HRL.out.row.alloc _) _ 1 1 [.int .u16 64] rfl ?hs (by simp [Value.oneCell']) (by unfold maxLen; omega) (by rw [HBY.out]; omega) ?hb ?_)
            case hs => exact src_one _ _ _ _ (by simp)
            case hb => first | omega | (simp; omega)
            intro v11 w11 hrow11 hg11 _
            have hb11 : Below w10.heap.size wl w11 := ((Below.refl _ _).alloc hbl _).grown hg11 (by simp; omega) (fun k' e => (HRL.out.row.lt k' e).1)
            have HF : LsR w10 (nt + 1 + n0 + 10) w11 v11 (k + 1) := ⟨hk, by rw [List.replicate_succ']; exact hrow11, HRL.out.bel.trans hb11⟩
            have HFF := Lib.hid HF
            clear HF hrow11 hg11 hb11
            go_wp2
            exact ⟨⟨k + 1, HFF.out, by simp⟩, by simp [intOf]; omega⟩
          · obtain rfl : k = nt + 1 + n0 + 10 := by omega
            have e1 : decide (((nt + 1 + n0 + 10 : Nat) : Int) < (nt : Int) + 1 + (n0 : Int) + 10) = false := decide_eq_false (by omega)
            obtain ⟨A12, c12, hv12, h64⟩ := sixty_of HRL.out.row
            obtain ⟨tot, htot⟩ : ∃ tot, nt + 1 + n0 + 10 = tot := ⟨_, rfl⟩
            have hti : (nt : Int) + 1 + (n0 : Int) + 10 = (tot : Int) := by omega
            rw [htot] at hv12 h64 e1
            subst hv12
            have hbel12 : Below w.heap.size w wl := HBEL9.out.trans ((HB10.out.mono (Nat.le_trans hBr hz9)).trans (HRL.out.bel.mono (by omega)))
            have HBEL12 := Lib.hid hbel12
            have HE12 := Lib.hid (HG.out.below hbel12 hpos)
            have HBS12 := Lib.hid ((((HBS9.out.below HB10.out).mono hz10).below HRL.out.bel).mono hbl)
            have HBSO := Lib.hid ((HBS10.out.below HRL.out.bel).mono hbl)
            have H64 := Lib.hid h64
            have htn : n0 < tot := by omega
            have hts : tot ≤ 1073741824 := by omega
            have e2 : decide ((tot : Int) < (tot : Int)) = false := decide_eq_false (by omega)
            clear hbel12 h64 htot e1
            go_wp2_with fail
            refine (decodeParts_any A9 (nt + 1) c9 T pz A12 tot c12 l0 (t.take at_) (t.drop at_) cc wl HBS12.out (by omega) hpz H64.out hts HTeq.out hcc hcc2 HB0.out.lt ⟨t.drop at_, by rw [List.take_append_drop, HTE.out]⟩ HTG.out (by rw [HB0.out.len]; exact htn) (by rw [HB0.out.len]; omega) HE12.out).mono ?_
            rintro e w13 ⟨v13, del, rfl, hv13, ⟨Y, hY⟩, hb13⟩
            obtain ⟨dl, hdl⟩ : ∃ dl, del.length = dl := ⟨_, rfl⟩
            obtain ⟨A13, c13, rfl, hc13, hm13, bs13⟩ := hv13.at_ hdl
            have hdn : dl ≤ n0 := by rw [← HB0.out.len, hY, List.length_append, hdl]; omega
            have htk : l0.take dl = del := by rw [hY, ← hdl, List.take_left]
            have hbel13 : Below w.heap.size w w13 := HBEL12.out.trans (hb13.mono (by have := HBEL12.out.size; omega))
            have b13 := HB0.out.below hbel13
            have b130 := b13.take (k := 0) (Nat.zero_le _)
            have b13d := b13.take (k := dl) hdn
            rw [htk] at b13d
            rw [List.take_zero] at b130
            have bso := HBSO.out.below hb13
            have HX1 := Lib.hid b130
            have HX2 := Lib.hid b13d
            have HX3 := Lib.hid bso
            have HX4 := Lib.hid bs13
            have HBEL13 := Lib.hid hbel13
            have e3 : decide (dl ≤ n0) = true := decide_eq_true hdn
            have hdc : dl ≤ c0 := by omega
            clear b13 b130 b13d bso bs13 hbel13 hb13 hY htk hdl hv13
            go_wp2_with fail
            refine (equal_any A10 0 c10 A0 0 c0 [] [] w13 _ _ HX3.out HX1.out).mono ?_
            rintro e w14 ⟨rfl, rfl⟩
            rw [decide_eq_true rfl]
            go_wp2_with fail
            refine (equal_any A13 dl c13 A0 dl c0 del del w13 _ _ HX4.out HX2.out).mono ?_
            rintro e w15 ⟨rfl, rfl⟩
            rw [decide_eq_true rfl]
            go_wp2
            go_ret
            exact ⟨by simp, HBEL13.out⟩
    · as_aux_lemma =>
        go_simp
        refine hK1.out _ _ trivial (fun hHeld => ?_)
        clear hK1 K1
        have HO := Lib.hid ((Own.empty wr).alloc (.cells #[.int .u8 ((cc : Nat) : Int)] 5))
        have HS := Lib.hid (((HBT.out.take hatle).alloc (Nat.le_refl _) (.cells #[] 5)).alloc (by simp) (.cells #[.int .u8 ((cc : Nat) : Int)] 5))
        have hc0 := BS.lit (wr.alloc (.cells #[] 5)) [cc] hccb
        simp only [World.size_alloc] at hc0
        have HC0 := Lib.hid hc0
        clear hc0
        refine wpAnyH_ready (rs := [4]) (by kernel_rfl) (by simp) (AllReadyH.cons rfl (fun K1 hK1 => ?_) AllReadyH.nil)
        refine step_append_bytes rfl _ _ rfl wr.heap.size (.slice (some ⟨wr.heap.size, 0, none⟩) 0 0) [] rfl (own_drew HO.out) wr.heap.size At at_ ct (t.take at_) rfl HS.out.drew (by simp <;> omega) (by simp <;> omega) ?_
        intro v4 w4 ho4 hg4 _
        have hb5 : Below wr.heap.size wr w4 := ((((Below.refl _ _).alloc (Nat.le_refl _) (.cells #[] 5)).alloc (by simp) (.cells #[.int .u8 ((cc : Nat) : Int)] 5)).drew).grown hg4 (by simp; omega) (fun k hk => by simp [Value.ownBlock] at hk; omega)
        have HO5 := Lib.hid ho4
        have HC := Lib.hid (bs_grown HC0.out.drew hg4 (by simp) (fun a e => by injection e with e; subst e; simp [Value.ownBlock]))
        refine hK1.out _ _ trivial (fun hHeld => ?_)
        clear hK1 K1
        clear ho4 hg4
        have HB5 := Lib.hid hb5
        have hz5 := hb5.size
        refine wpAnyH_ready (rs := [7]) (by kernel_rfl) (by simp) (AllReadyH.cons rfl (fun K1 hK1 => ?_) AllReadyH.nil)
        refine step_append_bytes rfl _ _ rfl wr.heap.size v4 (t.take at_) rfl HO5.out _ (some ⟨wr.heap.size + 1, 0, none⟩) 1 1 [cc] rfl HC.out (by rw [List.length_take]; omega) hz5 ?_
        intro v7 w7 ho7 hg7 _
        have hb7 : Below wr.heap.size wr w7 := HB5.out.grown hg7 hz5 HO5.out.block
        have HO7 := Lib.hid ho7
        have HB7 := Lib.hid hb7
        have hz7 := hb7.size
        have HT7 := Lib.hid (show BS w7 wr.heap.size PA (nt - at_) (t.drop at_) from HPA.out ▸ (HBT.out.cut (k := at_) (cap := ct) hatle hct).below hb7)
        refine hK1.out _ _ trivial (fun hHeld => ?_)
        clear hK1 K1
        clear ho7 hg7 hb7
        refine wpAnyH_ready (rs := [11]) (by kernel_rfl) (by simp) (AllReadyH.cons rfl (fun K1 hK1 => ?_) AllReadyH.nil)
        refine step_append_bytes rfl _ _ rfl wr.heap.size v7 (t.take at_ ++ [cc]) rfl HO7.out wr.heap.size PA (nt - at_) (ct - at_) (t.drop at_) rfl HT7.out (by rw [List.length_append, List.length_take]; simp only [List.length_cons, List.length_nil]; omega) hz7 ?_
        intro v9 w9 ho9 hg9 _
        have hb9 : Below wr.heap.size wr w9 := HB7.out.grown hg9 hz7 HO7.out.block
        have hlen9 : ((t.take at_ ++ [cc]) ++ t.drop at_).length = nt + 1 := by
          rw [List.length_append, List.length_append, List.length_take, List.length_drop, HTL.out]; simp only [List.length_cons, List.length_nil]; omega
        have HLEN9 := Lib.hid hlen9
        have HO9 := Lib.hid ho9
        have HB9 := Lib.hid hb9
        obtain ⟨A9, c9, rfl, _, _, _⟩ := ho9.at_ hlen9
        refine hK1.out _ _ trivial (fun hHeld => ?_)
        clear hK1 K1
        clear ho9 hg9 hb9 hlen9
        refine wpAnyH_take (i := 12) (oi := ⟨some 10, _, _, _, _, _⟩) (v := ?_) rfl (by kernel_rfl) (by kernel_rfl) (by kernel_rfl) (fun _ _ _ h => h) (Or.inl ⟨by rfl, ?_⟩) hHeld ?_
        rotate_left
        · intro W hW; go_simp <;> with_reducible rfl
        simp only [Act.put, List.setIfInBounds_toArray]
        refine wpAnyH_done (by kernel_rfl) ?_ _
        have hTg := cor_gt t at_ cc HTE.out hcc
        have hTm : ∃ a, decM ((t.take at_ ++ [cc]) ++ t.drop at_) true = .bad a := cor_bad t at_ cc hcc hcc2
        obtain ⟨T, hT⟩ : ∃ T, (t.take at_ ++ [cc]) ++ t.drop at_ = T := ⟨_, rfl⟩
        rw [hT] at HO9 hTg hTm
        have HTeq := Lib.hid (show T = t.take at_ ++ cc :: t.drop at_ by rw [← hT]; simp)
        have HTG := Lib.hid hTg
        obtain ⟨ab, hab⟩ := hTm
        have HDM := Lib.hid hab
        have hbel9 : Below w.heap.size w w9 := HBW.out.trans (HB9.out.mono hBr)
        have HE9 := Lib.hid (HG.out.below hbel9 hpos)
        have HBEL9 := Lib.hid hbel9
        have hz9 := HB9.out.size
        obtain ⟨A9', c9', e9, hc9, hm9, hbs9⟩ := HO9.out.at_ (n := nt + 1) (by rw [← hT]; exact HLEN9.out)
        injection e9 with e91 _ e93
        subst e91 e93
        have HBS9 := Lib.hid hbs9
        clear hTg hab hbel9 hbs9 hT
        go_wp2_with fail
        refine (implDecode_any A9 (nt + 1) c9 T true w9 w9.heap.size (Nat.le_refl _) hc9 hm9 (by omega) HBS9.out HE9.out).mono ?_
        rintro e w10 ⟨v10, rfl, hv10, hb10⟩
        rw [HDM.out] at hv10 ⊢
        simp only [outOf] at hv10
        simp only [usedOf, badOf, atOf, Int.natCast_zero]
        obtain ⟨A10, c10, rfl, _, _, bs10⟩ := hv10.at_ (n := 0) rfl
        have hz10 := hb10.size
        have HBS10 := Lib.hid bs10
        have HB10 := Lib.hid hb10
        clear hv10 bs10 hb10
        go_wp2
        go_loopw [15, 16] (fun v i wl => LsRel w10 (nt + 1 + n0 + 10) v i wl) (fun _ i _ => nt + 1 + n0 + 10 - (intOf i).toNat)
        case atStart => exact ⟨0, ⟨Nat.zero_le _, World.ownsRow_made w10 #[] 0 (Nat.le_refl _) (Nat.zero_le _) rfl, (Below.refl _ _).alloc (Nat.le_refl _) _⟩, rfl⟩
        case round =>
          obtain ⟨k, hR, rfl⟩ := hrel
          obtain ⟨wl, rfl⟩ : ∃ wl : World, wl = wr := ⟨_, rfl⟩
          have hkt := hR.kt
          have hbl := hR.bel.size
          have HRL := Lib.hid hR
          clear hR
          by_cases hk : k < nt + 1 + n0 + 10
          · have e1 : decide ((k : Int) < (nt : Int) + 1 + (n0 : Int) + 10) = true := decide_eq_true (by omega)
            go_wp2_with (at_builtin; refine wpList_append_src _ (o := ⟨some 90, _, _, _, _, _⟩) rfl _ _ 29 rfl w10.heap.size 30 i16 (.int .u16 0) 1 Tryd.underlying29 HI.out HZ.out HSZ.out rfl (by omega) _ k (List.replicate k (.int .u16 64)) rfl (HRL.out.row.alloc _) _ 1 1 [.int .u16 64] rfl ?hs (by simp [Value.oneCell']) (by unfold maxLen; omega) (by rw [HBY.out]; omega) ?hb ?_)
            case hs => exact src_one _ _ _ _ (by simp)
            case hb => first | omega | (simp; omega)
            intro v11 w11 hrow11 hg11 _
            have hb11 : Below w10.heap.size wl w11 := ((Below.refl _ _).alloc hbl _).grown hg11 (by simp; omega) (fun k' e => (HRL.out.row.lt k' e).1)
            have HF : LsR w10 (nt + 1 + n0 + 10) w11 v11 (k + 1) := ⟨hk, by rw [List.replicate_succ']; exact hrow11, HRL.out.bel.trans hb11⟩
            have HFF := Lib.hid HF
            clear HF hrow11 hg11 hb11
            go_wp2
            exact ⟨⟨k + 1, HFF.out, by simp⟩, by simp [intOf]; omega⟩
          · obtain rfl : k = nt + 1 + n0 + 10 := by omega
            have e1 : decide (((nt + 1 + n0 + 10 : Nat) : Int) < (nt : Int) + 1 + (n0 : Int) + 10) = false := decide_eq_false (by omega)
            obtain ⟨A12, c12, hv12, h64⟩ := sixty_of HRL.out.row
            obtain ⟨tot, htot⟩ : ∃ tot, nt + 1 + n0 + 10 = tot := ⟨_, rfl⟩
            have hti : (nt : Int) + 1 + (n0 : Int) + 10 = (tot : Int) := by omega
            rw [htot] at hv12 h64 e1
            subst hv12
            have hbel12 : Below w.heap.size w wl := HBEL9.out.trans ((HB10.out.mono (Nat.le_trans hBr hz9)).trans (HRL.out.bel.mono (by omega)))
            have HBEL12 := Lib.hid hbel12
            have HE12 := Lib.hid (HG.out.below hbel12 hpos)
            have HBS12 := Lib.hid ((((HBS9.out.below HB10.out).mono hz10).below HRL.out.bel).mono hbl)
            have HBSO := Lib.hid ((HBS10.out.below HRL.out.bel).mono hbl)
            have H64 := Lib.hid h64
            have htn : n0 < tot := by omega
            have hts : tot ≤ 1073741824 := by omega
            have e2 : decide ((tot : Int) < (tot : Int)) = false := decide_eq_false (by omega)
            clear hbel12 h64 htot e1
            go_wp2_with fail
            refine (decodeParts_any A9 (nt + 1) c9 T pz A12 tot c12 l0 (t.take at_) (t.drop at_) cc wl HBS12.out (by omega) hpz H64.out hts HTeq.out hcc hcc2 HB0.out.lt ⟨t.drop at_, by rw [List.take_append_drop, HTE.out]⟩ HTG.out (by rw [HB0.out.len]; exact htn) (by rw [HB0.out.len]; omega) HE12.out).mono ?_
            rintro e w13 ⟨v13, del, rfl, hv13, ⟨Y, hY⟩, hb13⟩
            obtain ⟨dl, hdl⟩ : ∃ dl, del.length = dl := ⟨_, rfl⟩
            obtain ⟨A13, c13, rfl, hc13, hm13, bs13⟩ := hv13.at_ hdl
            have hdn : dl ≤ n0 := by rw [← HB0.out.len, hY, List.length_append, hdl]; omega
            have htk : l0.take dl = del := by rw [hY, ← hdl, List.take_left]
            have hbel13 : Below w.heap.size w w13 := HBEL12.out.trans (hb13.mono (by have := HBEL12.out.size; omega))
            have b13 := HB0.out.below hbel13
            have b130 := b13.take (k := 0) (Nat.zero_le _)
            have b13d := b13.take (k := dl) hdn
            rw [htk] at b13d
            rw [List.take_zero] at b130
            have bso := HBSO.out.below hb13
            have HX1 := Lib.hid b130
            have HX2 := Lib.hid b13d
            have HX3 := Lib.hid bso
            have HX4 := Lib.hid bs13
            have HBEL13 := Lib.hid hbel13
            have e3 : decide (dl ≤ n0) = true := decide_eq_true hdn
            have hdc : dl ≤ c0 := by omega
            clear b13 b130 b13d bso bs13 hbel13 hb13 hY htk hdl hv13
            go_wp2_with fail
            refine (equal_any A10 0 c10 A0 0 c0 [] [] w13 _ _ HX3.out HX1.out).mono ?_
            rintro e w14 ⟨rfl, rfl⟩
            rw [decide_eq_true rfl]
            go_wp2_with fail
            refine (equal_any A13 dl c13 A0 dl c0 del del w13 _ _ HX4.out HX2.out).mono ?_
            rintro e w15 ⟨rfl, rfl⟩
            rw [decide_eq_true rfl]
            go_wp2
            go_ret
            exact ⟨by simp, HBEL13.out⟩
  · as_aux_lemma =>
      go_simp
      refine hK1.out _ _ trivial (fun hHeld => ?_)
      clear hK1 K1
      refine wpAnyH_ready (rs := [0]) (by kernel_rfl) (by simp) (AllReadyH.cons rfl (fun K1 hK1 => ?_) AllReadyH.nil)
      go_simp
      refine hK1.out _ _ trivial (fun hHeld => ?_)
      clear hK1 K1
      have ho0 := (Own.empty (wr.alloc (.cells #[.int .u8 ((cc : Nat) : Int)] 5))).mono (base' := wr.heap.size) (by simp)
      simp only [World.size_alloc] at ho0
      have HO := Lib.hid ho0
      clear ho0
      have HS := Lib.hid (((HBT.out.take hatle).alloc (Nat.le_refl _) (.cells #[.int .u8 ((cc : Nat) : Int)] 5)).alloc (by simp) (.cells #[] 5))
      have HC0 := Lib.hid ((BS.lit wr [cc] hccb).alloc (by simp) (.cells #[] 5))
      refine wpAnyH_ready (rs := [4]) (by kernel_rfl) (by simp) (AllReadyH.cons rfl (fun K1 hK1 => ?_) AllReadyH.nil)
      refine step_append_bytes rfl _ _ rfl wr.heap.size (.slice (some ⟨wr.heap.size + 1, 0, none⟩) 0 0) [] rfl (own_drew HO.out) wr.heap.size At at_ ct (t.take at_) rfl HS.out.drew (by simp <;> omega) (by simp <;> omega) ?_
      intro v4 w4 ho4 hg4 _
      have hb5 : Below wr.heap.size wr w4 := ((((Below.refl _ _).alloc (Nat.le_refl _) (.cells #[.int .u8 ((cc : Nat) : Int)] 5)).alloc (by simp) (.cells #[] 5)).drew).grown hg4 (by simp; omega) (fun k hk => by simp [Value.ownBlock] at hk; omega)
      have HO5 := Lib.hid ho4
      have HC := Lib.hid (bs_grown HC0.out.drew hg4 (by simp) (fun a e => by injection e with e; subst e; simp [Value.ownBlock]))
      refine hK1.out _ _ trivial (fun hHeld => ?_)
      clear hK1 K1
      clear ho4 hg4
      have HB5 := Lib.hid hb5
      have hz5 := hb5.size
      refine wpAnyH_ready (rs := [7]) (by kernel_rfl) (by simp) (AllReadyH.cons rfl (fun K1 hK1 => ?_) AllReadyH.nil)
      refine step_append_bytes rfl _ _ rfl wr.heap.size v4 (t.take at_) rfl HO5.out _ (some ⟨wr.heap.size, 0, none⟩) 1 1 [cc] rfl HC.out (by rw [List.length_take]; omega) hz5 ?_
      intro v7 w7 ho7 hg7 _
      have hb7 : Below wr.heap.size wr w7 := HB5.out.grown hg7 hz5 HO5.out.block
      have HO7 := Lib.hid ho7
      have HB7 := Lib.hid hb7
      have hz7 := hb7.size
      have HT7 := Lib.hid (show BS w7 wr.heap.size PA (nt - at_) (t.drop at_) from HPA.out ▸ (HBT.out.cut (k := at_) (cap := ct) hatle hct).below hb7)
      refine hK1.out _ _ trivial (fun hHeld => ?_)
      clear hK1 K1
      clear ho7 hg7 hb7
      refine wpAnyH_ready (rs := [11]) (by kernel_rfl) (by simp) (AllReadyH.cons rfl (fun K1 hK1 => ?_) AllReadyH.nil)
      refine step_append_bytes rfl _ _ rfl wr.heap.size v7 (t.take at_ ++ [cc]) rfl HO7.out wr.heap.size PA (nt - at_) (ct - at_) (t.drop at_) rfl HT7.out (by rw [List.length_append, List.length_take]; simp only [List.length_cons, List.length_nil]; omega) hz7 ?_
      intro v9 w9 ho9 hg9 _
      have hb9 : Below wr.heap.size wr w9 := HB7.out.grown hg9 hz7 HO7.out.block
      have hlen9 : ((t.take at_ ++ [cc]) ++ t.drop at_).length = nt + 1 := by
        rw [List.length_append, List.length_append, List.length_take, List.length_drop, HTL.out]; simp only [List.length_cons, List.length_nil]; omega
      have HLEN9 := Lib.hid hlen9
      have HO9 := Lib.hid ho9
      have HB9 := Lib.hid hb9
      obtain ⟨A9, c9, rfl, _, _, _⟩ := ho9.at_ hlen9
      refine hK1.out _ _ trivial (fun hHeld => ?_)
      clear hK1 K1
      clear ho9 hg9 hb9 hlen9
      refine wpAnyH_take (i := 12) (oi := ⟨some 10, _, _, _, _, _⟩) (v := ?_) rfl (by kernel_rfl) (by kernel_rfl) (by kernel_rfl) (fun _ _ _ h => h) (Or.inl ⟨by rfl, ?_⟩) hHeld ?_
      rotate_left
      · intro W hW; go_simp <;> with_reducible rfl
      simp only [Act.put, List.setIfInBounds_toArray]
      refine wpAnyH_done (by kernel_rfl) ?_ _
      have hTg := cor_gt t at_ cc HTE.out hcc
      have hTm : ∃ a, decM ((t.take at_ ++ [cc]) ++ t.drop at_) true = .bad a := cor_bad t at_ cc hcc hcc2
      obtain ⟨T, hT⟩ : ∃ T, (t.take at_ ++ [cc]) ++ t.drop at_ = T := ⟨_, rfl⟩
      rw [hT] at HO9 hTg hTm
      have HTeq := Lib.hid (show T = t.take at_ ++ cc :: t.drop at_ by rw [← hT]; simp)
      have HTG := Lib.hid hTg
      obtain ⟨ab, hab⟩ := hTm
      have HDM := Lib.hid hab
      have hbel9 : Below w.heap.size w w9 := HBW.out.trans (HB9.out.mono hBr)
      have HE9 := Lib.hid (HG.out.below hbel9 hpos)
      have HBEL9 := Lib.hid hbel9
      have hz9 := HB9.out.size
      obtain ⟨A9', c9', e9, hc9, hm9, hbs9⟩ := HO9.out.at_ (n := nt + 1) (by rw [← hT]; exact HLEN9.out)
      injection e9 with e91 _ e93
      subst e91 e93
      have HBS9 := Lib.hid hbs9
      clear hTg hab hbel9 hbs9 hT
      go_wp2_with fail
      refine (implDecode_any A9 (nt + 1) c9 T true w9 w9.heap.size (Nat.le_refl _) hc9 hm9 (by omega) HBS9.out HE9.out).mono ?_
      rintro e w10 ⟨v10, rfl, hv10, hb10⟩
      rw [HDM.out] at hv10 ⊢
      simp only [outOf] at hv10
      simp only [usedOf, badOf, atOf, Int.natCast_zero]
      obtain ⟨A10, c10, rfl, _, _, bs10⟩ := hv10.at_ (n := 0) rfl
      have hz10 := hb10.size
      have HBS10 := Lib.hid bs10
      have HB10 := Lib.hid hb10
      clear hv10 bs10 hb10
      go_wp2
      go_loopw [15, 16] (fun v i wl => LsRel w10 (nt + 1 + n0 + 10) v i wl) (fun _ i _ => nt + 1 + n0 + 10 - (intOf i).toNat)
      case atStart => exact ⟨0, ⟨Nat.zero_le _, World.ownsRow_made w10 #[] 0 (Nat.le_refl _) (Nat.zero_le _) rfl, (Below.refl _ _).alloc (Nat.le_refl _) _⟩, rfl⟩
      case round =>
        obtain ⟨k, hR, rfl⟩ := hrel
        obtain ⟨wl, rfl⟩ : ∃ wl : World, wl = wr := ⟨_, rfl⟩
        have hkt := hR.kt
        have hbl := hR.bel.size
        have HRL := Lib.hid hR
        clear hR
        by_cases hk : k < nt + 1 + n0 + 10
        · have e1 : decide ((k : Int) < (nt : Int) + 1 + (n0 : Int) + 10) = true := decide_eq_true (by omega)
          go_wp2_with (at_builtin; refine wpList_append_src _ (o := ⟨some 90, _, _, _, _, _⟩) rfl _ _ 29 rfl w10.heap.size 30 i16 (.int .u16 0) 1 Tryd.underlying29 HI.out HZ.out HSZ.out rfl (by omega) _ k (List.replicate k (.int .u16 64)) rfl (HRL.out.row.alloc _) _ 1 1 [.int .u16 64] rfl ?hs (by simp [Value.oneCell']) (by unfold maxLen; omega) (by rw [HBY.out]; omega) ?hb ?_)
          case hs => exact src_one _ _ _ _ (by simp)
          case hb => first | omega | (simp; omega)
          intro v11 w11 hrow11 hg11 _
          have hb11 : Below w10.heap.size wl w11 := ((Below.refl _ _).alloc hbl _).grown hg11 (by simp; omega) (fun k' e => (HRL.out.row.lt k' e).1)
          have HF : LsR w10 (nt + 1 + n0 + 10) w11 v11 (k + 1) := ⟨hk, by rw [List.replicate_succ']; exact hrow11, HRL.out.bel.trans hb11⟩
          have HFF := Lib.hid HF
          clear HF hrow11 hg11 hb11
          go_wp2
          exact ⟨⟨k + 1, HFF.out, by simp⟩, by simp [intOf]; omega⟩
        · obtain rfl : k = nt + 1 + n0 + 10 := by omega
          have e1 : decide (((nt + 1 + n0 + 10 : Nat) : Int) < (nt : Int) + 1 + (n0 : Int) + 10) = false := decide_eq_false (by omega)
          obtain ⟨A12, c12, hv12, h64⟩ := sixty_of HRL.out.row
          obtain ⟨tot, htot⟩ : ∃ tot, nt + 1 + n0 + 10 = tot := ⟨_, rfl⟩
          have hti : (nt : Int) + 1 + (n0 : Int) + 10 = (tot : Int) := by omega
          rw [htot] at hv12 h64 e1
          subst hv12
          have hbel12 : Below w.heap.size w wl := HBEL9.out.trans ((HB10.out.mono (Nat.le_trans hBr hz9)).trans (HRL.out.bel.mono (by omega)))
          have HBEL12 := Lib.hid hbel12
          have HE12 := Lib.hid (HG.out.below hbel12 hpos)
          have HBS12 := Lib.hid ((((HBS9.out.below HB10.out).mono hz10).below HRL.out.bel).mono hbl)
          have HBSO := Lib.hid ((HBS10.out.below HRL.out.bel).mono hbl)
          have H64 := Lib.hid h64
          have htn : n0 < tot := by omega
          have hts : tot ≤ 1073741824 := by omega
          have e2 : decide ((tot : Int) < (tot : Int)) = false := decide_eq_false (by omega)
          clear hbel12 h64 htot e1
          go_wp2_with fail
          refine (decodeParts_any A9 (nt + 1) c9 T pz A12 tot c12 l0 (t.take at_) (t.drop at_) cc wl HBS12.out (by omega) hpz H64.out hts HTeq.out hcc hcc2 HB0.out.lt ⟨t.drop at_, by rw [List.take_append_drop, HTE.out]⟩ HTG.out (by rw [HB0.out.len]; exact htn) (by rw [HB0.out.len]; omega) HE12.out).mono ?_
          rintro e w13 ⟨v13, del, rfl, hv13, ⟨Y, hY⟩, hb13⟩
          obtain ⟨dl, hdl⟩ : ∃ dl, del.length = dl := ⟨_, rfl⟩
          obtain ⟨A13, c13, rfl, hc13, hm13, bs13⟩ := hv13.at_ hdl
          have hdn : dl ≤ n0 := by rw [← HB0.out.len, hY, List.length_append, hdl]; omega
          have htk : l0.take dl = del := by rw [hY, ← hdl, List.take_left]
          have hbel13 : Below w.heap.size w w13 := HBEL12.out.trans (hb13.mono (by have := HBEL12.out.size; omega))
          have b13 := HB0.out.below hbel13
          have b130 := b13.take (k := 0) (Nat.zero_le _)
          have b13d := b13.take (k := dl) hdn
          rw [htk] at b13d
          rw [List.take_zero] at b130
          have bso := HBSO.out.below hb13
          have HX1 := Lib.hid b130
          have HX2 := Lib.hid b13d
          have HX3 := Lib.hid bso
          have HX4 := Lib.hid bs13
          have HBEL13 := Lib.hid hbel13
          have e3 : decide (dl ≤ n0) = true := decide_eq_true hdn
          have hdc : dl ≤ c0 := by omega
          clear b13 b130 b13d bso bs13 hbel13 hb13 hY htk hdl hv13
          go_wp2_with fail
          refine (equal_any A10 0 c10 A0 0 c0 [] [] w13 _ _ HX3.out HX1.out).mono ?_
          rintro e w14 ⟨rfl, rfl⟩
          rw [decide_eq_true rfl]
          go_wp2_with fail
          refine (equal_any A13 dl c13 A0 dl c0 del del w13 _ _ HX4.out HX2.out).mono ?_
          rintro e w15 ⟨rfl, rfl⟩
          rw [decide_eq_true rfl]
          go_wp2
          go_ret
          exact ⟨by simp, HBEL13.out⟩

end Go.Proofs.YthhbcnjbnfjiiaaDoor.fnCorruptBoth

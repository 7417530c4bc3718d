/-
  The walk of the law FnSpaces (in full): it returns true and changes nothing that was there. FnSpaces, for every input: bytes up to the space, wherever they stand, change nothing for the decoder. Condition: errors.errorType is as the row lists it.
-/
import Derived.Test.YthhbcnjbnfjiiaaDoorProg
import Derived.Test.YthhbcnjbnfjiiaaDoorOpenArgs
import Derived.WalkKit
import Derived.Below
import Derived.WalkSmall
import Derived.Lib.Hide
import Derived.Test.YthhbcnjbnfjiiaaDoorImplDec
import Derived.Test.YthhbcnjbnfjiiaaDoorImplEnc
import Derived.Test.YthhbcnjbnfjiiaaDoorPlainDec3
import Derived.Test.YthhbcnjbnfjiiaaDoorEqual
import Derived.Test.YthhbcnjbnfjiiaaDoorStepApp
import Derived.Test.YthhbcnjbnfjiiaaDoorDoorKit
import Derived.Deep.RegionHeld3
namespace Go.Proofs.YthhbcnjbnfjiiaaDoor.fnSpaces
open Go.RowKit
set_option linter.unusedVariables false

open Plain85 (enc)
theorem ins_filter (t : List Nat) (p c : Nat) (hc : c ≤ 32) : ((t.take p ++ [c]) ++ t.drop p).filter (fun x => decide (32 < x)) = t.filter (fun x => decide (32 < x)) := by
  rw [List.filter_append, List.filter_append, show [c].filter (fun x => decide (32 < x)) = [] by simp; omega, List.append_nil, ← List.filter_append, List.take_append_drop]
theorem dec_spaces (t l : List Nat) (hl : ∀ x ∈ l, x < 256) (h : t.filter (fun x => decide (32 < x)) = enc l) : outOf (decM t true) = l ∧ badOf (decM t true) = false := by
  have hlen : (enc l).length ≤ t.length := by rw [← h]; exact List.length_filter_le _ _
  have hge := PlainDec.enc_len_ge l
  have hs := PlainDec.dgo_strip (room := 4 * t.length + 4) (room' := 4 * t.length + 4) (n := t.length) (n' := 0) (flush := true) t 0 0 PlainDec.init PlainDec.init rfl rfl rfl (by simp [PlainDec.init]) (by simp [PlainDec.init])
  rw [h, PlainDec.dgo_enc l hl (by omega)] at hs
  unfold decM
  cases hd : PlainDec.dgo (4 * t.length + 4) true t.length t 0 PlainDec.init with
  | bad a => rw [hd] at hs; exact absurd hs id
  | ok o u => rw [hd] at hs; exact ⟨hs, rfl⟩
theorem bs_grown {w w' : World} {row : Option Nat} {B : Nat} {A : Option Addr} {n : Nat} {l : List Nat} (h : BS w B A n l) (hg : w.grownBy w' row) (hB : B ≤ w.heap.size) (hne : ∀ a, A = some a → row ≠ some a.block) : BS w' B A n l :=
  ⟨h.len, h.lt, fun hn => by
    obtain ⟨b, o, e, hb, hc⟩ := h.spot hn
    refine ⟨b, o, e, hb, fun i hi => ?_⟩
    rw [World.cell?_of_block (w := w) (hg.block b (by omega) (fun e' => hne _ e e'.symm))]
    exact hc i hi⟩
theorem own_drew {w : World} {base : Nat} {v : Value} {l : List Nat} (h : Own w base v l) : Own w.drew base v l := h
structure SpR (w : World) (l : List Nat) (A : Option Addr) (n c : Nat) (wr : World) (k : Nat) (t : List Nat) : Prop where
  own : Own wr w.heap.size (.slice A n c) t
  fil : t.filter (fun x => decide (32 < x)) = enc l
  len : t.length = n
  le : n ≤ 200000 + k
  bel : Below w.heap.size w wr
def SpRel (w : World) (l : List Nat) (N : Nat) (i v : Value) (wr : World) : Prop := ∃ k A n c t, SpR w l A n c wr k t ∧ k ≤ N ∧ i = .int .i64 (k : Int) ∧ v = .slice A n c

set_option maxRecDepth 100000 in
set_option maxHeartbeats 8000000 in
theorem walk (A0 : Option Addr) (n0 c0 : Nat) (l0 : List Nat) (A1 : Option Addr) (n1 c1 : Nat) (l1 : List Nat) (A2 : Option Addr) (n2 c2 : Nat) (l2 : List Nat) (w : World) (b0 : BS w w.heap.size A0 n0 l0) (nc0 : n0 ≤ c0) (r0 : c0 ≤ 140737488351232) (b1 : BS w w.heap.size A1 n1 l1) (nc1 : n1 ≤ c1) (r1 : c1 ≤ 140737488351232) (b2 : BS w w.heap.size A2 n2 l2) (nc2 : n2 ≤ c2) (r2 : c2 ≤ 140737488351232) (hg : ErrType w) :
    Calls Tryd.prog 3 #[.slice A0 n0 c0, .slice A1 n1 c1, .slice A2 n2 c2] w fun e w' => e = .returned (.bool true) ∧ Below w.heap.size w w' := by
  have hm0 : c0 ≤ maxLen := by unfold maxLen; omega
  by_cases hbig : 100000 < n0
  · have e0 : decide (100000 < (n0 : Int)) = true := decide_eq_true (by omega)
    go_enter Tryd.func3, Tryd.ntmps3
    go_wp2
    go_ret
    exact ⟨rfl, Below.refl _ _⟩
  have e0 : decide (100000 < (n0 : Int)) = false := decide_eq_false (by omega)
  by_cases hbig1 : 1000 < n1
  · have e1 : decide (1000 < (n1 : Int)) = true := decide_eq_true (by omega)
    go_enter Tryd.func3, Tryd.ntmps3
    go_wp2
    go_ret
    exact ⟨rfl, Below.refl _ _⟩
  have e1 : decide (1000 < (n1 : Int)) = false := decide_eq_false (by omega)
  have hpos := hg.pos
  have HG := Lib.hid hg
  have HB1 := Lib.hid b1
  have HB2 := Lib.hid b2
  clear hg
  go_enter Tryd.func3, Tryd.ntmps3
  go_wp2_with fail
  refine (implEncode_any A0 n0 c0 l0 w w.heap.size (Nat.le_refl _) nc0 hm0 (by omega) b0).mono ?_
  rintro e w1 ⟨v1, rfl, hv1, hb1⟩
  obtain ⟨L, hL⟩ : ∃ L, (enc l0).length = L := ⟨_, rfl⟩
  have HV1 := Lib.hid hv1
  obtain ⟨A1', c1', rfl, _, _, _⟩ := hv1.at_ hL
  have hLle : L ≤ 200000 := by rw [← hL]; have := Plain85.enc_le l0; rw [b0.len] at this; omega
  have HL := Lib.hid hL
  clear hL hv1
  go_wp2
  go_loopw [28, 7] (fun i v wr => SpRel w l0 n1 i v wr) (fun i _ _ => n1 - (intOf i).toNat)
  case atStart => exact ⟨0, A1', L, c1', enc l0, ⟨HV1.out, PlainDec.enc_filter l0, HL.out, by omega, hb1⟩, Nat.zero_le _, rfl, rfl⟩
  case round =>
    obtain ⟨k, At, nt, ct, t, hR, hkn, rfl, rfl⟩ := hrel
    have hbel := hR.bel
    have hB := hbel.size
    have hnt := hR.le
    obtain ⟨A', c', e', hct, hcmt, hbt⟩ := hR.own.at_ hR.len
    injection e' with e1' _ e3'
    subst e1' e3'
    have HBT := Lib.hid hbt
    have HRR := Lib.hid hR
    unfold maxLen at hcmt
    clear hR hbt
    by_cases hlt : k < n1
    · obtain ⟨bp, op, rfl, hbp, hpl⟩ := (HB1.out.below hbel).open_ (by omega)
      have cK := hpl.cell hlt
      have gK := getD_lt hpl.lt k
      have hgp : bp < wr.heap.size := by omega
      clear hpl
      generalize l1.getD k 0 = zk at *
      obtain ⟨at_, hat⟩ : ∃ a, zk * nt / 255 = a := ⟨_, rfl⟩
      have hmul : zk * nt ≤ 255 * nt := Nat.mul_le_mul_right _ (by omega)
      have hatle : at_ ≤ nt := by omega
      have hq : ((zk : Int) * (nt : Int) / 255) = (at_ : Int) := by rw [← hat]; simp
      have hatc : at_ ≤ ct := by omega
      by_cases h0 : 0 < nt
      · clear hat
        by_cases hk2 : k < n2
        · obtain ⟨bk, ok, rfl, hbk, hkl⟩ := (HB2.out.below hbel).open_ (by omega)
          have cC := hkl.cell hk2
          have gC := getD_lt hkl.lt k
          have hgk : bk < wr.heap.size := by omega
          clear hkl
          generalize l2.getD k 0 = zc at *
          obtain ⟨cc, hcz⟩ : ∃ cc, zc % 33 = cc := ⟨_, rfl⟩
          have hcq : ((zc : Int) % 33) = (cc : Int) := by rw [← hcz]; simp
          have hcc : cc ≤ 32 := by omega
          have hccb : ∀ x ∈ [cc], x < 256 := by intro x hx; rcases List.mem_singleton.1 hx with rfl; omega
          clear hcz
          go_wp2_with fail
          refine wp_region_held_drew (S := fun _ => True) (by kernel_rfl) trivial (fun hHeld => ?_)
          refine wpAnyH_take (i := 1) (oi := ⟨some 52, _, _, _, _, _⟩) (v := ?_) rfl (by kernel_rfl) (by kernel_rfl) (by kernel_rfl) (fun _ _ _ h => h) (Or.inl ⟨by rfl, ?_⟩) hHeld ?_
          rotate_left
          · intro W hW; go_simp <;> with_reducible rfl
          simp only [Act.put, List.setIfInBounds_toArray, List.set_cons_zero, List.set_cons_succ]
          refine wpAnyH_take (i := 2) (oi := ⟨some 53, _, _, _, _, _⟩) (v := ?_) rfl (by kernel_rfl) (by kernel_rfl) (by kernel_rfl) (fun _ _ _ h => h) (Or.inl ⟨by rfl, ?_⟩) hHeld ?_
          rotate_left
          · intro W hW; go_simp <;> with_reducible rfl
          simp only [Act.put, List.setIfInBounds_toArray, List.set_cons_zero, List.set_cons_succ]
          refine wpAnyH_take (i := 3) (oi := ⟨some 54, _, _, _, _, _⟩) (v := ?_) rfl (by kernel_rfl) (by kernel_rfl) (by kernel_rfl) (fun _ _ _ h => h) (Or.inl ⟨by rfl, ?_⟩) hHeld ?_
          rotate_left
          · intro W hW; go_simp <;> with_reducible rfl
          simp only [Act.put, List.setIfInBounds_toArray, List.set_cons_zero, List.set_cons_succ]
          refine wpAnyH_take (i := 5) (oi := ⟨some 56, _, _, _, _, _⟩) (v := ?_) rfl (by kernel_rfl) (by kernel_rfl) (by kernel_rfl) (fun _ _ _ h => h) (Or.inl ⟨by rfl, ?_⟩) hHeld ?_
          rotate_left
          · intro W hW; go_simp <;> with_reducible rfl
          simp only [Act.put, List.setIfInBounds_toArray, List.set_cons_zero, List.set_cons_succ]
          refine wpAnyH_take (i := 8) (oi := ⟨some 59, _, _, _, _, _⟩) (v := ?_) rfl (by kernel_rfl) (by kernel_rfl) (by kernel_rfl) (fun _ _ _ h => h) (Or.inl ⟨by rfl, ?_⟩) hHeld ?_
          rotate_left
          · intro W hW; go_simp <;> with_reducible rfl
          simp only [Act.put, List.setIfInBounds_toArray, List.set_cons_zero, List.set_cons_succ]
          refine wpAnyH_take (i := 9) (oi := ⟨some 60, _, _, _, _, _⟩) (v := ?_) rfl (by kernel_rfl) (by kernel_rfl) (by kernel_rfl) (fun _ _ _ h => h) (Or.inl ⟨by rfl, ?_⟩) hHeld ?_
          rotate_left
          · intro W hW; go_simp <;> with_reducible rfl
          simp only [Act.put, List.setIfInBounds_toArray, List.set_cons_zero, List.set_cons_succ]
          refine wpAnyH_take (i := 10) (oi := ⟨some 61, _, _, _, _, _⟩) (v := ?_) rfl (by kernel_rfl) (by kernel_rfl) (by kernel_rfl) (fun _ _ _ h => h) (Or.inl ⟨by rfl, ?_⟩) hHeld ?_
          rotate_left
          · intro W hW; go_simp <;> with_reducible rfl
          simp only [Act.put, List.setIfInBounds_toArray, List.set_cons_zero, List.set_cons_succ]
          refine wpAnyH_ready (rs := [0, 6]) (by kernel_rfl) (by simp) (AllReadyH.cons rfl (fun K1 hK1 => ?_) (AllReadyH.cons rfl (fun K1 hK1 => ?_) AllReadyH.nil))
          · go_simp
            refine hK1.out _ _ trivial (fun hHeld => ?_)
            clear hK1 K1
            refine wpAnyH_ready (rs := [4, 6]) (by kernel_rfl) (by simp) (AllReadyH.cons rfl (fun K1 hK1 => ?_) (AllReadyH.cons rfl (fun K1 hK1 => ?_) AllReadyH.nil))
            · as_aux_lemma =>
                have HO := Lib.hid (Own.empty wr)
                have HS := Lib.hid ((HBT.out.take hatle).alloc (Nat.le_refl _) (.cells #[] 5))
                refine step_append_bytes rfl _ _ rfl wr.heap.size (.slice (some ⟨wr.heap.size, 0, none⟩) 0 0) [] rfl (own_drew HO.out) wr.heap.size At at_ ct (t.take at_) rfl HS.out.drew (by simp <;> omega) (by simp <;> omega) ?_
                intro v4 w4 ho4 hg4 _
                have hb4 : Below wr.heap.size wr w4 := (((Below.refl _ _).alloc (Nat.le_refl _) (.cells #[] 5)).drew).grown hg4 (by simp) (fun k hk => by simp [Value.ownBlock] at hk; omega)
                have HO5 := Lib.hid (ho4.alloc (.cells #[.int .u8 ((cc : Nat) : Int)] 5))
                have HC := Lib.hid (BS.lit w4 [cc] hccb)
                have hb5 : Below wr.heap.size wr (w4.alloc (.cells #[.int .u8 ((cc : Nat) : Int)] 5)) := hb4.alloc hb4.size _
                refine hK1.out _ _ trivial (fun hHeld => ?_)
                clear hK1 K1
                clear ho4 hg4 hb4
                refine wpAnyH_ready (rs := [6]) (by kernel_rfl) (by simp) (AllReadyH.cons rfl (fun K1 hK1 => ?_) AllReadyH.nil)
                go_simp
                refine hK1.out _ _ trivial (fun hHeld => ?_)
                clear hK1 K1
                have HB5 := Lib.hid hb5
                have hz5 := hb5.size
                refine wpAnyH_ready (rs := [7]) (by kernel_rfl) (by simp) (AllReadyH.cons rfl (fun K1 hK1 => ?_) AllReadyH.nil)
                refine step_append_bytes rfl _ _ rfl wr.heap.size v4 (t.take at_) rfl HO5.out _ (some ⟨w4.heap.size, 0, none⟩) 1 1 [cc] rfl HC.out (by rw [List.length_take]; omega) hz5 ?_
                intro v7 w7 ho7 hg7 _
                have hb7 : Below wr.heap.size wr w7 := HB5.out.grown hg7 hz5 HO5.out.block
                have HO7 := Lib.hid ho7
                have HB7 := Lib.hid hb7
                have hz7 := hb7.size
                have HT7 := Lib.hid ((HBT.out.cut (k := at_) (cap := ct) hatle hct).below hb7)
                refine hK1.out _ _ trivial (fun hHeld => ?_)
                clear hK1 K1
                clear ho7 hg7 hb7
                refine wpAnyH_ready (rs := [11]) (by kernel_rfl) (by simp) (AllReadyH.cons rfl (fun K1 hK1 => ?_) AllReadyH.nil)
                refine step_append_bytes rfl _ _ rfl wr.heap.size v7 (t.take at_ ++ [cc]) rfl HO7.out wr.heap.size (if ct = at_ then At else At.map (·.add at_)) (nt - at_) (ct - at_) (t.drop at_) rfl HT7.out (by rw [List.length_append, List.length_take]; simp only [List.length_cons, List.length_nil]; omega) hz7 ?_
                intro v9 w9 ho9 hg9 _
                have hb9 : Below wr.heap.size wr w9 := HB7.out.grown hg9 hz7 HO7.out.block
                have hlen9 : ((t.take at_ ++ [cc]) ++ t.drop at_).length = nt + 1 := by
                  rw [List.length_append, List.length_append, List.length_take, List.length_drop, HRR.out.len]; simp only [List.length_cons, List.length_nil]; omega
                have HO9 := Lib.hid ho9
                obtain ⟨A9, c9, rfl, _, _, _⟩ := ho9.at_ hlen9
                have HF : SpR w l0 A9 (nt + 1) c9 w9 (k + 1) ((t.take at_ ++ [cc]) ++ t.drop at_) := ⟨HO9.out.mono hB, (ins_filter t at_ cc hcc).trans HRR.out.fil, hlen9, by omega, hbel.trans (hb9.mono hB)⟩
                have HFF := Lib.hid HF
                refine hK1.out _ _ trivial (fun hHeld => ?_)
                clear hK1 K1
                clear ho9 hg9 hb9 hlen9 HF HO9
                refine wpAnyH_take (i := 12) (oi := ⟨some 7, _, _, _, _, _⟩) (v := ?_) rfl (by kernel_rfl) (by kernel_rfl) (by kernel_rfl) (fun _ _ _ h => h) (Or.inl ⟨by rfl, ?_⟩) hHeld ?_
                rotate_left
                · intro W hW; go_simp <;> with_reducible rfl
                simp only [Act.put, List.setIfInBounds_toArray]
                refine wpAnyH_done (by kernel_rfl) ?_ _
                go_wp2
                exact ⟨⟨k + 1, _, _, _, _, HFF.out, by omega, by simp, rfl⟩, by simp [intOf]; omega⟩
            · as_aux_lemma =>
                go_simp
                refine hK1.out _ _ trivial (fun hHeld => ?_)
                clear hK1 K1
                have HO := Lib.hid ((Own.empty wr).alloc (.cells #[.int .u8 ((cc : Nat) : Int)] 5))
                have HS := Lib.hid (((HBT.out.take hatle).alloc (Nat.le_refl _) (.cells #[] 5)).alloc (by simp) (.cells #[.int .u8 ((cc : Nat) : Int)] 5))
                have hc0 := BS.lit (wr.alloc (.cells #[] 5)) [cc] hccb
                simp only [World.size_alloc] at hc0
                have HC0 := Lib.hid hc0
                clear hc0
                refine wpAnyH_ready (rs := [4]) (by kernel_rfl) (by simp) (AllReadyH.cons rfl (fun K1 hK1 => ?_) AllReadyH.nil)
                refine step_append_bytes rfl _ _ rfl wr.heap.size (.slice (some ⟨wr.heap.size, 0, none⟩) 0 0) [] rfl (own_drew HO.out) wr.heap.size At at_ ct (t.take at_) rfl HS.out.drew (by simp <;> omega) (by simp <;> omega) ?_
                intro v4 w4 ho4 hg4 _
                have hb5 : Below wr.heap.size wr w4 := ((((Below.refl _ _).alloc (Nat.le_refl _) (.cells #[] 5)).alloc (by simp) (.cells #[.int .u8 ((cc : Nat) : Int)] 5)).drew).grown hg4 (by simp; omega) (fun k hk => by simp [Value.ownBlock] at hk; omega)
                have HO5 := Lib.hid ho4
                have HC := Lib.hid (bs_grown HC0.out.drew hg4 (by simp) (fun a e => by injection e with e; subst e; simp [Value.ownBlock]))
                refine hK1.out _ _ trivial (fun hHeld => ?_)
                clear hK1 K1
                clear ho4 hg4
                have HB5 := Lib.hid hb5
                have hz5 := hb5.size
                refine wpAnyH_ready (rs := [7]) (by kernel_rfl) (by simp) (AllReadyH.cons rfl (fun K1 hK1 => ?_) AllReadyH.nil)
                refine step_append_bytes rfl _ _ rfl wr.heap.size v4 (t.take at_) rfl HO5.out _ (some ⟨wr.heap.size + 1, 0, none⟩) 1 1 [cc] rfl HC.out (by rw [List.length_take]; omega) hz5 ?_
                intro v7 w7 ho7 hg7 _
                have hb7 : Below wr.heap.size wr w7 := HB5.out.grown hg7 hz5 HO5.out.block
                have HO7 := Lib.hid ho7
                have HB7 := Lib.hid hb7
                have hz7 := hb7.size
                have HT7 := Lib.hid ((HBT.out.cut (k := at_) (cap := ct) hatle hct).below hb7)
                refine hK1.out _ _ trivial (fun hHeld => ?_)
                clear hK1 K1
                clear ho7 hg7 hb7
                refine wpAnyH_ready (rs := [11]) (by kernel_rfl) (by simp) (AllReadyH.cons rfl (fun K1 hK1 => ?_) AllReadyH.nil)
                refine step_append_bytes rfl _ _ rfl wr.heap.size v7 (t.take at_ ++ [cc]) rfl HO7.out wr.heap.size (if ct = at_ then At else At.map (·.add at_)) (nt - at_) (ct - at_) (t.drop at_) rfl HT7.out (by rw [List.length_append, List.length_take]; simp only [List.length_cons, List.length_nil]; omega) hz7 ?_
                intro v9 w9 ho9 hg9 _
                have hb9 : Below wr.heap.size wr w9 := HB7.out.grown hg9 hz7 HO7.out.block
                have hlen9 : ((t.take at_ ++ [cc]) ++ t.drop at_).length = nt + 1 := by
                  rw [List.length_append, List.length_append, List.length_take, List.length_drop, HRR.out.len]; simp only [List.length_cons, List.length_nil]; omega
                have HO9 := Lib.hid ho9
                obtain ⟨A9, c9, rfl, _, _, _⟩ := ho9.at_ hlen9
                have HF : SpR w l0 A9 (nt + 1) c9 w9 (k + 1) ((t.take at_ ++ [cc]) ++ t.drop at_) := ⟨HO9.out.mono hB, (ins_filter t at_ cc hcc).trans HRR.out.fil, hlen9, by omega, hbel.trans (hb9.mono hB)⟩
                have HFF := Lib.hid HF
                refine hK1.out _ _ trivial (fun hHeld => ?_)
                clear hK1 K1
                clear ho9 hg9 hb9 hlen9 HF HO9
                refine wpAnyH_take (i := 12) (oi := ⟨some 7, _, _, _, _, _⟩) (v := ?_) rfl (by kernel_rfl) (by kernel_rfl) (by kernel_rfl) (fun _ _ _ h => h) (Or.inl ⟨by rfl, ?_⟩) hHeld ?_
                rotate_left
                · intro W hW; go_simp <;> with_reducible rfl
                simp only [Act.put, List.setIfInBounds_toArray]
                refine wpAnyH_done (by kernel_rfl) ?_ _
                go_wp2
                exact ⟨⟨k + 1, _, _, _, _, HFF.out, by omega, by simp, rfl⟩, by simp [intOf]; omega⟩
          · as_aux_lemma =>
              go_simp
              refine hK1.out _ _ trivial (fun hHeld => ?_)
              clear hK1 K1
              refine wpAnyH_ready (rs := [0]) (by kernel_rfl) (by simp) (AllReadyH.cons rfl (fun K1 hK1 => ?_) AllReadyH.nil)
              go_simp
              refine hK1.out _ _ trivial (fun hHeld => ?_)
              clear hK1 K1
              have ho0 := (Own.empty (wr.alloc (.cells #[.int .u8 ((cc : Nat) : Int)] 5))).mono (base' := wr.heap.size) (by simp)
              simp only [World.size_alloc] at ho0
              have HO := Lib.hid ho0
              clear ho0
              have HS := Lib.hid (((HBT.out.take hatle).alloc (Nat.le_refl _) (.cells #[.int .u8 ((cc : Nat) : Int)] 5)).alloc (by simp) (.cells #[] 5))
              have HC0 := Lib.hid ((BS.lit wr [cc] hccb).alloc (by simp) (.cells #[] 5))
              refine wpAnyH_ready (rs := [4]) (by kernel_rfl) (by simp) (AllReadyH.cons rfl (fun K1 hK1 => ?_) AllReadyH.nil)
              refine step_append_bytes rfl _ _ rfl wr.heap.size (.slice (some ⟨wr.heap.size + 1, 0, none⟩) 0 0) [] rfl (own_drew HO.out) wr.heap.size At at_ ct (t.take at_) rfl HS.out.drew (by simp <;> omega) (by simp <;> omega) ?_
              intro v4 w4 ho4 hg4 _
              have hb5 : Below wr.heap.size wr w4 := ((((Below.refl _ _).alloc (Nat.le_refl _) (.cells #[.int .u8 ((cc : Nat) : Int)] 5)).alloc (by simp) (.cells #[] 5)).drew).grown hg4 (by simp; omega) (fun k hk => by simp [Value.ownBlock] at hk; omega)
              have HO5 := Lib.hid ho4
              have HC := Lib.hid (bs_grown HC0.out.drew hg4 (by simp) (fun a e => by injection e with e; subst e; simp [Value.ownBlock]))
              refine hK1.out _ _ trivial (fun hHeld => ?_)
              clear hK1 K1
              clear ho4 hg4
              have HB5 := Lib.hid hb5
              have hz5 := hb5.size
              refine wpAnyH_ready (rs := [7]) (by kernel_rfl) (by simp) (AllReadyH.cons rfl (fun K1 hK1 => ?_) AllReadyH.nil)
              refine step_append_bytes rfl _ _ rfl wr.heap.size v4 (t.take at_) rfl HO5.out _ (some ⟨wr.heap.size, 0, none⟩) 1 1 [cc] rfl HC.out (by rw [List.length_take]; omega) hz5 ?_
              intro v7 w7 ho7 hg7 _
              have hb7 : Below wr.heap.size wr w7 := HB5.out.grown hg7 hz5 HO5.out.block
              have HO7 := Lib.hid ho7
              have HB7 := Lib.hid hb7
              have hz7 := hb7.size
              have HT7 := Lib.hid ((HBT.out.cut (k := at_) (cap := ct) hatle hct).below hb7)
              refine hK1.out _ _ trivial (fun hHeld => ?_)
              clear hK1 K1
              clear ho7 hg7 hb7
              refine wpAnyH_ready (rs := [11]) (by kernel_rfl) (by simp) (AllReadyH.cons rfl (fun K1 hK1 => ?_) AllReadyH.nil)
              refine step_append_bytes rfl _ _ rfl wr.heap.size v7 (t.take at_ ++ [cc]) rfl HO7.out wr.heap.size (if ct = at_ then At else At.map (·.add at_)) (nt - at_) (ct - at_) (t.drop at_) rfl HT7.out (by rw [List.length_append, List.length_take]; simp only [List.length_cons, List.length_nil]; omega) hz7 ?_
              intro v9 w9 ho9 hg9 _
              have hb9 : Below wr.heap.size wr w9 := HB7.out.grown hg9 hz7 HO7.out.block
              have hlen9 : ((t.take at_ ++ [cc]) ++ t.drop at_).length = nt + 1 := by
                rw [List.length_append, List.length_append, List.length_take, List.length_drop, HRR.out.len]; simp only [List.length_cons, List.length_nil]; omega
              have HO9 := Lib.hid ho9
              obtain ⟨A9, c9, rfl, _, _, _⟩ := ho9.at_ hlen9
              have HF : SpR w l0 A9 (nt + 1) c9 w9 (k + 1) ((t.take at_ ++ [cc]) ++ t.drop at_) := ⟨HO9.out.mono hB, (ins_filter t at_ cc hcc).trans HRR.out.fil, hlen9, by omega, hbel.trans (hb9.mono hB)⟩
              have HFF := Lib.hid HF
              refine hK1.out _ _ trivial (fun hHeld => ?_)
              clear hK1 K1
              clear ho9 hg9 hb9 hlen9 HF HO9
              refine wpAnyH_take (i := 12) (oi := ⟨some 7, _, _, _, _, _⟩) (v := ?_) rfl (by kernel_rfl) (by kernel_rfl) (by kernel_rfl) (fun _ _ _ h => h) (Or.inl ⟨by rfl, ?_⟩) hHeld ?_
              rotate_left
              · intro W hW; go_simp <;> with_reducible rfl
              simp only [Act.put, List.setIfInBounds_toArray]
              refine wpAnyH_done (by kernel_rfl) ?_ _
              go_wp2
              exact ⟨⟨k + 1, _, _, _, _, HFF.out, by omega, by simp, rfl⟩, by simp [intOf]; omega⟩
        · have ek : decide (k < n2) = false := decide_eq_false hk2
          have hcc : 32 ≤ 32 := Nat.le_refl _
          have hccb : ∀ x ∈ [32], x < 256 := by intro x hx; rcases List.mem_singleton.1 hx with rfl; omega
          go_wp2_with fail
          refine wp_region_held_drew (S := fun _ => True) (by kernel_rfl) trivial (fun hHeld => ?_)
          refine wpAnyH_take (i := 1) (oi := ⟨some 52, _, _, _, _, _⟩) (v := ?_) rfl (by kernel_rfl) (by kernel_rfl) (by kernel_rfl) (fun _ _ _ h => h) (Or.inl ⟨by rfl, ?_⟩) hHeld ?_
          rotate_left
          · intro W hW; go_simp <;> with_reducible rfl
          simp only [Act.put, List.setIfInBounds_toArray, List.set_cons_zero, List.set_cons_succ]
          refine wpAnyH_take (i := 2) (oi := ⟨some 53, _, _, _, _, _⟩) (v := ?_) rfl (by kernel_rfl) (by kernel_rfl) (by kernel_rfl) (fun _ _ _ h => h) (Or.inl ⟨by rfl, ?_⟩) hHeld ?_
          rotate_left
          · intro W hW; go_simp <;> with_reducible rfl
          simp only [Act.put, List.setIfInBounds_toArray, List.set_cons_zero, List.set_cons_succ]
          refine wpAnyH_take (i := 3) (oi := ⟨some 54, _, _, _, _, _⟩) (v := ?_) rfl (by kernel_rfl) (by kernel_rfl) (by kernel_rfl) (fun _ _ _ h => h) (Or.inl ⟨by rfl, ?_⟩) hHeld ?_
          rotate_left
          · intro W hW; go_simp <;> with_reducible rfl
          simp only [Act.put, List.setIfInBounds_toArray, List.set_cons_zero, List.set_cons_succ]
          refine wpAnyH_take (i := 5) (oi := ⟨some 56, _, _, _, _, _⟩) (v := ?_) rfl (by kernel_rfl) (by kernel_rfl) (by kernel_rfl) (fun _ _ _ h => h) (Or.inl ⟨by rfl, ?_⟩) hHeld ?_
          rotate_left
          · intro W hW; go_simp <;> with_reducible rfl
          simp only [Act.put, List.setIfInBounds_toArray, List.set_cons_zero, List.set_cons_succ]
          refine wpAnyH_take (i := 8) (oi := ⟨some 59, _, _, _, _, _⟩) (v := ?_) rfl (by kernel_rfl) (by kernel_rfl) (by kernel_rfl) (fun _ _ _ h => h) (Or.inl ⟨by rfl, ?_⟩) hHeld ?_
          rotate_left
          · intro W hW; go_simp <;> with_reducible rfl
          simp only [Act.put, List.setIfInBounds_toArray, List.set_cons_zero, List.set_cons_succ]
          refine wpAnyH_take (i := 9) (oi := ⟨some 60, _, _, _, _, _⟩) (v := ?_) rfl (by kernel_rfl) (by kernel_rfl) (by kernel_rfl) (fun _ _ _ h => h) (Or.inl ⟨by rfl, ?_⟩) hHeld ?_
          rotate_left
          · intro W hW; go_simp <;> with_reducible rfl
          simp only [Act.put, List.setIfInBounds_toArray, List.set_cons_zero, List.set_cons_succ]
          refine wpAnyH_take (i := 10) (oi := ⟨some 61, _, _, _, _, _⟩) (v := ?_) rfl (by kernel_rfl) (by kernel_rfl) (by kernel_rfl) (fun _ _ _ h => h) (Or.inl ⟨by rfl, ?_⟩) hHeld ?_
          rotate_left
          · intro W hW; go_simp <;> with_reducible rfl
          simp only [Act.put, List.setIfInBounds_toArray, List.set_cons_zero, List.set_cons_succ]
          refine wpAnyH_ready (rs := [0, 6]) (by kernel_rfl) (by simp) (AllReadyH.cons rfl (fun K1 hK1 => ?_) (AllReadyH.cons rfl (fun K1 hK1 => ?_) AllReadyH.nil))
          · go_simp
            refine hK1.out _ _ trivial (fun hHeld => ?_)
            clear hK1 K1
            refine wpAnyH_ready (rs := [4, 6]) (by kernel_rfl) (by simp) (AllReadyH.cons rfl (fun K1 hK1 => ?_) (AllReadyH.cons rfl (fun K1 hK1 => ?_) AllReadyH.nil))
            · as_aux_lemma =>
                have HO := Lib.hid (Own.empty wr)
                have HS := Lib.hid ((HBT.out.take hatle).alloc (Nat.le_refl _) (.cells #[] 5))
                refine step_append_bytes rfl _ _ rfl wr.heap.size (.slice (some ⟨wr.heap.size, 0, none⟩) 0 0) [] rfl (own_drew HO.out) wr.heap.size At at_ ct (t.take at_) rfl HS.out.drew (by simp <;> omega) (by simp <;> omega) ?_
                intro v4 w4 ho4 hg4 _
                have hb4 : Below wr.heap.size wr w4 := (((Below.refl _ _).alloc (Nat.le_refl _) (.cells #[] 5)).drew).grown hg4 (by simp) (fun k hk => by simp [Value.ownBlock] at hk; omega)
                have HO5 := Lib.hid (ho4.alloc (.cells #[.int .u8 ((32 : Nat) : Int)] 5))
                have HC := Lib.hid (BS.lit w4 [32] hccb)
                have hb5 : Below wr.heap.size wr (w4.alloc (.cells #[.int .u8 ((32 : Nat) : Int)] 5)) := hb4.alloc hb4.size _
                refine hK1.out _ _ trivial (fun hHeld => ?_)
                clear hK1 K1
                clear ho4 hg4 hb4
                refine wpAnyH_ready (rs := [6]) (by kernel_rfl) (by simp) (AllReadyH.cons rfl (fun K1 hK1 => ?_) AllReadyH.nil)
                go_simp
                refine hK1.out _ _ trivial (fun hHeld => ?_)
                clear hK1 K1
                have HB5 := Lib.hid hb5
                have hz5 := hb5.size
                refine wpAnyH_ready (rs := [7]) (by kernel_rfl) (by simp) (AllReadyH.cons rfl (fun K1 hK1 => ?_) AllReadyH.nil)
                refine step_append_bytes rfl _ _ rfl wr.heap.size v4 (t.take at_) rfl HO5.out _ (some ⟨w4.heap.size, 0, none⟩) 1 1 [32] rfl HC.out (by rw [List.length_take]; omega) hz5 ?_
                intro v7 w7 ho7 hg7 _
                have hb7 : Below wr.heap.size wr w7 := HB5.out.grown hg7 hz5 HO5.out.block
                have HO7 := Lib.hid ho7
                have HB7 := Lib.hid hb7
                have hz7 := hb7.size
                have HT7 := Lib.hid ((HBT.out.cut (k := at_) (cap := ct) hatle hct).below hb7)
                refine hK1.out _ _ trivial (fun hHeld => ?_)
                clear hK1 K1
                clear ho7 hg7 hb7
                refine wpAnyH_ready (rs := [11]) (by kernel_rfl) (by simp) (AllReadyH.cons rfl (fun K1 hK1 => ?_) AllReadyH.nil)
                refine step_append_bytes rfl _ _ rfl wr.heap.size v7 (t.take at_ ++ [32]) rfl HO7.out wr.heap.size (if ct = at_ then At else At.map (·.add at_)) (nt - at_) (ct - at_) (t.drop at_) rfl HT7.out (by rw [List.length_append, List.length_take]; simp only [List.length_cons, List.length_nil]; omega) hz7 ?_
                intro v9 w9 ho9 hg9 _
                have hb9 : Below wr.heap.size wr w9 := HB7.out.grown hg9 hz7 HO7.out.block
                have hlen9 : ((t.take at_ ++ [32]) ++ t.drop at_).length = nt + 1 := by
                  rw [List.length_append, List.length_append, List.length_take, List.length_drop, HRR.out.len]; simp only [List.length_cons, List.length_nil]; omega
                have HO9 := Lib.hid ho9
                obtain ⟨A9, c9, rfl, _, _, _⟩ := ho9.at_ hlen9
                have HF : SpR w l0 A9 (nt + 1) c9 w9 (k + 1) ((t.take at_ ++ [32]) ++ t.drop at_) := ⟨HO9.out.mono hB, (ins_filter t at_ 32 hcc).trans HRR.out.fil, hlen9, by omega, hbel.trans (hb9.mono hB)⟩
                have HFF := Lib.hid HF
                refine hK1.out _ _ trivial (fun hHeld => ?_)
                clear hK1 K1
                clear ho9 hg9 hb9 hlen9 HF HO9
                refine wpAnyH_take (i := 12) (oi := ⟨some 7, _, _, _, _, _⟩) (v := ?_) rfl (by kernel_rfl) (by kernel_rfl) (by kernel_rfl) (fun _ _ _ h => h) (Or.inl ⟨by rfl, ?_⟩) hHeld ?_
                rotate_left
                · intro W hW; go_simp <;> with_reducible rfl
                simp only [Act.put, List.setIfInBounds_toArray]
                refine wpAnyH_done (by kernel_rfl) ?_ _
                go_wp2
                exact ⟨⟨k + 1, _, _, _, _, HFF.out, by omega, by simp, rfl⟩, by simp [intOf]; omega⟩
            · as_aux_lemma =>
                go_simp
                refine hK1.out _ _ trivial (fun hHeld => ?_)
                clear hK1 K1
                have HO := Lib.hid ((Own.empty wr).alloc (.cells #[.int .u8 ((32 : Nat) : Int)] 5))
                have HS := Lib.hid (((HBT.out.take hatle).alloc (Nat.le_refl _) (.cells #[] 5)).alloc (by simp) (.cells #[.int .u8 ((32 : Nat) : Int)] 5))
                have hc0 := BS.lit (wr.alloc (.cells #[] 5)) [32] hccb
                simp only [World.size_alloc] at hc0
                have HC0 := Lib.hid hc0
                clear hc0
                refine wpAnyH_ready (rs := [4]) (by kernel_rfl) (by simp) (AllReadyH.cons rfl (fun K1 hK1 => ?_) AllReadyH.nil)
                refine step_append_bytes rfl _ _ rfl wr.heap.size (.slice (some ⟨wr.heap.size, 0, none⟩) 0 0) [] rfl (own_drew HO.out) wr.heap.size At at_ ct (t.take at_) rfl HS.out.drew (by simp <;> omega) (by simp <;> omega) ?_
                intro v4 w4 ho4 hg4 _
                have hb5 : Below wr.heap.size wr w4 := ((((Below.refl _ _).alloc (Nat.le_refl _) (.cells #[] 5)).alloc (by simp) (.cells #[.int .u8 ((32 : Nat) : Int)] 5)).drew).grown hg4 (by simp; omega) (fun k hk => by simp [Value.ownBlock] at hk; omega)
                have HO5 := Lib.hid ho4
                have HC := Lib.hid (bs_grown HC0.out.drew hg4 (by simp) (fun a e => by injection e with e; subst e; simp [Value.ownBlock]))
                refine hK1.out _ _ trivial (fun hHeld => ?_)
                clear hK1 K1
                clear ho4 hg4
                have HB5 := Lib.hid hb5
                have hz5 := hb5.size
                refine wpAnyH_ready (rs := [7]) (by kernel_rfl) (by simp) (AllReadyH.cons rfl (fun K1 hK1 => ?_) AllReadyH.nil)
                refine step_append_bytes rfl _ _ rfl wr.heap.size v4 (t.take at_) rfl HO5.out _ (some ⟨wr.heap.size + 1, 0, none⟩) 1 1 [32] rfl HC.out (by rw [List.length_take]; omega) hz5 ?_
                intro v7 w7 ho7 hg7 _
                have hb7 : Below wr.heap.size wr w7 := HB5.out.grown hg7 hz5 HO5.out.block
                have HO7 := Lib.hid ho7
                have HB7 := Lib.hid hb7
                have hz7 := hb7.size
                have HT7 := Lib.hid ((HBT.out.cut (k := at_) (cap := ct) hatle hct).below hb7)
                refine hK1.out _ _ trivial (fun hHeld => ?_)
                clear hK1 K1
                clear ho7 hg7 hb7
                refine wpAnyH_ready (rs := [11]) (by kernel_rfl) (by simp) (AllReadyH.cons rfl (fun K1 hK1 => ?_) AllReadyH.nil)
                refine step_append_bytes rfl _ _ rfl wr.heap.size v7 (t.take at_ ++ [32]) rfl HO7.out wr.heap.size (if ct = at_ then At else At.map (·.add at_)) (nt - at_) (ct - at_) (t.drop at_) rfl HT7.out (by rw [List.length_append, List.length_take]; simp only [List.length_cons, List.length_nil]; omega) hz7 ?_
                intro v9 w9 ho9 hg9 _
                have hb9 : Below wr.heap.size wr w9 := HB7.out.grown hg9 hz7 HO7.out.block
                have hlen9 : ((t.take at_ ++ [32]) ++ t.drop at_).length = nt + 1 := by
                  rw [List.length_append, List.length_append, List.length_take, List.length_drop, HRR.out.len]; simp only [List.length_cons, List.length_nil]; omega
                have HO9 := Lib.hid ho9
                obtain ⟨A9, c9, rfl, _, _, _⟩ := ho9.at_ hlen9
                have HF : SpR w l0 A9 (nt + 1) c9 w9 (k + 1) ((t.take at_ ++ [32]) ++ t.drop at_) := ⟨HO9.out.mono hB, (ins_filter t at_ 32 hcc).trans HRR.out.fil, hlen9, by omega, hbel.trans (hb9.mono hB)⟩
                have HFF := Lib.hid HF
                refine hK1.out _ _ trivial (fun hHeld => ?_)
                clear hK1 K1
                clear ho9 hg9 hb9 hlen9 HF HO9
                refine wpAnyH_take (i := 12) (oi := ⟨some 7, _, _, _, _, _⟩) (v := ?_) rfl (by kernel_rfl) (by kernel_rfl) (by kernel_rfl) (fun _ _ _ h => h) (Or.inl ⟨by rfl, ?_⟩) hHeld ?_
                rotate_left
                · intro W hW; go_simp <;> with_reducible rfl
                simp only [Act.put, List.setIfInBounds_toArray]
                refine wpAnyH_done (by kernel_rfl) ?_ _
                go_wp2
                exact ⟨⟨k + 1, _, _, _, _, HFF.out, by omega, by simp, rfl⟩, by simp [intOf]; omega⟩
          · as_aux_lemma =>
              go_simp
              refine hK1.out _ _ trivial (fun hHeld => ?_)
              clear hK1 K1
              refine wpAnyH_ready (rs := [0]) (by kernel_rfl) (by simp) (AllReadyH.cons rfl (fun K1 hK1 => ?_) AllReadyH.nil)
              go_simp
              refine hK1.out _ _ trivial (fun hHeld => ?_)
              clear hK1 K1
              have ho0 := (Own.empty (wr.alloc (.cells #[.int .u8 ((32 : Nat) : Int)] 5))).mono (base' := wr.heap.size) (by simp)
              simp only [World.size_alloc] at ho0
              have HO := Lib.hid ho0
              clear ho0
              have HS := Lib.hid (((HBT.out.take hatle).alloc (Nat.le_refl _) (.cells #[.int .u8 ((32 : Nat) : Int)] 5)).alloc (by simp) (.cells #[] 5))
              have HC0 := Lib.hid ((BS.lit wr [32] hccb).alloc (by simp) (.cells #[] 5))
              refine wpAnyH_ready (rs := [4]) (by kernel_rfl) (by simp) (AllReadyH.cons rfl (fun K1 hK1 => ?_) AllReadyH.nil)
              refine step_append_bytes rfl _ _ rfl wr.heap.size (.slice (some ⟨wr.heap.size + 1, 0, none⟩) 0 0) [] rfl (own_drew HO.out) wr.heap.size At at_ ct (t.take at_) rfl HS.out.drew (by simp <;> omega) (by simp <;> omega) ?_
              intro v4 w4 ho4 hg4 _
              have hb5 : Below wr.heap.size wr w4 := ((((Below.refl _ _).alloc (Nat.le_refl _) (.cells #[.int .u8 ((32 : Nat) : Int)] 5)).alloc (by simp) (.cells #[] 5)).drew).grown hg4 (by simp; omega) (fun k hk => by simp [Value.ownBlock] at hk; omega)
              have HO5 := Lib.hid ho4
              have HC := Lib.hid (bs_grown HC0.out.drew hg4 (by simp) (fun a e => by injection e with e; subst e; simp [Value.ownBlock]))
              refine hK1.out _ _ trivial (fun hHeld => ?_)
              clear hK1 K1
              clear ho4 hg4
              have HB5 := Lib.hid hb5
              have hz5 := hb5.size
              refine wpAnyH_ready (rs := [7]) (by kernel_rfl) (by simp) (AllReadyH.cons rfl (fun K1 hK1 => ?_) AllReadyH.nil)
              refine step_append_bytes rfl _ _ rfl wr.heap.size v4 (t.take at_) rfl HO5.out _ (some ⟨wr.heap.size, 0, none⟩) 1 1 [32] rfl HC.out (by rw [List.length_take]; omega) hz5 ?_
              intro v7 w7 ho7 hg7 _
              have hb7 : Below wr.heap.size wr w7 := HB5.out.grown hg7 hz5 HO5.out.block
              have HO7 := Lib.hid ho7
              have HB7 := Lib.hid hb7
              have hz7 := hb7.size
              have HT7 := Lib.hid ((HBT.out.cut (k := at_) (cap := ct) hatle hct).below hb7)
              refine hK1.out _ _ trivial (fun hHeld => ?_)
              clear hK1 K1
              clear ho7 hg7 hb7
              refine wpAnyH_ready (rs := [11]) (by kernel_rfl) (by simp) (AllReadyH.cons rfl (fun K1 hK1 => ?_) AllReadyH.nil)
              refine step_append_bytes rfl _ _ rfl wr.heap.size v7 (t.take at_ ++ [32]) rfl HO7.out wr.heap.size (if ct = at_ then At else At.map (·.add at_)) (nt - at_) (ct - at_) (t.drop at_) rfl HT7.out (by rw [List.length_append, List.length_take]; simp only [List.length_cons, List.length_nil]; omega) hz7 ?_
              intro v9 w9 ho9 hg9 _
              have hb9 : Below wr.heap.size wr w9 := HB7.out.grown hg9 hz7 HO7.out.block
              have hlen9 : ((t.take at_ ++ [32]) ++ t.drop at_).length = nt + 1 := by
                rw [List.length_append, List.length_append, List.length_take, List.length_drop, HRR.out.len]; simp only [List.length_cons, List.length_nil]; omega
              have HO9 := Lib.hid ho9
              obtain ⟨A9, c9, rfl, _, _, _⟩ := ho9.at_ hlen9
              have HF : SpR w l0 A9 (nt + 1) c9 w9 (k + 1) ((t.take at_ ++ [32]) ++ t.drop at_) := ⟨HO9.out.mono hB, (ins_filter t at_ 32 hcc).trans HRR.out.fil, hlen9, by omega, hbel.trans (hb9.mono hB)⟩
              have HFF := Lib.hid HF
              refine hK1.out _ _ trivial (fun hHeld => ?_)
              clear hK1 K1
              clear ho9 hg9 hb9 hlen9 HF HO9
              refine wpAnyH_take (i := 12) (oi := ⟨some 7, _, _, _, _, _⟩) (v := ?_) rfl (by kernel_rfl) (by kernel_rfl) (by kernel_rfl) (fun _ _ _ h => h) (Or.inl ⟨by rfl, ?_⟩) hHeld ?_
              rotate_left
              · intro W hW; go_simp <;> with_reducible rfl
              simp only [Act.put, List.setIfInBounds_toArray]
              refine wpAnyH_done (by kernel_rfl) ?_ _
              go_wp2
              exact ⟨⟨k + 1, _, _, _, _, HFF.out, by omega, by simp, rfl⟩, by simp [intOf]; omega⟩
      · obtain rfl : nt = 0 := by omega
        obtain rfl : at_ = 0 := by omega
        clear hq hat
        by_cases hk2 : k < n2
        · obtain ⟨bk, ok, rfl, hbk, hkl⟩ := (HB2.out.below hbel).open_ (by omega)
          have cC := hkl.cell hk2
          have gC := getD_lt hkl.lt k
          have hgk : bk < wr.heap.size := by omega
          clear hkl
          generalize l2.getD k 0 = zc at *
          obtain ⟨cc, hcz⟩ : ∃ cc, zc % 33 = cc := ⟨_, rfl⟩
          have hcq : ((zc : Int) % 33) = (cc : Int) := by rw [← hcz]; simp
          have hcc : cc ≤ 32 := by omega
          have hccb : ∀ x ∈ [cc], x < 256 := by intro x hx; rcases List.mem_singleton.1 hx with rfl; omega
          clear hcz
          go_wp2_with fail
          refine wp_region_held_drew (S := fun _ => True) (by kernel_rfl) trivial (fun hHeld => ?_)
          refine wpAnyH_take (i := 1) (oi := ⟨some 52, _, _, _, _, _⟩) (v := ?_) rfl (by kernel_rfl) (by kernel_rfl) (by kernel_rfl) (fun _ _ _ h => h) (Or.inl ⟨by rfl, ?_⟩) hHeld ?_
          rotate_left
          · intro W hW; go_simp <;> with_reducible rfl
          simp only [Act.put, List.setIfInBounds_toArray, List.set_cons_zero, List.set_cons_succ]
          refine wpAnyH_take (i := 2) (oi := ⟨some 53, _, _, _, _, _⟩) (v := ?_) rfl (by kernel_rfl) (by kernel_rfl) (by kernel_rfl) (fun _ _ _ h => h) (Or.inl ⟨by rfl, ?_⟩) hHeld ?_
          rotate_left
          · intro W hW; go_simp <;> with_reducible rfl
          simp only [Act.put, List.setIfInBounds_toArray, List.set_cons_zero, List.set_cons_succ]
          refine wpAnyH_take (i := 3) (oi := ⟨some 54, _, _, _, _, _⟩) (v := ?_) rfl (by kernel_rfl) (by kernel_rfl) (by kernel_rfl) (fun _ _ _ h => h) (Or.inl ⟨by rfl, ?_⟩) hHeld ?_
          rotate_left
          · intro W hW; go_simp <;> with_reducible rfl
          simp only [Act.put, List.setIfInBounds_toArray, List.set_cons_zero, List.set_cons_succ]
          refine wpAnyH_take (i := 5) (oi := ⟨some 56, _, _, _, _, _⟩) (v := ?_) rfl (by kernel_rfl) (by kernel_rfl) (by kernel_rfl) (fun _ _ _ h => h) (Or.inl ⟨by rfl, ?_⟩) hHeld ?_
          rotate_left
          · intro W hW; go_simp <;> with_reducible rfl
          simp only [Act.put, List.setIfInBounds_toArray, List.set_cons_zero, List.set_cons_succ]
          refine wpAnyH_take (i := 8) (oi := ⟨some 59, _, _, _, _, _⟩) (v := ?_) rfl (by kernel_rfl) (by kernel_rfl) (by kernel_rfl) (fun _ _ _ h => h) (Or.inl ⟨by rfl, ?_⟩) hHeld ?_
          rotate_left
          · intro W hW; go_simp <;> with_reducible rfl
          simp only [Act.put, List.setIfInBounds_toArray, List.set_cons_zero, List.set_cons_succ]
          refine wpAnyH_take (i := 9) (oi := ⟨some 60, _, _, _, _, _⟩) (v := ?_) rfl (by kernel_rfl) (by kernel_rfl) (by kernel_rfl) (fun _ _ _ h => h) (Or.inl ⟨by rfl, ?_⟩) hHeld ?_
          rotate_left
          · intro W hW; go_simp <;> with_reducible rfl
          simp only [Act.put, List.setIfInBounds_toArray, List.set_cons_zero, List.set_cons_succ]
          refine wpAnyH_take (i := 10) (oi := ⟨some 61, _, _, _, _, _⟩) (v := ?_) rfl (by kernel_rfl) (by kernel_rfl) (by kernel_rfl) (fun _ _ _ h => h) (Or.inl ⟨by rfl, ?_⟩) hHeld ?_
          rotate_left
          · intro W hW; go_simp <;> with_reducible rfl
          simp only [Act.put, List.setIfInBounds_toArray, List.set_cons_zero, List.set_cons_succ]
          refine wpAnyH_ready (rs := [0, 6]) (by kernel_rfl) (by simp) (AllReadyH.cons rfl (fun K1 hK1 => ?_) (AllReadyH.cons rfl (fun K1 hK1 => ?_) AllReadyH.nil))
          · go_simp
            refine hK1.out _ _ trivial (fun hHeld => ?_)
            clear hK1 K1
            refine wpAnyH_ready (rs := [4, 6]) (by kernel_rfl) (by simp) (AllReadyH.cons rfl (fun K1 hK1 => ?_) (AllReadyH.cons rfl (fun K1 hK1 => ?_) AllReadyH.nil))
            · as_aux_lemma =>
                have HO := Lib.hid (Own.empty wr)
                have HS := Lib.hid ((HBT.out.take hatle).alloc (Nat.le_refl _) (.cells #[] 5))
                refine step_append_bytes rfl _ _ rfl wr.heap.size (.slice (some ⟨wr.heap.size, 0, none⟩) 0 0) [] rfl (own_drew HO.out) wr.heap.size At 0 ct (t.take 0) rfl HS.out.drew (by simp <;> omega) (by simp <;> omega) ?_
                intro v4 w4 ho4 hg4 _
                have hb4 : Below wr.heap.size wr w4 := (((Below.refl _ _).alloc (Nat.le_refl _) (.cells #[] 5)).drew).grown hg4 (by simp) (fun k hk => by simp [Value.ownBlock] at hk; omega)
                have HO5 := Lib.hid (ho4.alloc (.cells #[.int .u8 ((cc : Nat) : Int)] 5))
                have HC := Lib.hid (BS.lit w4 [cc] hccb)
                have hb5 : Below wr.heap.size wr (w4.alloc (.cells #[.int .u8 ((cc : Nat) : Int)] 5)) := hb4.alloc hb4.size _
                refine hK1.out _ _ trivial (fun hHeld => ?_)
                clear hK1 K1
                clear ho4 hg4 hb4
                refine wpAnyH_ready (rs := [6]) (by kernel_rfl) (by simp) (AllReadyH.cons rfl (fun K1 hK1 => ?_) AllReadyH.nil)
                go_simp
                refine hK1.out _ _ trivial (fun hHeld => ?_)
                clear hK1 K1
                have HB5 := Lib.hid hb5
                have hz5 := hb5.size
                refine wpAnyH_ready (rs := [7]) (by kernel_rfl) (by simp) (AllReadyH.cons rfl (fun K1 hK1 => ?_) AllReadyH.nil)
                refine step_append_bytes rfl _ _ rfl wr.heap.size v4 (t.take 0) rfl HO5.out _ (some ⟨w4.heap.size, 0, none⟩) 1 1 [cc] rfl HC.out (by rw [List.length_take]; omega) hz5 ?_
                intro v7 w7 ho7 hg7 _
                have hb7 : Below wr.heap.size wr w7 := HB5.out.grown hg7 hz5 HO5.out.block
                have HO7 := Lib.hid ho7
                have HB7 := Lib.hid hb7
                have hz7 := hb7.size
                have HT7 := Lib.hid (HBT.out.below hb7)
                refine hK1.out _ _ trivial (fun hHeld => ?_)
                clear hK1 K1
                clear ho7 hg7 hb7
                refine wpAnyH_ready (rs := [11]) (by kernel_rfl) (by simp) (AllReadyH.cons rfl (fun K1 hK1 => ?_) AllReadyH.nil)
                refine step_append_bytes rfl _ _ rfl wr.heap.size v7 (t.take 0 ++ [cc]) rfl HO7.out wr.heap.size At 0 ct (t.drop 0) rfl HT7.out (by rw [List.length_append, List.length_take]; simp only [List.length_cons, List.length_nil]; omega) hz7 ?_
                intro v9 w9 ho9 hg9 _
                have hb9 : Below wr.heap.size wr w9 := HB7.out.grown hg9 hz7 HO7.out.block
                have hlen9 : ((t.take 0 ++ [cc]) ++ t.drop 0).length = 0 + 1 := by
                  rw [List.length_append, List.length_append, List.length_take, List.length_drop, HRR.out.len]; simp only [List.length_cons, List.length_nil]; omega
                have HO9 := Lib.hid ho9
                obtain ⟨A9, c9, rfl, _, _, _⟩ := ho9.at_ hlen9
                have HF : SpR w l0 A9 (0 + 1) c9 w9 (k + 1) ((t.take 0 ++ [cc]) ++ t.drop 0) := ⟨HO9.out.mono hB, (ins_filter t 0 cc hcc).trans HRR.out.fil, hlen9, by omega, hbel.trans (hb9.mono hB)⟩
                have HFF := Lib.hid HF
                refine hK1.out _ _ trivial (fun hHeld => ?_)
                clear hK1 K1
                clear ho9 hg9 hb9 hlen9 HF HO9
                refine wpAnyH_take (i := 12) (oi := ⟨some 7, _, _, _, _, _⟩) (v := ?_) rfl (by kernel_rfl) (by kernel_rfl) (by kernel_rfl) (fun _ _ _ h => h) (Or.inl ⟨by rfl, ?_⟩) hHeld ?_
                rotate_left
                · intro W hW; go_simp <;> with_reducible rfl
                simp only [Act.put, List.setIfInBounds_toArray]
                refine wpAnyH_done (by kernel_rfl) ?_ _
                go_wp2
                exact ⟨⟨k + 1, _, _, _, _, HFF.out, by omega, by simp, rfl⟩, by simp [intOf]; omega⟩
            · as_aux_lemma =>
                go_simp
                refine hK1.out _ _ trivial (fun hHeld => ?_)
                clear hK1 K1
                have HO := Lib.hid ((Own.empty wr).alloc (.cells #[.int .u8 ((cc : Nat) : Int)] 5))
                have HS := Lib.hid (((HBT.out.take hatle).alloc (Nat.le_refl _) (.cells #[] 5)).alloc (by simp) (.cells #[.int .u8 ((cc : Nat) : Int)] 5))
                have hc0 := BS.lit (wr.alloc (.cells #[] 5)) [cc] hccb
                simp only [World.size_alloc] at hc0
                have HC0 := Lib.hid hc0
                clear hc0
                refine wpAnyH_ready (rs := [4]) (by kernel_rfl) (by simp) (AllReadyH.cons rfl (fun K1 hK1 => ?_) AllReadyH.nil)
                refine step_append_bytes rfl _ _ rfl wr.heap.size (.slice (some ⟨wr.heap.size, 0, none⟩) 0 0) [] rfl (own_drew HO.out) wr.heap.size At 0 ct (t.take 0) rfl HS.out.drew (by simp <;> omega) (by simp <;> omega) ?_
                intro v4 w4 ho4 hg4 _
                have hb5 : Below wr.heap.size wr w4 := ((((Below.refl _ _).alloc (Nat.le_refl _) (.cells #[] 5)).alloc (by simp) (.cells #[.int .u8 ((cc : Nat) : Int)] 5)).drew).grown hg4 (by simp; omega) (fun k hk => by simp [Value.ownBlock] at hk; omega)
                have HO5 := Lib.hid ho4
                have HC := Lib.hid (bs_grown HC0.out.drew hg4 (by simp) (fun a e => by injection e with e; subst e; simp [Value.ownBlock]))
                refine hK1.out _ _ trivial (fun hHeld => ?_)
                clear hK1 K1
                clear ho4 hg4
                have HB5 := Lib.hid hb5
                have hz5 := hb5.size
                refine wpAnyH_ready (rs := [7]) (by kernel_rfl) (by simp) (AllReadyH.cons rfl (fun K1 hK1 => ?_) AllReadyH.nil)
                refine step_append_bytes rfl _ _ rfl wr.heap.size v4 (t.take 0) rfl HO5.out _ (some ⟨wr.heap.size + 1, 0, none⟩) 1 1 [cc] rfl HC.out (by rw [List.length_take]; omega) hz5 ?_
                intro v7 w7 ho7 hg7 _
                have hb7 : Below wr.heap.size wr w7 := HB5.out.grown hg7 hz5 HO5.out.block
                have HO7 := Lib.hid ho7
                have HB7 := Lib.hid hb7
                have hz7 := hb7.size
                have HT7 := Lib.hid (HBT.out.below hb7)
                refine hK1.out _ _ trivial (fun hHeld => ?_)
                clear hK1 K1
                clear ho7 hg7 hb7
                refine wpAnyH_ready (rs := [11]) (by kernel_rfl) (by simp) (AllReadyH.cons rfl (fun K1 hK1 => ?_) AllReadyH.nil)
                refine step_append_bytes rfl _ _ rfl wr.heap.size v7 (t.take 0 ++ [cc]) rfl HO7.out wr.heap.size At 0 ct (t.drop 0) rfl HT7.out (by rw [List.length_append, List.length_take]; simp only [List.length_cons, List.length_nil]; omega) hz7 ?_
                intro v9 w9 ho9 hg9 _
                have hb9 : Below wr.heap.size wr w9 := HB7.out.grown hg9 hz7 HO7.out.block
                have hlen9 : ((t.take 0 ++ [cc]) ++ t.drop 0).length = 0 + 1 := by
                  rw [List.length_append, List.length_append, List.length_take, List.length_drop, HRR.out.len]; simp only [List.length_cons, List.length_nil]; omega
                have HO9 := Lib.hid ho9
                obtain ⟨A9, c9, rfl, _, _, _⟩ := ho9.at_ hlen9
                have HF : SpR w l0 A9 (0 + 1) c9 w9 (k + 1) ((t.take 0 ++ [cc]) ++ t.drop 0) := ⟨HO9.out.mono hB, (ins_filter t 0 cc hcc).trans HRR.out.fil, hlen9, by omega, hbel.trans (hb9.mono hB)⟩
                have HFF := Lib.hid HF
                refine hK1.out _ _ trivial (fun hHeld => ?_)
                clear hK1 K1
                clear ho9 hg9 hb9 hlen9 HF HO9
                refine wpAnyH_take (i := 12) (oi := ⟨some 7, _, _, _, _, _⟩) (v := ?_) rfl (by kernel_rfl) (by kernel_rfl) (by kernel_rfl) (fun _ _ _ h => h) (Or.inl ⟨by rfl, ?_⟩) hHeld ?_
                rotate_left
                · intro W hW; go_simp <;> with_reducible rfl
                simp only [Act.put, List.setIfInBounds_toArray]
                refine wpAnyH_done (by kernel_rfl) ?_ _
                go_wp2
                exact ⟨⟨k + 1, _, _, _, _, HFF.out, by omega, by simp, rfl⟩, by simp [intOf]; omega⟩
          · as_aux_lemma =>
              go_simp
              refine hK1.out _ _ trivial (fun hHeld => ?_)
              clear hK1 K1
              refine wpAnyH_ready (rs := [0]) (by kernel_rfl) (by simp) (AllReadyH.cons rfl (fun K1 hK1 => ?_) AllReadyH.nil)
              go_simp
              refine hK1.out _ _ trivial (fun hHeld => ?_)
              clear hK1 K1
              have ho0 := (Own.empty (wr.alloc (.cells #[.int .u8 ((cc : Nat) : Int)] 5))).mono (base' := wr.heap.size) (by simp)
              simp only [World.size_alloc] at ho0
              have HO := Lib.hid ho0
              clear ho0
              have HS := Lib.hid (((HBT.out.take hatle).alloc (Nat.le_refl _) (.cells #[.int .u8 ((cc : Nat) : Int)] 5)).alloc (by simp) (.cells #[] 5))
              have HC0 := Lib.hid ((BS.lit wr [cc] hccb).alloc (by simp) (.cells #[] 5))
              refine wpAnyH_ready (rs := [4]) (by kernel_rfl) (by simp) (AllReadyH.cons rfl (fun K1 hK1 => ?_) AllReadyH.nil)
              refine step_append_bytes rfl _ _ rfl wr.heap.size (.slice (some ⟨wr.heap.size + 1, 0, none⟩) 0 0) [] rfl (own_drew HO.out) wr.heap.size At 0 ct (t.take 0) rfl HS.out.drew (by simp <;> omega) (by simp <;> omega) ?_
              intro v4 w4 ho4 hg4 _
              have hb5 : Below wr.heap.size wr w4 := ((((Below.refl _ _).alloc (Nat.le_refl _) (.cells #[.int .u8 ((cc : Nat) : Int)] 5)).alloc (by simp) (.cells #[] 5)).drew).grown hg4 (by simp; omega) (fun k hk => by simp [Value.ownBlock] at hk; omega)
              have HO5 := Lib.hid ho4
              have HC := Lib.hid (bs_grown HC0.out.drew hg4 (by simp) (fun a e => by injection e with e; subst e; simp [Value.ownBlock]))
              refine hK1.out _ _ trivial (fun hHeld => ?_)
              clear hK1 K1
              clear ho4 hg4
              have HB5 := Lib.hid hb5
              have hz5 := hb5.size
              refine wpAnyH_ready (rs := [7]) (by kernel_rfl) (by simp) (AllReadyH.cons rfl (fun K1 hK1 => ?_) AllReadyH.nil)
              refine step_append_bytes rfl _ _ rfl wr.heap.size v4 (t.take 0) rfl HO5.out _ (some ⟨wr.heap.size, 0, none⟩) 1 1 [cc] rfl HC.out (by rw [List.length_take]; omega) hz5 ?_
              intro v7 w7 ho7 hg7 _
              have hb7 : Below wr.heap.size wr w7 := HB5.out.grown hg7 hz5 HO5.out.block
              have HO7 := Lib.hid ho7
              have HB7 := Lib.hid hb7
              have hz7 := hb7.size
              have HT7 := Lib.hid (HBT.out.below hb7)
              refine hK1.out _ _ trivial (fun hHeld => ?_)
              clear hK1 K1
              clear ho7 hg7 hb7
              refine wpAnyH_ready (rs := [11]) (by kernel_rfl) (by simp) (AllReadyH.cons rfl (fun K1 hK1 => ?_) AllReadyH.nil)
              refine step_append_bytes rfl _ _ rfl wr.heap.size v7 (t.take 0 ++ [cc]) rfl HO7.out wr.heap.size At 0 ct (t.drop 0) rfl HT7.out (by rw [List.length_append, List.length_take]; simp only [List.length_cons, List.length_nil]; omega) hz7 ?_
              intro v9 w9 ho9 hg9 _
              have hb9 : Below wr.heap.size wr w9 := HB7.out.grown hg9 hz7 HO7.out.block
              have hlen9 : ((t.take 0 ++ [cc]) ++ t.drop 0).length = 0 + 1 := by
                rw [List.length_append, List.length_append, List.length_take, List.length_drop, HRR.out.len]; simp only [List.length_cons, List.length_nil]; omega
              have HO9 := Lib.hid ho9
              obtain ⟨A9, c9, rfl, _, _, _⟩ := ho9.at_ hlen9
              have HF : SpR w l0 A9 (0 + 1) c9 w9 (k + 1) ((t.take 0 ++ [cc]) ++ t.drop 0) := ⟨HO9.out.mono hB, (ins_filter t 0 cc hcc).trans HRR.out.fil, hlen9, by omega, hbel.trans (hb9.mono hB)⟩
              have HFF := Lib.hid HF
              refine hK1.out _ _ trivial (fun hHeld => ?_)
              clear hK1 K1
              clear ho9 hg9 hb9 hlen9 HF HO9
              refine wpAnyH_take (i := 12) (oi := ⟨some 7, _, _, _, _, _⟩) (v := ?_) rfl (by kernel_rfl) (by kernel_rfl) (by kernel_rfl) (fun _ _ _ h => h) (Or.inl ⟨by rfl, ?_⟩) hHeld ?_
              rotate_left
              · intro W hW; go_simp <;> with_reducible rfl
              simp only [Act.put, List.setIfInBounds_toArray]
              refine wpAnyH_done (by kernel_rfl) ?_ _
              go_wp2
              exact ⟨⟨k + 1, _, _, _, _, HFF.out, by omega, by simp, rfl⟩, by simp [intOf]; omega⟩
        · have ek : decide (k < n2) = false := decide_eq_false hk2
          have hcc : 32 ≤ 32 := Nat.le_refl _
          have hccb : ∀ x ∈ [32], x < 256 := by intro x hx; rcases List.mem_singleton.1 hx with rfl; omega
          go_wp2_with fail
          refine wp_region_held_drew (S := fun _ => True) (by kernel_rfl) trivial (fun hHeld => ?_)
          refine wpAnyH_take (i := 1) (oi := ⟨some 52, _, _, _, _, _⟩) (v := ?_) rfl (by kernel_rfl) (by kernel_rfl) (by kernel_rfl) (fun _ _ _ h => h) (Or.inl ⟨by rfl, ?_⟩) hHeld ?_
          rotate_left
          · intro W hW; go_simp <;> with_reducible rfl
          simp only [Act.put, List.setIfInBounds_toArray, List.set_cons_zero, List.set_cons_succ]
          refine wpAnyH_take (i := 2) (oi := ⟨some 53, _, _, _, _, _⟩) (v := ?_) rfl (by kernel_rfl) (by kernel_rfl) (by kernel_rfl) (fun _ _ _ h => h) (Or.inl ⟨by rfl, ?_⟩) hHeld ?_
          rotate_left
          · intro W hW; go_simp <;> with_reducible rfl
          simp only [Act.put, List.setIfInBounds_toArray, List.set_cons_zero, List.set_cons_succ]
          refine wpAnyH_take (i := 3) (oi := ⟨some 54, _, _, _, _, _⟩) (v := ?_) rfl (by kernel_rfl) (by kernel_rfl) (by kernel_rfl) (fun _ _ _ h => h) (Or.inl ⟨by rfl, ?_⟩) hHeld ?_
          rotate_left
          · intro W hW; go_simp <;> with_reducible rfl
          simp only [Act.put, List.setIfInBounds_toArray, List.set_cons_zero, List.set_cons_succ]
          refine wpAnyH_take (i := 5) (oi := ⟨some 56, _, _, _, _, _⟩) (v := ?_) rfl (by kernel_rfl) (by kernel_rfl) (by kernel_rfl) (fun _ _ _ h => h) (Or.inl ⟨by rfl, ?_⟩) hHeld ?_
          rotate_left
          · intro W hW; go_simp <;> with_reducible rfl
          simp only [Act.put, List.setIfInBounds_toArray, List.set_cons_zero, List.set_cons_succ]
          refine wpAnyH_take (i := 8) (oi := ⟨some 59, _, _, _, _, _⟩) (v := ?_) rfl (by kernel_rfl) (by kernel_rfl) (by kernel_rfl) (fun _ _ _ h => h) (Or.inl ⟨by rfl, ?_⟩) hHeld ?_
          rotate_left
          · intro W hW; go_simp <;> with_reducible rfl
          simp only [Act.put, List.setIfInBounds_toArray, List.set_cons_zero, List.set_cons_succ]
          refine wpAnyH_take (i := 9) (oi := ⟨some 60, _, _, _, _, _⟩) (v := ?_) rfl (by kernel_rfl) (by kernel_rfl) (by kernel_rfl) (fun _ _ _ h => h) (Or.inl ⟨by rfl, ?_⟩) hHeld ?_
          rotate_left
          · intro W hW; go_simp <;> with_reducible rfl
          simp only [Act.put, List.setIfInBounds_toArray, List.set_cons_zero, List.set_cons_succ]
          refine wpAnyH_take (i := 10) (oi := ⟨some 61, _, _, _, _, _⟩) (v := ?_) rfl (by kernel_rfl) (by kernel_rfl) (by kernel_rfl) (fun _ _ _ h => h) (Or.inl ⟨by rfl, ?_⟩) hHeld ?_
          rotate_left
          · intro W hW; go_simp <;> with_reducible rfl
          simp only [Act.put, List.setIfInBounds_toArray, List.set_cons_zero, List.set_cons_succ]
          refine wpAnyH_ready (rs := [0, 6]) (by kernel_rfl) (by simp) (AllReadyH.cons rfl (fun K1 hK1 => ?_) (AllReadyH.cons rfl (fun K1 hK1 => ?_) AllReadyH.nil))
          · go_simp
            refine hK1.out _ _ trivial (fun hHeld => ?_)
            clear hK1 K1
            refine wpAnyH_ready (rs := [4, 6]) (by kernel_rfl) (by simp) (AllReadyH.cons rfl (fun K1 hK1 => ?_) (AllReadyH.cons rfl (fun K1 hK1 => ?_) AllReadyH.nil))
            · as_aux_lemma =>
                have HO := Lib.hid (Own.empty wr)
                have HS := Lib.hid ((HBT.out.take hatle).alloc (Nat.le_refl _) (.cells #[] 5))
                refine step_append_bytes rfl _ _ rfl wr.heap.size (.slice (some ⟨wr.heap.size, 0, none⟩) 0 0) [] rfl (own_drew HO.out) wr.heap.size At 0 ct (t.take 0) rfl HS.out.drew (by simp <;> omega) (by simp <;> omega) ?_
                intro v4 w4 ho4 hg4 _
                have hb4 : Below wr.heap.size wr w4 := (((Below.refl _ _).alloc (Nat.le_refl _) (.cells #[] 5)).drew).grown hg4 (by simp) (fun k hk => by simp [Value.ownBlock] at hk; omega)
                have HO5 := Lib.hid (ho4.alloc (.cells #[.int .u8 ((32 : Nat) : Int)] 5))
                have HC := Lib.hid (BS.lit w4 [32] hccb)
                have hb5 : Below wr.heap.size wr (w4.alloc (.cells #[.int .u8 ((32 : Nat) : Int)] 5)) := hb4.alloc hb4.size _
                refine hK1.out _ _ trivial (fun hHeld => ?_)
                clear hK1 K1
                clear ho4 hg4 hb4
                refine wpAnyH_ready (rs := [6]) (by kernel_rfl) (by simp) (AllReadyH.cons rfl (fun K1 hK1 => ?_) AllReadyH.nil)
                go_simp
                refine hK1.out _ _ trivial (fun hHeld => ?_)
                clear hK1 K1
                have HB5 := Lib.hid hb5
                have hz5 := hb5.size
                refine wpAnyH_ready (rs := [7]) (by kernel_rfl) (by simp) (AllReadyH.cons rfl (fun K1 hK1 => ?_) AllReadyH.nil)
                refine step_append_bytes rfl _ _ rfl wr.heap.size v4 (t.take 0) rfl HO5.out _ (some ⟨w4.heap.size, 0, none⟩) 1 1 [32] rfl HC.out (by rw [List.length_take]; omega) hz5 ?_
                intro v7 w7 ho7 hg7 _
                have hb7 : Below wr.heap.size wr w7 := HB5.out.grown hg7 hz5 HO5.out.block
                have HO7 := Lib.hid ho7
                have HB7 := Lib.hid hb7
                have hz7 := hb7.size
                have HT7 := Lib.hid (HBT.out.below hb7)
                refine hK1.out _ _ trivial (fun hHeld => ?_)
                clear hK1 K1
                clear ho7 hg7 hb7
                refine wpAnyH_ready (rs := [11]) (by kernel_rfl) (by simp) (AllReadyH.cons rfl (fun K1 hK1 => ?_) AllReadyH.nil)
                refine step_append_bytes rfl _ _ rfl wr.heap.size v7 (t.take 0 ++ [32]) rfl HO7.out wr.heap.size At 0 ct (t.drop 0) rfl HT7.out (by rw [List.length_append, List.length_take]; simp only [List.length_cons, List.length_nil]; omega) hz7 ?_
                intro v9 w9 ho9 hg9 _
                have hb9 : Below wr.heap.size wr w9 := HB7.out.grown hg9 hz7 HO7.out.block
                have hlen9 : ((t.take 0 ++ [32]) ++ t.drop 0).length = 0 + 1 := by
                  rw [List.length_append, List.length_append, List.length_take, List.length_drop, HRR.out.len]; simp only [List.length_cons, List.length_nil]; omega
                have HO9 := Lib.hid ho9
                obtain ⟨A9, c9, rfl, _, _, _⟩ := ho9.at_ hlen9
                have HF : SpR w l0 A9 (0 + 1) c9 w9 (k + 1) ((t.take 0 ++ [32]) ++ t.drop 0) := ⟨HO9.out.mono hB, (ins_filter t 0 32 hcc).trans HRR.out.fil, hlen9, by omega, hbel.trans (hb9.mono hB)⟩
                have HFF := Lib.hid HF
                refine hK1.out _ _ trivial (fun hHeld => ?_)
                clear hK1 K1
                clear ho9 hg9 hb9 hlen9 HF HO9
                refine wpAnyH_take (i := 12) (oi := ⟨some 7, _, _, _, _, _⟩) (v := ?_) rfl (by kernel_rfl) (by kernel_rfl) (by kernel_rfl) (fun _ _ _ h => h) (Or.inl ⟨by rfl, ?_⟩) hHeld ?_
                rotate_left
                · intro W hW; go_simp <;> with_reducible rfl
                simp only [Act.put, List.setIfInBounds_toArray]
                refine wpAnyH_done (by kernel_rfl) ?_ _
                go_wp2
                exact ⟨⟨k + 1, _, _, _, _, HFF.out, by omega, by simp, rfl⟩, by simp [intOf]; omega⟩
            · as_aux_lemma =>
                go_simp
                refine hK1.out _ _ trivial (fun hHeld => ?_)
                clear hK1 K1
                have HO := Lib.hid ((Own.empty wr).alloc (.cells #[.int .u8 ((32 : Nat) : Int)] 5))
                have HS := Lib.hid (((HBT.out.take hatle).alloc (Nat.le_refl _) (.cells #[] 5)).alloc (by simp) (.cells #[.int .u8 ((32 : Nat) : Int)] 5))
                have hc0 := BS.lit (wr.alloc (.cells #[] 5)) [32] hccb
                simp only [World.size_alloc] at hc0
                have HC0 := Lib.hid hc0
                clear hc0
                refine wpAnyH_ready (rs := [4]) (by kernel_rfl) (by simp) (AllReadyH.cons rfl (fun K1 hK1 => ?_) AllReadyH.nil)
                refine step_append_bytes rfl _ _ rfl wr.heap.size (.slice (some ⟨wr.heap.size, 0, none⟩) 0 0) [] rfl (own_drew HO.out) wr.heap.size At 0 ct (t.take 0) rfl HS.out.drew (by simp <;> omega) (by simp <;> omega) ?_
                intro v4 w4 ho4 hg4 _
                have hb5 : Below wr.heap.size wr w4 := ((((Below.refl _ _).alloc (Nat.le_refl _) (.cells #[] 5)).alloc (by simp) (.cells #[.int .u8 ((32 : Nat) : Int)] 5)).drew).grown hg4 (by simp; omega) (fun k hk => by simp [Value.ownBlock] at hk; omega)
                have HO5 := Lib.hid ho4
                have HC := Lib.hid (bs_grown HC0.out.drew hg4 (by simp) (fun a e => by injection e with e; subst e; simp [Value.ownBlock]))
                refine hK1.out _ _ trivial (fun hHeld => ?_)
                clear hK1 K1
                clear ho4 hg4
                have HB5 := Lib.hid hb5
                have hz5 := hb5.size
                refine wpAnyH_ready (rs := [7]) (by kernel_rfl) (by simp) (AllReadyH.cons rfl (fun K1 hK1 => ?_) AllReadyH.nil)
                refine step_append_bytes rfl _ _ rfl wr.heap.size v4 (t.take 0) rfl HO5.out _ (some ⟨wr.heap.size + 1, 0, none⟩) 1 1 [32] rfl HC.out (by rw [List.length_take]; omega) hz5 ?_
                intro v7 w7 ho7 hg7 _
                have hb7 : Below wr.heap.size wr w7 := HB5.out.grown hg7 hz5 HO5.out.block
                have HO7 := Lib.hid ho7
                have HB7 := Lib.hid hb7
                have hz7 := hb7.size
                have HT7 := Lib.hid (HBT.out.below hb7)
                refine hK1.out _ _ trivial (fun hHeld => ?_)
                clear hK1 K1
                clear ho7 hg7 hb7
                refine wpAnyH_ready (rs := [11]) (by kernel_rfl) (by simp) (AllReadyH.cons rfl (fun K1 hK1 => ?_) AllReadyH.nil)
                refine step_append_bytes rfl _ _ rfl wr.heap.size v7 (t.take 0 ++ [32]) rfl HO7.out wr.heap.size At 0 ct (t.drop 0) rfl HT7.out (by rw [List.length_append, List.length_take]; simp only [List.length_cons, List.length_nil]; omega) hz7 ?_
                intro v9 w9 ho9 hg9 _
                have hb9 : Below wr.heap.size wr w9 := HB7.out.grown hg9 hz7 HO7.out.block
                have hlen9 : ((t.take 0 ++ [32]) ++ t.drop 0).length = 0 + 1 := by
                  rw [List.length_append, List.length_append, List.length_take, List.length_drop, HRR.out.len]; simp only [List.length_cons, List.length_nil]; omega
                have HO9 := Lib.hid ho9
                obtain ⟨A9, c9, rfl, _, _, _⟩ := ho9.at_ hlen9
                have HF : SpR w l0 A9 (0 + 1) c9 w9 (k + 1) ((t.take 0 ++ [32]) ++ t.drop 0) := ⟨HO9.out.mono hB, (ins_filter t 0 32 hcc).trans HRR.out.fil, hlen9, by omega, hbel.trans (hb9.mono hB)⟩
                have HFF := Lib.hid HF
                refine hK1.out _ _ trivial (fun hHeld => ?_)
                clear hK1 K1
                clear ho9 hg9 hb9 hlen9 HF HO9
                refine wpAnyH_take (i := 12) (oi := ⟨some 7, _, _, _, _, _⟩) (v := ?_) rfl (by kernel_rfl) (by kernel_rfl) (by kernel_rfl) (fun _ _ _ h => h) (Or.inl ⟨by rfl, ?_⟩) hHeld ?_
                rotate_left
                · intro W hW; go_simp <;> with_reducible rfl
                simp only [Act.put, List.setIfInBounds_toArray]
                refine wpAnyH_done (by kernel_rfl) ?_ _
                go_wp2
                exact ⟨⟨k + 1, _, _, _, _, HFF.out, by omega, by simp, rfl⟩, by simp [intOf]; omega⟩
          · as_aux_lemma =>
              go_simp
              refine hK1.out _ _ trivial (fun hHeld => ?_)
              clear hK1 K1
              refine wpAnyH_ready (rs := [0]) (by kernel_rfl) (by simp) (AllReadyH.cons rfl (fun K1 hK1 => ?_) AllReadyH.nil)
              go_simp
              refine hK1.out _ _ trivial (fun hHeld => ?_)
              clear hK1 K1
              have ho0 := (Own.empty (wr.alloc (.cells #[.int .u8 ((32 : Nat) : Int)] 5))).mono (base' := wr.heap.size) (by simp)
              simp only [World.size_alloc] at ho0
              have HO := Lib.hid ho0
              clear ho0
              have HS := Lib.hid (((HBT.out.take hatle).alloc (Nat.le_refl _) (.cells #[.int .u8 ((32 : Nat) : Int)] 5)).alloc (by simp) (.cells #[] 5))
              have HC0 := Lib.hid ((BS.lit wr [32] hccb).alloc (by simp) (.cells #[] 5))
              refine wpAnyH_ready (rs := [4]) (by kernel_rfl) (by simp) (AllReadyH.cons rfl (fun K1 hK1 => ?_) AllReadyH.nil)
              refine step_append_bytes rfl _ _ rfl wr.heap.size (.slice (some ⟨wr.heap.size + 1, 0, none⟩) 0 0) [] rfl (own_drew HO.out) wr.heap.size At 0 ct (t.take 0) rfl HS.out.drew (by simp <;> omega) (by simp <;> omega) ?_
              intro v4 w4 ho4 hg4 _
              have hb5 : Below wr.heap.size wr w4 := ((((Below.refl _ _).alloc (Nat.le_refl _) (.cells #[.int .u8 ((32 : Nat) : Int)] 5)).alloc (by simp) (.cells #[] 5)).drew).grown hg4 (by simp; omega) (fun k hk => by simp [Value.ownBlock] at hk; omega)
              have HO5 := Lib.hid ho4
              have HC := Lib.hid (bs_grown HC0.out.drew hg4 (by simp) (fun a e => by injection e with e; subst e; simp [Value.ownBlock]))
              refine hK1.out _ _ trivial (fun hHeld => ?_)
              clear hK1 K1
              clear ho4 hg4
              have HB5 := Lib.hid hb5
              have hz5 := hb5.size
              refine wpAnyH_ready (rs := [7]) (by kernel_rfl) (by simp) (AllReadyH.cons rfl (fun K1 hK1 => ?_) AllReadyH.nil)
              refine step_append_bytes rfl _ _ rfl wr.heap.size v4 (t.take 0) rfl HO5.out _ (some ⟨wr.heap.size, 0, none⟩) 1 1 [32] rfl HC.out (by rw [List.length_take]; omega) hz5 ?_
              intro v7 w7 ho7 hg7 _
              have hb7 : Below wr.heap.size wr w7 := HB5.out.grown hg7 hz5 HO5.out.block
              have HO7 := Lib.hid ho7
              have HB7 := Lib.hid hb7
              have hz7 := hb7.size
              have HT7 := Lib.hid (HBT.out.below hb7)
              refine hK1.out _ _ trivial (fun hHeld => ?_)
              clear hK1 K1
              clear ho7 hg7 hb7
              refine wpAnyH_ready (rs := [11]) (by kernel_rfl) (by simp) (AllReadyH.cons rfl (fun K1 hK1 => ?_) AllReadyH.nil)
              refine step_append_bytes rfl _ _ rfl wr.heap.size v7 (t.take 0 ++ [32]) rfl HO7.out wr.heap.size At 0 ct (t.drop 0) rfl HT7.out (by rw [List.length_append, List.length_take]; simp only [List.length_cons, List.length_nil]; omega) hz7 ?_
              intro v9 w9 ho9 hg9 _
              have hb9 : Below wr.heap.size wr w9 := HB7.out.grown hg9 hz7 HO7.out.block
              have hlen9 : ((t.take 0 ++ [32]) ++ t.drop 0).length = 0 + 1 := by
                rw [List.length_append, List.length_append, List.length_take, List.length_drop, HRR.out.len]; simp only [List.length_cons, List.length_nil]; omega
              have HO9 := Lib.hid ho9
              obtain ⟨A9, c9, rfl, _, _, _⟩ := ho9.at_ hlen9
              have HF : SpR w l0 A9 (0 + 1) c9 w9 (k + 1) ((t.take 0 ++ [32]) ++ t.drop 0) := ⟨HO9.out.mono hB, (ins_filter t 0 32 hcc).trans HRR.out.fil, hlen9, by omega, hbel.trans (hb9.mono hB)⟩
              have HFF := Lib.hid HF
              refine hK1.out _ _ trivial (fun hHeld => ?_)
              clear hK1 K1
              clear ho9 hg9 hb9 hlen9 HF HO9
              refine wpAnyH_take (i := 12) (oi := ⟨some 7, _, _, _, _, _⟩) (v := ?_) rfl (by kernel_rfl) (by kernel_rfl) (by kernel_rfl) (fun _ _ _ h => h) (Or.inl ⟨by rfl, ?_⟩) hHeld ?_
              rotate_left
              · intro W hW; go_simp <;> with_reducible rfl
              simp only [Act.put, List.setIfInBounds_toArray]
              refine wpAnyH_done (by kernel_rfl) ?_ _
              go_wp2
              exact ⟨⟨k + 1, _, _, _, _, HFF.out, by omega, by simp, rfl⟩, by simp [intOf]; omega⟩
    · obtain rfl : k = n1 := by omega
      obtain ⟨ho, hbad⟩ := dec_spaces t l0 b0.lt HRR.out.fil
      have HO := Lib.hid ho
      have HBAD := Lib.hid hbad
      clear ho hbad
      go_wp2_with fail
      refine (implDecode_any At nt ct t true wr wr.heap.size (Nat.le_refl _) hct (by unfold maxLen; omega) (by omega) HBT.out (HG.out.below hbel hpos)).mono ?_
      rintro e w2 ⟨v2, rfl, hv2, hb2⟩
      rw [HO.out] at hv2
      rw [HBAD.out]
      obtain ⟨A2', c2', rfl, _, _, bs2⟩ := hv2.at_ b0.len
      have hb02 : Below w.heap.size w w2 := hbel.trans (hb2.mono hB)
      have b02 := b0.below hb02
      generalize usedOf (decM t true) = uu at *
      generalize atOf (decM t true) = aa at *
      go_wp2_with fail
      refine (equal_any A2' n0 c2' A0 n0 c0 l0 l0 w2 _ _ bs2 b02).mono ?_
      rintro e w3 ⟨rfl, rfl⟩
      rw [decide_eq_true rfl]
      go_wp2
      go_ret
      exact ⟨by simp, hb02⟩

end Go.Proofs.YthhbcnjbnfjiiaaDoor.fnSpaces

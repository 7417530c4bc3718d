/-
  The walk of the stream encoder's Write that completes a group and no more. Printed by fillgen.py. Conditions: those that it names.
-/
import Derived.Test.YthhbcnjbnfjiiaaEncFew
namespace Go.Proofs.Ythhbcnjbnfjiiaa
open Go.RowKit
open Plain85 (enc)

set_option maxHeartbeats 16000000 in
set_option maxRecDepth 100000 in
theorem write_even (B eb b bp off : Nat) (f : Nat → Value) (A' : Option Addr) (m cap : Nat) (lr : Int) (o0 r l0 : List Nat) (n c : Nat) (w : World) (hE : EncS w eb b f r) (hBf : Buf w B b A' m cap lr o0) (hp : BS w w.heap.size (some ⟨bp, off, none⟩) n l0) (hnc : n ≤ c) (hcm : c ≤ maxLen) (hbpe : bp ≠ eb) (hbpb : bp ≠ b) (hn3 : (Value.slice A' m cap).ownBlock ≠ some bp) (hne : eb ≠ b) (hBe : B ≤ eb) (hBw : B ≤ w.heap.size) (hr : 1 ≤ r.length) (hr3 : r.length ≤ 3) (hrn : r.length + n = 4) (hlim0 : o0.length + 2 * l0.length + 8 ≤ 17592186044416) :
    Calls Try.prog 50 #[.pointer (some ⟨eb, 0, none⟩), .slice (some ⟨bp, off, none⟩) n c] w fun e w' => RetWr w B eb b (o0 ++ enc (r ++ l0.take (4 - r.length))) (l0.drop (4 - r.length)) e w' := by
  have hl0 := hp.len
  obtain ⟨kk, hkk⟩ : ∃ kk, 4 - r.length = kk := ⟨_, rfl⟩
  have hkr : r.length + kk = 4 := by omega
  rw [hkk]
  have hm46 : m ≤ 17592186044416 := by have := hBf.len; omega
  have hlim1 : (o0 ++ enc (r ++ l0.take kk)).length + 2 * (l0.drop kk).length ≤ 17592186044416 := by
    have h1 := Plain85.enc_le (r ++ l0.take kk)
    rw [List.length_append, List.length_take] at h1
    rw [List.length_append, List.length_drop]
    omega
  obtain ⟨o, ho⟩ : ∃ o, o0 ++ enc (r ++ l0.take kk) = o := ⟨_, rfl⟩
  obtain ⟨lp, hlp⟩ : ∃ lp, l0.drop kk = lp := ⟨_, rfl⟩
  rw [ho, hlp] at hlim1 ⊢
  have hlim := hlim1
  have hlpl : lp.length = n - kk := by rw [← hlp, List.length_drop, hl0]
  have HOO := Lib.hid ho
  have HLP := Lib.hid hlp
  have c0 : w.cell? ⟨eb, 0, none⟩ = some .nilIface := by rw [hE.row.cell (by omega), hE.f0]
  have c6 : w.cell? ⟨eb, 6, none⟩ = some (.int .i64 ((r.length : Nat) : Int)) := by rw [hE.row.cell (by omega), hE.f6]
  have e00 : decide (0 < r.length) = true := decide_eq_true (by omega)
  have m1 := bw_find ⟨b, 0, none⟩
  have m2 := bw_enter
  have m3 := bw_ahead ⟨b, 0, none⟩
  have HE := Lib.hid hE
  have HBF := Lib.hid hBf
  have HS := Lib.hid (show FlR w eb b r l0 n w 0 f from ⟨Nat.zero_le _, by simpa using hE, Only.refl _ _⟩)
  clear hE hBf ho hlp hlim1
  unfold maxLen at hcm
  go_enter Try.func50, Try.ntmps50
  go_wp2
  go_loopw [6] (fun i wr => FlRel w eb b r l0 n i wr) (fun i _ => n - (intOf i).toNat)
  case atStart => exact ⟨0, f, HS.out, rfl⟩
  case round =>
    obtain ⟨k, f, hR, rfl⟩ := hrel
    have hkn' := hR.kn
    obtain ⟨q, hq⟩ : ∃ q, (r ++ l0.take k).length = q := ⟨_, rfl⟩
    have HQ := Lib.hid (show q = r.length + k by rw [← hq, List.length_append, List.length_take, hp.len, Nat.min_eq_left hkn'])
    have x6 : wr.cell? ⟨eb, 6, none⟩ = some (.int .i64 (q : Int)) := by rw [hR.es.row.cell (by omega), hR.es.f6, hq]
    have HRR := Lib.hid hR
    clear hR
    obtain ⟨hr4q⟩ : Nonempty (q ≤ 4) := ⟨by have := HRR.out.es.r4; omega⟩
    by_cases hkn : k < n
    · have hq3 : q ≤ 3 := by have := HQ.out; omega
      have e1 : decide ((k : Int) < (n : Int)) = true := decide_eq_true (by omega)
      have hqi : (q : Int) < 4 := by omega
      have e2 : decide ((q : Int) < 4) = true := decide_eq_true (by omega)
      have HBP := Lib.hid hp
      obtain ⟨x, hx⟩ : ∃ x, l0.getD k 0 = x := ⟨_, rfl⟩
      have hx256 : x < 256 := by rw [← hx]; exact getD_lt hp.lt k
      have cX : wr.cell? ⟨bp, off + k, none⟩ = some (.int .u8 (x : Int)) := by rw [HRR.out.on.cell hbpe, hp.cell hkn, hx]
      have f1 : wr.frozen? ⟨eb, 2 + q, none⟩ = false := HRR.out.es.row.frozen _
      have cY := HRR.out.es.row.cell (i := 2 + q) (by omega)
      obtain ⟨f', hE'⟩ := HRR.out.es.push hx256 hq (by omega)
      have hE2 : EncS ((wr.setCell ⟨eb, 2 + q, none⟩ (.int .u8 (x : Int))).setCell ⟨eb, 6, none⟩ (.int .i64 ((q : Int) + 1))) eb b f' (r ++ l0.take (k + 1)) := by rw [take_push l0 k (by rw [hp.len]; exact hkn), hx, ← List.append_assoc]; exact hE'
      have hO2 : Only eb w ((wr.setCell ⟨eb, 2 + q, none⟩ (.int .u8 (x : Int))).setCell ⟨eb, 6, none⟩ (.int .i64 ((q : Int) + 1))) := (HRR.out.on.set _ _).set _ _
      have hrow1 := HRR.out.es.row.set (2 + q) (.int .u8 (x : Int))
      have y6 : (wr.setCell ⟨eb, 2 + q, none⟩ (.int .u8 (x : Int))).cell? ⟨eb, 6, none⟩ = some (.int .i64 (q : Int)) := (World.cell?_setCell_other _ ⟨eb, 2 + q, none⟩ ⟨eb, 6, none⟩ _ (by simp)).trans x6
      have g6 := hrow1.frozen 6
      have HE2 := Lib.hid hE2
      have HO2 := Lib.hid hO2
      clear hE' hE2 hO2 hrow1 hx hp hq
      go_wp2_with fail
      refine wp_region_held_drew (S := fun W => W.cell? ⟨eb, 6, none⟩ = some (.int .i64 (q : Int)) ∧ W.cell? ⟨bp, off + k, none⟩ = some (.int .u8 (x : Int))) (by kernel_rfl) ⟨x6, cX⟩ (fun hHeld => ?_)
      refine wpAnyH_take (i := 0) (oi := ⟨some 37, _, _, _, _, _⟩) (v := ?_) rfl (by kernel_rfl) (by kernel_rfl) (by kernel_rfl) (fun _ _ _ h => h) (Or.inl ⟨by rfl, ?_⟩) hHeld ?_
      rotate_left
      · intro W hW; obtain ⟨hW1, hW2⟩ := hW; go_simp <;> with_reducible rfl
      simp only [Act.put, List.setIfInBounds_toArray, List.set_cons_zero, List.set_cons_succ]
      refine wpAnyH_take (i := 1) (oi := ⟨some 38, _, _, _, _, _⟩) (v := ?_) rfl (by kernel_rfl) (by kernel_rfl) (by kernel_rfl) (fun _ _ _ h => h) (Or.inl ⟨by rfl, ?_⟩) hHeld ?_
      rotate_left
      · intro W hW; obtain ⟨hW1, hW2⟩ := hW; go_simp <;> with_reducible rfl
      simp only [Act.put, List.setIfInBounds_toArray, List.set_cons_zero, List.set_cons_succ]
      refine wpAnyH_take (i := 2) (oi := ⟨some 39, _, _, _, _, _⟩) (v := ?_) rfl (by kernel_rfl) (by kernel_rfl) (by kernel_rfl) (fun _ _ _ h => h) (Or.inl ⟨by rfl, ?_⟩) hHeld ?_
      rotate_left
      · intro W hW; obtain ⟨hW1, hW2⟩ := hW; go_simp <;> with_reducible rfl
      simp only [Act.put, List.setIfInBounds_toArray, List.set_cons_zero, List.set_cons_succ]
      refine wpAnyH_take (i := 3) (oi := ⟨some 40, _, _, _, _, _⟩) (v := ?_) rfl (by kernel_rfl) (by kernel_rfl) (by kernel_rfl) (fun _ _ _ h => h) (Or.inl ⟨by rfl, ?_⟩) hHeld ?_
      rotate_left
      · intro W hW; obtain ⟨hW1, hW2⟩ := hW; go_simp <;> with_reducible rfl
      simp only [Act.put, List.setIfInBounds_toArray, List.set_cons_zero, List.set_cons_succ]
      refine wpAnyH_take (i := 4) (oi := ⟨some 41, _, _, _, _, _⟩) (v := ?_) rfl (by kernel_rfl) (by kernel_rfl) (by kernel_rfl) (fun _ _ _ h => h) (Or.inl ⟨by rfl, ?_⟩) hHeld ?_
      rotate_left
      · intro W hW; obtain ⟨hW1, hW2⟩ := hW; go_simp <;> with_reducible rfl
      simp only [Act.put, List.setIfInBounds_toArray, List.set_cons_zero, List.set_cons_succ]
      refine wpAnyH_take (i := 5) (oi := ⟨some 42, _, _, _, _, _⟩) (v := ?_) rfl (by kernel_rfl) (by kernel_rfl) (by kernel_rfl) (fun _ _ _ h => h) (Or.inl ⟨by rfl, ?_⟩) hHeld ?_
      rotate_left
      · intro W hW; obtain ⟨hW1, hW2⟩ := hW; go_simp <;> with_reducible rfl
      simp only [Act.put, List.setIfInBounds_toArray, List.set_cons_zero, List.set_cons_succ]
      refine wpAnyH_take (i := 6) (oi := ⟨some 43, _, _, _, _, _⟩) (v := ?_) rfl (by kernel_rfl) (by kernel_rfl) (by kernel_rfl) (fun _ _ _ h => h) (Or.inl ⟨by rfl, ?_⟩) hHeld ?_
      rotate_left
      · intro W hW; obtain ⟨hW1, hW2⟩ := hW; go_simp <;> with_reducible rfl
      simp only [Act.put, List.setIfInBounds_toArray, List.set_cons_zero, List.set_cons_succ]
      refine wpAnyH_take (i := 7) (oi := ⟨some 44, _, _, _, _, _⟩) (v := ?_) rfl (by kernel_rfl) (by kernel_rfl) (by kernel_rfl) (fun _ _ _ h => h) (Or.inl ⟨by rfl, ?_⟩) hHeld ?_
      rotate_left
      · intro W hW; obtain ⟨hW1, hW2⟩ := hW; go_simp <;> with_reducible rfl
      simp only [Act.put, List.setIfInBounds_toArray, List.set_cons_zero, List.set_cons_succ]
      refine wpAnyH_take (i := 8) (oi := ⟨some 45, _, _, _, _, _⟩) (v := ?_) rfl (by kernel_rfl) (by kernel_rfl) (by kernel_rfl) (fun _ _ _ h => h) (Or.inl ⟨by rfl, ?_⟩) hHeld ?_
      rotate_left
      · intro W hW; obtain ⟨hW1, hW2⟩ := hW; go_simp <;> with_reducible rfl
      simp only [Act.put, List.setIfInBounds_toArray, List.set_cons_zero, List.set_cons_succ]
      refine wpAnyH_take (i := 9) (oi := ⟨some 46, _, _, _, _, _⟩) (v := ?_) rfl (by kernel_rfl) (by kernel_rfl) (by kernel_rfl) (fun _ _ _ h => h) (Or.inl ⟨by rfl, ?_⟩) hHeld ?_
      rotate_left
      · intro W hW; obtain ⟨hW1, hW2⟩ := hW; go_simp <;> with_reducible rfl
      simp only [Act.put, List.setIfInBounds_toArray, List.set_cons_zero, List.set_cons_succ]
      refine wpAnyH_take (i := 10) (oi := ⟨some 47, _, _, _, _, _⟩) (v := ?_) rfl (by kernel_rfl) (by kernel_rfl) (by kernel_rfl) (fun _ _ _ h => h) (Or.inl ⟨by rfl, ?_⟩) hHeld ?_
      rotate_left
      · intro W hW; obtain ⟨hW1, hW2⟩ := hW; go_simp <;> with_reducible rfl
      simp only [Act.put, List.setIfInBounds_toArray, List.set_cons_zero, List.set_cons_succ]
      refine wpAnyH_take (i := 11) (oi := ⟨some 48, _, _, _, _, _⟩) (v := ?_) rfl (by kernel_rfl) (by kernel_rfl) (by kernel_rfl) (fun _ _ _ h => h) (Or.inl ⟨by rfl, ?_⟩) hHeld ?_
      rotate_left
      · intro W hW; obtain ⟨hW1, hW2⟩ := hW; go_simp <;> with_reducible rfl
      simp only [Act.put, List.setIfInBounds_toArray, List.set_cons_zero, List.set_cons_succ]
      refine wpAnyH_ready (rs := [12]) (by kernel_rfl) (by simp) (AllReadyH.cons rfl (fun K1 hK1 => ?_) AllReadyH.nil)
      go_simp
      refine hK1.out _ _ ⟨(World.cell?_setCell_other _ ⟨eb, 2 + q, none⟩ ⟨eb, 6, none⟩ _ (by simp)).trans x6, (World.cell?_setCell_far _ ⟨eb, 2 + q, none⟩ ⟨bp, off + k, none⟩ _ (by simpa using hbpe.symm)).trans cX⟩ (fun hHeld => ?_)
      clear hK1 K1
      refine wpAnyH_done (by kernel_rfl) ?_ _
      go_wp2
      exact ⟨⟨k + 1, f', ⟨hkn, HE2.out.drew, HO2.out.drew⟩, by simp⟩, by simp [intOf]; omega⟩
    · obtain rfl : k = n := by omega
      obtain rfl : k = kk := by omega
      obtain rfl : q = 4 := by have := HQ.out; omega
      have e1 : decide ((k : Int) < (k : Int)) = false := decide_eq_false (by omega)
      obtain ⟨g, hg⟩ : ∃ g, r ++ l0.take k = g := ⟨_, rfl⟩
      have hE4 : EncS wr eb b f g := hg ▸ HRR.out.es
      have hgl : g.length = 4 := by rw [← hg]; exact hq
      have HRB := Lib.hid (hE4.bs hgl)
      have HGL := Lib.hid hgl
      have HE4 := Lib.hid hE4
      have HOE := Lib.hid (show o0 ++ enc g = o by rw [← hg]; exact HOO.out)
      have HP := Lib.hid hp
      obtain ⟨PA, hPA⟩ : ∃ PA, (if c = k then some (⟨bp, off, none⟩ : Addr) else some ⟨bp, off + k, none⟩) = PA := ⟨_, rfl⟩
      have hsp := cutp bp off k c k (by omega)
      rw [hPA] at hsp
      have HPA := Lib.hid hPA
      clear hE4 hgl hg hp hq hPA
      go_wp2_with fail
      refine wp_region_held_drew (S := fun _ => True) (by kernel_rfl) trivial (fun hHeld => ?_)
      refine wpAnyH_take (i := 0) (oi := ⟨some 67, _, _, _, _, _⟩) (v := ?_) rfl (by kernel_rfl) (by kernel_rfl) (by kernel_rfl) (fun _ _ _ h => h) (Or.inl ⟨by rfl, ?_⟩) hHeld ?_
      rotate_left
      · intro W hW; go_simp <;> with_reducible rfl
      simp only [Act.put, List.setIfInBounds_toArray, List.set_cons_zero, List.set_cons_succ]
      refine wpAnyH_take (i := 1) (oi := ⟨some 68, _, _, _, _, _⟩) (v := ?_) rfl (by kernel_rfl) (by kernel_rfl) (by kernel_rfl) (fun _ _ _ h => h) (Or.inl ⟨by rfl, ?_⟩) hHeld ?_
      rotate_left
      · intro W hW; go_simp <;> with_reducible rfl
      simp only [Act.put, List.setIfInBounds_toArray, List.set_cons_zero, List.set_cons_succ]
      refine wpAnyH_take (i := 2) (oi := ⟨some 69, _, _, _, _, _⟩) (v := ?_) rfl (by kernel_rfl) (by kernel_rfl) (by kernel_rfl) (fun _ _ _ h => h) (Or.inl ⟨by rfl, ?_⟩) hHeld ?_
      rotate_left
      · intro W hW; go_simp <;> with_reducible rfl
      simp only [Act.put, List.setIfInBounds_toArray, List.set_cons_zero, List.set_cons_succ]
      refine wpAnyH_take (i := 3) (oi := ⟨some 70, _, _, _, _, _⟩) (v := ?_) rfl (by kernel_rfl) (by kernel_rfl) (by kernel_rfl) (fun _ _ _ h => h) (Or.inl ⟨by rfl, ?_⟩) hHeld ?_
      rotate_left
      · intro W hW; go_simp <;> with_reducible rfl
      simp only [Act.put, List.setIfInBounds_toArray, List.set_cons_zero, List.set_cons_succ]
      refine wpAnyH_take (i := 4) (oi := ⟨some 71, _, _, _, _, _⟩) (v := ?_) rfl (by kernel_rfl) (by kernel_rfl) (by kernel_rfl) (fun _ _ _ h => h) (Or.inl ⟨by rfl, ?_⟩) hHeld ?_
      rotate_left
      · intro W hW; go_simp <;> with_reducible rfl
      simp only [Act.put, List.setIfInBounds_toArray, List.set_cons_zero, List.set_cons_succ]
      refine wpAnyH_take (i := 5) (oi := ⟨some 72, _, _, _, _, _⟩) (v := ?_) rfl (by kernel_rfl) (by kernel_rfl) (by kernel_rfl) (fun _ _ _ h => h) (Or.inl ⟨by rfl, ?_⟩) hHeld ?_
      rotate_left
      · intro W hW; go_simp <;> with_reducible rfl
      simp only [Act.put, List.setIfInBounds_toArray, List.set_cons_zero, List.set_cons_succ]
      refine wpAnyH_take (i := 6) (oi := ⟨some 73, _, _, _, _, _⟩) (v := ?_) rfl (by kernel_rfl) (by kernel_rfl) (by kernel_rfl) (fun _ _ _ h => h) (Or.inl ⟨by rfl, ?_⟩) hHeld ?_
      rotate_left
      · intro W hW; go_simp <;> with_reducible rfl
      simp only [Act.put, List.setIfInBounds_toArray, List.set_cons_zero, List.set_cons_succ]
      refine wpAnyH_take (i := 7) (oi := ⟨some 74, _, _, _, _, _⟩) (v := ?_) rfl (by kernel_rfl) (by kernel_rfl) (by kernel_rfl) (fun _ _ _ h => h) (Or.inl ⟨by rfl, ?_⟩) hHeld ?_
      rotate_left
      · intro W hW; go_simp <;> with_reducible rfl
      simp only [Act.put, List.setIfInBounds_toArray, List.set_cons_zero, List.set_cons_succ]
      refine wpAnyH_ready (rs := [8]) (by kernel_rfl) (by simp) (AllReadyH.cons rfl (fun K1 hK1 => ?_) AllReadyH.nil)
      go_simp
      refine (encode_any eb 7 1024 1024 1031 56 f (some ⟨eb, 2, none⟩) 4 4 g wr.drew _ HE4.out.row.drew (by omega) (by omega) (by unfold maxLen; omega) (by omega) HRB.out.drew (by omega) (by unfold maxLen; omega) (fun _ b' o' e' _ => by injection e' with e'; injection e' with _ e2; omega)).mono ?_
      rintro e w1 ⟨f', rfl, hrow1, hon1, hlow1, _, htxt1⟩
      obtain ⟨no, hno⟩ : ∃ no, (enc g).length = no := ⟨_, rfl⟩
      have hno1 : 1 ≤ no ∧ no ≤ 10 := by rw [← hno]; exact enc_small g 4 HGL.out (by omega) (by omega)
      rw [hno]
      have HNO := Lib.hid hno
      have HLOW := Lib.hid hlow1
      have ROW2 := Lib.hid hrow1
      have ho2 : Only eb w w1 := HRR.out.on.trans ⟨hon1.os, hon1.tape, hon1.output, hon1.size, hon1.block⟩
      have HO2 := Lib.hid ho2
      have BUF2 := Lib.hid (HBF.out.only HE.out.row hne ho2)
      have BSO := Lib.hid (out_bs hrow1 (Plain85.enc_lt g) (by rw [hno]; omega) htxt1 hno)
      have y1 : w1.cell? ⟨eb, 1, none⟩ = some (.iface 33 (.pointer (some ⟨b, 0, none⟩))) := by rw [hrow1.cell (by omega), hlow1 1 (by omega), HE4.out.f1]
      have hsl2 := cut1024 eb 7 no (by omega)
      refine hK1.out _ _ trivial (fun hHeld => ?_)
      clear hK1 K1 hrow1 hon1 htxt1 hlow1 hno ho2
      refine wpAnyH_take (i := 9) (oi := ⟨some 7, _, _, _, _, _⟩) (v := ?_) rfl (by kernel_rfl) (by kernel_rfl) (by kernel_rfl) (fun _ _ _ h => h) (Or.inl ⟨by rfl, ?_⟩) hHeld ?_
      rotate_left
      · intro W hW; go_simp <;> with_reducible rfl
      simp only [Act.put, List.setIfInBounds_toArray, List.set_cons_zero, List.set_cons_succ]
      refine wpAnyH_done (by kernel_rfl) ?_ _
      go_wp2_with fail
      refine wp_region_held_drew (S := fun W => W.cell? ⟨eb, 1, none⟩ = some (.iface 33 (.pointer (some ⟨b, 0, none⟩)))) (by kernel_rfl) y1 (fun hHeld => ?_)
      refine wpAnyH_take (i := 0) (oi := ⟨some 77, _, _, _, _, _⟩) (v := ?_) rfl (by kernel_rfl) (by kernel_rfl) (by kernel_rfl) (fun _ _ _ h => h) (Or.inl ⟨by rfl, ?_⟩) hHeld ?_
      rotate_left
      · intro W hW; go_simp <;> with_reducible rfl
      simp only [Act.put, List.setIfInBounds_toArray, List.set_cons_zero, List.set_cons_succ]
      refine wpAnyH_take (i := 1) (oi := ⟨some 78, _, _, _, _, _⟩) (v := ?_) rfl (by kernel_rfl) (by kernel_rfl) (by kernel_rfl) (fun _ _ _ h => h) (Or.inl ⟨by rfl, ?_⟩) hHeld ?_
      rotate_left
      · intro W hW; go_simp <;> with_reducible rfl
      simp only [Act.put, List.setIfInBounds_toArray, List.set_cons_zero, List.set_cons_succ]
      refine wpAnyH_take (i := 2) (oi := ⟨some 79, _, _, _, _, _⟩) (v := ?_) rfl (by kernel_rfl) (by kernel_rfl) (by kernel_rfl) (fun _ _ _ h => h) (Or.inl ⟨by rfl, ?_⟩) hHeld ?_
      rotate_left
      · intro W hW; go_simp <;> with_reducible rfl
      simp only [Act.put, List.setIfInBounds_toArray, List.set_cons_zero, List.set_cons_succ]
      refine wpAnyH_take (i := 3) (oi := ⟨some 80, _, _, _, _, _⟩) (v := ?_) rfl (by kernel_rfl) (by kernel_rfl) (by kernel_rfl) (fun _ _ _ h => h) (Or.inl ⟨by rfl, ?_⟩) hHeld ?_
      rotate_left
      · intro W hW; go_simp <;> with_reducible rfl
      simp only [Act.put, List.setIfInBounds_toArray, List.set_cons_zero, List.set_cons_succ]
      refine wpAnyH_take (i := 4) (oi := ⟨some 81, _, _, _, _, _⟩) (v := ?_) rfl (by kernel_rfl) (by kernel_rfl) (by kernel_rfl) (fun _ _ _ h => h) (Or.inl ⟨by rfl, ?_⟩) hHeld ?_
      rotate_left
      · intro W hW; go_simp <;> with_reducible rfl
      simp only [Act.put, List.setIfInBounds_toArray, List.set_cons_zero, List.set_cons_succ]
      refine wpAnyH_take (i := 5) (oi := ⟨some 82, _, _, _, _, _⟩) (v := ?_) rfl (by kernel_rfl) (by kernel_rfl) (by kernel_rfl) (fun _ _ _ h => h) (Or.inl ⟨by rfl, ?_⟩) hHeld ?_
      rotate_left
      · intro W hW; go_simp <;> with_reducible rfl
      simp only [Act.put, List.setIfInBounds_toArray, List.set_cons_zero, List.set_cons_succ]
      refine wpAnyH_take (i := 6) (oi := ⟨some 83, _, _, _, _, _⟩) (v := ?_) rfl (by kernel_rfl) (by kernel_rfl) (by kernel_rfl) (fun _ _ _ h => h) (Or.inl ⟨by rfl, ?_⟩) hHeld ?_
      rotate_left
      · intro W hW; go_simp <;> with_reducible rfl
      simp only [Act.put, List.setIfInBounds_toArray, List.set_cons_zero, List.set_cons_succ]
      refine wpAnyH_take (i := 7) (oi := ⟨some 84, _, _, _, _, _⟩) (v := ?_) rfl (by kernel_rfl) (by kernel_rfl) (by kernel_rfl) (fun _ _ _ h => h) (Or.inl ⟨by rfl, ?_⟩) hHeld ?_
      rotate_left
      · intro W hW; go_simp <;> with_reducible rfl
      simp only [Act.put, List.setIfInBounds_toArray, List.set_cons_zero, List.set_cons_succ]
      refine wpAnyH_take (i := 8) (oi := ⟨some 85, _, _, _, _, _⟩) (v := ?_) rfl (by kernel_rfl) (by kernel_rfl) (by kernel_rfl) (fun _ _ _ h => h) (Or.inl ⟨by rfl, ?_⟩) hHeld ?_
      rotate_left
      · intro W hW; go_simp <;> with_reducible rfl
      simp only [Act.put, List.setIfInBounds_toArray, List.set_cons_zero, List.set_cons_succ]
      refine wpAnyH_take (i := 9) (oi := ⟨some 86, _, _, _, _, _⟩) (v := ?_) rfl (by kernel_rfl) (by kernel_rfl) (by kernel_rfl) (fun _ _ _ h => h) (Or.inl ⟨by rfl, ?_⟩) hHeld ?_
      rotate_left
      · intro W hW; go_simp <;> with_reducible rfl
      simp only [Act.put, List.setIfInBounds_toArray, List.set_cons_zero, List.set_cons_succ]
      refine wpAnyH_take (i := 10) (oi := ⟨some 87, _, _, _, _, _⟩) (v := ?_) rfl (by kernel_rfl) (by kernel_rfl) (by kernel_rfl) (fun _ _ _ h => h) (Or.inl ⟨by rfl, ?_⟩) hHeld ?_
      rotate_left
      · intro W hW; go_simp <;> with_reducible rfl
      simp only [Act.put, List.setIfInBounds_toArray, List.set_cons_zero, List.set_cons_succ]
      refine wpAnyH_take (i := 11) (oi := ⟨some 88, _, _, _, _, _⟩) (v := ?_) rfl (by kernel_rfl) (by kernel_rfl) (by kernel_rfl) (fun _ _ _ h => h) (Or.inl ⟨by rfl, ?_⟩) hHeld ?_
      rotate_left
      · intro W hW; go_simp <;> with_reducible rfl
      simp only [Act.put, List.setIfInBounds_toArray, List.set_cons_zero, List.set_cons_succ]
      refine wpAnyH_ready (rs := [12]) (by kernel_rfl) (by simp) (AllReadyH.cons rfl (fun K1 hK1 => ?_) AllReadyH.nil)
      go_simp
      refine (bufWrite B b A' m cap lr o0 (enc g) eb 7 no 1024 w1.drew BUF2.out.drew (by have := HO2.out.size; show B ≤ w1.heap.size; omega) hno1.1 BSO.out.drew hne (by omega)).mono ?_
      rintro e w3 ⟨X, cap', lr', rfl, hbuf3, htwo3, hX3⟩
      have HBUF3 := Lib.hid hbuf3
      have HTWO3 := Lib.hid htwo3
      have HX3 := Lib.hid hX3
      have hblk3 : w3.heap[eb]? = w1.heap[eb]? := htwo3.block eb (by have := ROW2.out.lt; exact this) hne (fun e => own_ne_row BUF2.out.own ROW2.out e.symm)
      have row3 := ROW2.out.of_block hblk3
      have hS3 : w3.cell? ⟨eb, 1, none⟩ = some (.iface 33 (.pointer (some ⟨b, 0, none⟩))) := by rw [row3.cell (by omega), HLOW.out 1 (by omega), HE4.out.f1]
      have z0 : w3.cell? ⟨eb, 0, none⟩ = some .nilIface := by rw [row3.cell (by omega), HLOW.out 0 (by omega), HE4.out.f0]
      have z6 : w3.cell? ⟨eb, 6, none⟩ = some (.int .i64 4) := by rw [row3.cell (by omega), HLOW.out 6 (by omega), HE4.out.f6, HGL.out]; rfl
      have q0 := row3.frozen 0
      have q6 := row3.frozen 6
      have ROW3 := Lib.hid row3
      refine hK1.out _ _ hS3 (fun hHeld => ?_)
      clear hK1 K1 hbuf3 htwo3 hblk3 row3 hX3
      refine wpAnyH_take (i := 13) (oi := ⟨some 76, _, _, _, _, _⟩) (v := ?_) rfl (by kernel_rfl) (by kernel_rfl) (by kernel_rfl) (fun _ _ _ h => h) (Or.inl ⟨by rfl, ?_⟩) hHeld ?_
      rotate_left
      · intro W hW; go_simp <;> with_reducible rfl
      simp only [Act.put, List.setIfInBounds_toArray, List.set_cons_zero, List.set_cons_succ]
      refine wpAnyH_take (i := 14) (oi := ⟨some 90, _, _, _, _, _⟩) (v := ?_) rfl (by kernel_rfl) (by kernel_rfl) (by kernel_rfl) (fun _ _ _ h => h) (Or.inl ⟨by rfl, ?_⟩) hHeld ?_
      rotate_left
      · intro W hW; go_simp <;> with_reducible rfl
      simp only [Act.put, List.setIfInBounds_toArray, List.set_cons_zero, List.set_cons_succ]
      refine wpAnyH_take (i := 15) (oi := ⟨some 91, _, _, _, _, _⟩) (v := ?_) rfl (by kernel_rfl) (by kernel_rfl) (by kernel_rfl) (fun _ _ _ h => h) (Or.inl ⟨by rfl, ?_⟩) hHeld ?_
      rotate_left
      · intro W hW; go_simp <;> with_reducible rfl
      simp only [Act.put, List.setIfInBounds_toArray, List.set_cons_zero, List.set_cons_succ]
      refine wpAnyH_take (i := 16) (oi := ⟨some 92, _, _, _, _, _⟩) (v := ?_) rfl (by kernel_rfl) (by kernel_rfl) (by kernel_rfl) (fun _ _ _ h => h) (Or.inl ⟨by rfl, ?_⟩) hHeld ?_
      rotate_left
      · intro W hW; go_simp <;> with_reducible rfl
      simp only [Act.put, List.setIfInBounds_toArray, List.set_cons_zero, List.set_cons_succ]
      refine wpAnyH_take (i := 17) (oi := ⟨some 93, _, _, _, _, _⟩) (v := ?_) rfl (by kernel_rfl) (by kernel_rfl) (by kernel_rfl) (fun _ _ _ h => h) (Or.inl ⟨by rfl, ?_⟩) hHeld ?_
      rotate_left
      · intro W hW; go_simp <;> with_reducible rfl
      simp only [Act.put, List.setIfInBounds_toArray, List.set_cons_zero, List.set_cons_succ]
      refine wpAnyH_ready (rs := [18]) (by kernel_rfl) (by simp) (AllReadyH.cons rfl (fun K1 hK1 => ?_) AllReadyH.nil)
      go_simp
      refine hK1.out _ _ (by rw [World.cell?_setCell_other _ _ _ _ (fun e => by injection e with _ e2; omega)]; exact hS3) (fun hHeld => ?_)
      clear hK1 K1
      refine wpAnyH_done (by kernel_rfl) ?_ _
      have ho3 : Only eb w3 ((w3.setCell ⟨eb, 0, none⟩ .nilIface).setCell ⟨eb, 6, none⟩ (.int .i64 0)) := ((Only.refl eb w3).set 0 _).set 6 _
      have hrow5 := (ROW3.out.set 0 .nilIface).set 6 (.int .i64 0)
      have hbpl : bp < w.heap.size := BS.lt_block HP.out (by omega)
      have hw1s : w1.heap.size = w.heap.size := HO2.out.size
      have hw3s : w.heap.size ≤ w3.heap.size := by rw [← hw1s]; exact HTWO3.out.size
      have hbk : ((w3.setCell ⟨eb, 0, none⟩ .nilIface).setCell ⟨eb, 6, none⟩ (.int .i64 0)).heap[bp]? = w.heap[bp]? := (ho3.block bp hbpe).trans ((HTWO3.out.block bp (by show bp < w1.heap.size; omega) hbpb (fun e => hn3 e.symm)).trans (HO2.out.block bp hbpe))
      have HF : LpR w B eb b bp o lp PA 0 (c - k) ((w3.setCell ⟨eb, 0, none⟩ .nilIface).setCell ⟨eb, 6, none⟩ (.int .i64 0)) 0 (fun j => if j = 6 then .int .i64 0 else if j = 0 then .nilIface else f' j) (some ⟨X, 0, none⟩) (m + no) cap' lr' := {
        bs := by
          have h0 := (HP.out.dropIf (k := k) (by omega) hnc)
          rw [HLP.out, Nat.sub_self] at h0
          rw [List.drop_zero, ← HPA.out]
          by_cases hc : c = k
          · rw [if_pos hc] at h0 ⊢
            exact bs_block h0 hbk (by simp [World.setCell]; omega)
          · rw [if_neg hc] at h0 ⊢
            exact bs_block h0 hbk (by simp [World.setCell]; omega)
        nc := by omega
        cm := by unfold maxLen; omega
        ha := fun _ => by
          rw [← HPA.out]
          by_cases hc : c = k
          · rw [if_pos hc]; exact ⟨_, rfl⟩
          · rw [if_neg hc]; exact ⟨_, rfl⟩
        k4 := ⟨0, by simp⟩
        kl := Nat.zero_le _
        es := ⟨hrow5, by simp, by simp [HLOW.out 1 (by omega), HE4.out.f1], by simp, fun i hi => by simp at hi, by simp, by simp⟩
        bf := by
          have h0 := HBUF3.out.only ROW3.out hne ho3
          rw [HOE.out] at h0
          rw [List.take_zero, Plain85.enc_nil, List.append_nil]
          exact h0
        bel := by
          have h1 : Below B w w1 := HO2.out.below hBe
          have h2 : Below B w1.drew w3 := HTWO3.out.toBelow BUF2.out.base (fun k' e => (BUF2.out.own.1.lt k' e).1) (by show B ≤ w1.heap.size; omega)
          have h3 : Below B w1 w3 := ⟨h2.os, h2.tape, h2.output, h2.size, h2.block⟩
          exact h1.trans (h3.trans (ho3.below hBe))
        n1 := hbpe
        n2 := hbpb
        n3 := by
          rcases HX3.out with e | e
          · rw [show (Value.slice (some ⟨X, 0, none⟩) (m + no) cap').ownBlock = some X from rfl, ← e]; exact hn3
          · intro e2
            simp only [Value.ownBlock, Option.some.injEq] at e2
            have : w1.heap.size ≤ X := e
            omega }
      have H := Lib.hid HF
      clear HF hrow5 hbk ho3 hw1s hw3s hbpl
      go_wp2
      go_loopw [1, 4, 5] (fun p nv ev wr => LpRel w B eb b bp o lp p nv wr ∧ ev = .nilIface) (fun p _ _ _ => lenV p)
      case atStart => exact ⟨⟨_, _, _, _, _, _, _, _, _, _, H.out, rfl, rfl⟩, rfl⟩
      case round =>
        obtain ⟨⟨A, n, c, k, f, A', m, cap, lr, z, hR, rfl, rfl⟩, rfl⟩ := hrel
        have hnc := hR.nc
        have hcm := hR.cm
        have hlen := hR.bs.len
        rw [List.length_drop] at hlen
        have hkl := hR.kl
        have hbpe := hR.n1
        have hbpb := hR.n2
        have hBr : B ≤ wr.heap.size := Nat.le_trans hBw hR.bel.size
        have hm46 : m ≤ 35184372088832 := by
          have h1 := hR.bf.len
          have h2 := Plain85.enc_le (lp.take k)
          rw [List.length_append] at h1
          rw [List.length_take] at h2
          omega
        have HRR := Lib.hid hR
        clear hR
        unfold maxLen at hcm
        have h4 : ¬ 4 ≤ n := by omega
        · have e0 : decide (4 ≤ (n : Int)) = false := decide_eq_false (by omega)
          have hE := HRR.out.es
          obtain ⟨cur, hcur, hcs, _⟩ := id hE.row
          have hinfo : (Try.prog.info? 5).map (·.size) = some 1 := by
            obtain ⟨i0, hi, hzz⟩ := Option.map_eq_some_iff.1 Try.infoByte
            simp only [Prod.mk.injEq] at hzz
            rw [hi]; simp [hzz.2.1]
          have hbv : (bv (lp.drop k)).length = n := by rw [bv_length]; exact HRR.out.bs.len
          have hll : (lp.drop k).length = n := HRR.out.bs.len
          by_cases hn0 : n = 0
          · subst hn0
            have hd0 : lp.drop k = [] := List.eq_nil_of_length_eq_zero hll
            have hcp := fun W => run_copy_none (P := Try.prog) W 25 25 3 5 (some ⟨eb, 2, none⟩) A 4 4 0 c Try.underlying25 hinfo rfl
            have x6 : wr.cell? ⟨eb, 6, none⟩ = some (.int .i64 0) := by rw [hE.row.cell (by omega), hE.f6]; rfl
            have q6 := hE.row.frozen 6
            have HD0 := Lib.hid hd0
            have HE := Lib.hid hE
            clear hd0 hbv hll hE hcur hcs hinfo hlen
            as_aux_lemma =>
              go_wp2
              refine bodyPost_ret (two_res rfl _ _ _) rfl ?_
              have ho : Only eb wr (wr.setCell ⟨eb, 6, none⟩ (.int .i64 0)) := (Only.refl eb wr).set 6 _
              refine ⟨_, rfl, k, _, _, _, _, _, ⟨HE.out.row.set 6 _, by simp [HE.out.f0], by simp [HE.out.f1], by simp [HD0.out], fun i hi => by rw [HD0.out] at hi; simp at hi, by rw [HD0.out]; simp, by rw [HD0.out]; simp⟩, by rw [HD0.out]; simp, HRR.out.kl, HRR.out.k4, HRR.out.bf.only HE.out.row hne ho, HRR.out.bel.trans (ho.below hBe)⟩
          · exact absurd (by omega) hn0


end Go.Proofs.Ythhbcnjbnfjiiaa

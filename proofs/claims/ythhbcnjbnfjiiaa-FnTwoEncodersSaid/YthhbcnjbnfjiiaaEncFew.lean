/-
  The walk of the stream encoder's Write where a group is begun: the bytes are laid behind those that stand there. Printed by fillgen.py. Conditions: those that it names.
-/
import Derived.Test.YthhbcnjbnfjiiaaEncWr
namespace Go.Proofs.Ythhbcnjbnfjiiaa
open Go.RowKit
open Plain85 (enc)

theorem EncS.push {w : World} {eb b x q : Nat} {f : Nat → Value} {r : List Nat} (h : EncS w eb b f r) (hx : x < 256) (hq : r.length = q) (h3 : q ≤ 3) :
    ∃ f', EncS ((w.setCell ⟨eb, 2 + q, none⟩ (.int .u8 (x : Int))).setCell ⟨eb, 6, none⟩ (.int .i64 ((q : Int) + 1))) eb b f' (r ++ [x]) := by
  refine ⟨_, (h.row.set (2 + q) _).set 6 _, ?_, ?_, ?_, fun i hi => ?_, ?_, ?_⟩
  · rw [if_neg (by omega), if_neg (by omega), h.f0]
  · rw [if_neg (by omega), if_neg (by omega), h.f1]
  · rw [if_pos rfl]; simp [hq]
  · rw [List.length_append, List.length_singleton, hq] at hi
    rw [if_neg (by omega)]
    by_cases e : i = q
    · rw [if_pos (by omega), List.getD_eq_getElem?_getD, List.getElem?_append_right (by omega), show i - r.length = 0 by omega]; rfl
    · rw [if_neg (by omega), h.fr i (by omega), List.getD_eq_getElem?_getD, List.getD_eq_getElem?_getD, List.getElem?_append_left (by omega)]
  · intro y hy
    rcases List.mem_append.1 hy with hy | hy
    · exact h.lt y hy
    · rcases List.mem_singleton.1 hy with rfl; exact hx
  · rw [List.length_append, List.length_singleton]; omega
theorem EncS.drew {w : World} {eb b : Nat} {f : Nat → Value} {r : List Nat} (h : EncS w eb b f r) : EncS w.drew eb b f r := ⟨h.row.drew, h.f0, h.f1, h.f6, h.fr, h.lt, h.r4⟩
theorem Only.drew {eb : Nat} {w w' : World} (h : Only eb w w') : Only eb w w'.drew := ⟨h.os, h.tape, h.output, h.size, h.block⟩
theorem cutp (bp off n c k : Nat) (hk : k ≤ n) (W : World) : (Instr.slice 25 (.slice (some ⟨bp, off, none⟩) n c) (some (.int .i64 (k : Int))) none none).run Try.prog W = .ok (.slice (if c = k then some ⟨bp, off, none⟩ else some ⟨bp, off + k, none⟩) (n - k) (c - k)) W := by
  have e2 : Try.prog.elem 25 = 5 := by kernel_rfl
  rw [run_slice_l (P := Try.prog) W 25 _ n c (by rw [e2]; exact Try.underlying25) .i64 (k : Int) (by omega) (by omega), e2]
  obtain ⟨i0, hi, hzz⟩ := Option.map_eq_some_iff.1 Try.infoByte
  simp only [Prod.mk.injEq] at hzz
  simp [sizeOf, typeInfo, hi, hzz.2.1, sliced, Result.andThen, addr_add]
structure FlR (w : World) (eb b : Nat) (r lp : List Nat) (n : Nat) (wr : World) (k : Nat) (f : Nat → Value) : Prop where
  kn : k ≤ n
  es : EncS wr eb b f (r ++ lp.take k)
  on : Only eb w wr
def FlRel (w : World) (eb b : Nat) (r lp : List Nat) (n : Nat) (i : Value) (wr : World) : Prop := ∃ k f, FlR w eb b r lp n wr k f ∧ i = .int .i64 (k : Int)
theorem take_push (lp : List Nat) (k : Nat) (h : k < lp.length) : lp.take (k + 1) = lp.take k ++ [lp.getD k 0] := by
  rw [List.take_add_one, List.getD_eq_getElem?_getD, List.getElem?_eq_getElem h]; rfl

def RetFew (w : World) (B eb b : Nat) (A' : Option Addr) (m cap : Nat) (lr : Int) (o l : List Nat) (e : Ending) (w' : World) : Prop :=
  ∃ zz, e = .returned (.tuple #[.int .i64 zz, .nilIface]) ∧ ∃ f, EncS w' eb b f l ∧ Buf w' B b A' m cap lr o ∧ Below B w w'
set_option maxHeartbeats 4000000 in
set_option maxRecDepth 100000 in
theorem write_few (B eb b bp : Nat) (f : Nat → Value) (A' : Option Addr) (m cap : Nat) (lr : Int) (o r lp : List Nat) (A : Option Addr) (n c : Nat) (w : World) (hE : EncS w eb b f r) (hBf : Buf w B b A' m cap lr o) (hp : BS w w.heap.size A n lp) (ha : 0 < n → ∃ off, A = some ⟨bp, off, none⟩) (hnc : n ≤ c) (hcm : c ≤ maxLen) (hbpe : bp ≠ eb) (hne : eb ≠ b) (hBe : B ≤ eb) (hr : 1 ≤ r.length) (hrn : r.length + n ≤ 3) :
    Calls Try.prog 50 #[.pointer (some ⟨eb, 0, none⟩), .slice A n c] w fun e w' => RetFew w B eb b A' m cap lr o (r ++ lp) e w' := by
  have c0 : w.cell? ⟨eb, 0, none⟩ = some .nilIface := by rw [hE.row.cell (by omega), hE.f0]
  have c6 : w.cell? ⟨eb, 6, none⟩ = some (.int .i64 ((r.length : Nat) : Int)) := by rw [hE.row.cell (by omega), hE.f6]
  have e00 : decide (0 < r.length) = true := decide_eq_true (by omega)
  have HE := Lib.hid hE
  have HBF := Lib.hid hBf
  have HS := Lib.hid (show FlR w eb b r lp n w 0 f from ⟨Nat.zero_le _, by simpa using hE, Only.refl _ _⟩)
  clear hE hBf
  unfold maxLen at hcm
  go_enter Try.func50, Try.ntmps50
  go_wp2
  go_loopw [6] (fun i wr => FlRel w eb b r lp n i wr) (fun i _ => n - (intOf i).toNat)
  case atStart => exact ⟨0, f, HS.out, rfl⟩
  case round =>
    obtain ⟨k, f, hR, rfl⟩ := hrel
    have hkn' := hR.kn
    obtain ⟨q, hq⟩ : ∃ q, (r ++ lp.take k).length = q := ⟨_, rfl⟩
    have HQ := Lib.hid (show q = r.length + k by rw [← hq, List.length_append, List.length_take, hp.len, Nat.min_eq_left hkn'])
    have x6 : wr.cell? ⟨eb, 6, none⟩ = some (.int .i64 (q : Int)) := by rw [hR.es.row.cell (by omega), hR.es.f6, hq]
    have HRR := Lib.hid hR
    clear hR
    by_cases hkn : k < n
    · obtain ⟨off, rfl⟩ := ha (by omega)
      have e1 : decide ((k : Int) < (n : Int)) = true := decide_eq_true (by omega)
      have hq3 : q ≤ 3 := by have := HQ.out; omega
      have hqi : (q : Int) < 4 := by omega
      have e2 : decide ((q : Int) < 4) = true := decide_eq_true (by omega)
      have HBP := Lib.hid hp
      obtain ⟨x, hx⟩ : ∃ x, lp.getD k 0 = x := ⟨_, rfl⟩
      have hx256 : x < 256 := by rw [← hx]; exact getD_lt hp.lt k
      have cX : wr.cell? ⟨bp, off + k, none⟩ = some (.int .u8 (x : Int)) := by rw [HRR.out.on.cell hbpe, hp.cell hkn, hx]
      have f1 : wr.frozen? ⟨eb, 2 + q, none⟩ = false := HRR.out.es.row.frozen _
      have cY := HRR.out.es.row.cell (i := 2 + q) (by omega)
      obtain ⟨f', hE'⟩ := HRR.out.es.push hx256 hq (by omega)
      have hE2 : EncS ((wr.setCell ⟨eb, 2 + q, none⟩ (.int .u8 (x : Int))).setCell ⟨eb, 6, none⟩ (.int .i64 ((q : Int) + 1))) eb b f' (r ++ lp.take (k + 1)) := by rw [take_push lp k (by rw [hp.len]; exact hkn), hx, ← List.append_assoc]; exact hE'
      have hO2 : Only eb w ((wr.setCell ⟨eb, 2 + q, none⟩ (.int .u8 (x : Int))).setCell ⟨eb, 6, none⟩ (.int .i64 ((q : Int) + 1))) := (HRR.out.on.set _ _).set _ _
      have hrow1 := HRR.out.es.row.set (2 + q) (.int .u8 (x : Int))
      have y6 : (wr.setCell ⟨eb, 2 + q, none⟩ (.int .u8 (x : Int))).cell? ⟨eb, 6, none⟩ = some (.int .i64 (q : Int)) := (World.cell?_setCell_other _ ⟨eb, 2 + q, none⟩ ⟨eb, 6, none⟩ _ (by simp)).trans x6
      have g6 := hrow1.frozen 6
      have HE2 := Lib.hid hE2
      have HO2 := Lib.hid hO2
      clear hE' hE2 hO2 hrow1 hx hp hq
      go_wp2_with fail
      refine wp_region_held_drew (S := fun W => W.cell? ⟨eb, 6, none⟩ = some (.int .i64 (q : Int)) ∧ W.cell? ⟨bp, off + k, none⟩ = some (.int .u8 (x : Int))) (by kernel_rfl) ⟨x6, cX⟩ (fun hHeld => ?_)
      refine wpAnyH_take (i := 0) (oi := ⟨some 37, _, _, _, _, _⟩) (v := ?_) rfl (by kernel_rfl) (by kernel_rfl) (by kernel_rfl) (fun _ _ _ h => h) (Or.inl ⟨by rfl, ?_⟩) hHeld ?_
      rotate_left
      · intro W hW; obtain ⟨hW1, hW2⟩ := hW; go_simp <;> with_reducible rfl
      simp only [Act.put, List.setIfInBounds_toArray, List.set_cons_zero, List.set_cons_succ]
      refine wpAnyH_take (i := 1) (oi := ⟨some 38, _, _, _, _, _⟩) (v := ?_) rfl (by kernel_rfl) (by kernel_rfl) (by kernel_rfl) (fun _ _ _ h => h) (Or.inl ⟨by rfl, ?_⟩) hHeld ?_
      rotate_left
      · intro W hW; obtain ⟨hW1, hW2⟩ := hW; go_simp <;> with_reducible rfl
      simp only [Act.put, List.setIfInBounds_toArray, List.set_cons_zero, List.set_cons_succ]
      refine wpAnyH_take (i := 2) (oi := ⟨some 39, _, _, _, _, _⟩) (v := ?_) rfl (by kernel_rfl) (by kernel_rfl) (by kernel_rfl) (fun _ _ _ h => h) (Or.inl ⟨by rfl, ?_⟩) hHeld ?_
      rotate_left
      · intro W hW; obtain ⟨hW1, hW2⟩ := hW; go_simp <;> with_reducible rfl
      simp only [Act.put, List.setIfInBounds_toArray, List.set_cons_zero, List.set_cons_succ]
      refine wpAnyH_take (i := 3) (oi := ⟨some 40, _, _, _, _, _⟩) (v := ?_) rfl (by kernel_rfl) (by kernel_rfl) (by kernel_rfl) (fun _ _ _ h => h) (Or.inl ⟨by rfl, ?_⟩) hHeld ?_
      rotate_left
      · intro W hW; obtain ⟨hW1, hW2⟩ := hW; go_simp <;> with_reducible rfl
      simp only [Act.put, List.setIfInBounds_toArray, List.set_cons_zero, List.set_cons_succ]
      refine wpAnyH_take (i := 4) (oi := ⟨some 41, _, _, _, _, _⟩) (v := ?_) rfl (by kernel_rfl) (by kernel_rfl) (by kernel_rfl) (fun _ _ _ h => h) (Or.inl ⟨by rfl, ?_⟩) hHeld ?_
      rotate_left
      · intro W hW; obtain ⟨hW1, hW2⟩ := hW; go_simp <;> with_reducible rfl
      simp only [Act.put, List.setIfInBounds_toArray, List.set_cons_zero, List.set_cons_succ]
      refine wpAnyH_take (i := 5) (oi := ⟨some 42, _, _, _, _, _⟩) (v := ?_) rfl (by kernel_rfl) (by kernel_rfl) (by kernel_rfl) (fun _ _ _ h => h) (Or.inl ⟨by rfl, ?_⟩) hHeld ?_
      rotate_left
      · intro W hW; obtain ⟨hW1, hW2⟩ := hW; go_simp <;> with_reducible rfl
      simp only [Act.put, List.setIfInBounds_toArray, List.set_cons_zero, List.set_cons_succ]
      refine wpAnyH_take (i := 6) (oi := ⟨some 43, _, _, _, _, _⟩) (v := ?_) rfl (by kernel_rfl) (by kernel_rfl) (by kernel_rfl) (fun _ _ _ h => h) (Or.inl ⟨by rfl, ?_⟩) hHeld ?_
      rotate_left
      · intro W hW; obtain ⟨hW1, hW2⟩ := hW; go_simp <;> with_reducible rfl
      simp only [Act.put, List.setIfInBounds_toArray, List.set_cons_zero, List.set_cons_succ]
      refine wpAnyH_take (i := 7) (oi := ⟨some 44, _, _, _, _, _⟩) (v := ?_) rfl (by kernel_rfl) (by kernel_rfl) (by kernel_rfl) (fun _ _ _ h => h) (Or.inl ⟨by rfl, ?_⟩) hHeld ?_
      rotate_left
      · intro W hW; obtain ⟨hW1, hW2⟩ := hW; go_simp <;> with_reducible rfl
      simp only [Act.put, List.setIfInBounds_toArray, List.set_cons_zero, List.set_cons_succ]
      refine wpAnyH_take (i := 8) (oi := ⟨some 45, _, _, _, _, _⟩) (v := ?_) rfl (by kernel_rfl) (by kernel_rfl) (by kernel_rfl) (fun _ _ _ h => h) (Or.inl ⟨by rfl, ?_⟩) hHeld ?_
      rotate_left
      · intro W hW; obtain ⟨hW1, hW2⟩ := hW; go_simp <;> with_reducible rfl
      simp only [Act.put, List.setIfInBounds_toArray, List.set_cons_zero, List.set_cons_succ]
      refine wpAnyH_take (i := 9) (oi := ⟨some 46, _, _, _, _, _⟩) (v := ?_) rfl (by kernel_rfl) (by kernel_rfl) (by kernel_rfl) (fun _ _ _ h => h) (Or.inl ⟨by rfl, ?_⟩) hHeld ?_
      rotate_left
      · intro W hW; obtain ⟨hW1, hW2⟩ := hW; go_simp <;> with_reducible rfl
      simp only [Act.put, List.setIfInBounds_toArray, List.set_cons_zero, List.set_cons_succ]
      refine wpAnyH_take (i := 10) (oi := ⟨some 47, _, _, _, _, _⟩) (v := ?_) rfl (by kernel_rfl) (by kernel_rfl) (by kernel_rfl) (fun _ _ _ h => h) (Or.inl ⟨by rfl, ?_⟩) hHeld ?_
      rotate_left
      · intro W hW; obtain ⟨hW1, hW2⟩ := hW; go_simp <;> with_reducible rfl
      simp only [Act.put, List.setIfInBounds_toArray, List.set_cons_zero, List.set_cons_succ]
      refine wpAnyH_take (i := 11) (oi := ⟨some 48, _, _, _, _, _⟩) (v := ?_) rfl (by kernel_rfl) (by kernel_rfl) (by kernel_rfl) (fun _ _ _ h => h) (Or.inl ⟨by rfl, ?_⟩) hHeld ?_
      rotate_left
      · intro W hW; obtain ⟨hW1, hW2⟩ := hW; go_simp <;> with_reducible rfl
      simp only [Act.put, List.setIfInBounds_toArray, List.set_cons_zero, List.set_cons_succ]
      refine wpAnyH_ready (rs := [12]) (by kernel_rfl) (by simp) (AllReadyH.cons rfl (fun K1 hK1 => ?_) AllReadyH.nil)
      go_simp
      refine hK1.out _ _ ⟨(World.cell?_setCell_other _ ⟨eb, 2 + q, none⟩ ⟨eb, 6, none⟩ _ (by simp)).trans x6, (World.cell?_setCell_far _ ⟨eb, 2 + q, none⟩ ⟨bp, off + k, none⟩ _ (by simpa using hbpe.symm)).trans cX⟩ (fun hHeld => ?_)
      clear hK1 K1
      refine wpAnyH_done (by kernel_rfl) ?_ _
      go_wp2
      exact ⟨⟨k + 1, f', ⟨hkn, HE2.out.drew, HO2.out.drew⟩, by simp⟩, by simp [intOf]; omega⟩
    · obtain rfl : k = n := by omega
      have e1 : decide ((k : Int) < (k : Int)) = false := decide_eq_false (by omega)
      have hq3 : q ≤ 3 := by have := HQ.out; omega
      have e2 : decide ((q : Int) < 4) = true := decide_eq_true (by omega)
      have HLL := Lib.hid hp.len
      have hEE := HRR.out.es
      rw [List.take_of_length_le (by rw [HLL.out]; exact Nat.le_refl _)] at hEE
      have HEE := Lib.hid hEE
      clear hp hEE
      go_wp2
      all_goals
        refine bodyPost_ret (two_res rfl _ _ _) rfl ?_
        exact ⟨_, rfl, _, HEE.out, HBF.out.only HE.out.row hne HRR.out.on, HRR.out.on.below hBe⟩

end Go.Proofs.Ythhbcnjbnfjiiaa

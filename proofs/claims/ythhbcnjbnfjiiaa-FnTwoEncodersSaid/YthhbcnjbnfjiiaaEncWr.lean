/-
  The walk of the stream encoder's Write. Printed by wrgen.py. Conditions: those that it names.
-/
import Derived.Test.YthhbcnjbnfjiiaaEncClose
namespace Go.Proofs.Ythhbcnjbnfjiiaa
open Go.RowKit
open Plain85 (enc)

structure LpR (W0 : World) (B eb b bp : Nat) (o lp : List Nat) (A : Option Addr) (n c : Nat) (wr : World) (k : Nat) (f : Nat → Value) (A' : Option Addr) (m cap : Nat) (lr : Int) : Prop where
  bs : BS wr wr.heap.size A n (lp.drop k)
  nc : n ≤ c
  cm : c ≤ maxLen
  ha : 0 < n → ∃ off, A = some ⟨bp, off, none⟩
  k4 : ∃ j, (lp.take k).length = 4 * j
  kl : k ≤ lp.length
  es : EncS wr eb b f []
  bf : Buf wr B b A' m cap lr (o ++ enc (lp.take k))
  bel : Below B W0 wr
  n1 : bp ≠ eb
  n2 : bp ≠ b
  n3 : (Value.slice A' m cap).ownBlock ≠ some bp
def LpRel (W0 : World) (B eb b bp : Nat) (o lp : List Nat) (p nv : Value) (wr : World) : Prop := ∃ A n c k f A' m cap lr z, LpR W0 B eb b bp o lp A n c wr k f A' m cap lr ∧ p = .slice A n c ∧ nv = .int .i64 z
theorem bs_block {w w' : World} {B B' n bp off : Nat} {l : List Nat} (h : BS w B (some ⟨bp, off, none⟩) n l) (hb : w'.heap[bp]? = w.heap[bp]?) (hB : bp < B') : BS w' B' (some ⟨bp, off, none⟩) n l :=
  ⟨h.len, h.lt, fun hn => by
    obtain ⟨b0, o0, e, _, hc⟩ := h.spot hn
    injection e with e
    injection e with e1 e2
    subst e1 e2
    exact ⟨bp, off, rfl, hB, fun i hi => (World.cell?_of_block (w := w) hb).trans (hc i hi)⟩⟩
def RetWr (w : World) (B eb b : Nat) (o lp : List Nat) (e : Ending) (w' : World) : Prop :=
  ∃ zz, e = .returned (.tuple #[.int .i64 zz, .nilIface]) ∧ ∃ k f A m cap lr, EncS w' eb b f (lp.drop k) ∧ (lp.drop k).length < 4 ∧ k ≤ lp.length ∧ (∃ j, (lp.take k).length = 4 * j) ∧ Buf w' B b A m cap lr (o ++ enc (lp.take k)) ∧ Below B w w'
/-- The rest is copied into the encoder's own four bytes. -/
theorem rest_end {w : World} {eb b n : Nat} {f : Nat → Value} {cur : Array Value} {l : List Nat} (h : EncS w eb b f []) (hcur : w.heap[eb]? = some (.cells cur 56 (0, 0))) (hl : l.length = n) (hn : n < 4) (hlt : ∀ x ∈ l, x < 256) :
    ∃ f', EncS ((w.setRow eb (cur.toList.take 2 ++ bv l ++ cur.toList.drop (2 + n)).toArray).setCell ⟨eb, 6, none⟩ (.int .i64 (n : Int))) eb b f' l ∧ (w.setRow eb (cur.toList.take 2 ++ bv l ++ cur.toList.drop (2 + n)).toArray).rowIs eb 56 1031 (fun j => if 2 ≤ j ∧ j < 2 + n then .int .u8 ((l.getD (j - 2) 0 : Nat) : Int) else f j) ∧ Only eb w (w.setRow eb (cur.toList.take 2 ++ bv l ++ cur.toList.drop (2 + n)).toArray) := by
  obtain ⟨cur', hc', hsz, hf⟩ := h.row
  rw [hcur] at hc'
  injection hc' with hc'
  injection hc' with hc'
  subst hc'
  have hrow : (w.setRow eb (cur.toList.take 2 ++ bv l ++ cur.toList.drop (2 + n)).toArray).rowIs eb 56 1031 (fun j => if 2 ≤ j ∧ j < 2 + n then .int .u8 ((l.getD (j - 2) 0 : Nat) : Int) else f j) := by
    refine ⟨_, setRow_heap _ _ _ _ _ _ hcur, ?_, fun i hi => ?_⟩
    · simp only [List.size_toArray, List.length_append, List.length_take, List.length_drop, Array.length_toList, bv_length, hl, hsz]; omega
    · have h2 : (cur.toList.take 2).length = 2 := by rw [List.length_take, Array.length_toList, hsz]; omega
      simp only [List.getElem?_toArray]
      by_cases h1 : i < 2
      · rw [if_neg (by omega), List.append_assoc, List.getElem?_append_left (by omega), List.getElem?_take, if_pos h1, Array.getElem?_toList, hf i hi]
      · by_cases h3 : i < 2 + n
        · rw [if_pos ⟨by omega, h3⟩, List.append_assoc, List.getElem?_append_right (by omega), List.getElem?_append_left (by rw [bv_length]; omega), h2, bv_at l (i - 2) (by omega)]
        · rw [if_neg (by omega), List.getElem?_append_right (by rw [List.length_append, bv_length]; omega), List.getElem?_drop, List.length_append, h2, bv_length, hl, show 2 + n + (i - (2 + n)) = i by omega, Array.getElem?_toList, hf i hi]
  refine ⟨_, ⟨hrow.set 6 _, ?_, ?_, ?_, fun i hi => ?_, hlt, by omega⟩, hrow, ⟨rfl, rfl, rfl, by simp [World.setRow], fun k hk => setRow_other _ _ _ _ hk⟩⟩
  · simp [h.f0]
  · simp [h.f1]
  · simp [hl]
  · have e1 : ¬ 2 + i = 6 := by omega
    have e2 : 2 ≤ 2 + i ∧ 2 + i < 2 + n := by omega
    simp only [e1, if_false, e2, and_self, if_true]
    rw [show 2 + i - 2 = i by omega]
def lenV : Value → Nat
  | .slice _ n _ => n
  | _ => 0
set_option maxHeartbeats 8000000 in
set_option maxRecDepth 100000 in
theorem write_zero (B eb b bp : Nat) (f : Nat → Value) (A' : Option Addr) (m cap : Nat) (lr : Int) (o lp : List Nat) (A : Option Addr) (n c : Nat) (w : World) (h : LpR w B eb b bp o lp A n c w 0 f A' m cap lr) (hne : eb ≠ b) (hBe : B ≤ eb) (hBw : B ≤ w.heap.size) (hlim : o.length + 2 * lp.length ≤ 17592186044416) :
    Calls Try.prog 50 #[.pointer (some ⟨eb, 0, none⟩), .slice A n c] w fun e w' => RetWr w B eb b o lp e w' := by
  have c0 : w.cell? ⟨eb, 0, none⟩ = some .nilIface := by rw [h.es.row.cell (by omega), h.es.f0]
  have c6 : w.cell? ⟨eb, 6, none⟩ = some (.int .i64 0) := by rw [h.es.row.cell (by omega), h.es.f6]; rfl
  have m1 := bw_find ⟨b, 0, none⟩
  have m2 := bw_enter
  have m3 := bw_ahead ⟨b, 0, none⟩
  have H := Lib.hid h
  clear h
  go_enter Try.func50, Try.ntmps50
  go_wp2
  go_loopw [1, 4, 5] (fun p nv ev wr => LpRel w B eb b bp o lp p nv wr ∧ ev = .nilIface) (fun p _ _ _ => lenV p)
  case atStart => exact ⟨⟨_, _, _, _, _, _, _, _, _, _, H.out, rfl, rfl⟩, rfl⟩
  case round =>
    obtain ⟨⟨A, n, c, k, f, A', m, cap, lr, z, hR, rfl, rfl⟩, rfl⟩ := hrel
    have hnc := hR.nc
    have hcm := hR.cm
    have hlen := hR.bs.len
    rw [List.length_drop] at hlen
    have hkl := hR.kl
    have hbpe := hR.n1
    have hbpb := hR.n2
    have hBr : B ≤ wr.heap.size := Nat.le_trans hBw hR.bel.size
    have hm46 : m ≤ 35184372088832 := by
      have h1 := hR.bf.len
      have h2 := Plain85.enc_le (lp.take k)
      rw [List.length_append] at h1
      rw [List.length_take] at h2
      omega
    have HRR := Lib.hid hR
    clear hR
    unfold maxLen at hcm
    by_cases h4 : 4 ≤ n
    · obtain ⟨off, rfl⟩ := HRR.out.ha (by omega)
      have e0 : decide (4 ≤ (n : Int)) = true := decide_eq_true (by omega)
      by_cases hbig : n < 816
      · have e1 : decide ((n : Int) < 816) = true := decide_eq_true (by omega)
        obtain ⟨nn, hnn⟩ : ∃ nn, n - n % 4 = nn := ⟨_, rfl⟩
        have hq : ((n : Int) - (n : Int) % 4) = (nn : Int) := by omega
        have hn1 : 4 ≤ nn := by omega
        have hn2 : nn ≤ n := by omega
        have hnm : nn % 4 = 0 := by omega
        have hnnc : nn ≤ c := by omega
        clear hnn
        obtain ⟨sg, hsg⟩ : ∃ sg, (lp.drop k).take nn = sg := ⟨_, rfl⟩
        have hbsg := HRR.out.bs.take (k := nn) (by omega)
        rw [hsg] at hbsg
        have BSG := Lib.hid hbsg
        have HSL := Lib.hid hbsg.len
        have HSG := Lib.hid hsg
        have HE := Lib.hid HRR.out.es
        clear hsg hbsg
        go_wp2_with fail
        refine wp_region_held_drew (S := fun _ => True) (by kernel_rfl) trivial (fun hHeld => ?_)
        refine wpAnyH_take (i := 0) (oi := ⟨some 122, _, _, _, _, _⟩) (v := ?_) rfl (by kernel_rfl) (by kernel_rfl) (by kernel_rfl) (fun _ _ _ h => h) (Or.inl ⟨by rfl, ?_⟩) hHeld ?_
        rotate_left
        · intro W hW; go_simp <;> with_reducible rfl
        simp only [Act.put, List.setIfInBounds_toArray, List.set_cons_zero, List.set_cons_succ]
        refine wpAnyH_take (i := 1) (oi := ⟨some 123, _, _, _, _, _⟩) (v := ?_) rfl (by kernel_rfl) (by kernel_rfl) (by kernel_rfl) (fun _ _ _ h => h) (Or.inl ⟨by rfl, ?_⟩) hHeld ?_
        rotate_left
        · intro W hW; go_simp <;> with_reducible rfl
        simp only [Act.put, List.setIfInBounds_toArray, List.set_cons_zero, List.set_cons_succ]
        refine wpAnyH_take (i := 2) (oi := ⟨some 124, _, _, _, _, _⟩) (v := ?_) rfl (by kernel_rfl) (by kernel_rfl) (by kernel_rfl) (fun _ _ _ h => h) (Or.inl ⟨by rfl, ?_⟩) hHeld ?_
        rotate_left
        · intro W hW; go_simp <;> with_reducible rfl
        simp only [Act.put, List.setIfInBounds_toArray, List.set_cons_zero, List.set_cons_succ]
        refine wpAnyH_take (i := 3) (oi := ⟨some 125, _, _, _, _, _⟩) (v := ?_) rfl (by kernel_rfl) (by kernel_rfl) (by kernel_rfl) (fun _ _ _ h => h) (Or.inl ⟨by rfl, ?_⟩) hHeld ?_
        rotate_left
        · intro W hW; go_simp <;> with_reducible rfl
        simp only [Act.put, List.setIfInBounds_toArray, List.set_cons_zero, List.set_cons_succ]
        refine wpAnyH_take (i := 4) (oi := ⟨some 126, _, _, _, _, _⟩) (v := ?_) rfl (by kernel_rfl) (by kernel_rfl) (by kernel_rfl) (fun _ _ _ h => h) (Or.inl ⟨by rfl, ?_⟩) hHeld ?_
        rotate_left
        · intro W hW; go_simp <;> with_reducible rfl
        simp only [Act.put, List.setIfInBounds_toArray, List.set_cons_zero, List.set_cons_succ]
        refine wpAnyH_take (i := 5) (oi := ⟨some 127, _, _, _, _, _⟩) (v := ?_) rfl (by kernel_rfl) (by kernel_rfl) (by kernel_rfl) (fun _ _ _ h => h) (Or.inl ⟨by rfl, ?_⟩) hHeld ?_
        rotate_left
        · intro W hW; go_simp <;> with_reducible rfl
        simp only [Act.put, List.setIfInBounds_toArray, List.set_cons_zero, List.set_cons_succ]
        refine wpAnyH_take (i := 6) (oi := ⟨some 128, _, _, _, _, _⟩) (v := ?_) rfl (by kernel_rfl) (by kernel_rfl) (by kernel_rfl) (fun _ _ _ h => h) (Or.inl ⟨by rfl, ?_⟩) hHeld ?_
        rotate_left
        · intro W hW; go_simp <;> with_reducible rfl
        simp only [Act.put, List.setIfInBounds_toArray, List.set_cons_zero, List.set_cons_succ]
        refine wpAnyH_ready (rs := [7]) (by kernel_rfl) (by simp) (AllReadyH.cons rfl (fun K1 hK1 => ?_) AllReadyH.nil)
        go_simp
        refine (encode_any eb 7 1024 1024 1031 56 f (some ⟨bp, off, none⟩) nn c sg wr.drew _ HE.out.row.drew (by omega) (by omega) (by unfold maxLen; omega) (by omega) BSG.out.drew (by omega) (by unfold maxLen; omega) (fun _ b' o' e' hb' => by injection e' with e'; injection e' with e1; omega)).mono ?_
        rintro e w1 ⟨f', rfl, hrow1, hon1, hlow1, _, htxt1⟩
        obtain ⟨no, hno⟩ : ∃ no, (enc sg).length = no := ⟨_, rfl⟩
        have hno1 : 1 ≤ no ∧ no ≤ 1020 := by rw [← hno]; have := Plain85.enc_le sg; rw [HSL.out] at this; exact ⟨Plain85.enc_pos sg (by rw [HSL.out]; omega), by omega⟩
        rw [hno]
        have HNO := Lib.hid hno
        have HLOW := Lib.hid hlow1
        have HT1 := Lib.hid htxt1
        have ROW2 := Lib.hid hrow1
        have ho2 : Only eb wr w1 := ⟨hon1.os, hon1.tape, hon1.output, hon1.size, hon1.block⟩
        have HO2 := Lib.hid ho2
        have BUF2 := Lib.hid (HRR.out.bf.only HE.out.row hne ho2)
        have BSO := Lib.hid (out_bs hrow1 (Plain85.enc_lt sg) (by rw [hno]; omega) htxt1 hno)
        have y1 : w1.cell? ⟨eb, 1, none⟩ = some (.iface 33 (.pointer (some ⟨b, 0, none⟩))) := by rw [hrow1.cell (by omega), hlow1 1 (by omega), HE.out.f1]
        have hsl2 := cut1024 eb 7 no (by omega)
        refine hK1.out _ _ trivial (fun hHeld => ?_)
        clear hK1 K1 hrow1 hon1 htxt1 hlow1 hno ho2
        refine wpAnyH_take (i := 8) (oi := ⟨some 9, _, _, _, _, _⟩) (v := ?_) rfl (by kernel_rfl) (by kernel_rfl) (by kernel_rfl) (fun _ _ _ h => h) (Or.inl ⟨by rfl, ?_⟩) hHeld ?_
        rotate_left
        · intro W hW; go_simp <;> with_reducible rfl
        simp only [Act.put, List.setIfInBounds_toArray, List.set_cons_zero, List.set_cons_succ]
        refine wpAnyH_done (by kernel_rfl) ?_ _
        go_wp2_with fail
        refine wp_region_held_drew (S := fun W => W.cell? ⟨eb, 1, none⟩ = some (.iface 33 (.pointer (some ⟨b, 0, none⟩)))) (by kernel_rfl) y1 (fun hHeld => ?_)
        refine wpAnyH_take (i := 0) (oi := ⟨some 131, _, _, _, _, _⟩) (v := ?_) rfl (by kernel_rfl) (by kernel_rfl) (by kernel_rfl) (fun _ _ _ h => h) (Or.inl ⟨by rfl, ?_⟩) hHeld ?_
        rotate_left
        · intro W hW; go_simp <;> with_reducible rfl
        simp only [Act.put, List.setIfInBounds_toArray, List.set_cons_zero, List.set_cons_succ]
        refine wpAnyH_take (i := 1) (oi := ⟨some 132, _, _, _, _, _⟩) (v := ?_) rfl (by kernel_rfl) (by kernel_rfl) (by kernel_rfl) (fun _ _ _ h => h) (Or.inl ⟨by rfl, ?_⟩) hHeld ?_
        rotate_left
        · intro W hW; go_simp <;> with_reducible rfl
        simp only [Act.put, List.setIfInBounds_toArray, List.set_cons_zero, List.set_cons_succ]
        refine wpAnyH_take (i := 2) (oi := ⟨some 133, _, _, _, _, _⟩) (v := ?_) rfl (by kernel_rfl) (by kernel_rfl) (by kernel_rfl) (fun _ _ _ h => h) (Or.inl ⟨by rfl, ?_⟩) hHeld ?_
        rotate_left
        · intro W hW; go_simp <;> with_reducible rfl
        simp only [Act.put, List.setIfInBounds_toArray, List.set_cons_zero, List.set_cons_succ]
        refine wpAnyH_take (i := 3) (oi := ⟨some 134, _, _, _, _, _⟩) (v := ?_) rfl (by kernel_rfl) (by kernel_rfl) (by kernel_rfl) (fun _ _ _ h => h) (Or.inl ⟨by rfl, ?_⟩) hHeld ?_
        rotate_left
        · intro W hW; go_simp <;> with_reducible rfl
        simp only [Act.put, List.setIfInBounds_toArray, List.set_cons_zero, List.set_cons_succ]
        refine wpAnyH_take (i := 4) (oi := ⟨some 135, _, _, _, _, _⟩) (v := ?_) rfl (by kernel_rfl) (by kernel_rfl) (by kernel_rfl) (fun _ _ _ h => h) (Or.inl ⟨by rfl, ?_⟩) hHeld ?_
        rotate_left
        · intro W hW; go_simp <;> with_reducible rfl
        simp only [Act.put, List.setIfInBounds_toArray, List.set_cons_zero, List.set_cons_succ]
        refine wpAnyH_take (i := 5) (oi := ⟨some 136, _, _, _, _, _⟩) (v := ?_) rfl (by kernel_rfl) (by kernel_rfl) (by kernel_rfl) (fun _ _ _ h => h) (Or.inl ⟨by rfl, ?_⟩) hHeld ?_
        rotate_left
        · intro W hW; go_simp <;> with_reducible rfl
        simp only [Act.put, List.setIfInBounds_toArray, List.set_cons_zero, List.set_cons_succ]
        refine wpAnyH_take (i := 6) (oi := ⟨some 137, _, _, _, _, _⟩) (v := ?_) rfl (by kernel_rfl) (by kernel_rfl) (by kernel_rfl) (fun _ _ _ h => h) (Or.inl ⟨by rfl, ?_⟩) hHeld ?_
        rotate_left
        · intro W hW; go_simp <;> with_reducible rfl
        simp only [Act.put, List.setIfInBounds_toArray, List.set_cons_zero, List.set_cons_succ]
        refine wpAnyH_take (i := 7) (oi := ⟨some 138, _, _, _, _, _⟩) (v := ?_) rfl (by kernel_rfl) (by kernel_rfl) (by kernel_rfl) (fun _ _ _ h => h) (Or.inl ⟨by rfl, ?_⟩) hHeld ?_
        rotate_left
        · intro W hW; go_simp <;> with_reducible rfl
        simp only [Act.put, List.setIfInBounds_toArray, List.set_cons_zero, List.set_cons_succ]
        refine wpAnyH_take (i := 8) (oi := ⟨some 139, _, _, _, _, _⟩) (v := ?_) rfl (by kernel_rfl) (by kernel_rfl) (by kernel_rfl) (fun _ _ _ h => h) (Or.inl ⟨by rfl, ?_⟩) hHeld ?_
        rotate_left
        · intro W hW; go_simp <;> with_reducible rfl
        simp only [Act.put, List.setIfInBounds_toArray, List.set_cons_zero, List.set_cons_succ]
        refine wpAnyH_take (i := 9) (oi := ⟨some 140, _, _, _, _, _⟩) (v := ?_) rfl (by kernel_rfl) (by kernel_rfl) (by kernel_rfl) (fun _ _ _ h => h) (Or.inl ⟨by rfl, ?_⟩) hHeld ?_
        rotate_left
        · intro W hW; go_simp <;> with_reducible rfl
        simp only [Act.put, List.setIfInBounds_toArray, List.set_cons_zero, List.set_cons_succ]
        refine wpAnyH_take (i := 10) (oi := ⟨some 141, _, _, _, _, _⟩) (v := ?_) rfl (by kernel_rfl) (by kernel_rfl) (by kernel_rfl) (fun _ _ _ h => h) (Or.inl ⟨by rfl, ?_⟩) hHeld ?_
        rotate_left
        · intro W hW; go_simp <;> with_reducible rfl
        simp only [Act.put, List.setIfInBounds_toArray, List.set_cons_zero, List.set_cons_succ]
        refine wpAnyH_take (i := 11) (oi := ⟨some 142, _, _, _, _, _⟩) (v := ?_) rfl (by kernel_rfl) (by kernel_rfl) (by kernel_rfl) (fun _ _ _ h => h) (Or.inl ⟨by rfl, ?_⟩) hHeld ?_
        rotate_left
        · intro W hW; go_simp <;> with_reducible rfl
        simp only [Act.put, List.setIfInBounds_toArray, List.set_cons_zero, List.set_cons_succ]
        refine wpAnyH_ready (rs := [12]) (by kernel_rfl) (by simp) (AllReadyH.cons rfl (fun K1 hK1 => ?_) AllReadyH.nil)
        go_simp
        refine (bufWrite B b A' m cap lr (o ++ enc (lp.take k)) (enc sg) eb 7 no 1024 w1.drew BUF2.out.drew (by have := HO2.out.size; show B ≤ w1.heap.size; omega) hno1.1 BSO.out.drew hne (by omega)).mono ?_
        rintro e w3 ⟨X, cap', lr', rfl, hbuf3, htwo3, hX3⟩
        have HBUF3 := Lib.hid hbuf3
        have HTWO3 := Lib.hid htwo3
        have HX3 := Lib.hid hX3
        have hblk3 : w3.heap[eb]? = w1.heap[eb]? := htwo3.block eb (by have := ROW2.out.lt; exact this) hne (fun e => own_ne_row BUF2.out.own ROW2.out e.symm)
        have row3 := ROW2.out.of_block hblk3
        have hS3 : w3.cell? ⟨eb, 1, none⟩ = some (.iface 33 (.pointer (some ⟨b, 0, none⟩))) := by rw [row3.cell (by omega), HLOW.out 1 (by omega), HE.out.f1]
        have z0 : w3.cell? ⟨eb, 0, none⟩ = some .nilIface := by rw [row3.cell (by omega), HLOW.out 0 (by omega), HE.out.f0]
        have q0 := row3.frozen 0
        have ROW3 := Lib.hid row3
        refine hK1.out _ _ hS3 (fun hHeld => ?_)
        clear hK1 K1 hbuf3 htwo3 hblk3 row3 hX3
        refine wpAnyH_take (i := 13) (oi := ⟨some 130, _, _, _, _, _⟩) (v := ?_) rfl (by kernel_rfl) (by kernel_rfl) (by kernel_rfl) (fun _ _ _ h => h) (Or.inl ⟨by rfl, ?_⟩) hHeld ?_
        rotate_left
        · intro W hW; go_simp <;> with_reducible rfl
        simp only [Act.put, List.setIfInBounds_toArray, List.set_cons_zero, List.set_cons_succ]
        refine wpAnyH_take (i := 14) (oi := ⟨some 144, _, _, _, _, _⟩) (v := ?_) rfl (by kernel_rfl) (by kernel_rfl) (by kernel_rfl) (fun _ _ _ h => h) (Or.inl ⟨by rfl, ?_⟩) hHeld ?_
        rotate_left
        · intro W hW; go_simp <;> with_reducible rfl
        simp only [Act.put, List.setIfInBounds_toArray, List.set_cons_zero, List.set_cons_succ]
        refine wpAnyH_take (i := 15) (oi := ⟨some 145, _, _, _, _, _⟩) (v := ?_) rfl (by kernel_rfl) (by kernel_rfl) (by kernel_rfl) (fun _ _ _ h => h) (Or.inl ⟨by rfl, ?_⟩) hHeld ?_
        rotate_left
        · intro W hW; go_simp <;> with_reducible rfl
        simp only [Act.put, List.setIfInBounds_toArray, List.set_cons_zero, List.set_cons_succ]
        refine wpAnyH_take (i := 16) (oi := ⟨some 146, _, _, _, _, _⟩) (v := ?_) rfl (by kernel_rfl) (by kernel_rfl) (by kernel_rfl) (fun _ _ _ h => h) (Or.inl ⟨by rfl, ?_⟩) hHeld ?_
        rotate_left
        · intro W hW; go_simp <;> with_reducible rfl
        simp only [Act.put, List.setIfInBounds_toArray, List.set_cons_zero, List.set_cons_succ]
        refine wpAnyH_take (i := 17) (oi := ⟨some 147, _, _, _, _, _⟩) (v := ?_) rfl (by kernel_rfl) (by kernel_rfl) (by kernel_rfl) (fun _ _ _ h => h) (Or.inl ⟨by rfl, ?_⟩) hHeld ?_
        rotate_left
        · intro W hW; go_simp <;> with_reducible rfl
        simp only [Act.put, List.setIfInBounds_toArray, List.set_cons_zero, List.set_cons_succ]
        refine wpAnyH_ready (rs := [18]) (by kernel_rfl) (by simp) (AllReadyH.cons rfl (fun K1 hK1 => ?_) AllReadyH.nil)
        go_simp
        refine hK1.out _ _ (by rw [World.cell?_setCell_other _ _ _ _ (fun e => by injection e with _ e2; omega)]; exact hS3) (fun hHeld => ?_)
        clear hK1 K1
        refine wpAnyH_done (by kernel_rfl) ?_ _
        have ho3 : Only eb w3 (w3.setCell ⟨eb, 0, none⟩ .nilIface) := (Only.refl eb w3).set 0 _
        have hrow4 := ROW3.out.set 0 .nilIface
        have hlt3 := ROW3.out.lt
        have hbpl : bp < wr.heap.size := BS.lt_block BSG.out (by omega)
        have hw1s : w1.heap.size = wr.heap.size := HO2.out.size
        have hw3s : wr.heap.size ≤ w3.heap.size := by rw [← hw1s]; exact HTWO3.out.size
        have hbk : (w3.setCell ⟨eb, 0, none⟩ .nilIface).heap[bp]? = wr.heap[bp]? := (ho3.block bp hbpe).trans ((HTWO3.out.block bp (by show bp < w1.heap.size; omega) hbpb (fun e => HRR.out.n3 e.symm)).trans (HO2.out.block bp hbpe))
        have HF : LpR w B eb b bp o lp (if c = nn then some ⟨bp, off, none⟩ else some ⟨bp, off + nn, none⟩) (n - nn) (c - nn) (w3.setCell ⟨eb, 0, none⟩ .nilIface) (k + nn) (fun j => if j = 0 then .nilIface else f' j) (some ⟨X, 0, none⟩) (m + no) cap' lr' := {
          bs := by
            have h0 := (HRR.out.bs.dropIf (k := nn) (by omega) hnc)
            rw [List.drop_drop] at h0
            by_cases hc : c = nn
            · rw [if_pos hc] at h0 ⊢
              exact bs_block h0 hbk (by simp [World.setCell]; omega)
            · rw [if_neg hc] at h0 ⊢
              exact bs_block h0 hbk (by simp [World.setCell]; omega)
          nc := by omega
          cm := by unfold maxLen; omega
          ha := fun _ => by
            by_cases hc : c = nn
            · rw [if_pos hc]; exact ⟨_, rfl⟩
            · rw [if_neg hc]; exact ⟨_, rfl⟩
          k4 := by
            obtain ⟨j, hj⟩ := HRR.out.k4
            refine ⟨j + nn / 4, ?_⟩
            rw [List.length_take] at hj ⊢
            omega
          kl := by omega
          es := ⟨hrow4, by simp, by simp [HLOW.out 1 (by omega), HE.out.f1], by simp [HLOW.out 6 (by omega), HE.out.f6], fun i hi => by simp at hi, by simp, by simp⟩
          bf := by
            obtain ⟨j, hj⟩ := HRR.out.k4
            have h0 := HBUF3.out.only ROW3.out hne ho3
            rw [List.take_add, HSG.out, Plain85.enc_append j _ _ hj, ← List.append_assoc]
            exact h0
          bel := by
            have h1 : Below B wr w1 := HO2.out.below hBe
            have h2 : Below B w1.drew w3 := HTWO3.out.toBelow BUF2.out.base (fun k' e => (BUF2.out.own.1.lt k' e).1) (by show B ≤ w1.heap.size; omega)
            have h3 : Below B w1 w3 := ⟨h2.os, h2.tape, h2.output, h2.size, h2.block⟩
            exact HRR.out.bel.trans (h1.trans (h3.trans (ho3.below hBe)))
          n1 := hbpe
          n2 := hbpb
          n3 := by
            rcases HX3.out with e | e
            · rw [show (Value.slice (some ⟨X, 0, none⟩) (m + no) cap').ownBlock = some X from rfl, ← e]; exact HRR.out.n3
            · intro e2
              simp only [Value.ownBlock, Option.some.injEq] at e2
              have : w1.heap.size ≤ X := e
              omega }
        have HFF := Lib.hid HF
        clear HF hrow4 hbk
        go_wp2
        exact ⟨⟨⟨_, _, _, _, _, _, _, _, _, _, HFF.out, rfl, rfl⟩, rfl⟩, by simp [lenV]; omega⟩
      · have e1 : decide ((n : Int) < 816) = false := decide_eq_false (by omega)
        go_wp2_with fail
        obtain ⟨nn, hnn⟩ : ∃ nn, nn = 816 := ⟨_, rfl⟩
        have hq : (816 : Int) = (nn : Int) := by omega
        rw [hq]
        have hn1 : 4 ≤ nn := by omega
        have hn2 : nn ≤ n := by omega
        have hn3 : nn ≤ 816 := by omega
        have hnm : nn % 4 = 0 := by omega
        have hnnc : nn ≤ c := by omega
        clear hq hnn
        obtain ⟨sg, hsg⟩ : ∃ sg, (lp.drop k).take nn = sg := ⟨_, rfl⟩
        have hbsg := HRR.out.bs.take (k := nn) (by omega)
        rw [hsg] at hbsg
        have BSG := Lib.hid hbsg
        have HSL := Lib.hid hbsg.len
        have HSG := Lib.hid hsg
        have HE := Lib.hid HRR.out.es
        clear hsg hbsg
        refine wp_region_held_drew (S := fun _ => True) (by kernel_rfl) trivial (fun hHeld => ?_)
        refine wpAnyH_take (i := 0) (oi := ⟨some 122, _, _, _, _, _⟩) (v := ?_) rfl (by kernel_rfl) (by kernel_rfl) (by kernel_rfl) (fun _ _ _ h => h) (Or.inl ⟨by rfl, ?_⟩) hHeld ?_
        rotate_left
        · intro W hW; go_simp <;> with_reducible rfl
        simp only [Act.put, List.setIfInBounds_toArray, List.set_cons_zero, List.set_cons_succ]
        refine wpAnyH_take (i := 1) (oi := ⟨some 123, _, _, _, _, _⟩) (v := ?_) rfl (by kernel_rfl) (by kernel_rfl) (by kernel_rfl) (fun _ _ _ h => h) (Or.inl ⟨by rfl, ?_⟩) hHeld ?_
        rotate_left
        · intro W hW; go_simp <;> with_reducible rfl
        simp only [Act.put, List.setIfInBounds_toArray, List.set_cons_zero, List.set_cons_succ]
        refine wpAnyH_take (i := 2) (oi := ⟨some 124, _, _, _, _, _⟩) (v := ?_) rfl (by kernel_rfl) (by kernel_rfl) (by kernel_rfl) (fun _ _ _ h => h) (Or.inl ⟨by rfl, ?_⟩) hHeld ?_
        rotate_left
        · intro W hW; go_simp <;> with_reducible rfl
        simp only [Act.put, List.setIfInBounds_toArray, List.set_cons_zero, List.set_cons_succ]
        refine wpAnyH_take (i := 3) (oi := ⟨some 125, _, _, _, _, _⟩) (v := ?_) rfl (by kernel_rfl) (by kernel_rfl) (by kernel_rfl) (fun _ _ _ h => h) (Or.inl ⟨by rfl, ?_⟩) hHeld ?_
        rotate_left
        · intro W hW; go_simp <;> with_reducible rfl
        simp only [Act.put, List.setIfInBounds_toArray, List.set_cons_zero, List.set_cons_succ]
        refine wpAnyH_take (i := 4) (oi := ⟨some 126, _, _, _, _, _⟩) (v := ?_) rfl (by kernel_rfl) (by kernel_rfl) (by kernel_rfl) (fun _ _ _ h => h) (Or.inl ⟨by rfl, ?_⟩) hHeld ?_
        rotate_left
        · intro W hW; go_simp <;> with_reducible rfl
        simp only [Act.put, List.setIfInBounds_toArray, List.set_cons_zero, List.set_cons_succ]
        refine wpAnyH_take (i := 5) (oi := ⟨some 127, _, _, _, _, _⟩) (v := ?_) rfl (by kernel_rfl) (by kernel_rfl) (by kernel_rfl) (fun _ _ _ h => h) (Or.inl ⟨by rfl, ?_⟩) hHeld ?_
        rotate_left
        · intro W hW; go_simp <;> with_reducible rfl
        simp only [Act.put, List.setIfInBounds_toArray, List.set_cons_zero, List.set_cons_succ]
        refine wpAnyH_take (i := 6) (oi := ⟨some 128, _, _, _, _, _⟩) (v := ?_) rfl (by kernel_rfl) (by kernel_rfl) (by kernel_rfl) (fun _ _ _ h => h) (Or.inl ⟨by rfl, ?_⟩) hHeld ?_
        rotate_left
        · intro W hW; go_simp <;> with_reducible rfl
        simp only [Act.put, List.setIfInBounds_toArray, List.set_cons_zero, List.set_cons_succ]
        refine wpAnyH_ready (rs := [7]) (by kernel_rfl) (by simp) (AllReadyH.cons rfl (fun K1 hK1 => ?_) AllReadyH.nil)
        go_simp
        refine (encode_any eb 7 1024 1024 1031 56 f (some ⟨bp, off, none⟩) nn c sg wr.drew _ HE.out.row.drew (by omega) (by omega) (by unfold maxLen; omega) (by omega) BSG.out.drew (by omega) (by unfold maxLen; omega) (fun _ b' o' e' hb' => by injection e' with e'; injection e' with e1; omega)).mono ?_
        rintro e w1 ⟨f', rfl, hrow1, hon1, hlow1, _, htxt1⟩
        obtain ⟨no, hno⟩ : ∃ no, (enc sg).length = no := ⟨_, rfl⟩
        have hno1 : 1 ≤ no ∧ no ≤ 1020 := by rw [← hno]; have := Plain85.enc_le sg; rw [HSL.out] at this; exact ⟨Plain85.enc_pos sg (by rw [HSL.out]; omega), by omega⟩
        rw [hno]
        have HNO := Lib.hid hno
        have HLOW := Lib.hid hlow1
        have HT1 := Lib.hid htxt1
        have ROW2 := Lib.hid hrow1
        have ho2 : Only eb wr w1 := ⟨hon1.os, hon1.tape, hon1.output, hon1.size, hon1.block⟩
        have HO2 := Lib.hid ho2
        have BUF2 := Lib.hid (HRR.out.bf.only HE.out.row hne ho2)
        have BSO := Lib.hid (out_bs hrow1 (Plain85.enc_lt sg) (by rw [hno]; omega) htxt1 hno)
        have y1 : w1.cell? ⟨eb, 1, none⟩ = some (.iface 33 (.pointer (some ⟨b, 0, none⟩))) := by rw [hrow1.cell (by omega), hlow1 1 (by omega), HE.out.f1]
        have hsl2 := cut1024 eb 7 no (by omega)
        refine hK1.out _ _ trivial (fun hHeld => ?_)
        clear hK1 K1 hrow1 hon1 htxt1 hlow1 hno ho2
        refine wpAnyH_take (i := 8) (oi := ⟨some 9, _, _, _, _, _⟩) (v := ?_) rfl (by kernel_rfl) (by kernel_rfl) (by kernel_rfl) (fun _ _ _ h => h) (Or.inl ⟨by rfl, ?_⟩) hHeld ?_
        rotate_left
        · intro W hW; go_simp <;> with_reducible rfl
        simp only [Act.put, List.setIfInBounds_toArray, List.set_cons_zero, List.set_cons_succ]
        refine wpAnyH_done (by kernel_rfl) ?_ _
        go_wp2_with fail
        refine wp_region_held_drew (S := fun W => W.cell? ⟨eb, 1, none⟩ = some (.iface 33 (.pointer (some ⟨b, 0, none⟩)))) (by kernel_rfl) y1 (fun hHeld => ?_)
        refine wpAnyH_take (i := 0) (oi := ⟨some 131, _, _, _, _, _⟩) (v := ?_) rfl (by kernel_rfl) (by kernel_rfl) (by kernel_rfl) (fun _ _ _ h => h) (Or.inl ⟨by rfl, ?_⟩) hHeld ?_
        rotate_left
        · intro W hW; go_simp <;> with_reducible rfl
        simp only [Act.put, List.setIfInBounds_toArray, List.set_cons_zero, List.set_cons_succ]
        refine wpAnyH_take (i := 1) (oi := ⟨some 132, _, _, _, _, _⟩) (v := ?_) rfl (by kernel_rfl) (by kernel_rfl) (by kernel_rfl) (fun _ _ _ h => h) (Or.inl ⟨by rfl, ?_⟩) hHeld ?_
        rotate_left
        · intro W hW; go_simp <;> with_reducible rfl
        simp only [Act.put, List.setIfInBounds_toArray, List.set_cons_zero, List.set_cons_succ]
        refine wpAnyH_take (i := 2) (oi := ⟨some 133, _, _, _, _, _⟩) (v := ?_) rfl (by kernel_rfl) (by kernel_rfl) (by kernel_rfl) (fun _ _ _ h => h) (Or.inl ⟨by rfl, ?_⟩) hHeld ?_
        rotate_left
        · intro W hW; go_simp <;> with_reducible rfl
        simp only [Act.put, List.setIfInBounds_toArray, List.set_cons_zero, List.set_cons_succ]
        refine wpAnyH_take (i := 3) (oi := ⟨some 134, _, _, _, _, _⟩) (v := ?_) rfl (by kernel_rfl) (by kernel_rfl) (by kernel_rfl) (fun _ _ _ h => h) (Or.inl ⟨by rfl, ?_⟩) hHeld ?_
        rotate_left
        · intro W hW; go_simp <;> with_reducible rfl
        simp only [Act.put, List.setIfInBounds_toArray, List.set_cons_zero, List.set_cons_succ]
        refine wpAnyH_take (i := 4) (oi := ⟨some 135, _, _, _, _, _⟩) (v := ?_) rfl (by kernel_rfl) (by kernel_rfl) (by kernel_rfl) (fun _ _ _ h => h) (Or.inl ⟨by rfl, ?_⟩) hHeld ?_
        rotate_left
        · intro W hW; go_simp <;> with_reducible rfl
        simp only [Act.put, List.setIfInBounds_toArray, List.set_cons_zero, List.set_cons_succ]
        refine wpAnyH_take (i := 5) (oi := ⟨some 136, _, _, _, _, _⟩) (v := ?_) rfl (by kernel_rfl) (by kernel_rfl) (by kernel_rfl) (fun _ _ _ h => h) (Or.inl ⟨by rfl, ?_⟩) hHeld ?_
        rotate_left
        · intro W hW; go_simp <;> with_reducible rfl
        simp only [Act.put, List.setIfInBounds_toArray, List.set_cons_zero, List.set_cons_succ]
        refine wpAnyH_take (i := 6) (oi := ⟨some 137, _, _, _, _, _⟩) (v := ?_) rfl (by kernel_rfl) (by kernel_rfl) (by kernel_rfl) (fun _ _ _ h => h) (Or.inl ⟨by rfl, ?_⟩) hHeld ?_
        rotate_left
        · intro W hW; go_simp <;> with_reducible rfl
        simp only [Act.put, List.setIfInBounds_toArray, List.set_cons_zero, List.set_cons_succ]
        refine wpAnyH_take (i := 7) (oi := ⟨some 138, _, _, _, _, _⟩) (v := ?_) rfl (by kernel_rfl) (by kernel_rfl) (by kernel_rfl) (fun _ _ _ h => h) (Or.inl ⟨by rfl, ?_⟩) hHeld ?_
        rotate_left
        · intro W hW; go_simp <;> with_reducible rfl
        simp only [Act.put, List.setIfInBounds_toArray, List.set_cons_zero, List.set_cons_succ]
        refine wpAnyH_take (i := 8) (oi := ⟨some 139, _, _, _, _, _⟩) (v := ?_) rfl (by kernel_rfl) (by kernel_rfl) (by kernel_rfl) (fun _ _ _ h => h) (Or.inl ⟨by rfl, ?_⟩) hHeld ?_
        rotate_left
        · intro W hW; go_simp <;> with_reducible rfl
        simp only [Act.put, List.setIfInBounds_toArray, List.set_cons_zero, List.set_cons_succ]
        refine wpAnyH_take (i := 9) (oi := ⟨some 140, _, _, _, _, _⟩) (v := ?_) rfl (by kernel_rfl) (by kernel_rfl) (by kernel_rfl) (fun _ _ _ h => h) (Or.inl ⟨by rfl, ?_⟩) hHeld ?_
        rotate_left
        · intro W hW; go_simp <;> with_reducible rfl
        simp only [Act.put, List.setIfInBounds_toArray, List.set_cons_zero, List.set_cons_succ]
        refine wpAnyH_take (i := 10) (oi := ⟨some 141, _, _, _, _, _⟩) (v := ?_) rfl (by kernel_rfl) (by kernel_rfl) (by kernel_rfl) (fun _ _ _ h => h) (Or.inl ⟨by rfl, ?_⟩) hHeld ?_
        rotate_left
        · intro W hW; go_simp <;> with_reducible rfl
        simp only [Act.put, List.setIfInBounds_toArray, List.set_cons_zero, List.set_cons_succ]
        refine wpAnyH_take (i := 11) (oi := ⟨some 142, _, _, _, _, _⟩) (v := ?_) rfl (by kernel_rfl) (by kernel_rfl) (by kernel_rfl) (fun _ _ _ h => h) (Or.inl ⟨by rfl, ?_⟩) hHeld ?_
        rotate_left
        · intro W hW; go_simp <;> with_reducible rfl
        simp only [Act.put, List.setIfInBounds_toArray, List.set_cons_zero, List.set_cons_succ]
        refine wpAnyH_ready (rs := [12]) (by kernel_rfl) (by simp) (AllReadyH.cons rfl (fun K1 hK1 => ?_) AllReadyH.nil)
        go_simp
        refine (bufWrite B b A' m cap lr (o ++ enc (lp.take k)) (enc sg) eb 7 no 1024 w1.drew BUF2.out.drew (by have := HO2.out.size; show B ≤ w1.heap.size; omega) hno1.1 BSO.out.drew hne (by omega)).mono ?_
        rintro e w3 ⟨X, cap', lr', rfl, hbuf3, htwo3, hX3⟩
        have HBUF3 := Lib.hid hbuf3
        have HTWO3 := Lib.hid htwo3
        have HX3 := Lib.hid hX3
        have hblk3 : w3.heap[eb]? = w1.heap[eb]? := htwo3.block eb (by have := ROW2.out.lt; exact this) hne (fun e => own_ne_row BUF2.out.own ROW2.out e.symm)
        have row3 := ROW2.out.of_block hblk3
        have hS3 : w3.cell? ⟨eb, 1, none⟩ = some (.iface 33 (.pointer (some ⟨b, 0, none⟩))) := by rw [row3.cell (by omega), HLOW.out 1 (by omega), HE.out.f1]
        have z0 : w3.cell? ⟨eb, 0, none⟩ = some .nilIface := by rw [row3.cell (by omega), HLOW.out 0 (by omega), HE.out.f0]
        have q0 := row3.frozen 0
        have ROW3 := Lib.hid row3
        refine hK1.out _ _ hS3 (fun hHeld => ?_)
        clear hK1 K1 hbuf3 htwo3 hblk3 row3 hX3
        refine wpAnyH_take (i := 13) (oi := ⟨some 130, _, _, _, _, _⟩) (v := ?_) rfl (by kernel_rfl) (by kernel_rfl) (by kernel_rfl) (fun _ _ _ h => h) (Or.inl ⟨by rfl, ?_⟩) hHeld ?_
        rotate_left
        · intro W hW; go_simp <;> with_reducible rfl
        simp only [Act.put, List.setIfInBounds_toArray, List.set_cons_zero, List.set_cons_succ]
        refine wpAnyH_take (i := 14) (oi := ⟨some 144, _, _, _, _, _⟩) (v := ?_) rfl (by kernel_rfl) (by kernel_rfl) (by kernel_rfl) (fun _ _ _ h => h) (Or.inl ⟨by rfl, ?_⟩) hHeld ?_
        rotate_left
        · intro W hW; go_simp <;> with_reducible rfl
        simp only [Act.put, List.setIfInBounds_toArray, List.set_cons_zero, List.set_cons_succ]
        refine wpAnyH_take (i := 15) (oi := ⟨some 145, _, _, _, _, _⟩) (v := ?_) rfl (by kernel_rfl) (by kernel_rfl) (by kernel_rfl) (fun _ _ _ h => h) (Or.inl ⟨by rfl, ?_⟩) hHeld ?_
        rotate_left
        · intro W hW; go_simp <;> with_reducible rfl
        simp only [Act.put, List.setIfInBounds_toArray, List.set_cons_zero, List.set_cons_succ]
        refine wpAnyH_take (i := 16) (oi := ⟨some 146, _, _, _, _, _⟩) (v := ?_) rfl (by kernel_rfl) (by kernel_rfl) (by kernel_rfl) (fun _ _ _ h => h) (Or.inl ⟨by rfl, ?_⟩) hHeld ?_
        rotate_left
        · intro W hW; go_simp <;> with_reducible rfl
        simp only [Act.put, List.setIfInBounds_toArray, List.set_cons_zero, List.set_cons_succ]
        refine wpAnyH_take (i := 17) (oi := ⟨some 147, _, _, _, _, _⟩) (v := ?_) rfl (by kernel_rfl) (by kernel_rfl) (by kernel_rfl) (fun _ _ _ h => h) (Or.inl ⟨by rfl, ?_⟩) hHeld ?_
        rotate_left
        · intro W hW; go_simp <;> with_reducible rfl
        simp only [Act.put, List.setIfInBounds_toArray, List.set_cons_zero, List.set_cons_succ]
        refine wpAnyH_ready (rs := [18]) (by kernel_rfl) (by simp) (AllReadyH.cons rfl (fun K1 hK1 => ?_) AllReadyH.nil)
        go_simp
        refine hK1.out _ _ (by rw [World.cell?_setCell_other _ _ _ _ (fun e => by injection e with _ e2; omega)]; exact hS3) (fun hHeld => ?_)
        clear hK1 K1
        refine wpAnyH_done (by kernel_rfl) ?_ _
        have ho3 : Only eb w3 (w3.setCell ⟨eb, 0, none⟩ .nilIface) := (Only.refl eb w3).set 0 _
        have hrow4 := ROW3.out.set 0 .nilIface
        have hlt3 := ROW3.out.lt
        have hbpl : bp < wr.heap.size := BS.lt_block BSG.out (by omega)
        have hw1s : w1.heap.size = wr.heap.size := HO2.out.size
        have hw3s : wr.heap.size ≤ w3.heap.size := by rw [← hw1s]; exact HTWO3.out.size
        have hbk : (w3.setCell ⟨eb, 0, none⟩ .nilIface).heap[bp]? = wr.heap[bp]? := (ho3.block bp hbpe).trans ((HTWO3.out.block bp (by show bp < w1.heap.size; omega) hbpb (fun e => HRR.out.n3 e.symm)).trans (HO2.out.block bp hbpe))
        have HF : LpR w B eb b bp o lp (if c = nn then some ⟨bp, off, none⟩ else some ⟨bp, off + nn, none⟩) (n - nn) (c - nn) (w3.setCell ⟨eb, 0, none⟩ .nilIface) (k + nn) (fun j => if j = 0 then .nilIface else f' j) (some ⟨X, 0, none⟩) (m + no) cap' lr' := {
          bs := by
            have h0 := (HRR.out.bs.dropIf (k := nn) (by omega) hnc)
            rw [List.drop_drop] at h0
            by_cases hc : c = nn
            · rw [if_pos hc] at h0 ⊢
              exact bs_block h0 hbk (by simp [World.setCell]; omega)
            · rw [if_neg hc] at h0 ⊢
              exact bs_block h0 hbk (by simp [World.setCell]; omega)
          nc := by omega
          cm := by unfold maxLen; omega
          ha := fun _ => by
            by_cases hc : c = nn
            · rw [if_pos hc]; exact ⟨_, rfl⟩
            · rw [if_neg hc]; exact ⟨_, rfl⟩
          k4 := by
            obtain ⟨j, hj⟩ := HRR.out.k4
            refine ⟨j + nn / 4, ?_⟩
            rw [List.length_take] at hj ⊢
            omega
          kl := by omega
          es := ⟨hrow4, by simp, by simp [HLOW.out 1 (by omega), HE.out.f1], by simp [HLOW.out 6 (by omega), HE.out.f6], fun i hi => by simp at hi, by simp, by simp⟩
          bf := by
            obtain ⟨j, hj⟩ := HRR.out.k4
            have h0 := HBUF3.out.only ROW3.out hne ho3
            rw [List.take_add, HSG.out, Plain85.enc_append j _ _ hj, ← List.append_assoc]
            exact h0
          bel := by
            have h1 : Below B wr w1 := HO2.out.below hBe
            have h2 : Below B w1.drew w3 := HTWO3.out.toBelow BUF2.out.base (fun k' e => (BUF2.out.own.1.lt k' e).1) (by show B ≤ w1.heap.size; omega)
            have h3 : Below B w1 w3 := ⟨h2.os, h2.tape, h2.output, h2.size, h2.block⟩
            exact HRR.out.bel.trans (h1.trans (h3.trans (ho3.below hBe)))
          n1 := hbpe
          n2 := hbpb
          n3 := by
            rcases HX3.out with e | e
            · rw [show (Value.slice (some ⟨X, 0, none⟩) (m + no) cap').ownBlock = some X from rfl, ← e]; exact HRR.out.n3
            · intro e2
              simp only [Value.ownBlock, Option.some.injEq] at e2
              have : w1.heap.size ≤ X := e
              omega }
        have HFF := Lib.hid HF
        clear HF hrow4 hbk
        go_wp2
        exact ⟨⟨⟨_, _, _, _, _, _, _, _, _, _, HFF.out, rfl, rfl⟩, rfl⟩, by simp [lenV]; omega⟩
    · have e0 : decide (4 ≤ (n : Int)) = false := decide_eq_false (by omega)
      have hE := HRR.out.es
      obtain ⟨cur, hcur, hcs, _⟩ := id hE.row
      have hinfo : (Try.prog.info? 5).map (·.size) = some 1 := by
        obtain ⟨i0, hi, hzz⟩ := Option.map_eq_some_iff.1 Try.infoByte
        simp only [Prod.mk.injEq] at hzz
        rw [hi]; simp [hzz.2.1]
      have hbv : (bv (lp.drop k)).length = n := by rw [bv_length]; exact HRR.out.bs.len
      have hll : (lp.drop k).length = n := HRR.out.bs.len
      by_cases hn0 : n = 0
      · subst hn0
        have hd0 : lp.drop k = [] := List.eq_nil_of_length_eq_zero hll
        have hcp := fun W => run_copy_none (P := Try.prog) W 25 25 3 5 (some ⟨eb, 2, none⟩) A 4 4 0 c Try.underlying25 hinfo rfl
        have x6 : wr.cell? ⟨eb, 6, none⟩ = some (.int .i64 0) := by rw [hE.row.cell (by omega), hE.f6]; rfl
        have q6 := hE.row.frozen 6
        have HD0 := Lib.hid hd0
        have HE := Lib.hid hE
        clear hd0 hbv hll hE hcur hcs hinfo hlen
        as_aux_lemma =>
          go_wp2
          refine bodyPost_ret (two_res rfl _ _ _) rfl ?_
          have ho : Only eb wr (wr.setCell ⟨eb, 6, none⟩ (.int .i64 0)) := (Only.refl eb wr).set 6 _
          refine ⟨_, rfl, k, _, _, _, _, _, ⟨HE.out.row.set 6 _, by simp [HE.out.f0], by simp [HE.out.f1], by simp [HD0.out], fun i hi => by rw [HD0.out] at hi; simp at hi, by rw [HD0.out]; simp, by rw [HD0.out]; simp⟩, by rw [HD0.out]; simp, HRR.out.kl, HRR.out.k4, HRR.out.bf.only HE.out.row hne ho, HRR.out.bel.trans (ho.below hBe)⟩
      · obtain ⟨off, rfl⟩ := HRR.out.ha (by omega)
        have hcp := run_copy_row (P := Try.prog) wr 25 25 3 5 eb 2 4 4 ⟨bp, off, none⟩ n c cur 56 (bv (lp.drop k)) Try.underlying25 hinfo hcur (by rw [hbv]; exact (Nat.min_eq_left (by omega)).symm) (fun j v hj => by
          obtain ⟨ad, e, hcell⟩ := HRR.out.bs.src.2 (by omega)
          injection e with e
          subst e
          exact hcell j v hj) (by rw [hbv, hcs]; omega) (bv_one _)
        rw [hbv] at hcp
        obtain ⟨f', hE', hrow', ho'⟩ := rest_end hE hcur hll (by omega) HRR.out.bs.lt
        obtain ⟨W1, hW1⟩ : ∃ W1, wr.setRow eb (cur.toList.take 2 ++ bv (lp.drop k) ++ cur.toList.drop (2 + n)).toArray = W1 := ⟨_, rfl⟩
        rw [hW1] at hcp hE' hrow' ho'
        have x6 := hrow'.cell (i := 6) (by omega)
        rw [if_neg (by omega), hE.f6] at x6
        have q6 := hrow'.frozen 6
        have HE := Lib.hid hE
        have HE2 := Lib.hid hE'
        have HO2 := Lib.hid ho'
        have HROW := Lib.hid hrow'
        have HLL := Lib.hid hll
        clear hE hE' ho' hrow' hbv hll hcur hcs hinfo hlen hW1
        as_aux_lemma =>
          go_wp2
          refine bodyPost_ret (two_res rfl _ _ _) rfl ?_
          have ho : Only eb wr (W1.setCell ⟨eb, 6, none⟩ (.int .i64 (n : Int))) := HO2.out.set 6 _
          exact ⟨_, rfl, k, _, _, _, _, _, HE2.out, by rw [HLL.out]; omega, HRR.out.kl, HRR.out.k4, HRR.out.bf.only HE.out.row hne ho, HRR.out.bel.trans (ho.below hBe)⟩

end Go.Proofs.Ythhbcnjbnfjiiaa

/-
  The walk of the stream encoder's Close: the rest that is begun is written to the buffer. Printed by encgen.py. Conditions: those that it names.
-/
import Derived.Test.YthhbcnjbnfjiiaaEncSt
import Derived.Deep.RegionHeld3
namespace Go.Proofs.Ythhbcnjbnfjiiaa
open Go.RowKit
open Plain85 (enc)

theorem enc_small (r : List Nat) (n : Nat) (hn : r.length = n) (h0 : 1 ≤ n) (h4 : n ≤ 4) : 1 ≤ (enc r).length ∧ (enc r).length ≤ 10 := by
  have h := Plain85.enc_le r
  exact ⟨Plain85.enc_pos r (by omega), by omega⟩
def RetClose (w : World) (B b : Nat) (o : List Nat) (e : Ending) (w' : World) : Prop := e = .returned .nilIface ∧ ∃ A m cap lr, Buf w' B b A m cap lr o ∧ Below B w w'
set_option maxHeartbeats 4000000 in
set_option maxRecDepth 100000 in
theorem close_some (B eb b : Nat) (f : Nat → Value) (r : List Nat) (A : Option Addr) (m cap : Nat) (lr : Int) (o : List Nat) (n : Nat) (w : World) (hE : EncS w eb b f r) (hBf : Buf w B b A m cap lr o) (hne : eb ≠ b) (hBe : B ≤ eb) (hBw : B ≤ w.heap.size) (hn : r.length = n) (hn0 : 1 ≤ n) (hn4 : n ≤ 4) (hm : m ≤ 35184372088832) :
    Calls Try.prog 49 #[.pointer (some ⟨eb, 0, none⟩)] w fun e w' => RetClose w B b (o ++ enc r) e w' := by
  have c0 : w.cell? ⟨eb, 0, none⟩ = some .nilIface := by rw [hE.row.cell (by omega), hE.f0]
  have c6 : w.cell? ⟨eb, 6, none⟩ = some (.int .i64 (n : Int)) := by rw [hE.row.cell (by omega), hE.f6, hn]
  have hrb := hE.bs hn
  have HE := Lib.hid hE
  have HBF := Lib.hid hBf
  have HN := Lib.hid hn
  have HRB := Lib.hid hrb
  have helt := hE.row.lt
  have hsl := cut4 eb 2 n hn4
  have m1 := bw_find ⟨b, 0, none⟩
  have m2 := bw_enter
  have m3 := bw_ahead ⟨b, 0, none⟩
  clear hE hBf hn hrb
  go_enter Try.func49, Try.ntmps49
  go_wp2_with fail
  refine wp_region_held_drew (S := fun W => W.cell? ⟨eb, 6, none⟩ = some (.int .i64 (n : Int))) (by kernel_rfl) c6 (fun hHeld => ?_)
  refine wpAnyH_take (i := 0) (oi := ⟨some 16, _, _, _, _, _⟩) (v := ?_) rfl (by kernel_rfl) (by kernel_rfl) (by kernel_rfl) (fun _ _ _ h => h) (Or.inl ⟨by rfl, ?_⟩) hHeld ?_
  rotate_left
  · intro W hW; go_simp <;> with_reducible rfl
  simp only [Act.put, List.setIfInBounds_toArray, List.set_cons_zero, List.set_cons_succ]
  refine wpAnyH_take (i := 1) (oi := ⟨some 17, _, _, _, _, _⟩) (v := ?_) rfl (by kernel_rfl) (by kernel_rfl) (by kernel_rfl) (fun _ _ _ h => h) (Or.inl ⟨by rfl, ?_⟩) hHeld ?_
  rotate_left
  · intro W hW; go_simp <;> with_reducible rfl
  simp only [Act.put, List.setIfInBounds_toArray, List.set_cons_zero, List.set_cons_succ]
  refine wpAnyH_take (i := 2) (oi := ⟨some 18, _, _, _, _, _⟩) (v := ?_) rfl (by kernel_rfl) (by kernel_rfl) (by kernel_rfl) (fun _ _ _ h => h) (Or.inl ⟨by rfl, ?_⟩) hHeld ?_
  rotate_left
  · intro W hW; go_simp <;> with_reducible rfl
  simp only [Act.put, List.setIfInBounds_toArray, List.set_cons_zero, List.set_cons_succ]
  refine wpAnyH_take (i := 3) (oi := ⟨some 19, _, _, _, _, _⟩) (v := ?_) rfl (by kernel_rfl) (by kernel_rfl) (by kernel_rfl) (fun _ _ _ h => h) (Or.inl ⟨by rfl, ?_⟩) hHeld ?_
  rotate_left
  · intro W hW; go_simp <;> with_reducible rfl
  simp only [Act.put, List.setIfInBounds_toArray, List.set_cons_zero, List.set_cons_succ]
  refine wpAnyH_take (i := 4) (oi := ⟨some 20, _, _, _, _, _⟩) (v := ?_) rfl (by kernel_rfl) (by kernel_rfl) (by kernel_rfl) (fun _ _ _ h => h) (Or.inl ⟨by rfl, ?_⟩) hHeld ?_
  rotate_left
  · intro W hW; go_simp <;> with_reducible rfl
  simp only [Act.put, List.setIfInBounds_toArray, List.set_cons_zero, List.set_cons_succ]
  refine wpAnyH_take (i := 5) (oi := ⟨some 21, _, _, _, _, _⟩) (v := ?_) rfl (by kernel_rfl) (by kernel_rfl) (by kernel_rfl) (fun _ _ _ h => h) (Or.inl ⟨by rfl, ?_⟩) hHeld ?_
  rotate_left
  · intro W hW; go_simp <;> with_reducible rfl
  simp only [Act.put, List.setIfInBounds_toArray, List.set_cons_zero, List.set_cons_succ]
  refine wpAnyH_take (i := 6) (oi := ⟨some 22, _, _, _, _, _⟩) (v := ?_) rfl (by kernel_rfl) (by kernel_rfl) (by kernel_rfl) (fun _ _ _ h => h) (Or.inl ⟨by rfl, ?_⟩) hHeld ?_
  rotate_left
  · intro W hW; go_simp <;> with_reducible rfl
  simp only [Act.put, List.setIfInBounds_toArray, List.set_cons_zero, List.set_cons_succ]
  refine wpAnyH_take (i := 7) (oi := ⟨some 23, _, _, _, _, _⟩) (v := ?_) rfl (by kernel_rfl) (by kernel_rfl) (by kernel_rfl) (fun _ _ _ h => h) (Or.inl ⟨by rfl, ?_⟩) hHeld ?_
  rotate_left
  · intro W hW; go_simp <;> with_reducible rfl
  simp only [Act.put, List.setIfInBounds_toArray, List.set_cons_zero, List.set_cons_succ]
  refine wpAnyH_take (i := 8) (oi := ⟨some 24, _, _, _, _, _⟩) (v := ?_) rfl (by kernel_rfl) (by kernel_rfl) (by kernel_rfl) (fun _ _ _ h => h) (Or.inl ⟨by rfl, ?_⟩) hHeld ?_
  rotate_left
  · intro W hW; go_simp <;> with_reducible rfl
  simp only [Act.put, List.setIfInBounds_toArray, List.set_cons_zero, List.set_cons_succ]
  refine wpAnyH_take (i := 9) (oi := ⟨some 25, _, _, _, _, _⟩) (v := ?_) rfl (by kernel_rfl) (by kernel_rfl) (by kernel_rfl) (fun _ _ _ h => h) (Or.inl ⟨by rfl, ?_⟩) hHeld ?_
  rotate_left
  · intro W hW; go_simp <;> with_reducible rfl
  simp only [Act.put, List.setIfInBounds_toArray, List.set_cons_zero, List.set_cons_succ]
  refine wpAnyH_take (i := 10) (oi := ⟨some 26, _, _, _, _, _⟩) (v := ?_) rfl (by kernel_rfl) (by kernel_rfl) (by kernel_rfl) (fun _ _ _ h => h) (Or.inl ⟨by rfl, ?_⟩) hHeld ?_
  rotate_left
  · intro W hW; go_simp <;> with_reducible rfl
  simp only [Act.put, List.setIfInBounds_toArray, List.set_cons_zero, List.set_cons_succ]
  refine wpAnyH_take (i := 11) (oi := ⟨some 27, _, _, _, _, _⟩) (v := ?_) rfl (by kernel_rfl) (by kernel_rfl) (by kernel_rfl) (fun _ _ _ h => h) (Or.inl ⟨by rfl, ?_⟩) hHeld ?_
  rotate_left
  · intro W hW; go_simp <;> with_reducible rfl
  simp only [Act.put, List.setIfInBounds_toArray, List.set_cons_zero, List.set_cons_succ]
  refine wpAnyH_ready (rs := [12]) (by kernel_rfl) (by simp) (AllReadyH.cons rfl (fun K1 hK1 => ?_) AllReadyH.nil)
  go_simp
  refine (encode_any eb 7 1024 1024 1031 56 f (some ⟨eb, 2, none⟩) n 4 r _ _ HE.out.row.drew (by omega) (by omega) (by unfold maxLen; omega) (by omega) HRB.out.drew (by omega) (by unfold maxLen; omega) (fun _ b' o' e' _ => by injection e' with e'; injection e' with _ e2; omega)).mono ?_
  rintro e w1 ⟨f', rfl, hrow1, hon1, hlow1, _, htxt1⟩
  obtain ⟨no, hno⟩ : ∃ no, (enc r).length = no := ⟨_, rfl⟩
  have hno1 : 1 ≤ no ∧ no ≤ 10 := by rw [← hno]; exact enc_small r n HN.out hn0 hn4
  rw [hno]
  have HROW1 := Lib.hid hrow1
  have HON1 := Lib.hid hon1
  have HT1 := Lib.hid htxt1
  have HLOW := Lib.hid hlow1
  have HNO := Lib.hid hno
  have x6 : w1.cell? ⟨eb, 6, none⟩ = some (.int .i64 (n : Int)) := by rw [hrow1.cell (by omega), hlow1 6 (by omega), HE.out.f6, HN.out]
  refine hK1.out _ _ x6 (fun hHeld => ?_)
  clear hK1 K1 hrow1 hon1 htxt1 hlow1 hno
  refine wpAnyH_take (i := 13) (oi := ⟨some 3, _, _, _, _, _⟩) (v := ?_) rfl (by kernel_rfl) (by kernel_rfl) (by kernel_rfl) (fun _ _ _ h => h) (Or.inl ⟨by rfl, ?_⟩) hHeld ?_
  rotate_left
  · intro W hW; go_simp <;> with_reducible rfl
  simp only [Act.put, List.setIfInBounds_toArray, List.set_cons_zero, List.set_cons_succ]
  refine wpAnyH_done (by kernel_rfl) ?_ _
  have fz6 := HROW1.out.frozen 6
  have ho1 : Only eb w w1 := ⟨HON1.out.os, HON1.out.tape, HON1.out.output, HON1.out.size, HON1.out.block⟩
  have ho2 := ho1.set 6 (.int .i64 0)
  have hrow2 := HROW1.out.set 6 (.int .i64 0)
  obtain ⟨W2, hW2⟩ : ∃ W2, w1.setCell ⟨eb, 6, none⟩ (.int .i64 0) = W2 := ⟨_, rfl⟩
  rw [hW2] at ho2 hrow2
  have HO2 := Lib.hid ho2
  have ROW2 := Lib.hid hrow2
  have BUF2 := Lib.hid (HBF.out.only HE.out.row hne ho2)
  have BSO := Lib.hid (out_bs hrow2 (Plain85.enc_lt r) (by rw [HNO.out]; omega) (fun j hj => by rw [if_neg (by omega)]; exact HT1.out j hj) HNO.out)
  have y1 : W2.cell? ⟨eb, 1, none⟩ = some (.iface 33 (.pointer (some ⟨b, 0, none⟩))) := by rw [hrow2.cell (by omega)]; simp [HLOW.out 1 (by omega), HE.out.f1]
  have hsl2 := cut1024 eb 7 no (by omega)
  clear ho1 ho2 hrow2 hsl
  go_wp2_with fail
  refine wp_region_held_drew (S := fun W => W.cell? ⟨eb, 1, none⟩ = some (.iface 33 (.pointer (some ⟨b, 0, none⟩)))) (by kernel_rfl) y1 (fun hHeld => ?_)
  refine wpAnyH_take (i := 0) (oi := ⟨some 33, _, _, _, _, _⟩) (v := ?_) rfl (by kernel_rfl) (by kernel_rfl) (by kernel_rfl) (fun _ _ _ h => h) (Or.inl ⟨by rfl, ?_⟩) hHeld ?_
  rotate_left
  · intro W hW; go_simp <;> with_reducible rfl
  simp only [Act.put, List.setIfInBounds_toArray, List.set_cons_zero, List.set_cons_succ]
  refine wpAnyH_take (i := 1) (oi := ⟨some 34, _, _, _, _, _⟩) (v := ?_) rfl (by kernel_rfl) (by kernel_rfl) (by kernel_rfl) (fun _ _ _ h => h) (Or.inl ⟨by rfl, ?_⟩) hHeld ?_
  rotate_left
  · intro W hW; go_simp <;> with_reducible rfl
  simp only [Act.put, List.setIfInBounds_toArray, List.set_cons_zero, List.set_cons_succ]
  refine wpAnyH_take (i := 2) (oi := ⟨some 35, _, _, _, _, _⟩) (v := ?_) rfl (by kernel_rfl) (by kernel_rfl) (by kernel_rfl) (fun _ _ _ h => h) (Or.inl ⟨by rfl, ?_⟩) hHeld ?_
  rotate_left
  · intro W hW; go_simp <;> with_reducible rfl
  simp only [Act.put, List.setIfInBounds_toArray, List.set_cons_zero, List.set_cons_succ]
  refine wpAnyH_take (i := 3) (oi := ⟨some 36, _, _, _, _, _⟩) (v := ?_) rfl (by kernel_rfl) (by kernel_rfl) (by kernel_rfl) (fun _ _ _ h => h) (Or.inl ⟨by rfl, ?_⟩) hHeld ?_
  rotate_left
  · intro W hW; go_simp <;> with_reducible rfl
  simp only [Act.put, List.setIfInBounds_toArray, List.set_cons_zero, List.set_cons_succ]
  refine wpAnyH_take (i := 4) (oi := ⟨some 37, _, _, _, _, _⟩) (v := ?_) rfl (by kernel_rfl) (by kernel_rfl) (by kernel_rfl) (fun _ _ _ h => h) (Or.inl ⟨by rfl, ?_⟩) hHeld ?_
  rotate_left
  · intro W hW; go_simp <;> with_reducible rfl
  simp only [Act.put, List.setIfInBounds_toArray, List.set_cons_zero, List.set_cons_succ]
  refine wpAnyH_take (i := 5) (oi := ⟨some 38, _, _, _, _, _⟩) (v := ?_) rfl (by kernel_rfl) (by kernel_rfl) (by kernel_rfl) (fun _ _ _ h => h) (Or.inl ⟨by rfl, ?_⟩) hHeld ?_
  rotate_left
  · intro W hW; go_simp <;> with_reducible rfl
  simp only [Act.put, List.setIfInBounds_toArray, List.set_cons_zero, List.set_cons_succ]
  refine wpAnyH_take (i := 6) (oi := ⟨some 39, _, _, _, _, _⟩) (v := ?_) rfl (by kernel_rfl) (by kernel_rfl) (by kernel_rfl) (fun _ _ _ h => h) (Or.inl ⟨by rfl, ?_⟩) hHeld ?_
  rotate_left
  · intro W hW; go_simp <;> with_reducible rfl
  simp only [Act.put, List.setIfInBounds_toArray, List.set_cons_zero, List.set_cons_succ]
  refine wpAnyH_take (i := 7) (oi := ⟨some 40, _, _, _, _, _⟩) (v := ?_) rfl (by kernel_rfl) (by kernel_rfl) (by kernel_rfl) (fun _ _ _ h => h) (Or.inl ⟨by rfl, ?_⟩) hHeld ?_
  rotate_left
  · intro W hW; go_simp <;> with_reducible rfl
  simp only [Act.put, List.setIfInBounds_toArray, List.set_cons_zero, List.set_cons_succ]
  refine wpAnyH_take (i := 8) (oi := ⟨some 41, _, _, _, _, _⟩) (v := ?_) rfl (by kernel_rfl) (by kernel_rfl) (by kernel_rfl) (fun _ _ _ h => h) (Or.inl ⟨by rfl, ?_⟩) hHeld ?_
  rotate_left
  · intro W hW; go_simp <;> with_reducible rfl
  simp only [Act.put, List.setIfInBounds_toArray, List.set_cons_zero, List.set_cons_succ]
  refine wpAnyH_take (i := 9) (oi := ⟨some 42, _, _, _, _, _⟩) (v := ?_) rfl (by kernel_rfl) (by kernel_rfl) (by kernel_rfl) (fun _ _ _ h => h) (Or.inl ⟨by rfl, ?_⟩) hHeld ?_
  rotate_left
  · intro W hW; go_simp <;> with_reducible rfl
  simp only [Act.put, List.setIfInBounds_toArray, List.set_cons_zero, List.set_cons_succ]
  refine wpAnyH_take (i := 10) (oi := ⟨some 43, _, _, _, _, _⟩) (v := ?_) rfl (by kernel_rfl) (by kernel_rfl) (by kernel_rfl) (fun _ _ _ h => h) (Or.inl ⟨by rfl, ?_⟩) hHeld ?_
  rotate_left
  · intro W hW; go_simp <;> with_reducible rfl
  simp only [Act.put, List.setIfInBounds_toArray, List.set_cons_zero, List.set_cons_succ]
  refine wpAnyH_take (i := 11) (oi := ⟨some 44, _, _, _, _, _⟩) (v := ?_) rfl (by kernel_rfl) (by kernel_rfl) (by kernel_rfl) (fun _ _ _ h => h) (Or.inl ⟨by rfl, ?_⟩) hHeld ?_
  rotate_left
  · intro W hW; go_simp <;> with_reducible rfl
  simp only [Act.put, List.setIfInBounds_toArray, List.set_cons_zero, List.set_cons_succ]
  refine wpAnyH_ready (rs := [12]) (by kernel_rfl) (by simp) (AllReadyH.cons rfl (fun K1 hK1 => ?_) AllReadyH.nil)
  go_simp
  refine (bufWrite B b A m cap lr o (enc r) eb 7 no 1024 W2.drew BUF2.out.drew (by have := HO2.out.size; show B ≤ W2.heap.size; omega) hno1.1 BSO.out.drew hne (by omega)).mono ?_
  rintro e w3 ⟨X, cap', lr', rfl, hbuf3, htwo3, _⟩
  have HBUF3 := Lib.hid hbuf3
  have HTWO3 := Lib.hid htwo3
  have hblk3 : w3.heap[eb]? = W2.heap[eb]? := htwo3.block eb (by have := ROW2.out.lt; exact this) hne (fun e => own_ne_row BUF2.out.own ROW2.out e.symm)
  have row3 := ROW2.out.of_block hblk3
  have hS3 : w3.cell? ⟨eb, 1, none⟩ = some (.iface 33 (.pointer (some ⟨b, 0, none⟩))) := by rw [row3.cell (by omega)]; simp [HLOW.out 1 (by omega), HE.out.f1]
  have z0 : w3.cell? ⟨eb, 0, none⟩ = some .nilIface := by rw [row3.cell (by omega)]; simp [HLOW.out 0 (by omega), HE.out.f0]
  have q0 := row3.frozen 0
  have ROW3 := Lib.hid row3
  refine hK1.out _ _ hS3 (fun hHeld => ?_)
  clear hK1 K1 hbuf3 htwo3 hblk3 row3
  refine wpAnyH_take (i := 13) (oi := ⟨some 32, _, _, _, _, _⟩) (v := ?_) rfl (by kernel_rfl) (by kernel_rfl) (by kernel_rfl) (fun _ _ _ h => h) (Or.inl ⟨by rfl, ?_⟩) hHeld ?_
  rotate_left
  · intro W hW; go_simp <;> with_reducible rfl
  simp only [Act.put, List.setIfInBounds_toArray, List.set_cons_zero, List.set_cons_succ]
  refine wpAnyH_take (i := 14) (oi := ⟨some 46, _, _, _, _, _⟩) (v := ?_) rfl (by kernel_rfl) (by kernel_rfl) (by kernel_rfl) (fun _ _ _ h => h) (Or.inl ⟨by rfl, ?_⟩) hHeld ?_
  rotate_left
  · intro W hW; go_simp <;> with_reducible rfl
  simp only [Act.put, List.setIfInBounds_toArray, List.set_cons_zero, List.set_cons_succ]
  refine wpAnyH_take (i := 15) (oi := ⟨some 47, _, _, _, _, _⟩) (v := ?_) rfl (by kernel_rfl) (by kernel_rfl) (by kernel_rfl) (fun _ _ _ h => h) (Or.inl ⟨by rfl, ?_⟩) hHeld ?_
  rotate_left
  · intro W hW; go_simp <;> with_reducible rfl
  simp only [Act.put, List.setIfInBounds_toArray, List.set_cons_zero, List.set_cons_succ]
  refine wpAnyH_take (i := 16) (oi := ⟨some 48, _, _, _, _, _⟩) (v := ?_) rfl (by kernel_rfl) (by kernel_rfl) (by kernel_rfl) (fun _ _ _ h => h) (Or.inl ⟨by rfl, ?_⟩) hHeld ?_
  rotate_left
  · intro W hW; go_simp <;> with_reducible rfl
  simp only [Act.put, List.setIfInBounds_toArray, List.set_cons_zero, List.set_cons_succ]
  refine wpAnyH_take (i := 17) (oi := ⟨some 49, _, _, _, _, _⟩) (v := ?_) rfl (by kernel_rfl) (by kernel_rfl) (by kernel_rfl) (fun _ _ _ h => h) (Or.inl ⟨by rfl, ?_⟩) hHeld ?_
  rotate_left
  · intro W hW; go_simp <;> with_reducible rfl
  simp only [Act.put, List.setIfInBounds_toArray, List.set_cons_zero, List.set_cons_succ]
  refine wpAnyH_ready (rs := [18]) (by kernel_rfl) (by simp) (AllReadyH.cons rfl (fun K1 hK1 => ?_) AllReadyH.nil)
  go_simp
  refine hK1.out _ _ (by rw [World.cell?_setCell_other _ _ _ _ (fun e => by injection e with _ e2; omega)]; exact hS3) (fun hHeld => ?_)
  clear hK1 K1
  refine wpAnyH_done (by kernel_rfl) ?_ _
  go_wp2
  go_ret
  have ho3 : Only eb w3 (w3.setCell ⟨eb, 0, none⟩ .nilIface) := (Only.refl eb w3).set 0 _
  refine ⟨rfl, _, _, _, _, HBUF3.out.only ROW3.out hne ho3, ?_⟩
  have h2 : Below B w W2 := HO2.out.below hBe
  have h3 : Below B W2.drew w3 := (HTWO3.out.toBelow BUF2.out.base (fun k e => (BUF2.out.own.1.lt k e).1) (by have := h2.size; show B ≤ W2.heap.size; omega))
  have h3' : Below B W2 w3 := ⟨h3.os, h3.tape, h3.output, h3.size, h3.block⟩
  exact h2.trans (h3'.trans (ho3.below hBe))

set_option maxRecDepth 100000 in
theorem close_none (B eb b : Nat) (f : Nat → Value) (A : Option Addr) (m cap : Nat) (lr : Int) (o : List Nat) (w : World) (hE : EncS w eb b f []) (hBf : Buf w B b A m cap lr o) :
    Calls Try.prog 49 #[.pointer (some ⟨eb, 0, none⟩)] w fun e w' => RetClose w B b o e w' := by
  have c0 : w.cell? ⟨eb, 0, none⟩ = some .nilIface := by rw [hE.row.cell (by omega), hE.f0]
  have c6 : w.cell? ⟨eb, 6, none⟩ = some (.int .i64 0) := by rw [hE.row.cell (by omega), hE.f6]; rfl
  have HBF := Lib.hid hBf
  clear hE hBf
  go_enter Try.func49, Try.ntmps49
  go_wp2
  go_ret
  exact ⟨rfl, _, _, _, _, HBF.out, Below.refl _ _⟩

end Go.Proofs.Ythhbcnjbnfjiiaa

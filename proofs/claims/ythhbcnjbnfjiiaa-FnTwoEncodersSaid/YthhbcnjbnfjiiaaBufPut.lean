/-
  The walk of (*bytes.Buffer).Write: what is written stands behind what was there; no old block turns but the buffer's and its row. Conditions: the buffer has only been written; at least one byte is written, from another block than the buffer's; together at most 2^46 bytes.
-/
import Derived.Test.YthhbcnjbnfjiiaaBufWrite
namespace Go.Proofs.Ythhbcnjbnfjiiaa
open Go.RowKit

def RetW (w : World) (B b : Nat) (g : Option Nat) (m n : Nat) (l : List Nat) (e : Ending) (w' : World) : Prop :=
  ∃ X cap' lr', e = .returned (.tuple #[.int .i64 n, .nilIface]) ∧ Buf w' B b (some ⟨X, 0, none⟩) (m + n) cap' lr' l ∧ Two b g w w' ∧ (g = some X ∨ w.heap.size ≤ X)
theorem BS.lt_block {w : World} {B n bp op : Nat} {l : List Nat} (h : BS w B (some ⟨bp, op, none⟩) n l) (hn : 0 < n) : bp < B := by
  obtain ⟨b, o, e, hb, _⟩ := h.spot hn
  injection e with e
  injection e with e1
  rw [e1]; exact hb
/-- The end of Write: the copy into the row X. -/
theorem put_end {W : World} {B b X m n capX : Nat} {cells : Array Value} {l l2 : List Nat} (hb : W.heap[b]? = some (.cells #[.slice (some ⟨X, 0, none⟩) (m + n) capX, .int .i64 0, .int .i8 0] 37 (0, 0))) (hX : W.heap[X]? = some (.cells cells 5 (0, 0))) (hcs : cells.size = capX)
    (htk : cells.toList.take m = bv l) (hfit : m + n ≤ capX) (hcm : capX ≤ maxLen) (hXb : X ≠ b) (hBX : B ≤ X) (hBb : B ≤ b) (hl : l.length = m) (hl2 : l2.length = n) (hlt : ∀ x ∈ l ++ l2, x < 256) :
    Buf (W.setRow X (cells.toList.take m ++ bv l2 ++ cells.toList.drop (m + (bv l2).length)).toArray) B b (some ⟨X, 0, none⟩) (m + n) capX 0 (l ++ l2) ∧ Two b (some X) W (W.setRow X (cells.toList.take m ++ bv l2 ++ cells.toList.drop (m + (bv l2).length)).toArray) := by
  have hlen : (l ++ l2).length = m + n := by rw [List.length_append, hl, hl2]
  refine ⟨⟨hlen, (setRow_other _ _ _ _ (Ne.symm hXb)).trans hb, ⟨⟨by rw [bv_length]; omega, .inr ⟨X, capX, _, by rw [hlen], hBX, setRow_heap _ _ _ _ _ _ hX, by omega, hcm, ?_, ?_⟩⟩, hlt⟩, by simp [Value.ownBlock, hXb], hBb⟩, ⟨rfl, rfl, rfl, by simp [World.setRow], fun k _ _ hk => setRow_other _ _ _ _ (fun e => hk (by rw [e]))⟩⟩
  · simp only [List.size_toArray, List.length_append, List.length_take, List.length_drop, Array.length_toList, bv_length, hl2, hcs]
    omega
  · rw [htk, ← bv_append, Nat.mul_one]
    have e : (l ++ l2).length = (bv (l ++ l2)).length := by rw [bv_length]
    rw [e]
    exact List.take_left
theorem Two.frm {b : Nat} {g g' : Option Nat} {w w1 w2 : World} (h : Two b none w w1) (k : Two b g' w1 w2) (hg : ∀ x, g' = some x → g = some x ∨ w.heap.size ≤ x) : Two b g w w2 :=
  ⟨k.os.trans h.os, k.tape.trans h.tape, k.output.trans h.output, Nat.le_trans h.size k.size, fun i hi h1 h2 => (k.block i (Nat.lt_of_lt_of_le hi h.size) h1 (fun e => by
    rcases hg i e.symm with hh | hh
    · exact h2 hh.symm
    · omega)).trans (h.block i hi h1 (by simp))⟩

set_option maxHeartbeats 8000000 in
set_option maxRecDepth 100000 in
theorem bufWrite (B b : Nat) (A : Option Addr) (m cap : Nat) (lr : Int) (l l2 : List Nat) (bp op n c : Nat) (w : World) (h : Buf w B b A m cap lr l) (hBw : B ≤ w.heap.size) (hn : 1 ≤ n) (hsrc : BS w w.heap.size (some ⟨bp, op, none⟩) n l2) (hpb : bp ≠ b) (hlim : m + n ≤ 70368744177664) :
    Calls Try.prog 43 #[.pointer (some ⟨b, 0, none⟩), .slice (some ⟨bp, op, none⟩) n c] w fun e w' => RetW w B b (Value.slice A m cap).ownBlock m n (l ++ l2) e w' := by
  have hb := h.blk
  have hblt := lt_of_block' hb
  obtain ⟨c0, c1, c2, f0, f1, f2⟩ := three_cells hb
  have hb1 := (set_three (v := .int .i8 0) hb).2.2
  obtain ⟨d0, d1, d2, g0, g1, g2⟩ := three_cells hb1
  have hT1 : Two b none w (w.setCell ⟨b, 2, none⟩ (.int .i8 0)) := (Two.refl b none w).set 2 _
  have hl := h.len
  have hall : ∀ x ∈ l ++ l2, x < 256 := fun x hx => by
    rcases List.mem_append.1 hx with hx | hx
    · exact h.own.2 x hx
    · exact hsrc.lt x hx
  have hl2 : (bv l2).length = n := by rw [bv_length]; exact hsrc.len
  have HALL := Lib.hid hall
  have HL2 := Lib.hid hl2
  have HH := Lib.hid h
  have HSRC := Lib.hid hsrc
  have hbp := BS.lt_block hsrc (by omega)
  have hsz1 : (w.setCell ⟨b, 2, none⟩ (.int .i8 0)).heap.size = w.heap.size := by simp [World.setCell]
  have hinfo : (Try.prog.info? 5).map (·.size) = some 1 := by
    obtain ⟨i0, hi, hzz⟩ := Option.map_eq_some_iff.1 Try.infoByte
    simp only [Prod.mk.injEq] at hzz
    rw [hi]; simp [hzz.2.1]
  have hgk : ∀ g cur, (Value.slice A m cap).ownBlock = some g → w.heap[g]? = some (.cells cur 5 (0, 0)) → g ≠ b ∧ (w.setCell ⟨b, 2, none⟩ (.int .i8 0)).heap[g]? = some (.cells cur 5 (0, 0)) := fun g cur e hg => by
    have hgb : g ≠ b := fun e' => h.ne (by rw [e, e'])
    exact ⟨hgb, (set_other hgb).trans hg⟩
  obtain ⟨W1, hW1⟩ : ∃ W1, w.setCell ⟨b, 2, none⟩ (.int .i8 0) = W1 := ⟨_, rfl⟩
  rw [hW1] at hb1 d0 d1 d2 g0 g1 g2 hT1 hsz1 hgk
  have hT1' := hT1
  have HT1 := Lib.hid hT1
  have hBb := h.base
  have how := h.own.1.2
  have HSZ1 := Lib.hid hsz1
  clear hall hl2 hsrc hT1 hT1' h hsz1
  rcases how with ⟨hv, hn0⟩ | ⟨g, cap', cur, hv, hBg, hg, hnc, hcm, hcs, htk⟩
  · injection hv with e1 e2 e3
    subst e1 e2 e3
    obtain rfl : l = [] := List.eq_nil_of_length_eq_zero hl
    have hG : Calls Try.prog 45 #[.pointer (some ⟨b, 0, none⟩), .int .i64 n] W1 fun e w' => RetG W1 b 0 n 0 [] e w' := by
      by_cases h64 : n ≤ 64
      · exact grow_small b n 0 W1 hb1 hn h64
      · exact grow_nil b n 0 W1 hb1 (by omega) (by omega)
    have HG := Lib.hid hG
    clear hG
    go_enter Try.func43, Try.ntmps43
    go_wp2_with fail
    refine (tryGrow_no b none 0 0 n W1 d0 (Nat.le_refl _) (Nat.zero_le _) (by omega)).mono ?_
    rintro e w2 ⟨rfl, rfl⟩
    go_wp2_with fail
    refine HG.out.mono ?_
    intro e w3 hret
    obtain ⟨G, cap2, cells, rfl, hb2, hG2, hcs2, htk2, hfit2, hcm2, hGs, hT2⟩ := hret
    have hT02 : Two b none w w3 := HT1.out.trans hT2
    have hGw : w.heap.size ≤ G := by rw [← HSZ1.out]; exact hGs
    simp only [Nat.zero_add] at hb2 hfit2
    have hb2' : w3.heap[b]? = some (.cells #[.slice (some ⟨G, 0, none⟩) (0 + n) cap2, .int .i64 0, .int .i8 0] 37 (0, 0)) := by rw [Nat.zero_add]; exact hb2
    have hfit2' : 0 + n ≤ cap2 := by omega
    have hsrc2 : ∀ j v, (bv l2)[j]? = some v → w3.cell? ((⟨bp, op, none⟩ : Addr).add j) = some v := fun j v hj => by
      have h0 := HSRC.out.src.2 (by omega)
      obtain ⟨ad, e, hcell⟩ := h0
      injection e with e
      subst e
      rw [← hcell j v hj]
      exact World.cell?_of_block (w := w) (by rw [addr_add]; exact hT02.block bp hbp hpb (by simp))
    have hcp := run_copy_row (P := Try.prog) w3 25 25 3 5 G 0 n cap2 ⟨bp, op, none⟩ n c cells 5 (bv l2) Try.underlying25 hinfo hG2 (by rw [HL2.out]; exact (Nat.min_self n).symm) hsrc2 (by rw [HL2.out, hcs2]; omega) (bv_one l2)
    have hpe := put_end (l := []) (l2 := l2) hb2' hG2 hcs2 htk2 hfit2' hcm2 (by omega) (by omega) hBb rfl HSRC.out.len HALL.out
    rw [HL2.out] at hcp hpe
    have HPE := Lib.hid hpe
    clear hpe hsrc2
    obtain ⟨q0, q1, q2, r0, r1, r2⟩ := three_cells hb2
    have hcm9 := hcm2
    unfold maxLen at hcm9
    generalize (cells.toList.take 0 ++ bv l2 ++ cells.toList.drop (0 + n)).toArray = Y at *
    go_wp2
    refine bodyPost_ret (two_res rfl _ _ _) rfl ?_
    exact ⟨G, cap2, 0, by simp, HPE.out.1, hT02.frm HPE.out.2 (fun x e => by injection e with e; subst e; exact .inr hGw), .inr hGw⟩
  · injection hv with e1 e2 e3
    subst e1 e3
    clear e2
    rw [Nat.mul_one] at hcs htk
    rw [hl] at hnc htk
    obtain ⟨hgb, hg1⟩ := hgk g cur rfl hg
    have h1c : ∀ v ∈ cur.toList.take m, v.oneCell' = true := by rw [htk]; exact bv_one l
    have H1C := Lib.hid h1c
    have HTK := Lib.hid htk
    have HCS := Lib.hid hcs
    have HG1 := Lib.hid hg1
    have HLL := Lib.hid hl
    clear h1c htk hcs hg hg1 hl
    have hcm2' := hcm
    unfold maxLen at hcm2'
    clear hgk
    by_cases hroom : n ≤ cap - m
    · as_aux_lemma =>
        go_enter Try.func43, Try.ntmps43
        go_wp2_with fail
        refine (tryGrow_room b (some ⟨g, 0, none⟩) m cap n W1 d0 g0 hnc hcm (by omega)).mono ?_
        rintro e w3 ⟨rfl, rfl⟩
        have hb3 := (set_three (v := .slice (some ⟨g, 0, none⟩) (m + n) cap) hb1).1
        have hg3 : (W1.setCell ⟨b, 0, none⟩ (.slice (some ⟨g, 0, none⟩) (m + n) cap)).heap[g]? = some (.cells cur 5 (0, 0)) := (set_other hgb).trans HG1.out
        have hT03 : Two b none w (W1.setCell ⟨b, 0, none⟩ (.slice (some ⟨g, 0, none⟩) (m + n) cap)) := HT1.out.set 0 _
        obtain ⟨W3, hW3⟩ : ∃ W3, W1.setCell ⟨b, 0, none⟩ (.slice (some ⟨g, 0, none⟩) (m + n) cap) = W3 := ⟨_, rfl⟩
        rw [hW3] at hb3 hg3 hT03 ⊢
        clear hW3
        have hne : ¬ cap = m := by omega
        have hsrc2 : ∀ j v, (bv l2)[j]? = some v → W3.cell? ((⟨bp, op, none⟩ : Addr).add j) = some v := fun j v hj => by
          have h0 := HSRC.out.src.2 (by omega)
          obtain ⟨ad, e, hcell⟩ := h0
          injection e with e
          subst e
          rw [← hcell j v hj]
          exact World.cell?_of_block (w := w) (by rw [addr_add]; exact hT03.block bp hbp hpb (by simp))
        have hcp := run_copy_row (P := Try.prog) W3 25 25 3 5 g m n (cap - m) ⟨bp, op, none⟩ n c cur 5 (bv l2) Try.underlying25 hinfo hg3 (by rw [HL2.out]; exact (Nat.min_self n).symm) hsrc2 (by rw [HL2.out, HCS.out]; omega) (bv_one l2)
        have hpe := put_end (l := l) (l2 := l2) hb3 hg3 HCS.out HTK.out (by omega) hcm hgb hBg hBb HLL.out HSRC.out.len HALL.out
        rw [HL2.out] at hcp hpe
        have HPE := Lib.hid hpe
        clear hpe hsrc2
        obtain ⟨q0, q1, q2, r0, r1, r2⟩ := three_cells hb3
        have hcm9 := hcm
        unfold maxLen at hcm9
        generalize (cur.toList.take m ++ bv l2 ++ cur.toList.drop (m + n)).toArray = Y at *
        go_wp2
        refine bodyPost_ret (two_res rfl _ _ _) rfl ?_
        exact ⟨g, cap, 0, by simp, HPE.out.1, hT03.frm HPE.out.2 (fun x e => by injection e with e; subst e; exact .inl rfl), .inl rfl⟩
    · by_cases hm0 : m = 0
      · subst hm0
        as_aux_lemma =>
          have HGR := Lib.hid (grow_row0 b n 0 W1 g cap cur hb1 HG1.out HCS.out (by omega) (by omega) (by omega))
          go_enter Try.func43, Try.ntmps43
          go_wp2_with fail
          refine (tryGrow_no b (some ⟨g, 0, none⟩) 0 cap n W1 d0 (by omega) hcm (by omega)).mono ?_
          rintro e w2 ⟨rfl, rfl⟩
          go_wp2_with fail
          refine HGR.out.mono ?_
          intro e w3 hret
          obtain ⟨G, cap2, cells, rfl, hb2, hG2, hcs2, htk2, hfit2, hcm2, hGs, hT2⟩ := hret
          have hT02 : Two b none w w3 := HT1.out.trans hT2
          have hGw : w.heap.size ≤ G := by rw [← HSZ1.out]; exact hGs
          simp only [Nat.zero_add] at hb2 hfit2
          have hb2' : w3.heap[b]? = some (.cells #[.slice (some ⟨G, 0, none⟩) (0 + n) cap2, .int .i64 0, .int .i8 0] 37 (0, 0)) := by rw [Nat.zero_add]; exact hb2
          have hfit2' : 0 + n ≤ cap2 := by omega
          have hsrc2 : ∀ j v, (bv l2)[j]? = some v → w3.cell? ((⟨bp, op, none⟩ : Addr).add j) = some v := fun j v hj => by
            have h0 := HSRC.out.src.2 (by omega)
            obtain ⟨ad, e, hcell⟩ := h0
            injection e with e
            subst e
            rw [← hcell j v hj]
            exact World.cell?_of_block (w := w) (by rw [addr_add]; exact hT02.block bp hbp hpb (by simp))
          have hcp := run_copy_row (P := Try.prog) w3 25 25 3 5 G 0 n cap2 ⟨bp, op, none⟩ n c cells 5 (bv l2) Try.underlying25 hinfo hG2 (by rw [HL2.out]; exact (Nat.min_self n).symm) hsrc2 (by rw [HL2.out, hcs2]; omega) (bv_one l2)
          have hpe := put_end (l := l) (l2 := l2) hb2' hG2 hcs2 (htk2.trans HTK.out) hfit2' hcm2 (by omega) (by omega) hBb HLL.out HSRC.out.len HALL.out
          rw [HL2.out] at hcp hpe
          have HPE := Lib.hid hpe
          clear hpe hsrc2
          obtain ⟨q0, q1, q2, r0, r1, r2⟩ := three_cells hb2
          have hcm9 := hcm2
          unfold maxLen at hcm9
          generalize (cells.toList.take 0 ++ bv l2 ++ cells.toList.drop (0 + n)).toArray = Y at *
          go_wp2
          refine bodyPost_ret (two_res rfl _ _ _) rfl ?_
          exact ⟨G, cap2, 0, by simp, HPE.out.1, hT02.frm HPE.out.2 (fun x e => by injection e with e; subst e; exact .inr hGw), .inr hGw⟩
      · as_aux_lemma =>
          have HGR := Lib.hid (grow_row1 b n 0 W1 g m cap cur hb1 HG1.out HCS.out hnc hm0 (by omega) (by omega) (by omega) H1C.out)
          go_enter Try.func43, Try.ntmps43
          go_wp2_with fail
          refine (tryGrow_no b (some ⟨g, 0, none⟩) m cap n W1 d0 (by omega) hcm (by omega)).mono ?_
          rintro e w2 ⟨rfl, rfl⟩
          go_wp2_with fail
          refine HGR.out.mono ?_
          intro e w3 hret
          obtain ⟨G, cap2, cells, rfl, hb2, hG2, hcs2, htk2, hfit2, hcm2, hGs, hT2⟩ := hret
          have hT02 : Two b none w w3 := HT1.out.trans hT2
          have hGw : w.heap.size ≤ G := by rw [← HSZ1.out]; exact hGs
          have hne : ¬ cap2 = m := by omega
          have hsrc2 : ∀ j v, (bv l2)[j]? = some v → w3.cell? ((⟨bp, op, none⟩ : Addr).add j) = some v := fun j v hj => by
            have h0 := HSRC.out.src.2 (by omega)
            obtain ⟨ad, e, hcell⟩ := h0
            injection e with e
            subst e
            rw [← hcell j v hj]
            exact World.cell?_of_block (w := w) (by rw [addr_add]; exact hT02.block bp hbp hpb (by simp))
          have hcp := run_copy_row (P := Try.prog) w3 25 25 3 5 G m n (cap2 - m) ⟨bp, op, none⟩ n c cells 5 (bv l2) Try.underlying25 hinfo hG2 (by rw [HL2.out]; exact (Nat.min_self n).symm) hsrc2 (by rw [HL2.out, hcs2]; omega) (bv_one l2)
          have hpe := put_end (l := l) (l2 := l2) hb2 hG2 hcs2 (htk2.trans HTK.out) hfit2 hcm2 (by omega) (by omega) hBb HLL.out HSRC.out.len HALL.out
          rw [HL2.out] at hcp hpe
          have HPE := Lib.hid hpe
          clear hpe hsrc2
          obtain ⟨q0, q1, q2, r0, r1, r2⟩ := three_cells hb2
          have hcm9 := hcm2
          unfold maxLen at hcm9
          generalize (cells.toList.take m ++ bv l2 ++ cells.toList.drop (m + n)).toArray = Y at *
          go_wp2
          refine bodyPost_ret (two_res rfl _ _ _) rfl ?_
          exact ⟨G, cap2, 0, by simp, HPE.out.1, hT02.frm HPE.out.2 (fun x e => by injection e with e; subst e; exact .inr hGw), .inr hGw⟩

end Go.Proofs.Ythhbcnjbnfjiiaa

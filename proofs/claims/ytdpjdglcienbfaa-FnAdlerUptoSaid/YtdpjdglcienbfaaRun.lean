/-
  The walk of impl.run, for whatever kind of hash: the answers are those of the plain model. Written by rungen.py. Conditions: the kind's methods do what 'Good' says and are found as 'Linked' says; at most 2^40 steps, each with at most 2^46 bytes.
-/
import Derived.Test.YtdpjdglcienbfaaRunRel
import Derived.Test.YtdpjdglcienbfaaImplClone
import Derived.Test.YtdpjdglcienbfaaImplLoad
namespace Go.Proofs.Ytdpjdglcienbfaa
open Go.RowKit

def RunRel (K : Kind) (B0 : Nat) (w : World) (L : List Stp) (i slv anv : Value) (wr : World) : Prop := ∃ k bs P, RunR K B0 w L slv anv wr k bs P ∧ i = .int .i64 (k : Int)
def RetRun (K : Kind) (B0 : Nat) (w : World) (L : List Stp) (e : Ending) (w' : World) : Prop :=
  ∃ v P, e = .returned v ∧ w'.ownsRow B0 40 4 v P.length (ansCells P) ∧ P.map (·.2) = (runM K L).an ∧ (∀ p ∈ P, Own w' B0 p.1 p.2.data) ∧ Below B0 w w'
theorem getD_ifs (K : Kind) (bs : List Nat) (j : Nat) (h : j < bs.length) : (ifs K bs)[j]? = some (.iface K.dyn (hp (bs.getD j 0))) := by
  simp [ifs, h, List.getD_eq_getElem?_getD]

set_option maxRecDepth 100000 in
set_option maxHeartbeats 8000000 in
theorem run_any (K : Kind) (G : Good Try.prog K) (LK : Linked K) (hA : Apart K) (w : World) (B0 b0 : Nat) (hr : Rep K w b0 K.init) (hB0 : B0 ≤ b0) (A : Option Addr) (n c : Nat) (L : List Stp) (hS : SS w B0 A n L) (hn : n ≤ 1099511627776) (hd : ∀ s ∈ L, s.data.length ≤ 70368744177664) :
    Calls Try.prog 36 #[.iface K.dyn (hp b0), .slice A n c] w fun e w' => RetRun K B0 w L e w' := by
  obtain rfl : L.length = n := hS.len
  have HR := Lib.hid hr
  have HS := Lib.hid hS
  have HD := Lib.hid hd
  have HG := Lib.hid G
  have HL := Lib.hid LK
  have HA := Lib.hid hA
  have hb0 := hr.lt
  obtain ⟨i, hi, hzz⟩ := Option.map_eq_some_iff.1 Try.infoAns
  simp only [Prod.mk.injEq] at hzz
  obtain ⟨hz, hsz, hby⟩ := hzz
  have HI := Lib.hid hi
  have HZ := Lib.hid hz
  have HSZ := Lib.hid hsz
  have HBY := Lib.hid hby
  clear hr hS hd G LK hA hi hz hsz hby
  unfold hp
  go_enter Try.func36, Try.ntmps36
  go_wp2
  go_loopw [18, 5, 6] (fun i slv anv wr => RunRel K B0 w L i slv anv wr) (fun i _ _ _ => L.length - (intOf i).toNat)
  case atStart =>
    refine ⟨0, [b0], [], ⟨Nat.zero_le _, ?_, rfl, by simp, ?_, ?_, ?_, rfl, by simp, by simp, ?_⟩, rfl⟩
    · exact (row_lit w #[.iface K.dyn (hp b0)] 58 B0 1 1 rfl (by omega) (by unfold maxLen; omega)).alloc _
    · intro j hj
      simp only [List.length_cons, List.length_nil] at hj
      obtain rfl : j = 0 := by omega
      exact ⟨(HR.out.below (((Below.refl _ _).alloc (Nat.le_refl _) _).alloc (by simp) _) HR.out.lt), hB0⟩
    · intro i j hi hj _
      simp only [List.length_cons, List.length_nil] at hi hj
      omega
    · have h := row_lit (w.alloc (.cells #[.iface K.dyn (hp b0)] 58)) #[] 40 B0 0 4 rfl (by simp; omega) (Nat.zero_le _)
      simpa [hp, ansCells] using h
    · exact ((Below.refl _ _).alloc (by omega) _).alloc (by simp; omega) _
  case round =>
    obtain ⟨k, bs, P, hR, rfl⟩ := hrel
    have hbel := hR.bel
    have hB := Nat.le_trans (Nat.le_of_lt (Nat.lt_of_le_of_lt hB0 hb0)) hbel.size
    have hkl := hR.kl
    have hbk := hR.bk
    have hPl : P.length ≤ 1099511627776 := by rw [hR.pl]; omega
    have HRR := Lib.hid hR
    obtain ⟨As, cs, rfl, hsc, hsm, hsg⟩ := row_at hR.slots
    obtain ⟨Aa, ca, rfl, hac, ham, hag⟩ := row_at hR.ans
    have HSG := Lib.hid hsg
    have HAG := Lib.hid hag
    unfold maxLen at hsm ham
    clear hR hsg hag
    by_cases hlt : k < L.length
    · obtain ⟨g, o, hAeq, hgB, hst⟩ := (HS.out.below hbel).spot (by omega)
      obtain ⟨Ai, ni, ci, hs⟩ := hst k hlt
      have HSTS := Lib.hid hst
      clear hst
      have HBS := Lib.hid hs.bs
      have hnc := hs.nc
      have hcm := hs.cm
      have h0 := hs.c0
      have h1 := hs.c1
      have h2 := hs.c2
      have h3 := hs.c3
      have hM := runM_take K L k hlt
      have HM := Lib.hid hM
      have hdl := HD.out (L.getD k Stp.zero) (getD_mem hlt)
      have hgr : g < wr.heap.size := by omega
      clear hs hM
      subst hAeq
      generalize L.getD k Stp.zero = st at *
      obtain ⟨op, slot, frm, data⟩ := st
      simp only at h0 h1 h2 h3 hdl
      have hdn := HBS.out.len
      simp only at hdn
      have hni : ni ≤ 70368744177664 := by omega
      have HDN := Lib.hid hdn
      clear hdn hdl
      unfold maxLen at hcm
      by_cases hsl : 0 ≤ slot ∧ slot < (bs.length : Int)
      · obtain ⟨hsl0, hsl1⟩ := hsl
        obtain ⟨j, rfl⟩ : ∃ j : Nat, slot = (j : Int) := ⟨slot.toNat, by omega⟩
        have hj : j < bs.length := by omega
        obtain ⟨gs, rfl, hgsB, hcs⟩ := HSG.out (by omega)
        have hcell := hcs j _ (getD_ifs K bs j hj)
        have hgs := World.block_lt_of_cell? wr _ hcell
        simp only at hgs
        have hrep := (HRR.out.reps j hj).1
        have hbB := (HRR.out.reps j hj).2
        have hblt := hrep.lt
        have hM0 : runM K (L.take (k + 1)) = ⟨(doM K (runM K (L.take k)) ⟨op, j, frm, data⟩ ((runM K (L.take k)).ss.getD j 0)).1, (runM K (L.take k)).an ++ [(doM K (runM K (L.take k)) ⟨op, j, frm, data⟩ ((runM K (L.take k)).ss.getD j 0)).2]⟩ := by
          rw [HM.out, stepM, if_pos ⟨hsl0, by rw [← HRR.out.blen]; exact hsl1⟩]; rfl
        have HRP := Lib.hid hrep
        obtain ⟨bj, hbj⟩ : ∃ bj, bs.getD j 0 = bj := ⟨_, rfl⟩
        obtain ⟨sj, hsj⟩ : ∃ sj, (runM K (L.take k)).ss.getD j 0 = sj := ⟨_, rfl⟩
        rw [hbj] at hcell hbB hblt
        rw [hbj, hsj] at HRP
        rw [hsj] at hM0
        have HBJ := Lib.hid hbj
        have HM0 := Lib.hid hM0
        clear hrep hbj hsj hM0 hcs hsl0 hsl1
        unfold hp at hcell
        have e0 : decide (0 ≤ (j : Int)) = true := decide_eq_true (by omega)
        have e1 : decide (j < bs.length) = true := decide_eq_true hj
        by_cases ho0 : op = 0
        · subst ho0
          have hmm : runM K (L.take (k + 1)) = ⟨(runM K (L.take k)).ss.set j (data.foldl K.step sj), (runM K (L.take k)).an ++ [⟨[], 0, data.length, false, none⟩]⟩ := HM0.out
          rw [HDN.out] at hmm
          have HMM := Lib.hid hmm
          clear hmm
          have m1 := HL.out.write.find ⟨bj, 0, none⟩
          have m2 := HL.out.write.enter
          have m3 := HL.out.write.ahead ⟨bj, 0, none⟩
          go_wp2_with fail
          have hsz1 : wr.heap.size + 1 + 1 = ((wr.alloc (.cells #[.int .i64 0, .int .i64 (j : Int), .int .i64 frm, .slice Ai ni ci] 36)).alloc (.cells #[.slice none 0 0, .int .u64 0, .int .i64 0, .bool false] 40)).heap.size := by simp
          have HG1 := Lib.hid (grow_alloc (World.grownBy_alloc wr (.cells #[.int .i64 0, .int .i64 (j : Int), .int .i64 frm, .slice Ai ni ci] 36) none) (.cells #[.slice none 0 0, .int .u64 0, .int .i64 0, .bool false] 40))
          have HS1 := Lib.hid ((HBS.out.alloc hB (.cells #[.int .i64 0, .int .i64 (j : Int), .int .i64 frm, .slice Ai ni ci] 36)).alloc (by simp; omega) (.cells #[.slice none 0 0, .int .u64 0, .int .i64 0, .bool false] 40))
          have HR1 := Lib.hid (HRP.out.below (((Below.refl _ _).alloc (Nat.le_refl _) (.cells #[.int .i64 0, .int .i64 (j : Int), .int .i64 frm, .slice Ai ni ci] 36)).alloc (by simp) (.cells #[.slice none 0 0, .int .u64 0, .int .i64 0, .bool false] 40)) hblt)
          have hda : ((wr.alloc (.cells #[.int .i64 0, .int .i64 (j : Int), .int .i64 frm, .slice Ai ni ci] 36)).alloc (.cells #[.slice none 0 0, .int .u64 0, .int .i64 0, .bool false] 40)).cell? ⟨wr.heap.size, 3, none⟩ = some (.slice Ai ni ci) := by
            rw [World.cell?_alloc_lt _ _ ⟨wr.heap.size, 3, none⟩ (by simp)]; exact (four_cells (_root_.Go.heap_alloc_new wr _)).2.2.2.1
          have hblk1 : ((wr.alloc (.cells #[.int .i64 0, .int .i64 (j : Int), .int .i64 frm, .slice Ai ni ci] 36)).alloc (.cells #[.slice none 0 0, .int .u64 0, .int .i64 0, .bool false] 40)).heap[wr.heap.size + 1]? = some (.cells #[.slice none 0 0, .int .u64 0, .int .i64 0, .bool false] 40 (0, 0)) := heap_new _ _ _ (by simp)
          generalize (wr.alloc (.cells #[.int .i64 0, .int .i64 (j : Int), .int .i64 frm, .slice Ai ni ci] 36)).alloc (.cells #[.slice none 0 0, .int .u64 0, .int .i64 0, .bool false] 40) = w1 at *
          have HBK1 := Lib.hid hblk1
          clear hblk1
          refine wp_region_held_drew (S := fun W => W.cell? ⟨wr.heap.size, 3, none⟩ = some (.slice Ai ni ci)) (by kernel_rfl) hda (fun hHeld => ?_)
          refine wpAnyH_take (i := 0) (v := ?_) rfl (by kernel_rfl) (by kernel_rfl) (by kernel_rfl) (fun _ _ _ h => h) (Or.inl ⟨by rfl, ?_⟩) hHeld ?_
          rotate_left
          · intro W hW; go_simp <;> with_reducible rfl
          refine wpAnyH_take (i := 2) (v := ?_) rfl (by kernel_rfl) (by kernel_rfl) (by kernel_rfl) (fun _ _ _ h => h) (Or.inl ⟨by rfl, ?_⟩) hHeld ?_
          rotate_left
          · intro W hW; go_simp <;> with_reducible rfl
          refine wpAnyH_take (i := 3) (v := ?_) rfl (by kernel_rfl) (by kernel_rfl) (by kernel_rfl) (fun _ _ _ h => h) (Or.inl ⟨by rfl, ?_⟩) hHeld ?_
          rotate_left
          · intro W hW; go_simp <;> with_reducible rfl
          refine wpAnyH_take (i := 5) (v := ?_) rfl (by kernel_rfl) (by kernel_rfl) (by kernel_rfl) (fun _ _ _ h => h) (Or.inl ⟨by rfl, ?_⟩) hHeld ?_
          rotate_left
          · intro W hW; go_simp <;> with_reducible rfl
          refine wpAnyH_take (i := 6) (v := ?_) rfl (by kernel_rfl) (by kernel_rfl) (by kernel_rfl) (fun _ _ _ h => h) (Or.inl ⟨by rfl, ?_⟩) hHeld ?_
          rotate_left
          · intro W hW; go_simp <;> with_reducible rfl
          refine wpAnyH_take (i := 7) (v := ?_) rfl (by kernel_rfl) (by kernel_rfl) (by kernel_rfl) (fun _ _ _ h => h) (Or.inl ⟨by rfl, ?_⟩) hHeld ?_
          rotate_left
          · intro W hW; go_simp <;> with_reducible rfl
          simp only [Act.put, List.setIfInBounds_toArray]
          refine wpAnyH_ready (rs := [1]) (by kernel_rfl) (by simp) (AllReadyH.cons rfl (fun K1 hK1 => ?_) AllReadyH.nil)
          go_simp
          refine hK1.out _ _ ((World.cell?_alloc_lt w1 _ ⟨wr.heap.size, 3, none⟩ (by simp only; omega)).trans hda) (fun hHeld => ?_)
          clear hK1 K1
          have HO := Lib.hid (Own.empty w1)
          have HS := Lib.hid ((HS1.out.alloc (by omega) (.cells #[] 5)).drew)
          refine wpAnyH_ready (rs := [4]) (by kernel_rfl) (by simp) (AllReadyH.cons rfl (fun K1 hK1 => ?_) AllReadyH.nil)
          refine step_append_bytes rfl _ _ rfl w1.heap.size (.slice (some ⟨w1.heap.size, 0, none⟩) 0 0) [] rfl HO.out B0 Ai ni ci data rfl HS.out (by simp; omega) (by simp) ?_
          intro v2 w2 ho2 hg2 _
          obtain ⟨A2, c2, rfl, hc2, hm2, hbs2⟩ := ho2.at_ (n := ni) (by simpa using HDN.out)
          have hb2 : Below w1.heap.size w1 w2 := ((((Below.refl _ _).alloc (Nat.le_refl _) _).drew).grown hg2 (by simp) (fun k hk => by simp [Value.ownBlock] at hk; omega))
          have hne2 : ∀ a, A2 = some a → 0 < ni → a.block ≠ bj := by
            intro a ha _ hab
            subst ha
            have h := ho2.block a.block rfl
            omega
          have HN2 := Lib.hid hne2
          have HR2 := Lib.hid (HR1.out.below hb2 (by omega))
          have HB2 := Lib.hid hbs2
          have HBE2 := Lib.hid hb2
          have HO2 := Lib.hid ho2
          have hS2 : w2.cell? ⟨wr.heap.size, 3, none⟩ = some (.slice Ai ni ci) := (hb2.cell (p := ⟨wr.heap.size, 3, none⟩) (by simp only; omega)).trans hda
          refine hK1.out _ _ hS2 (fun hHeld => ?_)
          clear hK1 K1 hg2 hne2 hbs2 hb2 ho2
          refine wpAnyH_ready (rs := [8]) (by kernel_rfl) (by simp) (AllReadyH.cons rfl (fun K1 hK1 => ?_) AllReadyH.nil)
          go_simp
          refine (HG.out.write w2 bj sj A2 ni c2 data _ HR2.out HB2.out HN2.out hc2 hm2).mono ?_
          rintro e w3 ⟨rfl, hon3, hrep3⟩
          have hS3 : w3.cell? ⟨wr.heap.size, 3, none⟩ = some (.slice Ai ni ci) := (hon3.cell (by omega)).trans hS2
          have blk : w3.heap[wr.heap.size + 1]? = some (.cells #[.slice none 0 0, .int .u64 0, .int .i64 0, .bool false] 40 (0, 0)) :=
            (hon3.block _ (by omega)).trans ((HBE2.out.block _ (by omega)).trans HBK1.out)
          obtain ⟨c20, c21, c22, c23, f20, f21, f22, f23⟩ := four_cells blk
          have hsz3 : B0 ≤ w3.heap.size := by rw [hon3.size]; have := HBE2.out.size; omega
          have hg3 : wr.grownBy w3 (some bj) := grow_only (grow_below (World.grownBy.of_none HG1.out) HBE2.out (by omega)) hon3
          have MID := Lib.hid (HRR.out.turn (v := .slice none 0 0) (ab := wr.heap.size + 1) HA.out hlt hB hj (by rw [HBJ.out]; exact grow_four hg3 (wr.heap.size + 1) (by omega) (.slice none 0 0) (.int .u64 0) (.int .i64 ((ni : Nat) : Int)) (.bool false)) (by rw [HBJ.out]; exact hrep3.four _ (by omega) _ _ _ _) HMM.out (four_set blk) (Own.nil _ _) (fun _ h => by cases h))
          refine hK1.out _ _ hS3 (fun hHeld => ?_)
          clear hK1 K1 blk hg3 hrep3 hon3
          refine wpAnyH_take (i := 9) (v := ?_) rfl (by kernel_rfl) (by kernel_rfl) (by kernel_rfl) (fun _ _ _ h => h) (Or.inl ⟨by rfl, ?_⟩) hHeld ?_
          rotate_left
          · intro W hW; go_simp <;> with_reducible rfl
          refine wpAnyH_take (i := 10) (v := ?_) rfl (by kernel_rfl) (by kernel_rfl) (by kernel_rfl) (fun _ _ _ h => h) (Or.inl ⟨by rfl, ?_⟩) hHeld ?_
          rotate_left
          · intro W hW; go_simp <;> with_reducible rfl
          refine wpAnyH_take (i := 11) (v := ?_) rfl (by kernel_rfl) (by kernel_rfl) (by kernel_rfl) (fun _ _ _ h => h) (Or.inl ⟨by rfl, ?_⟩) hHeld ?_
          rotate_left
          · intro W hW; go_simp <;> with_reducible rfl
          refine wpAnyH_take (i := 12) (v := ?_) rfl (by kernel_rfl) (by kernel_rfl) (by kernel_rfl) (fun _ _ _ h => h) (Or.inl ⟨by rfl, ?_⟩) hHeld ?_
          rotate_left
          · intro W hW; go_simp <;> with_reducible rfl
          refine wpAnyH_take (i := 13) (v := ?_) rfl (by kernel_rfl) (by kernel_rfl) (by kernel_rfl) (fun _ _ _ h => h) (Or.inl ⟨by rfl, ?_⟩) hHeld ?_
          rotate_left
          · intro W hW; go_simp <;> with_reducible rfl
          refine wpAnyH_done (by kernel_rfl) ?_ _
          clear hHeld hS2 hS3 hda m1 m2 m3
          go_wp2_with (at_builtin; refine wpList_append_src _ (o := ⟨some 112, _, _, _, _, _⟩) rfl _ _ 30 rfl B0 40 i zeroAns 4 Try.underlying30 HI.out HZ.out HSZ.out rfl (by omega) (.slice Aa P.length ca) P.length (ansCells P) rfl (MID.out.ans.alloc _) _ 1 1 [.slice none 0 0, .int .u64 0, .int .i64 ((ni : Nat) : Int), .bool false] rfl ?hs (by simp [Value.oneCell']) (by unfold maxLen; omega) (by rw [HBY.out]; omega) ?hb ?_)
          case hs => exact src_four _ _ _ _ _ _ _ (by simp)
          case hb => first | omega | (simp; omega)
          intro v9 w9 hrow9 hg9 _
          have HF := Lib.hid (MID.out.fin HA.out (by simpa [World.setCell] using hsz3) hrow9 hg9)
          clear hrow9 hg9 MID
          go_wp2
          exact ⟨⟨k + 1, bs, P ++ [(_, _)], HF.out, by simp⟩, by simp [intOf]; omega⟩
        by_cases ho1 : op = 1
        · subst ho1
          have hmm : runM K (L.take (k + 1)) = ⟨(runM K (L.take k)).ss, (runM K (L.take k)).an ++ [⟨data ++ K.bytes sj, 0, 0, false, none⟩]⟩ := HM0.out
          have HMM := Lib.hid hmm
          clear hmm
          have m1 := HL.out.sum.find ⟨bj, 0, none⟩
          have m2 := HL.out.sum.enter
          have m3 := HL.out.sum.ahead ⟨bj, 0, none⟩
          go_wp2_with fail
          have hsz1 : wr.heap.size + 1 + 1 = ((wr.alloc (.cells #[.int .i64 1, .int .i64 (j : Int), .int .i64 frm, .slice Ai ni ci] 36)).alloc (.cells #[.slice none 0 0, .int .u64 0, .int .i64 0, .bool false] 40)).heap.size := by simp
          have HG1 := Lib.hid (grow_alloc (World.grownBy_alloc wr (.cells #[.int .i64 1, .int .i64 (j : Int), .int .i64 frm, .slice Ai ni ci] 36) none) (.cells #[.slice none 0 0, .int .u64 0, .int .i64 0, .bool false] 40))
          have HS1 := Lib.hid ((HBS.out.alloc hB (.cells #[.int .i64 1, .int .i64 (j : Int), .int .i64 frm, .slice Ai ni ci] 36)).alloc (by simp; omega) (.cells #[.slice none 0 0, .int .u64 0, .int .i64 0, .bool false] 40))
          have HR1 := Lib.hid (HRP.out.below (((Below.refl _ _).alloc (Nat.le_refl _) (.cells #[.int .i64 1, .int .i64 (j : Int), .int .i64 frm, .slice Ai ni ci] 36)).alloc (by simp) (.cells #[.slice none 0 0, .int .u64 0, .int .i64 0, .bool false] 40)) hblt)
          have hda : ((wr.alloc (.cells #[.int .i64 1, .int .i64 (j : Int), .int .i64 frm, .slice Ai ni ci] 36)).alloc (.cells #[.slice none 0 0, .int .u64 0, .int .i64 0, .bool false] 40)).cell? ⟨wr.heap.size, 3, none⟩ = some (.slice Ai ni ci) := by
            rw [World.cell?_alloc_lt _ _ ⟨wr.heap.size, 3, none⟩ (by simp)]; exact (four_cells (_root_.Go.heap_alloc_new wr _)).2.2.2.1
          have hblk1 : ((wr.alloc (.cells #[.int .i64 1, .int .i64 (j : Int), .int .i64 frm, .slice Ai ni ci] 36)).alloc (.cells #[.slice none 0 0, .int .u64 0, .int .i64 0, .bool false] 40)).heap[wr.heap.size + 1]? = some (.cells #[.slice none 0 0, .int .u64 0, .int .i64 0, .bool false] 40 (0, 0)) := heap_new _ _ _ (by simp)
          generalize (wr.alloc (.cells #[.int .i64 1, .int .i64 (j : Int), .int .i64 frm, .slice Ai ni ci] 36)).alloc (.cells #[.slice none 0 0, .int .u64 0, .int .i64 0, .bool false] 40) = w1 at *
          have HBK1 := Lib.hid hblk1
          clear hblk1
          refine wp_region_held_drew (S := fun W => W.cell? ⟨wr.heap.size, 3, none⟩ = some (.slice Ai ni ci)) (by kernel_rfl) hda (fun hHeld => ?_)
          refine wpAnyH_take (i := 0) (v := ?_) rfl (by kernel_rfl) (by kernel_rfl) (by kernel_rfl) (fun _ _ _ h => h) (Or.inl ⟨by rfl, ?_⟩) hHeld ?_
          rotate_left
          · intro W hW; go_simp <;> with_reducible rfl
          refine wpAnyH_take (i := 2) (v := ?_) rfl (by kernel_rfl) (by kernel_rfl) (by kernel_rfl) (fun _ _ _ h => h) (Or.inl ⟨by rfl, ?_⟩) hHeld ?_
          rotate_left
          · intro W hW; go_simp <;> with_reducible rfl
          refine wpAnyH_take (i := 3) (v := ?_) rfl (by kernel_rfl) (by kernel_rfl) (by kernel_rfl) (fun _ _ _ h => h) (Or.inl ⟨by rfl, ?_⟩) hHeld ?_
          rotate_left
          · intro W hW; go_simp <;> with_reducible rfl
          refine wpAnyH_take (i := 5) (v := ?_) rfl (by kernel_rfl) (by kernel_rfl) (by kernel_rfl) (fun _ _ _ h => h) (Or.inl ⟨by rfl, ?_⟩) hHeld ?_
          rotate_left
          · intro W hW; go_simp <;> with_reducible rfl
          refine wpAnyH_take (i := 6) (v := ?_) rfl (by kernel_rfl) (by kernel_rfl) (by kernel_rfl) (fun _ _ _ h => h) (Or.inl ⟨by rfl, ?_⟩) hHeld ?_
          rotate_left
          · intro W hW; go_simp <;> with_reducible rfl
          refine wpAnyH_take (i := 7) (v := ?_) rfl (by kernel_rfl) (by kernel_rfl) (by kernel_rfl) (fun _ _ _ h => h) (Or.inl ⟨by rfl, ?_⟩) hHeld ?_
          rotate_left
          · intro W hW; go_simp <;> with_reducible rfl
          simp only [Act.put, List.setIfInBounds_toArray]
          refine wpAnyH_ready (rs := [1]) (by kernel_rfl) (by simp) (AllReadyH.cons rfl (fun K1 hK1 => ?_) AllReadyH.nil)
          go_simp
          refine hK1.out _ _ ((World.cell?_alloc_lt w1 _ ⟨wr.heap.size, 3, none⟩ (by simp only; omega)).trans hda) (fun hHeld => ?_)
          clear hK1 K1
          have HO := Lib.hid (Own.empty w1)
          have HS := Lib.hid ((HS1.out.alloc (by omega) (.cells #[] 5)).drew)
          refine wpAnyH_ready (rs := [4]) (by kernel_rfl) (by simp) (AllReadyH.cons rfl (fun K1 hK1 => ?_) AllReadyH.nil)
          refine step_append_bytes rfl _ _ rfl w1.heap.size (.slice (some ⟨w1.heap.size, 0, none⟩) 0 0) [] rfl HO.out B0 Ai ni ci data rfl HS.out (by simp; omega) (by simp) ?_
          intro v2 w2 ho2 hg2 _
          obtain ⟨A2, c2, rfl, hc2, hm2, hbs2⟩ := ho2.at_ (n := ni) (by simpa using HDN.out)
          have hb2 : Below w1.heap.size w1 w2 := ((((Below.refl _ _).alloc (Nat.le_refl _) _).drew).grown hg2 (by simp) (fun k hk => by simp [Value.ownBlock] at hk; omega))
          have HR2 := Lib.hid (HR1.out.below hb2 (by omega))
          have HBE2 := Lib.hid hb2
          have HO2 := Lib.hid ho2
          have hS2 : w2.cell? ⟨wr.heap.size, 3, none⟩ = some (.slice Ai ni ci) := (hb2.cell (p := ⟨wr.heap.size, 3, none⟩) (by simp only; omega)).trans hda
          refine hK1.out _ _ hS2 (fun hHeld => ?_)
          clear hK1 K1 hg2 hbs2 hb2 ho2
          refine wpAnyH_ready (rs := [8]) (by kernel_rfl) (by simp) (AllReadyH.cons rfl (fun K1 hK1 => ?_) AllReadyH.nil)
          go_simp
          refine (HG.out.sum w2 bj sj w1.heap.size (.slice A2 ni c2) data HR2.out HO2.out (by omega) HBE2.out.size (by rw [HDN.out]; exact hni)).mono ?_
          rintro e w3 ⟨v3, rfl, ho3, hb3⟩
          obtain ⟨n3, hn3⟩ : ∃ n3, (data ++ K.bytes sj).length = n3 := ⟨_, rfl⟩
          have HO3 := Lib.hid ho3
          obtain ⟨A3, c3, rfl, hc3, hm3, _⟩ := ho3.at_ hn3
          have hS3 : w3.cell? ⟨wr.heap.size, 3, none⟩ = some (.slice Ai ni ci) := (hb3.cell (p := ⟨wr.heap.size, 3, none⟩) (by simp only; omega)).trans hS2
          have blk : w3.heap[wr.heap.size + 1]? = some (.cells #[.slice none 0 0, .int .u64 0, .int .i64 0, .bool false] 40 (0, 0)) :=
            (hb3.block _ (by omega)).trans ((HBE2.out.block _ (by omega)).trans HBK1.out)
          obtain ⟨c20, c21, c22, c23, f20, f21, f22, f23⟩ := four_cells blk
          have hsz3 : B0 ≤ w3.heap.size := by have := HBE2.out.size; have := hb3.size; omega
          have hg3 : wr.grownBy w3 none := grow_below (grow_below HG1.out HBE2.out (by omega)) hb3 (by omega)
          have MID := Lib.hid (HRR.out.quiet (v := .slice A3 n3 c3) (ab := wr.heap.size + 1) hlt hB (grow_four hg3 (wr.heap.size + 1) (by omega) (.slice A3 n3 c3) (.int .u64 0) (.int .i64 0) (.bool false)) HMM.out (four_set blk) ((HO3.out.four (wr.heap.size + 1) (by omega) _ _ _ _).mono (by omega)) (fun _ h => by cases h))
          refine hK1.out _ _ hS3 (fun hHeld => ?_)
          clear hK1 K1 blk hg3 hb3 ho3 hn3
          refine wpAnyH_take (i := 9) (v := ?_) rfl (by kernel_rfl) (by kernel_rfl) (by kernel_rfl) (fun _ _ _ h => h) (Or.inl ⟨by rfl, ?_⟩) hHeld ?_
          rotate_left
          · intro W hW; go_simp <;> with_reducible rfl
          refine wpAnyH_ready (rs := [10]) (by kernel_rfl) (by simp) (AllReadyH.cons rfl (fun K1 hK1 => ?_) AllReadyH.nil)
          go_simp
          have hS4 : ∀ i v W, W.cell? ⟨wr.heap.size, 3, none⟩ = some (.slice Ai ni ci) → (World.setCell W ⟨wr.heap.size + 1, i, none⟩ v).cell? ⟨wr.heap.size, 3, none⟩ = some (.slice Ai ni ci) := fun i v W h => (World.cell?_setCell_far W ⟨wr.heap.size + 1, i, none⟩ ⟨wr.heap.size, 3, none⟩ v (by simp)).trans h
          refine hK1.out _ _ (hS4 _ _ _ (hS4 _ _ _ (hS4 _ _ _ (hS4 _ _ _ hS3)))) (fun hHeld => ?_)
          refine wpAnyH_done (by kernel_rfl) ?_ _
          clear hK1 K1 hS4 hHeld hS2 hS3 hda m1 m2 m3
          go_wp2_with (at_builtin; refine wpList_append_src _ (o := ⟨some 112, _, _, _, _, _⟩) rfl _ _ 30 rfl B0 40 i zeroAns 4 Try.underlying30 HI.out HZ.out HSZ.out rfl (by omega) (.slice Aa P.length ca) P.length (ansCells P) rfl (MID.out.ans.alloc _) _ 1 1 [.slice A3 n3 c3, .int .u64 0, .int .i64 0, .bool false] rfl ?hs (by simp [Value.oneCell']) (by unfold maxLen; omega) (by rw [HBY.out]; omega) ?hb ?_)
          case hs => exact src_four _ _ _ _ _ _ _ (by simp)
          case hb => first | omega | (simp; omega)
          intro v9 w9 hrow9 hg9 _
          have HF := Lib.hid (MID.out.fin HA.out (by simpa [World.setCell] using hsz3) hrow9 hg9)
          clear hrow9 hg9 MID
          go_wp2
          exact ⟨⟨k + 1, bs, P ++ [(_, _)], HF.out, by simp⟩, by simp [intOf]; omega⟩
        by_cases ho3 : op = 3
        · subst ho3
          have hmm : runM K (L.take (k + 1)) = ⟨(runM K (L.take k)).ss, (runM K (L.take k)).an ++ [⟨[], 0, K.size, false, none⟩]⟩ := HM0.out
          have HMM := Lib.hid hmm
          clear hmm
          have m1 := HL.out.size.find ⟨bj, 0, none⟩
          have m2 := HL.out.size.enter
          go_wp2_with fail
          refine (HG.out.size_ _ bj).mono ?_
          rintro e w2 ⟨rfl, rfl⟩
          have MID := Lib.hid (HRR.out.quiet (w2 := (wr.alloc (.cells #[.int .i64 3, .int .i64 (j : Int), .int .i64 frm, .slice Ai ni ci] 36)).alloc (.cells #[.slice none 0 0, .int .u64 0, .int .i64 ((K.size : Nat) : Int), .bool false] 40)) (ab := wr.heap.size + 1) hlt hB (grow_alloc (World.grownBy_alloc wr _ _) _) HMM.out (heap_new _ _ _ (by simp)) (Own.nil _ _) (fun _ h => by cases h))
          go_wp2_with (at_builtin; refine wpList_append_src _ (o := ⟨some 112, _, _, _, _, _⟩) rfl _ _ 30 rfl B0 40 i zeroAns 4 Try.underlying30 HI.out HZ.out HSZ.out rfl (by omega) (.slice Aa P.length ca) P.length (ansCells P) rfl (MID.out.ans.alloc _) _ 1 1 [.slice none 0 0, .int .u64 0, .int .i64 ((K.size : Nat) : Int), .bool false] rfl ?hs (by simp [Value.oneCell']) (by unfold maxLen; omega) (by rw [HBY.out]; omega) ?hb ?_)
          case hs => exact src_four _ _ _ _ _ _ _ (by simp)
          case hb => first | omega | (simp; omega)
          intro v9 w9 hrow9 hg9 _
          have HF := Lib.hid (MID.out.fin HA.out (by simp; omega) hrow9 hg9)
          clear hrow9 hg9 MID
          go_wp2
          exact ⟨⟨k + 1, bs, P ++ [(_, _)], HF.out, by simp⟩, by simp [intOf]; omega⟩
        by_cases ho4 : op = 4
        · subst ho4
          have hmm : runM K (L.take (k + 1)) = ⟨(runM K (L.take k)).ss, (runM K (L.take k)).an ++ [⟨[], 0, K.block, false, none⟩]⟩ := HM0.out
          have HMM := Lib.hid hmm
          clear hmm
          have m1 := HL.out.block.find ⟨bj, 0, none⟩
          have m2 := HL.out.block.enter
          go_wp2_with fail
          refine (HG.out.block_ _ bj).mono ?_
          rintro e w2 ⟨rfl, rfl⟩
          have MID := Lib.hid (HRR.out.quiet (w2 := (wr.alloc (.cells #[.int .i64 4, .int .i64 (j : Int), .int .i64 frm, .slice Ai ni ci] 36)).alloc (.cells #[.slice none 0 0, .int .u64 0, .int .i64 ((K.block : Nat) : Int), .bool false] 40)) (ab := wr.heap.size + 1) hlt hB (grow_alloc (World.grownBy_alloc wr _ _) _) HMM.out (heap_new _ _ _ (by simp)) (Own.nil _ _) (fun _ h => by cases h))
          go_wp2_with (at_builtin; refine wpList_append_src _ (o := ⟨some 112, _, _, _, _, _⟩) rfl _ _ 30 rfl B0 40 i zeroAns 4 Try.underlying30 HI.out HZ.out HSZ.out rfl (by omega) (.slice Aa P.length ca) P.length (ansCells P) rfl (MID.out.ans.alloc _) _ 1 1 [.slice none 0 0, .int .u64 0, .int .i64 ((K.block : Nat) : Int), .bool false] rfl ?hs (by simp [Value.oneCell']) (by unfold maxLen; omega) (by rw [HBY.out]; omega) ?hb ?_)
          case hs => exact src_four _ _ _ _ _ _ _ (by simp)
          case hb => first | omega | (simp; omega)
          intro v9 w9 hrow9 hg9 _
          have HF := Lib.hid (MID.out.fin HA.out (by simp; omega) hrow9 hg9)
          clear hrow9 hg9 MID
          go_wp2
          exact ⟨⟨k + 1, bs, P ++ [(_, _)], HF.out, by simp⟩, by simp [intOf]; omega⟩
        by_cases ho8 : op = 8
        · subst ho8
          have hmm : runM K (L.take (k + 1)) = ⟨(runM K (L.take k)).ss, (runM K (L.take k)).an ++ [⟨[], K.val sj, 0, false, none⟩]⟩ := HM0.out
          have HMM := Lib.hid hmm
          clear hmm
          go_wp2_with fail
          refine (HL.out.value _ bj sj (HRP.out.below (((Below.refl _ _).alloc (Nat.le_refl _) _).alloc (by simp) _) hblt)).mono ?_
          rintro e w2 ⟨rfl, rfl⟩
          have MID := Lib.hid (HRR.out.quiet (w2 := (wr.alloc (.cells #[.int .i64 8, .int .i64 (j : Int), .int .i64 frm, .slice Ai ni ci] 36)).alloc (.cells #[.slice none 0 0, .int .u64 ((K.val sj : Nat) : Int), .int .i64 0, .bool false] 40)) (ab := wr.heap.size + 1) hlt hB (grow_alloc (World.grownBy_alloc wr _ _) _) HMM.out (heap_new _ _ _ (by simp)) (Own.nil _ _) (fun _ h => by cases h))
          go_wp2_with (at_builtin; refine wpList_append_src _ (o := ⟨some 112, _, _, _, _, _⟩) rfl _ _ 30 rfl B0 40 i zeroAns 4 Try.underlying30 HI.out HZ.out HSZ.out rfl (by omega) (.slice Aa P.length ca) P.length (ansCells P) rfl (MID.out.ans.alloc _) _ 1 1 [.slice none 0 0, .int .u64 ((K.val sj : Nat) : Int), .int .i64 0, .bool false] rfl ?hs (by simp [Value.oneCell']) (by unfold maxLen; omega) (by rw [HBY.out]; omega) ?hb ?_)
          case hs => exact src_four _ _ _ _ _ _ _ (by simp)
          case hb => first | omega | (simp; omega)
          intro v9 w9 hrow9 hg9 _
          have HF := Lib.hid (MID.out.fin HA.out (by simp; omega) hrow9 hg9)
          clear hrow9 hg9 MID
          go_wp2
          exact ⟨⟨k + 1, bs, P ++ [(_, _)], HF.out, by simp⟩, by simp [intOf]; omega⟩
        by_cases ho2 : op = 2
        · subst ho2
          have hmm : runM K (L.take (k + 1)) = ⟨(runM K (L.take k)).ss.set j K.init, (runM K (L.take k)).an ++ [Ans.zero]⟩ := HM0.out
          have HMM := Lib.hid hmm
          clear hmm
          have m1 := HL.out.reset.find ⟨bj, 0, none⟩
          have m2 := HL.out.reset.enter
          go_wp2_with fail
          refine (HG.out.reset _ bj sj (HRP.out.below (((Below.refl _ _).alloc (Nat.le_refl _) _).alloc (by simp) _) hblt)).mono ?_
          rintro e w2 ⟨rfl, hon, hrep2⟩
          have blk : w2.heap[wr.heap.size + 1]? = some (.cells #[.slice none 0 0, .int .u64 0, .int .i64 0, .bool false] 40 (0, 0)) := (hon.block _ (by omega)).trans (heap_new _ _ _ (by simp))
          obtain ⟨c20, c21, c22, c23, f20, f21, f22, f23⟩ := four_cells blk
          have hsz2 : wr.heap.size + 1 + 1 = w2.heap.size := by rw [hon.size]; simp
          have hsz3 : B0 ≤ w2.heap.size := by omega
          have MID := Lib.hid (HRR.out.turn (w2 := w2) (ab := wr.heap.size + 1) HA.out hlt hB hj (by rw [HBJ.out]; exact grow_only (grow_alloc (World.grownBy_alloc wr _ _) _) hon) (by rw [HBJ.out]; exact hrep2) HMM.out blk (Own.nil _ _) (fun _ h => by cases h))
          clear blk hsz2 hon hrep2 m1 m2
          go_wp2_with (at_builtin; refine wpList_append_src _ (o := ⟨some 112, _, _, _, _, _⟩) rfl _ _ 30 rfl B0 40 i zeroAns 4 Try.underlying30 HI.out HZ.out HSZ.out rfl (by omega) (.slice Aa P.length ca) P.length (ansCells P) rfl (MID.out.ans.alloc _) _ 1 1 [.slice none 0 0, .int .u64 0, .int .i64 0, .bool false] rfl ?hs (by simp [Value.oneCell']) (by unfold maxLen; omega) (by rw [HBY.out]; omega) ?hb ?_)
          case hs => exact src_four _ _ _ _ _ _ _ (by simp)
          case hb => first | omega | (simp; omega)
          intro v9 w9 hrow9 hg9 _
          have HF := Lib.hid (MID.out.fin HA.out hsz3 hrow9 hg9)
          clear hrow9 hg9 MID
          go_wp2
          exact ⟨⟨k + 1, bs, P ++ [(_, _)], HF.out, by simp⟩, by simp [intOf]; omega⟩
        by_cases ho6 : op = 6
        · subst ho6
          have hmm : runM K (L.take (k + 1)) = ⟨(runM K (L.take k)).ss, (runM K (L.take k)).an ++ [⟨K.magic ++ K.bytes sj, 0, 0, false, some sj⟩]⟩ := HM0.out
          have HMM := Lib.hid hmm
          clear hmm
          go_wp2_with fail
          refine (save_any K HG.out HL.out _ bj sj (HRP.out.below (((Below.refl _ _).alloc (Nat.le_refl _) _).alloc (by simp) _) hblt)).mono ?_
          rintro e w2 ⟨v2, rfl, ho2, hb2⟩
          obtain ⟨n2, hn2⟩ : ∃ n2, (K.magic ++ K.bytes sj).length = n2 := ⟨_, rfl⟩
          have HO2 := Lib.hid ho2
          obtain ⟨A2, c2, rfl, hc2, hm2, _⟩ := ho2.at_ hn2
          have blk : w2.heap[wr.heap.size + 1]? = some (.cells #[.slice none 0 0, .int .u64 0, .int .i64 0, .bool false] 40 (0, 0)) := (hb2.block _ (by simp)).trans (heap_new _ _ _ (by simp))
          obtain ⟨c20, c21, c22, c23, f20, f21, f22, f23⟩ := four_cells blk
          have hsz3 : B0 ≤ w2.heap.size := by have := hb2.size; simp at this; omega
          have MID := Lib.hid (HRR.out.quiet (v := .slice A2 n2 c2) (ab := wr.heap.size + 1) hlt hB (grow_four (grow_below (grow_alloc (World.grownBy_alloc wr _ _) _) hb2 (by simp; omega)) (wr.heap.size + 1) (by omega) (.slice A2 n2 c2) (.int .u64 0) (.int .i64 0) (.bool false)) HMM.out (four_set blk) ((HO2.out.four (wr.heap.size + 1) (by simp) _ _ _ _).mono (by simp; omega)) (fun x h => by injection h with h; subst h; exact HRP.out.2))
          clear blk hb2 ho2 hn2
          go_wp2_with (at_builtin; refine wpList_append_src _ (o := ⟨some 112, _, _, _, _, _⟩) rfl _ _ 30 rfl B0 40 i zeroAns 4 Try.underlying30 HI.out HZ.out HSZ.out rfl (by omega) (.slice Aa P.length ca) P.length (ansCells P) rfl (MID.out.ans.alloc _) _ 1 1 [.slice A2 n2 c2, .int .u64 0, .int .i64 0, .bool false] rfl ?hs (by simp [Value.oneCell']) (by unfold maxLen; omega) (by rw [HBY.out]; omega) ?hb ?_)
          case hs => exact src_four _ _ _ _ _ _ _ (by simp)
          case hb => first | omega | (simp; omega)
          intro v9 w9 hrow9 hg9 _
          have HF := Lib.hid (MID.out.fin HA.out (by simpa [World.setCell] using hsz3) hrow9 hg9)
          clear hrow9 hg9 MID
          go_wp2
          exact ⟨⟨k + 1, bs, P ++ [(_, _)], HF.out, by simp⟩, by simp [intOf]; omega⟩
        by_cases ho5 : op = 5
        · subst ho5
          have hmm : runM K (L.take (k + 1)) = ⟨(runM K (L.take k)).ss ++ [sj], (runM K (L.take k)).an ++ [⟨[], 0, (runM K (L.take k)).ss.length, false, none⟩]⟩ := HM0.out
          rw [← HRR.out.blen] at hmm
          have HMM := Lib.hid hmm
          clear hmm
          go_wp2_with fail
          refine (clone_any K HG.out HL.out _ bj sj (HRP.out.below (((Below.refl _ _).alloc (Nat.le_refl _) _).alloc (by simp) _) hblt) B0 (.slice (some ⟨gs, 0, none⟩) bs.length cs) bs.length (ifs K bs) ((HRR.out.slots.alloc _).alloc _) (by simp; omega) (by omega)).mono ?_
          rintro e w2 ⟨v2, rfl, ho2, hrp2, hg2⟩
          have blk : w2.heap[wr.heap.size + 1]? = some (.cells #[.slice none 0 0, .int .u64 0, .int .i64 0, .bool false] 40 (0, 0)) := (hg2.block _ (by simp) (fun e => by simp [Value.ownBlock] at e; omega)).trans (heap_new _ _ _ (by simp))
          obtain ⟨c20, c21, c22, c23, f20, f21, f22, f23⟩ := four_cells blk
          have hsz2 := hg2.size
          simp at hsz2
          have hsz3 : B0 ≤ w2.heap.size := by omega
          have hne2 : v2.ownBlock ≠ some (wr.heap.size + 1) := by
            rcases rows_apart ho2 (rowOfBlock blk) (by decide) with h | h
            · rw [h]; simp
            · exact h
          have MID := Lib.hid (HRR.out.more (slv' := v2) (v := .slice none 0 0) (ab := wr.heap.size + 1) (a := ⟨[], 0, bs.length, false, none⟩) HA.out hlt hB (grow_four (grow_trans (grow_alloc (World.grownBy_alloc wr _ _) _) hg2) (wr.heap.size + 1) (by omega) (.slice none 0 0) (.int .u64 0) (.int .i64 ((bs.length : Nat) : Int)) (.bool false))
            (ownsRow_setCell_other (a := ⟨wr.heap.size + 1, 3, none⟩) (ownsRow_setCell_other (a := ⟨wr.heap.size + 1, 2, none⟩) (ownsRow_setCell_other (a := ⟨wr.heap.size + 1, 1, none⟩) (ownsRow_setCell_other (a := ⟨wr.heap.size + 1, 0, none⟩) ho2 hne2 _) hne2 _) hne2 _) hne2 _)
            (hrp2.four (wr.heap.size + 1) (by simp; omega) _ _ _ _) (by simp; omega) HMM.out (four_set blk) (Own.nil _ _) (fun _ h => by cases h))
          clear blk ho2 hrp2 hg2 hne2
          go_wp2_with (at_builtin; refine wpList_append_src _ (o := ⟨some 112, _, _, _, _, _⟩) rfl _ _ 30 rfl B0 40 i zeroAns 4 Try.underlying30 HI.out HZ.out HSZ.out rfl (by omega) (.slice Aa P.length ca) P.length (ansCells P) rfl (MID.out.ans.alloc _) _ 1 1 [.slice none 0 0, .int .u64 0, .int .i64 ((bs.length : Nat) : Int), .bool false] rfl ?hs (by simp [Value.oneCell']) (by unfold maxLen; omega) (by rw [HBY.out]; omega) ?hb ?_)
          case hs => exact src_four _ _ _ _ _ _ _ (by simp)
          case hb => first | omega | (simp; omega)
          intro v9 w9 hrow9 hg9 _
          have HF := Lib.hid (MID.out.fin HA.out (by simpa [World.setCell] using hsz3) hrow9 hg9)
          clear hrow9 hg9 MID
          go_wp2
          exact ⟨⟨k + 1, bs ++ [_], P ++ [(_, _)], HF.out, by simp⟩, by simp [intOf]; omega⟩
        by_cases ho7 : op = 7
        · subst ho7
          by_cases hf0 : frm < 0
          · have hsv : savedAt (runM K (L.take k)).an frm = none := if_neg (by omega)
            have hmm : runM K (L.take (k + 1)) = ⟨(runM K (L.take k)).ss, (runM K (L.take k)).an ++ [⟨[], 0, 0, true, none⟩]⟩ := by rw [HM0.out, doM_miss hsv]
            have HMM := Lib.hid hmm
            clear hmm hsv
            go_wp2_with fail
            refine (load_neg K HL.out _ bj (some ⟨g, o, none⟩) L.length c Aa P.length ca frm hf0).mono ?_
            rintro e w2 ⟨rfl, hb2⟩
            have blk : w2.heap[wr.heap.size + 1]? = some (.cells #[.slice none 0 0, .int .u64 0, .int .i64 0, .bool false] 40 (0, 0)) := (hb2.block _ (by simp)).trans (heap_new _ _ _ (by simp))
            obtain ⟨c20, c21, c22, c23, f20, f21, f22, f23⟩ := four_cells blk
            have hsz3 : B0 ≤ w2.heap.size := by have := hb2.size; simp at this; omega
            have MID := Lib.hid (HRR.out.quiet (v := .slice none 0 0) (ab := wr.heap.size + 1) hlt hB (grow_four (grow_below (grow_alloc (World.grownBy_alloc wr _ _) _) hb2 (by simp; omega)) (wr.heap.size + 1) (by omega) (.slice none 0 0) (.int .u64 0) (.int .i64 0) (.bool true)) HMM.out (four_set blk) (Own.nil _ _) (fun _ h => by cases h))
            clear blk hb2
            go_wp2_with (at_builtin; refine wpList_append_src _ (o := ⟨some 112, _, _, _, _, _⟩) rfl _ _ 30 rfl B0 40 i zeroAns 4 Try.underlying30 HI.out HZ.out HSZ.out rfl (by omega) (.slice Aa P.length ca) P.length (ansCells P) rfl (MID.out.ans.alloc _) _ 1 1 [.slice none 0 0, .int .u64 0, .int .i64 0, .bool true] rfl ?hs (by simp [Value.oneCell']) (by unfold maxLen; omega) (by rw [HBY.out]; omega) ?hb ?_)
            case hs => exact src_four _ _ _ _ _ _ _ (by simp)
            case hb => first | omega | (simp; omega)
            intro v9 w9 hrow9 hg9 _
            have HF := Lib.hid (MID.out.fin HA.out (by simpa [World.setCell] using hsz3) hrow9 hg9)
            clear hrow9 hg9 MID
            go_wp2
            exact ⟨⟨k + 1, bs, P ++ [(_, _)], HF.out, by simp⟩, by simp [intOf]; omega⟩
          by_cases hfk : (P.length : Int) ≤ frm
          · have hsv : savedAt (runM K (L.take k)).an frm = none := if_neg (by rw [runM_len, List.length_take]; have := HRR.out.pl; omega)
            have hmm : runM K (L.take (k + 1)) = ⟨(runM K (L.take k)).ss, (runM K (L.take k)).an ++ [⟨[], 0, 0, true, none⟩]⟩ := by rw [HM0.out, doM_miss hsv]
            have HMM := Lib.hid hmm
            clear hmm hsv
            go_wp2_with fail
            refine (load_far K HL.out _ bj (some ⟨g, o, none⟩) L.length c Aa P.length ca frm (by omega) hfk).mono ?_
            rintro e w2 ⟨rfl, hb2⟩
            have blk : w2.heap[wr.heap.size + 1]? = some (.cells #[.slice none 0 0, .int .u64 0, .int .i64 0, .bool false] 40 (0, 0)) := (hb2.block _ (by simp)).trans (heap_new _ _ _ (by simp))
            obtain ⟨c20, c21, c22, c23, f20, f21, f22, f23⟩ := four_cells blk
            have hsz3 : B0 ≤ w2.heap.size := by have := hb2.size; simp at this; omega
            have MID := Lib.hid (HRR.out.quiet (v := .slice none 0 0) (ab := wr.heap.size + 1) hlt hB (grow_four (grow_below (grow_alloc (World.grownBy_alloc wr _ _) _) hb2 (by simp; omega)) (wr.heap.size + 1) (by omega) (.slice none 0 0) (.int .u64 0) (.int .i64 0) (.bool true)) HMM.out (four_set blk) (Own.nil _ _) (fun _ h => by cases h))
            clear blk hb2
            go_wp2_with (at_builtin; refine wpList_append_src _ (o := ⟨some 112, _, _, _, _, _⟩) rfl _ _ 30 rfl B0 40 i zeroAns 4 Try.underlying30 HI.out HZ.out HSZ.out rfl (by omega) (.slice Aa P.length ca) P.length (ansCells P) rfl (MID.out.ans.alloc _) _ 1 1 [.slice none 0 0, .int .u64 0, .int .i64 0, .bool true] rfl ?hs (by simp [Value.oneCell']) (by unfold maxLen; omega) (by rw [HBY.out]; omega) ?hb ?_)
            case hs => exact src_four _ _ _ _ _ _ _ (by simp)
            case hb => first | omega | (simp; omega)
            intro v9 w9 hrow9 hg9 _
            have HF := Lib.hid (MID.out.fin HA.out (by simpa [World.setCell] using hsz3) hrow9 hg9)
            clear hrow9 hg9 MID
            go_wp2
            exact ⟨⟨k + 1, bs, P ++ [(_, _)], HF.out, by simp⟩, by simp [intOf]; omega⟩
          obtain ⟨f, rfl⟩ : ∃ f : Nat, frm = (f : Int) := ⟨frm.toNat, by omega⟩
          have hfP : f < P.length := by omega
          have hfk2 : f < k := by have := HRR.out.pl; omega
          have hsav := runM_sav K (L.take k) f (by rw [List.length_take]; omega)
          rw [HRR.out.at_ f, show (L.take k).getD f Stp.zero = L.getD f Stp.zero by rw [List.getD_eq_getElem?_getD, List.getD_eq_getElem?_getD, List.getElem?_take, if_pos hfk2]] at hsav
          have hsv0 : savedAt (runM K (L.take k)).an (f : Int) = (P.getD f (.nilIface, Ans.zero)).2.sav := by
            unfold savedAt
            rw [if_pos ⟨by omega, by rw [runM_len, List.length_take]; omega⟩, Int.toNat_natCast, HRR.out.at_ f]
          obtain ⟨Af, nf, cf, hstf⟩ := HSTS.out f (by omega)
          have hcf := hstf.c0
          obtain ⟨ga, rfl, hgaB, hca⟩ := HAG.out (by omega)
          obtain ⟨q0, _, _, q3⟩ := ansCells_at P f hfP
          have ha0 := hca _ _ q0
          have ha3 := hca _ _ q3
          have hown := HRR.out.dat _ (getD_mem (d := (Value.nilIface, Ans.zero)) hfP)
          have hgaw := World.block_lt_of_cell? wr _ ha3
          simp only at hgaw
          have hsok := HRR.out.sok _ (getD_mem (d := (Value.nilIface, Ans.zero)) hfP)
          have hgab : ga ≠ bj := by
            have h := rep_apart HRR.out.ans HRP.out HA.out.ans
            intro e
            exact h (by rw [e]; rfl)
          generalize P.getD f (.nilIface, Ans.zero) = pf at *
          obtain ⟨pv, pa⟩ := pf
          obtain ⟨pd, pval, pnum, pfl, psv⟩ := pa
          simp only at ha0 ha3 hown hsok hsv0
          clear hstf hca q0 q3 hfk
          cases psv with
          | some x =>
            obtain ⟨hop6, hpd, hpf⟩ := hsav
            simp only at hop6 hpd hpf
            subst hpd
            subst hpf
            have hxok := hsok x rfl
            rw [hop6] at hcf
            have hmm : runM K (L.take (k + 1)) = ⟨(runM K (L.take k)).ss.set j x, (runM K (L.take k)).an ++ [Ans.zero]⟩ := by rw [HM0.out, doM_hit hsv0]; rfl
            have HMM := Lib.hid hmm
            obtain ⟨nd, hnd⟩ : ∃ nd, (K.magic ++ K.bytes x).length = nd := ⟨_, rfl⟩
            obtain ⟨Ad, cd, rfl, hcd, hmd, hbd⟩ := hown.at_ hnd
            have HBD := Lib.hid hbd
            have HCF := Lib.hid hcf
            have HA0 := Lib.hid ha0
            have HA3 := Lib.hid ha3
            clear hmm hbd hown hnd hop6 hsv0 hsok hcf ha0 ha3
            go_wp2_with fail
            refine (load_hit K HG.out HL.out _ bj sj x (HRP.out.below (((Below.refl _ _).alloc (Nat.le_refl _) _).alloc (by simp) _) hblt) g o L.length c ga P.length ca f Ad nd cd (by omega) hfP ((World.cell?_alloc_lt _ _ ⟨g, o + f * 4, none⟩ (by simp only; simp; omega)).trans ((World.cell?_alloc_lt _ _ ⟨g, o + f * 4, none⟩ (by simp only; omega)).trans HCF.out)) ((World.cell?_alloc_lt _ _ ⟨ga, f * 4 + 3, none⟩ (by simp only; simp; omega)).trans ((World.cell?_alloc_lt _ _ ⟨ga, f * 4 + 3, none⟩ (by simp only; omega)).trans HA3.out)) ((World.cell?_alloc_lt _ _ ⟨ga, f * 4, none⟩ (by simp only; simp; omega)).trans ((World.cell?_alloc_lt _ _ ⟨ga, f * 4, none⟩ (by simp only; omega)).trans HA0.out)) hgab (((HBD.out.alloc (Nat.le_refl _) _).alloc (by simp) _).mono (by simp; omega)) hxok).mono ?_
            rintro e w2 ⟨rfl, hrp2, hg2⟩
            have blk : w2.heap[wr.heap.size + 1]? = some (.cells #[.slice none 0 0, .int .u64 0, .int .i64 0, .bool false] 40 (0, 0)) := (hg2.block _ (by simp) (fun e => by injection e with e; omega)).trans (heap_new _ _ _ (by simp))
            obtain ⟨c20, c21, c22, c23, f20, f21, f22, f23⟩ := four_cells blk
            have hsz3 : B0 ≤ w2.heap.size := by have := hg2.size; simp at this; omega
            have MID := Lib.hid (HRR.out.turn (v := .slice none 0 0) (ab := wr.heap.size + 1) HA.out hlt hB hj (by rw [HBJ.out]; exact grow_four (grow_trans (grow_alloc (World.grownBy_alloc wr _ _) _) hg2) (wr.heap.size + 1) (by omega) (.slice none 0 0) (.int .u64 0) (.int .i64 0) (.bool false)) (by rw [HBJ.out]; exact hrp2.four _ (by omega) _ _ _ _) HMM.out (four_set blk) (Own.nil _ _) (fun _ h => by cases h))
            clear blk hrp2 hg2
            go_wp2_with (at_builtin; refine wpList_append_src _ (o := ⟨some 112, _, _, _, _, _⟩) rfl _ _ 30 rfl B0 40 i zeroAns 4 Try.underlying30 HI.out HZ.out HSZ.out rfl (by omega) (.slice (some ⟨ga, 0, none⟩) P.length ca) P.length (ansCells P) rfl (MID.out.ans.alloc _) _ 1 1 [.slice none 0 0, .int .u64 0, .int .i64 0, .bool false] rfl ?hs (by simp [Value.oneCell']) (by unfold maxLen; omega) (by rw [HBY.out]; omega) ?hb ?_)
            case hs => exact src_four _ _ _ _ _ _ _ (by simp)
            case hb => first | omega | (simp; omega)
            intro v9 w9 hrow9 hg9 _
            have HF := Lib.hid (MID.out.fin HA.out (by simpa [World.setCell] using hsz3) hrow9 hg9)
            clear hrow9 hg9 MID
            go_wp2
            exact ⟨⟨k + 1, bs, P ++ [(_, _)], HF.out, by simp⟩, by simp [intOf]; omega⟩
          | none =>
            have HCF := Lib.hid hcf
            have HA0 := Lib.hid ha0
            have HA3 := Lib.hid ha3
            obtain ⟨opf, hopf⟩ : ∃ opf, (L.getD f Stp.zero).op = opf := ⟨_, rfl⟩
            rw [hopf] at HCF
            have HSAV := Lib.hid hsav
            have HSV0 := Lib.hid hsv0
            have HOPF := Lib.hid hopf
            have HOWN := Lib.hid hown
            clear hcf ha0 ha3 hsav hsv0 hopf hown hsok
            by_cases h6 : opf = 6
            · subst h6
              obtain ⟨hpd, hpf⟩ := HSAV.out HOPF.out
              simp only at hpd hpf
              subst hpd
              subst hpf
              obtain ⟨Ad, cd, rfl, hcd, hmd, _⟩ := HOWN.out.at_ (n := 0) rfl
              clear hmd hcd
              have hsv : savedAt (runM K (L.take k)).an (f : Int) = none := HSV0.out
              have hmm : runM K (L.take (k + 1)) = ⟨(runM K (L.take k)).ss, (runM K (L.take k)).an ++ [⟨[], 0, 0, true, none⟩]⟩ := by rw [HM0.out, doM_miss hsv]
              have HMM := Lib.hid hmm
              clear hmm hsv
              go_wp2_with fail
              refine (load_empty K HL.out _ bj g o L.length c ga P.length ca f Ad cd (by omega) hfP ((World.cell?_alloc_lt _ _ ⟨g, o + f * 4, none⟩ (by simp only; simp; omega)).trans ((World.cell?_alloc_lt _ _ ⟨g, o + f * 4, none⟩ (by simp only; omega)).trans HCF.out)) ((World.cell?_alloc_lt _ _ ⟨ga, f * 4 + 3, none⟩ (by simp only; simp; omega)).trans ((World.cell?_alloc_lt _ _ ⟨ga, f * 4 + 3, none⟩ (by simp only; omega)).trans HA3.out)) ((World.cell?_alloc_lt _ _ ⟨ga, f * 4, none⟩ (by simp only; simp; omega)).trans ((World.cell?_alloc_lt _ _ ⟨ga, f * 4, none⟩ (by simp only; omega)).trans HA0.out))).mono ?_
              rintro e w2 ⟨rfl, hb2⟩
              have blk : w2.heap[wr.heap.size + 1]? = some (.cells #[.slice none 0 0, .int .u64 0, .int .i64 0, .bool false] 40 (0, 0)) := (hb2.block _ (by simp)).trans (heap_new _ _ _ (by simp))
              obtain ⟨c20, c21, c22, c23, f20, f21, f22, f23⟩ := four_cells blk
              have hsz3 : B0 ≤ w2.heap.size := by have := hb2.size; simp at this; omega
              have MID := Lib.hid (HRR.out.quiet (v := .slice none 0 0) (ab := wr.heap.size + 1) hlt hB (grow_four (grow_below (grow_alloc (World.grownBy_alloc wr _ _) _) hb2 (by simp; omega)) (wr.heap.size + 1) (by omega) (.slice none 0 0) (.int .u64 0) (.int .i64 0) (.bool true)) HMM.out (four_set blk) (Own.nil _ _) (fun _ h => by cases h))
              clear blk hb2
              go_wp2_with (at_builtin; refine wpList_append_src _ (o := ⟨some 112, _, _, _, _, _⟩) rfl _ _ 30 rfl B0 40 i zeroAns 4 Try.underlying30 HI.out HZ.out HSZ.out rfl (by omega) (.slice (some ⟨ga, 0, none⟩) P.length ca) P.length (ansCells P) rfl (MID.out.ans.alloc _) _ 1 1 [.slice none 0 0, .int .u64 0, .int .i64 0, .bool true] rfl ?hs (by simp [Value.oneCell']) (by unfold maxLen; omega) (by rw [HBY.out]; omega) ?hb ?_)
              case hs => exact src_four _ _ _ _ _ _ _ (by simp)
              case hb => first | omega | (simp; omega)
              intro v9 w9 hrow9 hg9 _
              have HF := Lib.hid (MID.out.fin HA.out (by simpa [World.setCell] using hsz3) hrow9 hg9)
              clear hrow9 hg9 MID
              go_wp2
              exact ⟨⟨k + 1, bs, P ++ [(_, _)], HF.out, by simp⟩, by simp [intOf]; omega⟩
            · have hsv : savedAt (runM K (L.take k)).an (f : Int) = none := HSV0.out
              have hmm : runM K (L.take (k + 1)) = ⟨(runM K (L.take k)).ss, (runM K (L.take k)).an ++ [⟨[], 0, 0, true, none⟩]⟩ := by rw [HM0.out, doM_miss hsv]
              have HMM := Lib.hid hmm
              clear hmm hsv
              go_wp2_with fail
              refine (load_op K HL.out _ bj g o L.length c (some ⟨ga, 0, none⟩) P.length ca f opf (by omega) hfP ((World.cell?_alloc_lt _ _ ⟨g, o + f * 4, none⟩ (by simp only; simp; omega)).trans ((World.cell?_alloc_lt _ _ ⟨g, o + f * 4, none⟩ (by simp only; omega)).trans HCF.out)) h6).mono ?_
              rintro e w2 ⟨rfl, hb2⟩
              have blk : w2.heap[wr.heap.size + 1]? = some (.cells #[.slice none 0 0, .int .u64 0, .int .i64 0, .bool false] 40 (0, 0)) := (hb2.block _ (by simp)).trans (heap_new _ _ _ (by simp))
              obtain ⟨c20, c21, c22, c23, f20, f21, f22, f23⟩ := four_cells blk
              have hsz3 : B0 ≤ w2.heap.size := by have := hb2.size; simp at this; omega
              have MID := Lib.hid (HRR.out.quiet (v := .slice none 0 0) (ab := wr.heap.size + 1) hlt hB (grow_four (grow_below (grow_alloc (World.grownBy_alloc wr _ _) _) hb2 (by simp; omega)) (wr.heap.size + 1) (by omega) (.slice none 0 0) (.int .u64 0) (.int .i64 0) (.bool true)) HMM.out (four_set blk) (Own.nil _ _) (fun _ h => by cases h))
              clear blk hb2
              go_wp2_with (at_builtin; refine wpList_append_src _ (o := ⟨some 112, _, _, _, _, _⟩) rfl _ _ 30 rfl B0 40 i zeroAns 4 Try.underlying30 HI.out HZ.out HSZ.out rfl (by omega) (.slice (some ⟨ga, 0, none⟩) P.length ca) P.length (ansCells P) rfl (MID.out.ans.alloc _) _ 1 1 [.slice none 0 0, .int .u64 0, .int .i64 0, .bool true] rfl ?hs (by simp [Value.oneCell']) (by unfold maxLen; omega) (by rw [HBY.out]; omega) ?hb ?_)
              case hs => exact src_four _ _ _ _ _ _ _ (by simp)
              case hb => first | omega | (simp; omega)
              intro v9 w9 hrow9 hg9 _
              have HF := Lib.hid (MID.out.fin HA.out (by simpa [World.setCell] using hsz3) hrow9 hg9)
              clear hrow9 hg9 MID
              go_wp2
              exact ⟨⟨k + 1, bs, P ++ [(_, _)], HF.out, by simp⟩, by simp [intOf]; omega⟩
        have n0 : (op == 0) = false := beq_eq_false_iff_ne.2 ho0
        have n1 : (op == 1) = false := beq_eq_false_iff_ne.2 ho1
        have n2 : (op == 2) = false := beq_eq_false_iff_ne.2 ho2
        have n3 : (op == 3) = false := beq_eq_false_iff_ne.2 ho3
        have n4 : (op == 4) = false := beq_eq_false_iff_ne.2 ho4
        have n5 : (op == 5) = false := beq_eq_false_iff_ne.2 ho5
        have n6 : (op == 6) = false := beq_eq_false_iff_ne.2 ho6
        have n7 : (op == 7) = false := beq_eq_false_iff_ne.2 ho7
        have n8 : (op == 8) = false := beq_eq_false_iff_ne.2 ho8
        have hmm : runM K (L.take (k + 1)) = ⟨(runM K (L.take k)).ss, (runM K (L.take k)).an ++ [Ans.zero]⟩ := by
          rw [HM0.out]; simp only [doM, ho0, ho1, ho2, ho3, ho4, ho5, ho6, ho7, ho8, if_false]
        have MID := Lib.hid (HRR.out.quiet (w2 := (wr.alloc (.cells #[.int .i64 op, .int .i64 (j : Int), .int .i64 frm, .slice Ai ni ci] 36)).alloc (.cells #[.slice none 0 0, .int .u64 0, .int .i64 0, .bool false] 40)) (ab := wr.heap.size + 1) hlt hB (grow_alloc (World.grownBy_alloc wr _ _) _) hmm (heap_new _ _ _ (by simp)) (Own.nil _ _) (fun _ h => by cases h))
        clear hmm
        go_wp2_with (at_builtin; refine wpList_append_src _ (o := ⟨some 112, _, _, _, _, _⟩) rfl _ _ 30 rfl B0 40 i zeroAns 4 Try.underlying30 HI.out HZ.out HSZ.out rfl (by omega) (.slice Aa P.length ca) P.length (ansCells P) rfl (MID.out.ans.alloc _) _ 1 1 [.slice none 0 0, .int .u64 0, .int .i64 0, .bool false] rfl ?hs (by simp [Value.oneCell']) (by unfold maxLen; omega) (by rw [HBY.out]; omega) ?hb ?_)
        case hs => exact src_four _ _ _ _ _ _ _ (by simp)
        case hb => first | omega | (simp; omega)
        intro v9 w9 hrow9 hg9 _
        have HF := Lib.hid (MID.out.fin HA.out (by simp; omega) hrow9 hg9)
        clear hrow9 hg9 MID
        go_wp2
        exact ⟨⟨k + 1, bs, P ++ [(_, _)], HF.out, by simp⟩, by simp [intOf]; omega⟩
      · have hM' : runM K (L.take (k + 1)) = ⟨(runM K (L.take k)).ss, (runM K (L.take k)).an ++ [Ans.zero]⟩ := by
          rw [HM.out, stepM, if_neg (by rw [← HRR.out.blen]; exact hsl)]
        have MID := Lib.hid (HRR.out.quiet (w2 := (wr.alloc (.cells #[.int .i64 op, .int .i64 slot, .int .i64 frm, .slice Ai ni ci] 36)).alloc (.cells #[.slice none 0 0, .int .u64 0, .int .i64 0, .bool false] 40)) (ab := wr.heap.size + 1) hlt hB (grow_alloc (World.grownBy_alloc wr _ _) _) hM' (heap_new _ _ _ (by simp)) (Own.nil _ _) (fun _ h => by cases h))
        clear hM'
        by_cases hs0 : 0 ≤ slot
        · have e0 : decide (0 ≤ slot) = true := decide_eq_true hs0
          have e1 : decide (slot < (bs.length : Int)) = false := decide_eq_false (by omega)
          go_wp2_with (at_builtin; refine wpList_append_src _ (o := ⟨some 112, _, _, _, _, _⟩) rfl _ _ 30 rfl B0 40 i zeroAns 4 Try.underlying30 HI.out HZ.out HSZ.out rfl (by omega) (.slice Aa P.length ca) P.length (ansCells P) rfl (MID.out.ans.alloc _) _ 1 1 [.slice none 0 0, .int .u64 0, .int .i64 0, .bool false] rfl ?hs (by simp [Value.oneCell']) (by unfold maxLen; omega) (by rw [HBY.out]; omega) ?hb ?_)
          case hs => exact src_four _ _ _ _ _ _ _ (by simp)
          case hb => first | omega | (simp; omega)
          intro v9 w9 hrow9 hg9 _
          have HF := Lib.hid (MID.out.fin HA.out (by simp; omega) hrow9 hg9)
          clear hrow9 hg9 MID
          go_wp2
          exact ⟨⟨k + 1, bs, P ++ [(_, _)], HF.out, by simp⟩, by simp [intOf]; omega⟩
        · have e0 : decide (0 ≤ slot) = false := decide_eq_false hs0
          go_wp2_with (at_builtin; refine wpList_append_src _ (o := ⟨some 112, _, _, _, _, _⟩) rfl _ _ 30 rfl B0 40 i zeroAns 4 Try.underlying30 HI.out HZ.out HSZ.out rfl (by omega) (.slice Aa P.length ca) P.length (ansCells P) rfl (MID.out.ans.alloc _) _ 1 1 [.slice none 0 0, .int .u64 0, .int .i64 0, .bool false] rfl ?hs (by simp [Value.oneCell']) (by unfold maxLen; omega) (by rw [HBY.out]; omega) ?hb ?_)
          case hs => exact src_four _ _ _ _ _ _ _ (by simp)
          case hb => first | omega | (simp; omega)
          intro v9 w9 hrow9 hg9 _
          have HF := Lib.hid (MID.out.fin HA.out (by simp; omega) hrow9 hg9)
          clear hrow9 hg9 MID
          go_wp2
          exact ⟨⟨k + 1, bs, P ++ [(_, _)], HF.out, by simp⟩, by simp [intOf]; omega⟩
    · obtain rfl : k = L.length := by omega
      have hpas := HRR.out.pas
      rw [List.take_of_length_le (Nat.le_refl _)] at hpas
      have HP := Lib.hid hpas
      clear hpas
      go_wp2
      go_ret
      exact ⟨_, P, rfl, HRR.out.ans, HP.out, HRR.out.dat, hbel⟩

end Go.Proofs.Ytdpjdglcienbfaa

/-
  The walk of ascii85.Encode: the destination's first cells hold the text of the source, nothing else but a scratch of at most five cells for each group begun has turned. Conditions: the source reads as a list, lies outside the destination or below it in the same block; the destination has room for one byte more than five for each group begun.
-/
import Derived.Test.YthhbcnjbnfjiiaaDoorProg
import Derived.Test.YthhbcnjbnfjiiaaDoorEncAid
import Derived.LoopTactic
import Derived.Outline
import Derived.Deep.DeepCutAuto
import Derived.Laws.BitsAllLaws
import Derived.WalkSpells
import Derived.WalkLawsBesides
import Derived.Lib.Hide
import Derived.Handy
namespace Go.Proofs.YthhbcnjbnfjiiaaDoor
open Go.RowKit
open Plain85 (enc grp digits num4)

set_option maxRecDepth 100000 in
set_option maxHeartbeats 1000000 in
theorem encode_any (bd od ld cd M : Nat) (T : TypeId) (f : Nat → Value) (A : Option Addr) (n c : Nat) (l : List Nat) (w : World) (B : Nat)
    (hrow : w.rowIs bd T M f) (hfit : od + ld ≤ M) (hlc : ld ≤ cd) (hcm : cd ≤ maxLen) (hroom : 5 * ((n + 3) / 4) < ld) (hl : BS w B A n l) (hnc : n ≤ c) (hcc : c ≤ maxLen)
    (hdis : 0 < n → ∀ b o, A = some ⟨b, o, none⟩ → b = bd → o + n ≤ od) :
    Calls Tryd.prog 24 #[.slice (some ⟨bd, od, none⟩) ld cd, .slice A n c] w fun e w' => EncPost w bd od M T f l e w' := by
  unfold maxLen at hcm hcc
  obtain rfl : l.length = n := hl.len
  by_cases hn0 : l.length = 0
  · have hl0 : l = [] := List.eq_nil_of_length_eq_zero hn0
    subst hl0
    go_enter Tryd.func24, Tryd.ntmps24
    go_wp2
    go_ret
    exact ⟨f, rfl, hrow, Only.refl _ _, fun _ _ => rfl, fun _ _ => rfl, fun j hj => by simp [enc] at hj⟩
  · have hn1 : ((l.length : Int) == 0) = false := beq_eq_false_iff_ne.2 (by omega)
    have HDIS := Lib.hid (hdis (by omega))
    clear hdis
    go_enter Tryd.func24, Tryd.ntmps24
    go_wp2
    go_loopw [0, 1, 5] (fun dst src n wr => EncRel w B bd od ld cd M T f l dst src n wr) (fun _ src _ _ => slenE src)
    case atStart => exact ⟨[], l, A, c, f, ⟨rfl, .inr ⟨0, rfl⟩, hnc, hcc, hl, HDIS.out, hrow, Only.refl _ _, fun _ _ => rfl, fun _ _ => rfl, fun j hj => by simp [enc] at hj, rfl, rfl, rfl⟩⟩
    case round =>
      obtain ⟨pre, r, A', c', f', hsp, hwh, hrc, hcm', hbs, hds, hrow', honly, hlow, hhigh, htxt, rfl, rfl, rfl⟩ := hrel
      by_cases h0 : r.length = 0
      · go_wp2
        go_ret
        obtain rfl : r = [] := List.eq_nil_of_length_eq_zero h0
        obtain rfl : pre = l := by rw [← hsp, List.append_nil]
        exact ⟨f', rfl, hrow', honly, hlow, hhigh, htxt⟩
      · obtain ⟨k, hk⟩ : ∃ k, pre.length = 4 * k := by
          rcases hwh with h | h
          · exact absurd (by rw [h]; rfl) h0
          · exact h
        have hle := Plain85.enc_le pre
        have hlen := congrArg List.length hsp
        rw [List.length_append] at hlen
        have hL5 : (enc pre).length + 5 ≤ 5 * ((l.length + 3) / 4) := by omega
        obtain ⟨L, hL⟩ : ∃ L, (enc pre).length = L := ⟨_, rfl⟩
        rw [hL] at hL5 htxt ⊢
        obtain ⟨b, o, rfl, hbB, hbs⟩ := hbs.open_ (by omega)
        have hd := hds b o rfl
        have HSP := Lib.hid hsp
        have HK := Lib.hid hk
        have HL := Lib.hid hL
        have HD := Lib.hid hd
        have HLOW := Lib.hid hlow
        have HHIGH := Lib.hid hhigh
        have HTXT := Lib.hid htxt
        have HLEN := Lib.hid hlen
        have hrp : 0 < r.length := by omega
        have hfr := hrow'.frozen
        have g0 := hrow'.cell (i := od + L) (by omega)
        have g1 := hrow'.cell (i := od + L + 1) (by omega)
        have g2 := hrow'.cell (i := od + L + 2) (by omega)
        have g3 := hrow'.cell (i := od + L + 3) (by omega)
        have g4 := hrow'.cell (i := od + L + 4) (by omega)
        clear hsp hk hL hd hlow hhigh htxt hlen hds hwh hle hn1 h0
        go_upto_region 10 with (fail)
        obtain ⟨f1, hrow1, honly1, hf1⟩ := five_up hrow' honly (od + L) (.int .u8 0) (.int .u8 0) (.int .u8 0) (.int .u8 0) (.int .u8 0)
        obtain ⟨w1, hw1⟩ : ∃ w1, (((((wr.setCell ⟨bd, od + L, none⟩ (.int .u8 0)).setCell ⟨bd, od + L + 1, none⟩ (.int .u8 0)).setCell ⟨bd, od + L + 2, none⟩ (.int .u8 0)).setCell ⟨bd, od + L + 3, none⟩ (.int .u8 0)).setCell ⟨bd, od + L + 4, none⟩ (.int .u8 0)) = w1 := ⟨_, rfl⟩
        rw [hw1] at hrow1 honly1 ⊢
        have hlow1 : ∀ i, i < od → f1 i = f i := fun i hi => (hf1 i (by omega)).trans (HLOW.out i hi)
        have hkept : ∀ j, j < r.length → w1.cell? ⟨b, o + j, none⟩ = w.cell? ⟨b, o + j, none⟩ := fun j hj => src_kept hrow hrow1 honly1 hlow1 (by omega) (fun e => by have := HD.out e; omega)
        have hsrc : ∀ j, j < r.length → w1.cell? ⟨b, o + j, none⟩ = some (.int .u8 ((r.getD j 0 : Nat) : Int)) := fun j hj => (hkept j hj).trans (hbs.cell hj)
        have HSRC := Lib.hid hsrc
        have HF1 := Lib.hid hf1
        have HLOW1 := Lib.hid hlow1
        clear hsrc hkept hf1 hlow1 hw1 g0 g1 g2 g3 g4 hfr hrow' honly
        have hfr := hrow1.frozen
        have g0 := hrow1.cell (i := od + L) (by omega)
        have g1 := hrow1.cell (i := od + L + 1) (by omega)
        have g2 := hrow1.cell (i := od + L + 2) (by omega)
        have g3 := hrow1.cell (i := od + L + 3) (by omega)
        have g4 := hrow1.cell (i := od + L + 4) (by omega)
        rcases Plain85.cases_of r hrp with ⟨x0, rfl⟩ | ⟨x0, x1, rfl⟩ | ⟨x0, x1, x2, rfl⟩ | ⟨x0, x1, x2, x3, r2, rfl⟩
        · have c0 := HSRC.out 0 (by simp)
          simp only [List.getD_cons_zero, Nat.add_zero] at c0
          have gx0 : x0 < 256 := hbs.lt _ (by simp)
          go_upto_region 19 with (fail)
          rw [or1 x0 gx0]
          obtain ⟨V, hV⟩ : ∃ V, num4 x0 0 0 0 = V := ⟨_, rfl⟩
          have hV32 : V < 4294967296 := by rw [← hV]; exact Plain85.num4_lt gx0 (by omega) (by omega) (by omega)
          rw [hV]
          have HV := Lib.hid hV
          clear hV
          go_cut [66] (fun b wx => EncCut false w1 b wx)
          case first =>
            by_cases hz : V = 0
            · subst hz
              go_wp2
              go_meet
              exact ⟨rfl, rfl⟩
            · have hz' : ((V : Int) == 0) = false := beq_eq_false_iff_ne.2 (by omega)
              go_wp2
              go_meet
              exact ⟨rfl, rfl⟩
          case rest =>
            obtain ⟨rfl, rfl⟩ := hcut
            go_wp2
            go_rounds 6
            refine ⟨enc_round (V := V) (m := 2) hrow1 honly1 HLOW.out HHIGH.out HTXT.out HF1.out HL.out hL5 (pre2 := l) (r2 := []) (by simp) (.inl rfl) ?_ (by omega) (Nat.zero_le 0) (by omega) (BS.nil _ _ none) (by simp) rfl rfl, by simp [slenE]⟩
            rw [← HSP.out, Plain85.enc_append k _ _ HK.out, ← HV.out]
            rfl
        · have c0 := HSRC.out 0 (by simp)
          have c1 := HSRC.out 1 (by simp)
          simp only [List.getD_cons_zero, List.getD_cons_succ, Nat.add_zero] at c0 c1
          have gx0 : x0 < 256 := hbs.lt _ (by simp)
          have gx1 : x1 < 256 := hbs.lt _ (by simp)
          go_upto_region 19 with (fail)
          rw [or2 x0 x1 gx0 gx1]
          obtain ⟨V, hV⟩ : ∃ V, num4 x0 x1 0 0 = V := ⟨_, rfl⟩
          have hV32 : V < 4294967296 := by rw [← hV]; exact Plain85.num4_lt gx0 gx1 (by omega) (by omega)
          rw [hV]
          have HV := Lib.hid hV
          clear hV
          go_cut [66] (fun b wx => EncCut false w1 b wx)
          case first =>
            by_cases hz : V = 0
            · subst hz
              go_wp2
              go_meet
              exact ⟨rfl, rfl⟩
            · have hz' : ((V : Int) == 0) = false := beq_eq_false_iff_ne.2 (by omega)
              go_wp2
              go_meet
              exact ⟨rfl, rfl⟩
          case rest =>
            obtain ⟨rfl, rfl⟩ := hcut
            go_wp2
            go_rounds 6
            refine ⟨enc_round (V := V) (m := 3) hrow1 honly1 HLOW.out HHIGH.out HTXT.out HF1.out HL.out hL5 (pre2 := l) (r2 := []) (by simp) (.inl rfl) ?_ (by omega) (Nat.zero_le 0) (by omega) (BS.nil _ _ none) (by simp) rfl rfl, by simp [slenE]⟩
            rw [← HSP.out, Plain85.enc_append k _ _ HK.out, ← HV.out]
            rfl
        · have c0 := HSRC.out 0 (by simp)
          have c1 := HSRC.out 1 (by simp)
          have c2 := HSRC.out 2 (by simp)
          simp only [List.getD_cons_zero, List.getD_cons_succ, Nat.add_zero] at c0 c1 c2
          have gx0 : x0 < 256 := hbs.lt _ (by simp)
          have gx1 : x1 < 256 := hbs.lt _ (by simp)
          have gx2 : x2 < 256 := hbs.lt _ (by simp)
          go_upto_region 19 with (fail)
          rw [or3 x0 x1 x2 gx0 gx1 gx2]
          obtain ⟨V, hV⟩ : ∃ V, num4 x0 x1 x2 0 = V := ⟨_, rfl⟩
          have hV32 : V < 4294967296 := by rw [← hV]; exact Plain85.num4_lt gx0 gx1 gx2 (by omega)
          rw [hV]
          have HV := Lib.hid hV
          clear hV
          go_cut [66] (fun b wx => EncCut false w1 b wx)
          case first =>
            by_cases hz : V = 0
            · subst hz
              go_wp2
              go_meet
              exact ⟨rfl, rfl⟩
            · have hz' : ((V : Int) == 0) = false := beq_eq_false_iff_ne.2 (by omega)
              go_wp2
              go_meet
              exact ⟨rfl, rfl⟩
          case rest =>
            obtain ⟨rfl, rfl⟩ := hcut
            go_wp2
            go_rounds 6
            refine ⟨enc_round (V := V) (m := 4) hrow1 honly1 HLOW.out HHIGH.out HTXT.out HF1.out HL.out hL5 (pre2 := l) (r2 := []) (by simp) (.inl rfl) ?_ (by omega) (Nat.zero_le 0) (by omega) (BS.nil _ _ none) (by simp) rfl rfl, by simp [slenE]⟩
            rw [← HSP.out, Plain85.enc_append k _ _ HK.out, ← HV.out]
            rfl
        · have c0 := HSRC.out 0 (by simp)
          have c1 := HSRC.out 1 (by simp)
          have c2 := HSRC.out 2 (by simp)
          have c3 := HSRC.out 3 (by simp)
          simp only [List.getD_cons_zero, List.getD_cons_succ, Nat.add_zero] at c0 c1 c2 c3
          have gx0 : x0 < 256 := hbs.lt _ (by simp)
          have gx1 : x1 < 256 := hbs.lt _ (by simp)
          have gx2 : x2 < 256 := hbs.lt _ (by simp)
          have gx3 : x3 < 256 := hbs.lt _ (by simp)
          have t3 : ((((x0 :: x1 :: x2 :: x3 :: r2).length : Nat) : Int) == 3) = false := beq_eq_false_iff_ne.2 (by simp only [List.length_cons]; omega)
          have t2 : ((((x0 :: x1 :: x2 :: x3 :: r2).length : Nat) : Int) == 2) = false := beq_eq_false_iff_ne.2 (by simp only [List.length_cons]; omega)
          have t1 : ((((x0 :: x1 :: x2 :: x3 :: r2).length : Nat) : Int) == 1) = false := beq_eq_false_iff_ne.2 (by simp only [List.length_cons]; omega)
          have hdr : ∀ b' o', (if c' = 4 then some (⟨b, o, none⟩ : Addr) else some ⟨b, o + 4, none⟩) = some ⟨b', o', none⟩ → b' = bd → o' + r2.length ≤ od := by
            intro b' o' he hb'
            have hx : b' = b ∧ o' ≤ o + 4 := by split at he <;> (injection he with he; injection he with e1 e2; omega)
            have := HD.out (hx.1.symm.trans hb')
            simp only [List.length_cons] at this
            omega
          have HDR := Lib.hid hdr
          clear hdr
          simp only [List.length_cons] at hrc
          go_upto_region 19 with (fail)
          rw [or4 x0 x1 x2 x3 gx0 gx1 gx2 gx3]
          obtain ⟨V, hV⟩ : ∃ V, num4 x0 x1 x2 x3 = V := ⟨_, rfl⟩
          have hV32 : V < 4294967296 := by rw [← hV]; exact Plain85.num4_lt gx0 gx1 gx2 gx3
          rw [hV]
          have HV := Lib.hid hV
          clear hV
          have hsplit : (pre ++ [x0, x1, x2, x3]) ++ r2 = l := by rw [← HSP.out]; simp
          have hwhole : (pre ++ [x0, x1, x2, x3]).length = 4 * (k + 1) := by rw [List.length_append, HK.out]; simp; omega
          have henc : enc (pre ++ [x0, x1, x2, x3]) = enc pre ++ grp V := by rw [Plain85.enc_append k _ _ HK.out, ← HV.out, Plain85.enc_four]; simp [enc]
          have HSPLIT := Lib.hid hsplit
          have HWHOLE := Lib.hid hwhole
          have HENC := Lib.hid henc
          clear hsplit hwhole henc
          by_cases hz : V = 0
          · subst hz
            go_wp2
            exact ⟨enc_round_z hrow1 honly1 HLOW.out HHIGH.out HTXT.out HF1.out HL.out hL5 HSPLIT.out (.inr ⟨k + 1, HWHOLE.out⟩) (by rw [HENC.out]; rfl) (c2 := c' - 4) (by omega) (by omega) (hbs.dropIf (k := 4) (by simp) (by simp; omega)) HDR.out rfl rfl, by simp [slenE]; omega⟩
          · have hz' : ((V : Int) == 0) = false := beq_eq_false_iff_ne.2 (by omega)
            go_wp2
            go_rounds 6
            exact ⟨enc_round (V := V) (m := 5) hrow1 honly1 HLOW.out HHIGH.out HTXT.out HF1.out HL.out hL5 HSPLIT.out (.inr ⟨k + 1, HWHOLE.out⟩) (by rw [HENC.out, grp, if_neg hz]; rfl) (by omega) (c2 := c' - 4) (by omega) (by omega) (hbs.dropIf (k := 4) (by simp) (by simp; omega)) HDR.out rfl rfl, by simp [slenE]; omega⟩
end Go.Proofs.YthhbcnjbnfjiiaaDoor

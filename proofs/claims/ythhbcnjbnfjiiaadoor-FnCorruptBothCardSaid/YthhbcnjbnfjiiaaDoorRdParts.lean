/-
  The walk of impl.DecodeParts over a text that holds a byte that is no digit, with reads of 64 bytes, more of them than the data have bytes: it says that the text is corrupt, and what it has decoded is a beginning of the data. Conditions: those that it names.
-/
import Derived.Test.YthhbcnjbnfjiiaaDoorRdRead
import Derived.Test.YthhbcnjbnfjiiaaDoorRdNew
import Derived.Test.YthhbcnjbnfjiiaaDoorCorrupt
import Derived.Test.YthhbcnjbnfjiiaaDoorBoth
namespace Go.Proofs.YthhbcnjbnfjiiaaDoor
open Go.RowKit
open Plain85 (enc)

theorem dr_find (a : Addr) (w : World) : (Go.method 231 66 (.pointer (some a)) "Read").run Tryd.prog w = .ok (65, .pointer (some a)) w := by kernel_rfl
theorem dr_ahead (a : Addr) (w : World) : (Go.nilAhead 231 66 (.pointer (some a)) "Read").run Tryd.prog w = .ok (some false) w := by kernel_rfl
theorem dr_enter (args : Array Value) (w : World) : (callFunc 65 args).run Tryd.prog w = .ok (.enter 65 args) w := entersB Tryd.func65 (by kernel_rfl) rfl args w
theorem Few.own {bs : List Nat} {w w' : World} {base : Nat} {v : Value} {l : List Nat} (h : Few bs w w') (ho : Own w base v l) (hb : ∀ x ∈ bs, v.ownBlock ≠ some x) : Own w' base v l := by
  refine ⟨⟨ho.1.1, ?_⟩, ho.2⟩
  rcases ho.1.2 with h0 | ⟨g, cap, cur, rfl, hbg, hg, hr⟩
  · exact .inl h0
  · exact .inr ⟨g, cap, cur, rfl, hbg, (h.block g (fun hx => hb g hx rfl)).trans hg, hr⟩

theorem Stat.belowB {w w' : World} {B db sb rb tb ot N ct pc : Nat} {T : List Nat} (h : Stat w db sb rb tb ot N ct pc T) (hb : Below B w w') (hs : sb < B) (ht : tb < B) : Stat w' db sb rb tb ot N ct pc T :=
  ⟨(hb.block sb hs).trans h.src, ⟨h.tx.len, h.tx.lt, fun hn => by
    obtain ⟨b, o, e, hlt, hc⟩ := h.tx.spot hn
    injection e with e
    injection e with e1 e2
    subst e1 e2
    exact ⟨tb, ot, rfl, Nat.lt_of_lt_of_le hlt hb.size, fun i hi => (hb.cell (p := ⟨tb, _, none⟩) ht).trans (hc i hi)⟩⟩, h.nc, h.cm, h.rd, h.sd, h.td, h.tr, h.sr, h.pc1, h.pc2⟩
theorem DSt.belowB {w w' : World} {B db sb rb tb ot N ct : Nat} {f : Nat → Value} {bl out : List Nat} {Ao : Option Addr} {co p : Nat} {pv : Int} (h : DSt w db sb rb tb ot N ct f bl out Ao co p pv) (hb : Below B w w') (hd : db < B) (hr : rb < B) : DSt w' db sb rb tb ot N ct f bl out Ao co p pv :=
  ⟨h.row.of_block (hb.block db hd), h.f0, h.f1, h.f2, h.fn, h.fb, h.bl4, h.blt, h.fo, h.oo, h.oc, h.ol, h.olt, (hb.block rb hr).trans h.rd, h.pN⟩
/-- The sizes of the reads: n2 times 64. -/
def Sixty (w : World) (B : Nat) (A : Option Addr) (n : Nat) : Prop := 0 < n → ∃ g o, A = some ⟨g, o, none⟩ ∧ g < B ∧ ∀ i, i < n → w.cell? ⟨g, o + i, none⟩ = some (.int .u16 64)
theorem Sixty.below {w w' : World} {B n : Nat} {A : Option Addr} (h : Sixty w B A n) (hb : Below B w w') : Sixty w' B A n := fun hn => by
  obtain ⟨g, o, e, hg, hc⟩ := h hn
  exact ⟨g, o, e, hg, fun i hi => (hb.cell (p := ⟨g, _, none⟩) hg).trans (hc i hi)⟩
structure DpR (w : World) (B db sb rb tb ot N ct pc n2 : Nat) (T : List Nat) (v : Value) (wr : World) (k : Nat) (del : List Nat) (f : Nat → Value) (bl out : List Nat) (Ao : Option Addr) (co p : Nat) (pv : Int) : Prop where
  kn : k ≤ n2
  own : Own wr B v del
  kd : k ≤ del.length
  st : Stat wr db sb rb tb ot N ct pc T
  ds : DSt wr db sb rb tb ot N ct f bl out Ao co p pv
  si : SI T del out bl p
  bel : Below w.heap.size w wr
def DpRel (w : World) (B db sb rb tb ot N ct pc n2 : Nat) (T : List Nat) (v i : Value) (wr : World) : Prop := ∃ k del f bl out Ao co p pv, DpR w B db sb rb tb ot N ct pc n2 T v wr k del f bl out Ao co p pv ∧ i = .int .i64 (k : Int)
def RetDp (w : World) (l : List Nat) (e : Ending) (w' : World) : Prop := ∃ v del, e = .returned (.tuple #[v, .bool true]) ∧ Own w' w.heap.size v del ∧ (∃ Y, l = del ++ Y) ∧ Below w.heap.size w w'

set_option maxHeartbeats 8000000 in
set_option maxRecDepth 100000 in
theorem decodeParts_any (A : Option Addr) (N c : Nat) (T : List Nat) (pz : Nat) (A2 : Option Addr) (n2 c2 : Nat) (l pre post : List Nat) (cc : Nat) (w : World) (hT : BS w w.heap.size A N T) (hN : N ≤ 1099511627776) (hpz : pz ≤ 255) (h64 : Sixty w w.heap.size A2 n2) (hn2 : n2 ≤ 1073741824)
    (hTe : T = pre ++ cc :: post) (hc1 : 117 < cc) (hc2 : cc ≠ 122) (hl : ∀ x ∈ l, x < 256) (hpre : ∃ X, pre ++ X = enc l) (hg32 : ∀ x ∈ T, 32 < x) (hln2 : l.length < n2) (hl2 : l.length ≤ 1073741824) (hg : ErrType w) :
    Calls Tryd.prog 18 #[.slice A N c, .int .u8 (pz : Int), .slice A2 n2 c2] w fun e w' => RetDp w l e w' := by
  have hcT : cc ∈ T := by rw [hTe]; simp
  have hTN := hT.len
  have hN0 : 0 < N := by rw [← hTN, hTe]; simp; omega
  have hpos := hg.pos
  have HG := Lib.hid hg
  have HT := Lib.hid hT
  have H64 := Lib.hid h64
  have HC := Lib.hid hcT
  have HTE := Lib.hid hTe
  have HL := Lib.hid hl
  have HPRE := Lib.hid hpre
  have HG32 := Lib.hid hg32
  have HTN := Lib.hid hTN
  clear hg hT h64 hcT hTe hl hpre hg32 hTN
  go_enter Tryd.func18, Tryd.ntmps18
  go_wp2_with (at_builtin; refine wpList_append_bytes _ (o := ⟨some 19, _, _, _, _, _⟩) rfl _ _ rfl w.heap.size _ [] rfl (Own.empty w) w.heap.size A N c T rfl (HT.out.alloc (Nat.le_refl _) _) (by simp; omega) (by simp) ?_)
  intro v1 w1 hown1 hg1 _
  have hb1 : Below w.heap.size w w1 := ((Below.refl _ _).alloc (Nat.le_refl _) _).grown hg1 (by simp) (fun k hk => by simp [Value.ownBlock] at hk; omega)
  obtain ⟨A1, ct, hv1, hct1, hct2, hbs1, hA1⟩ := hown1.bs
  rw [HTN.out] at hv1 hct1 hbs1
  obtain ⟨tb, rfl, htb, htw⟩ : ∃ g, A1 = some ⟨g, 0, none⟩ ∧ w.heap.size ≤ g ∧ g < w1.heap.size := by
    rcases hA1 with e | h
    · obtain ⟨b', o', e', _⟩ := hbs1.spot hN0
      rw [e] at e'; cases e'
    · exact h
  subst hv1
  have hw1 := hb1.size
  have HB1 := Lib.hid hb1
  have HBS1 := Lib.hid hbs1
  clear hown1 hg1 hb1 hbs1 hA1
  go_wp2_with fail
  refine (newReader (some ⟨tb, 0, none⟩) N ct w1).mono ?_
  rintro e w2 ⟨rfl, hw2⟩
  have hr2 : w2.heap[w1.heap.size]? = some (.cells #[.slice (some ⟨tb, 0, none⟩) N ct, .int .i64 ((0 : Nat) : Int), .int .i64 (-1)] 71 (0, 0)) := by rw [hw2]; exact _root_.Go.heap_alloc_new w1 _
  have hz2 : w2.heap.size = w1.heap.size + 1 := by rw [hw2]; simp
  have hb2 : Below w1.heap.size w1 w2 := by rw [hw2]; exact (Below.refl _ _).alloc (Nat.le_refl _) _
  have HR2 := Lib.hid hr2
  have HB2 := Lib.hid hb2
  clear hw2 hr2 hb2
  go_wp2_with fail
  have hsz3 : (w2.alloc (.cells #[.pointer (some ⟨w1.heap.size, 0, none⟩), .int .i64 ((pz : Int) + 1)] 56)).heap.size = w1.heap.size + 2 := by simp [hz2]
  have hs3 : (w2.alloc (.cells #[.pointer (some ⟨w1.heap.size, 0, none⟩), .int .i64 ((pz : Int) + 1)] 56)).heap[w1.heap.size + 1]? = some (.cells #[.pointer (some ⟨w1.heap.size, 0, none⟩), .int .i64 ((pz : Int) + 1)] 56 (0, 0)) := by rw [← hz2]; exact _root_.Go.heap_alloc_new w2 _
  have hb3 : Below w2.heap.size w2 (w2.alloc (.cells #[.pointer (some ⟨w1.heap.size, 0, none⟩), .int .i64 ((pz : Int) + 1)] 56)) := (Below.refl _ _).alloc (Nat.le_refl _) _
  obtain ⟨W3, hW3⟩ : ∃ W3, w2.alloc (.cells #[.pointer (some ⟨w1.heap.size, 0, none⟩), .int .i64 ((pz : Int) + 1)] 56) = W3 := ⟨_, rfl⟩
  rw [hW3] at hsz3 hs3 hb3 ⊢
  have hr3 := (hb3.block w1.heap.size (by omega)).trans HR2.out
  clear hW3
  refine (newDec (w1.heap.size + 1) W3).mono ?_
  rintro e w4 ⟨rfl, hw4⟩
  obtain ⟨f0, hD4⟩ := dec_new (w1.heap.size + 1) w1.heap.size tb 0 N ct (-1) W3 hr3
  rw [← hw4, hsz3] at hD4
  have hz4 : w4.heap.size = w1.heap.size + 3 := by rw [hw4]; simp [hsz3]
  have hb4 : Below W3.heap.size W3 w4 := by rw [hw4]; exact (Below.refl _ _).alloc (Nat.le_refl _) _
  rw [hsz3]
  rw [show ((pz : Int) + 1) = ((pz + 1 : Nat) : Int) by omega] at hs3
  have hS4 : Stat w4 (w1.heap.size + 2) (w1.heap.size + 1) w1.heap.size tb 0 N ct (pz + 1) T :=
    ⟨(hb4.block _ (by omega)).trans hs3, ((((((HBS1.out.below HB2.out).mono (B' := w2.heap.size) (by omega)).below hb3).mono (B' := W3.heap.size) (by omega)).below hb4).mono (B' := w4.heap.size) (by omega)), hct1, hct2, by omega, by omega, by omega, by omega, by omega, by omega, by omega⟩
  have hbw4 : Below w.heap.size w w4 := HB1.out.trans ((HB2.out.mono hw1).trans ((hb3.mono (by omega)).trans (hb4.mono (by omega))))
  have hal : Below w4.heap.size w4 (w4.alloc (.cells #[] 5)) := (Below.refl _ _).alloc (Nat.le_refl _) _
  have ho5 := Own.empty w4
  rw [hz4] at ho5
  have HR0 := Lib.hid (show DpR w (w1.heap.size + 3) (w1.heap.size + 2) (w1.heap.size + 1) w1.heap.size tb 0 N ct (pz + 1) n2 T (.slice (some ⟨w1.heap.size + 3, 0, none⟩) 0 0) (w4.alloc (.cells #[] 5)) 0 [] f0 [] [] none 0 0 (-1) from
    ⟨Nat.zero_le _, ho5, Nat.zero_le _, hS4.belowB hal (by omega) (by omega), hD4.belowB hal (by omega) (by omega), ⟨[], by simp, .nil⟩, hbw4.trans (hal.mono (by omega))⟩)
  clear hw4 hD4 hb4 hS4 hbw4 hal ho5 hr3 hs3 hb3 hsz3
  go_wp2
  go_loopw [9, 31] (fun v i wr => DpRel w (w1.heap.size + 3) (w1.heap.size + 2) (w1.heap.size + 1) w1.heap.size tb 0 N ct (pz + 1) n2 T v i wr) (fun _ i _ => n2 - (intOf i).toNat)
  case atStart => exact ⟨0, [], _, _, _, _, _, _, _, HR0.out, rfl⟩
  case round =>
    obtain ⟨k, del, f, bl, out, Ao, co, p, pv, hR, rfl⟩ := hrel
    have hkn := hR.kn
    have hkd := hR.kd
    have hBr := hR.bel.size
    obtain ⟨Y, hY⟩ := hR.si.data HTE.out hc1 hc2 HL.out HPRE.out
    have hdl : del.length ≤ l.length := by rw [hY]; simp only [List.length_append]; omega
    have HY := Lib.hid hY
    have HRR := Lib.hid hR
    clear hR hY
    by_cases hk : k < n2
    · obtain ⟨g2, o2, rfl, hg2, h64c⟩ := (H64.out.below HRR.out.bel) (by omega)
      have cK := h64c k hk
      obtain ⟨dl, hdl2⟩ : ∃ dl, del.length = dl := ⟨_, rfl⟩
      obtain ⟨Av, cv, rfl, hcv, hcv2, hbsv⟩ := HRR.out.own.at_ hdl2
      have hlt1 := HRR.out.ds.row.lt
      have hob : ∀ x, (Value.slice Av dl cv).ownBlock = some x → w1.heap.size + 3 ≤ x ∧ x < wr.heap.size := fun x e => HRR.out.own.1.lt x e
      have hmk : ∀ W : World, (Instr.makeSlice 22 (.int .u16 64) (.int .u16 64)).run Tryd.prog W = .ok (.slice (some ⟨W.heap.size, 0, none⟩) 64 64) (W.alloc (.cells (madeCells #[.int .u8 0] 64) 5)) := fun W => run_make_row' (P := Tryd.prog) 22 5 (.int .u8 0) 1 Tryd.underlying22 Tryd.infoByte rfl .u16 .u16 64 (by omega) (by omega) W
      have hrowp := World.rowIs_made wr (.int .u8 0) 64 5
      have hal : Below wr.heap.size wr (wr.alloc (.cells (madeCells #[.int .u8 0] 64) 5)) := (Below.refl _ _).alloc (Nat.le_refl _) _
      have HS1 := Lib.hid (HRR.out.st.belowB hal (lt_of_block' HRR.out.st.src) (by omega))
      have HD1 := Lib.hid (HRR.out.ds.belowB hal hlt1 (lt_of_block' HRR.out.ds.rd))
      have HO1 := Lib.hid (HRR.out.own.alloc (.cells (madeCells #[.int .u8 0] 64) 5))
      have HAL := Lib.hid hal
      have HROWP := Lib.hid hrowp
      have HOB := Lib.hid hob
      have HDL := Lib.hid hdl2
      have hdl3 : dl ≤ l.length := by omega
      have hkd2 : k ≤ dl := by omega
      have m1 := dr_find ⟨w1.heap.size + 2, 0, none⟩
      have m2 := dr_enter
      have m3 := dr_ahead ⟨w1.heap.size + 2, 0, none⟩
      have hsz1 : (wr.alloc (.cells (madeCells #[.int .u8 0] 64) 5)).heap.size = wr.heap.size + 1 := by simp
      obtain ⟨W1, hW1⟩ : ∃ W1, wr.alloc (.cells (madeCells #[.int .u8 0] 64) 5) = W1 := ⟨_, rfl⟩
      rw [hW1] at HS1 HD1 HO1 HAL HROWP hsz1
      clear hal hrowp hob hdl2 h64c hbsv
      go_wp2_with fail
      try rw [hW1]
      clear hW1
      refine (read_any (w1.heap.size + 2) (w1.heap.size + 1) w1.heap.size tb 0 N ct (pz + 1) T del f bl out Ao co p pv cc wr.heap.size 64 _ W1 HS1.out HD1.out HRR.out.si HC.out hc1 hc2 HG32.out HROWP.out (by omega) (by omega) (by omega) (by omega) (by omega) (by omega)).mono ?_
      intro e w5 hret
      rcases hret with ⟨got, f', bl', out', Ao', co', p', pv', fp', rfl, hg1, hg2', hglt, hS5, hD5, hI5, hrow5, htx5, hfew5⟩ | ⟨a, rfl, hfew5⟩
      · have hsz5 : w5.heap.size = wr.heap.size + 1 := hfew5.size.trans hsz1
        have hown5 := hfew5.own HO1.out (fun x hx e => by
          have := HOB.out x e
          simp only [List.mem_cons, List.not_mem_nil, or_false] at hx
          omega)
        obtain ⟨gl, hgl⟩ : ∃ gl, got.length = gl := ⟨_, rfl⟩
        have hbsg : BS w5 w5.heap.size (some ⟨wr.heap.size, 0, none⟩) gl got := ⟨hgl, hglt, fun _ => ⟨wr.heap.size, 0, rfl, by omega, fun i hi => by rw [hrow5.cell (by omega), Nat.zero_add, htx5 i (by omega)]⟩⟩
        rw [hgl] at hg1 hg2' ⊢
        have HOWN5 := Lib.hid hown5
        have HBSG := Lib.hid hbsg
        have HS5 := Lib.hid hS5
        have HD5 := Lib.hid hD5
        have HI5 := Lib.hid hI5
        have HF5 := Lib.hid hfew5
        have HGL := Lib.hid hgl
        clear hown5 hbsg hS5 hD5 hI5 hfew5 hrow5 htx5 hglt hgl
        go_wp2_with (at_builtin; refine wpList_append_bytes _ (o := ⟨some 47, _, _, _, _, _⟩) rfl _ _ rfl (w1.heap.size + 3) _ del rfl HOWN5.out w5.heap.size (some ⟨wr.heap.size, 0, none⟩) gl 64 got rfl HBSG.out (by rw [HDL.out]; omega) (by omega) ?_)
        intro v6 w6 hown6 hg6 _
        have hb6 : Below (w1.heap.size + 3) w5 w6 := (Below.refl _ _).grown hg6 (by omega) (fun k hk => (HOB.out k hk).1)
        have HF : DpR w (w1.heap.size + 3) (w1.heap.size + 2) (w1.heap.size + 1) w1.heap.size tb 0 N ct (pz + 1) n2 T v6 w6 (k + 1) (del ++ got) f' bl' out' Ao' co' p' pv' :=
          ⟨hk, hown6, by rw [List.length_append, HDL.out, HGL.out]; omega, HS5.out.belowB hb6 (by omega) (by omega), HD5.out.belowB hb6 (by omega) (by omega), HI5.out, HRR.out.bel.trans ((HAL.out.mono hBr).trans ((HF5.out.below (fun x hx => by
            simp only [List.mem_cons, List.not_mem_nil, or_false] at hx
            omega)).trans (hb6.mono (by omega))))⟩
        have HFF := Lib.hid HF
        clear hown6 hg6 hb6 HF
        go_wp2
        exact ⟨⟨k + 1, _, _, _, _, _, _, _, _, HFF.out, by simp⟩, by simp [intOf]; omega⟩
      · have hsz5 : w5.heap.size = wr.heap.size + 1 := hfew5.size.trans hsz1
        have hown5 := hfew5.own HO1.out (fun x hx e => by
          have := HOB.out x e
          simp only [List.mem_cons, List.not_mem_nil, or_false] at hx
          omega)
        have HOWN5 := Lib.hid hown5
        have HF5 := Lib.hid hfew5
        clear hown5 hfew5
        go_wp2_with (at_builtin; refine wpList_append_bytes _ (o := ⟨some 47, _, _, _, _, _⟩) rfl _ _ rfl (w1.heap.size + 3) _ del rfl HOWN5.out w5.heap.size (some ⟨wr.heap.size, 0, none⟩) 0 64 [] rfl (BS.nil _ _ _) (by rw [HDL.out]; omega) (by omega) ?_)
        intro v6 w6 hown6 hg6 _
        have hb6 : Below (w1.heap.size + 3) w5 w6 := (Below.refl _ _).grown hg6 (by omega) (fun k hk => (HOB.out k hk).1)
        have hbel6 : Below w.heap.size w w6 := HRR.out.bel.trans ((HAL.out.mono hBr).trans ((HF5.out.below (fun x hx => by
            simp only [List.mem_cons, List.not_mem_nil, or_false] at hx
            omega)).trans (hb6.mono (by omega))))
        have hE6 := HG.out.below hbel6 hpos
        have HE6 := Lib.hid hE6
        have HOWN6 := Lib.hid hown6
        have HBEL6 := Lib.hid hbel6
        clear hown6 hg6 hb6 hE6 hbel6
        go_wp2_with fail
        refine (corrupt_hit (a : Int) w6 HE6.out).mono ?_
        rintro e w7 ⟨rfl, hb7⟩
        have hown7 := HOWN6.out.below hb7
        have HOWN7 := Lib.hid (hown7.mono (base' := w.heap.size) (by omega))
        have HB7 := Lib.hid (HBEL6.out.trans (hb7.mono HBEL6.out.size))
        clear hown7 hb7
        go_wp2
        refine bodyPost_ret (two_res rfl _ _ _) rfl ?_
        exact ⟨v6, del, rfl, HOWN7.out, ⟨out ++ Y, by rw [← List.append_assoc]; exact HY.out⟩, HB7.out⟩
    · exfalso
      omega

end Go.Proofs.YthhbcnjbnfjiiaaDoor

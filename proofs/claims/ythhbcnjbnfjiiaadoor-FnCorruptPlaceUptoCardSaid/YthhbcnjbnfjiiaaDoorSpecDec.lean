/-
  The walk of spec.Decoded: it answers as the plain model of ascii85.Decode does (both take a group's number modulo 2^32). Conditions: the text reads as a list of at most 2^40 bytes.
-/
import Derived.Test.YthhbcnjbnfjiiaaDoorSpecPad
import Derived.Test.YthhbcnjbnfjiiaaDoorImplDec
import Derived.Test.YthhbcnjbnfjiiaaDoorPlainDec2
namespace Go.Proofs.YthhbcnjbnfjiiaaDoor
open Go.RowKit
open PlainDec (DS DR be4 next dstep padv dend dgo Inv)

theorem results_three {fn : Func} {t u v : Tmp} (h : fn.results = #[.tmp t, .tmp u, .tmp v]) (tmps : Array Value) (P : Program) (w : World) :
    (results fn tmps).run P w = .ok (.tuple #[tmps.getD t undef, tmps.getD u undef, tmps.getD v undef]) w := by simp [results, h]

structure DcdR (w : World) (l : List Nat) (flush : Bool) (i out used grp : Value) (wr : World) (k : Nat) (s : DS) (g : List Nat) : Prop where
  kl : k ≤ l.length
  go : dgo (4 * l.length + 4) flush l.length (l.drop k) k s = decM l flush
  inv : Inv (4 * l.length + 4) k s
  bel : Below w.heap.size w wr
  own : Own wr w.heap.size out s.out
  ogr : Own wr w.heap.size grp g
  sep : grp.ownBlock = none ∨ grp.ownBlock ≠ out.ownBlock
  len : g.length = s.nb
  dig : ∀ x ∈ g, 33 ≤ x ∧ x ≤ 117
  val : val85 g % 4294967296 = s.v
  ei : i = .int .i64 (k : Int)
  eu : used = .int .i64 (s.used : Int)
def DcdRel (w : World) (l : List Nat) (flush : Bool) (i out used grp : Value) (wr : World) : Prop := ∃ k s g, DcdR w l flush i out used grp wr k s g

def badInt : DR → Int | .bad a => (a : Int) | .ok _ _ => -1
def RetDcd (w : World) (R : DR) (e : Ending) (w' : World) : Prop :=
  ∃ v u, e = .returned (.tuple #[v, .int .i64 u, .int .i64 (badInt R)]) ∧ (∀ o u', R = .ok o u' → u = (u' : Int) ∧ Own w' w.heap.size v o) ∧ Below w.heap.size w w'

theorem val_next (g : List Nat) (v x : Nat) (h : val85 g % 4294967296 = v) : val85 (g ++ [x]) % 4294967296 = next v x := by
  rw [val85_snoc, ← h]; unfold next; omega
theorem padv_val (m : Nat) : ∀ (g : List Nat) (v : Nat), val85 g % 4294967296 = v → val85 (g ++ List.replicate m 117) % 4294967296 = padv v m := by
  induction m with
  | zero => intro g v h; simpa [padv] using h
  | succ m ih =>
    intro g v h
    have := ih (g ++ [117]) ((v * 85 + 84) % 4294967296) (by have := val_next g v 117 h; simpa [next] using this)
    rw [List.replicate_succ, List.append_cons]
    exact this
theorem pad85_eq (g : List Nat) (h : g.length ≤ 5) : pad85 g = g ++ List.replicate (5 - g.length) 117 := by
  unfold pad85
  rw [List.take_append, List.take_of_length_le h]
  congr 1
  have : [117, 117, 117, 117, 117] = List.replicate 5 117 := rfl
  rw [this, List.take_replicate]
  congr 1; omega
theorem pad85_dig (g : List Nat) (h : ∀ x ∈ g, 33 ≤ x ∧ x ≤ 117) : ∀ x ∈ pad85 g, 33 ≤ x ∧ x ≤ 117 := by
  intro x hx
  have := List.mem_of_mem_take hx
  rcases List.mem_append.1 this with h1 | h1
  · exact h x h1
  · simp at h1; omega
theorem val85_lt64 (g : List Nat) (h : ∀ x ∈ g, 33 ≤ x ∧ x ≤ 117) (h5 : g.length ≤ 5) : val85 g < 18446744073709551616 := by
  have := val85_small g h h5 g.length (Nat.le_refl _)
  rw [List.take_of_length_le (Nat.le_refl _)] at this
  omega

theorem sep_out {W : World} {base : Nat} {gv v v' : Value} {g : List Nat} (hg : Own W base gv g) (hs : gv.ownBlock = none ∨ gv.ownBlock ≠ v.ownBlock) {N : Nat} (hN : W.heap.size ≤ N) (hw : v'.ownBlock = v.ownBlock ∨ v'.ownBlock = some N) :
    gv.ownBlock = none ∨ gv.ownBlock ≠ v'.ownBlock := by
  rcases hw with h | h
  · rw [h]; exact hs
  · right; rw [h]; intro e; have := (hg.1.lt _ e).2; omega
theorem sep_swap {a b : Option Nat} (h : a = none ∨ a ≠ b) : b = none ∨ b ≠ a := by
  rcases h with rfl | h
  · cases b <;> simp
  · exact .inr (fun e => h e.symm)
theorem sep_grp {W : World} {base : Nat} {gv v v' : Value} {g : List Nat} (ho : Own W base v g) (hs : gv.ownBlock = none ∨ gv.ownBlock ≠ v.ownBlock) {N : Nat} (hN : W.heap.size ≤ N) (hw : v'.ownBlock = gv.ownBlock ∨ v'.ownBlock = some N) :
    v'.ownBlock = none ∨ v'.ownBlock ≠ v.ownBlock := sep_swap (sep_out ho (sep_swap hs) hN hw)

set_option maxRecDepth 100000 in
set_option maxHeartbeats 2000000 in
theorem decoded_any (A : Option Addr) (n c : Nat) (l : List Nat) (flush : Bool) (w : World) (B : Nat) (hB : B ≤ w.heap.size) (hn : n ≤ 1099511627776) (hl : BS w B A n l) :
    Calls Tryd.prog 21 #[.slice A n c, .bool flush] w fun e w' => RetDcd w (decM l flush) e w' := by
  obtain rfl : l.length = n := hl.len
  go_enter Tryd.func21, Tryd.ntmps21
  go_wp2_with fail
  go_loopw [14, 4, 5, 7] (fun i out used grp wr => DcdRel w l flush i out used grp wr) (fun i _ _ _ _ => l.length - (intOf i).toNat)
  case atStart =>
    exact ⟨0, PlainDec.init, [], Nat.zero_le _, rfl, PlainDec.inv_init _, (Below.refl _ _).alloc (Nat.le_refl _) _, Own.nil _ _, Own.empty w, .inr (by simp [Value.ownBlock]), rfl, by simp, rfl, rfl, rfl⟩
  case round =>
    obtain ⟨k, s, g, hR⟩ := hrel
    obtain ⟨hkl, hgo, hinv, hbel, hown, hgrp, hsep, hlen, hdig, hval, rfl, rfl⟩ := hR
    have hb' := hl.below (hbel.mono hB)
    have hsz := hbel.size
    have hnb := hinv.nb
    have hus := hinv.used
    have hol := hinv.len
    by_cases hlt : k < l.length
    · obtain ⟨b1, o1, rfl, hb1, hb'⟩ := hb'.open_ (by omega)
      have cK := hb'.cell hlt
      have gK := getD_lt hl.lt k
      rw [drop_cons l k hlt] at hgo
      generalize l.getD k 0 = x at *
      have HGO := Lib.hid hgo
      have HINV := Lib.hid hinv
      have HVAL := Lib.hid hval
      obtain ⟨q, hq⟩ : ∃ q, s.nb = q := ⟨_, rfl⟩
      obtain ⟨Ag, cg, rfl, hcg, hmg, hbg⟩ := hgrp.at_ (hlen.trans hq)
      unfold maxLen at hmg
      have HG := Lib.hid hgrp
      have HOW := Lib.hid hown
      have HSEP := Lib.hid hsep
      have HDIG := Lib.hid hdig
      clear hgo hinv hval hgrp hown hsep hdig
      have hroom : s.out.length + 4 ≤ 4 * l.length + 4 := by omega
      by_cases h32 : x ≤ 32
      · have e32 : decide (x ≤ 32) = true := decide_eq_true h32
        have e5 : ((q : Int) == 5) = false := beq_eq_false_iff_ne.2 (by omega)
        have hst : dstep k x s = some s := PlainDec.dstep_skip s h32
        have HST := Lib.hid hst
        clear hst
        go_wp2_with fail
        refine (skipped_any x gK wr).mono ?_
        rintro e w' ⟨rfl, rfl⟩
        rw [e32]
        go_wp2
        exact ⟨⟨k + 1, s, g, by omega, by rw [← HGO.out, PlainDec.dgo_cons hroom HST.out], PlainDec.inv_step HINV.out hroom HST.out, hbel, HOW.out, HG.out, HSEP.out, hlen, HDIG.out, HVAL.out, by simp, rfl⟩, by simp [intOf]; omega⟩
      · have e32 : decide (x ≤ 32) = false := decide_eq_false h32
        by_cases hz : x = 122 ∧ s.nb = 0
        · obtain ⟨rfl, hz0⟩ := hz
          have hst : dstep k 122 s = some ⟨s.out ++ [0, 0, 0, 0], k + 1, 0, 0⟩ := PlainDec.dstep_z s hz0
          have hinv' := PlainDec.inv_step HINV.out hroom hst
          have hg0 : g = [] := List.eq_nil_of_length_eq_zero (by omega)
          subst hg0
          obtain rfl : q = 0 := by omega
          have HST := Lib.hid hst
          have HI := Lib.hid hinv'
          have HBL := Lib.hid HOW.out.block
          clear hst hinv'
          go_wp2_with fail
          refine (skipped_any 122 (by decide) wr).mono ?_
          rintro e w' ⟨rfl, rfl⟩
          rw [e32]
          go_wp2_with (at_builtin; refine wpList_append_bytes _ (o := ⟨some 35, _, _, _, _, _⟩) rfl _ _ rfl w.heap.size _ s.out rfl (HOW.out.alloc _) (wr.heap.size + 1) (some ⟨wr.heap.size, 0, none⟩) 4 4 [0, 0, 0, 0] rfl (BS.lit wr [0, 0, 0, 0] (by decide)) (by omega) (by simp; omega) ?_)
          intro v1 w1 hown1 hg1 hwh
          have hb2 : Below w.heap.size w w1 := (hbel.alloc hsz _).grown hg1 (by simp; omega) HBL.out
          have hG1 := (HG.out.alloc (.cells #[.int .u8 0, .int .u8 0, .int .u8 0, .int .u8 0] 5)).grown hg1 HSEP.out
          have hS1 := sep_out HG.out HSEP.out (Nat.le_succ _) hwh
          have HG1 := Lib.hid hG1
          have HS1 := Lib.hid hS1
          clear hG1 hS1 hg1 hwh
          go_wp2
          exact ⟨⟨k + 1, ⟨s.out ++ [0, 0, 0, 0], k + 1, 0, 0⟩, [], by omega, by rw [← HGO.out, PlainDec.dgo_cons hroom HST.out], HI.out, hb2, hown1, HG1.out, HS1.out, rfl, by simp, rfl, by simp, by simp⟩, by simp [intOf]; omega⟩
        · by_cases hd : 33 ≤ x ∧ x ≤ 117
          · have hne : ((x : Int) == 122) = false := beq_eq_false_iff_ne.2 (by omega)
            have ed : dig x = true := decide_eq_true hd
            have hdig' : ∀ y ∈ g ++ [x], 33 ≤ y ∧ y ≤ 117 := by
              intro y hy
              rcases List.mem_append.1 hy with hy | hy
              · exact HDIG.out y hy
              · simp at hy; omega
            have HD' := Lib.hid hdig'
            clear hdig'
            have HBL := Lib.hid HG.out.block
            by_cases h4 : s.nb = 4
            · have hst : dstep k x s = some ⟨s.out ++ be4 (next s.v x), k + 1, 0, 0⟩ := PlainDec.dstep_four s hd.1 hd.2 h4
              have hinv' := PlainDec.inv_step HINV.out hroom hst
              have HST := Lib.hid hst
              have HI := Lib.hid hinv'
              clear hst hinv'
              obtain rfl : q = 4 := by omega
              go_wp2_with fail
              refine (skipped_any x gK wr).mono ?_
              rintro e w' ⟨rfl, rfl⟩
              rw [e32]
              go_wp2_with fail
              refine (isDigit_any x gK wr).mono ?_
              rintro e w' ⟨rfl, rfl⟩
              rw [ed]
              go_wp2_with (at_builtin; refine wpList_append_bytes _ (o := ⟨some 44, _, _, _, _, _⟩) rfl _ _ rfl w.heap.size _ g rfl (HG.out.alloc _) (wr.heap.size + 1) (some ⟨wr.heap.size, 0, none⟩) 1 1 [x] rfl (BS.lit wr [x] (by simpa using gK)) (by omega) (by simp; omega) ?_)
              intro v1 w1 hown1 hg1 hwh
              have hb2 : Below w.heap.size w w1 := (hbel.alloc hsz _).grown hg1 (by simp; omega) HBL.out
              have hO1 := (HOW.out.alloc (.cells #[.int .u8 (x : Int)] 5)).grown hg1 (sep_swap HSEP.out)
              have hS1 := sep_grp HOW.out HSEP.out (Nat.le_succ _) hwh
              have hl5 : (g ++ [x]).length = 5 := by rw [List.length_append, hlen, hq]; rfl
              obtain ⟨A2, c2, rfl, hc2, hm2, hbs2⟩ := hown1.at_ hl5
              have HV := Lib.hid (val_next g _ x HVAL.out)
              have hV64 := val85_lt64 (g ++ [x]) HD'.out (by omega)
              unfold maxLen at hm2
              clear hg1 hwh hown1
              go_wp2_with fail
              refine (value85_any A2 5 c2 (g ++ [x]) w1 w1.heap.size (by omega) HD'.out hbs2).mono ?_
              rintro e w' ⟨rfl, rfl⟩
              go_wp2_with fail
              refine (bytes4_any (val85 (g ++ [x])) hV64 w1).mono ?_
              rintro e w2 ⟨v2, rfl, hv2, hb3⟩
              rw [HV.out] at hv2
              obtain ⟨A3, c3, rfl, hc3, hm3, hbs3⟩ := hv2.at_ (PlainDec.be4_length _)
              have hO2 := hO1.below hb3
              have hb4 : Below w.heap.size w w2 := hb2.trans (hb3.mono hb2.size)
              have hsz4 := hb4.size
              have HBO := Lib.hid hO2.block
              clear hb3 hv2 hO1 hbs2 hV64
              go_wp2_with (at_builtin; refine wpList_append_bytes _ (o := ⟨some 52, _, _, _, _, _⟩) rfl _ _ rfl w.heap.size _ s.out rfl hO2 w2.heap.size A3 4 c3 (be4 (next s.v x)) rfl hbs3 (by omega) hsz4 ?_)
              intro v3 w3 hown3 hg3 hwh3
              have hb5 : Below w.heap.size w w3 := hb4.grown hg3 hsz4 HBO.out
              clear hg3 hwh3 hO2 hS1
              go_wp2
              exact ⟨⟨k + 1, ⟨s.out ++ be4 (next s.v x), k + 1, 0, 0⟩, [], by omega, by rw [← HGO.out, PlainDec.dgo_cons hroom HST.out], HI.out, hb5, hown3, Own.nil _ _, .inl rfl, rfl, by simp, rfl, by simp, by simp⟩, by simp [intOf]; omega⟩
            · have hst : dstep k x s = some ⟨s.out, s.used, next s.v x, s.nb + 1⟩ := PlainDec.dstep_digit s hd.1 hd.2 h4
              have hinv' := PlainDec.inv_step HINV.out hroom hst
              have HST := Lib.hid hst
              have HI := Lib.hid hinv'
              clear hst hinv'
              go_wp2_with fail
              refine (skipped_any x gK wr).mono ?_
              rintro e w' ⟨rfl, rfl⟩
              rw [e32]
              go_wp2_with fail
              refine (isDigit_any x gK wr).mono ?_
              rintro e w' ⟨rfl, rfl⟩
              rw [ed]
              go_wp2_with (at_builtin; refine wpList_append_bytes _ (o := ⟨some 44, _, _, _, _, _⟩) rfl _ _ rfl w.heap.size _ g rfl (HG.out.alloc _) (wr.heap.size + 1) (some ⟨wr.heap.size, 0, none⟩) 1 1 [x] rfl (BS.lit wr [x] (by simpa using gK)) (by omega) (by simp; omega) ?_)
              intro v1 w1 hown1 hg1 hwh
              have hb2 : Below w.heap.size w w1 := (hbel.alloc hsz _).grown hg1 (by simp; omega) HBL.out
              have hO1 := (HOW.out.alloc (.cells #[.int .u8 (x : Int)] 5)).grown hg1 (sep_swap HSEP.out)
              have hS1 := sep_grp HOW.out HSEP.out (Nat.le_succ _) hwh
              have hl5 : (g ++ [x]).length = q + 1 := by rw [List.length_append, hlen, hq]; rfl
              have HO := Lib.hid hown1
              obtain ⟨A2, c2, rfl, hc2, hm2, hbs2⟩ := hown1.at_ hl5
              have HV := Lib.hid (val_next g _ x HVAL.out)
              have e5 : ((q : Int) + 1 == 5) = false := beq_eq_false_iff_ne.2 (by omega)
              have HO1 := Lib.hid hO1
              have HS1 := Lib.hid hS1
              unfold maxLen at hm2
              clear hg1 hwh hown1 hO1 hS1
              go_wp2
              exact ⟨⟨k + 1, ⟨s.out, s.used, next s.v x, s.nb + 1⟩, g ++ [x], by omega, by rw [← HGO.out, PlainDec.dgo_cons hroom HST.out], HI.out, hb2, HO1.out, HO.out, HS1.out, by rw [hl5, hq], HD'.out, HV.out, by simp, rfl⟩, by simp [intOf]; omega⟩
          · have ed : dig x = false := decide_eq_false hd
            have hst : dstep k x s = none := PlainDec.dstep_bad s (by omega) (fun e h0 => hz ⟨e, h0⟩)
            have hM : decM l flush = .bad k := by
              rw [← HGO.out]
              simp only [dgo]
              rw [if_neg (by omega), hst]
            have HM := Lib.hid hM
            clear hM hst
            by_cases hx : x = 122
            · subst hx
              have e0 : ((q : Int) == 0) = false := beq_eq_false_iff_ne.2 (by omega)
              go_wp2_with fail
              refine (skipped_any 122 gK wr).mono ?_
              rintro e w' ⟨rfl, rfl⟩
              rw [e32]
              go_wp2_with fail
              refine (isDigit_any 122 gK wr).mono ?_
              rintro e w' ⟨rfl, rfl⟩
              rw [ed]
              go_wp2
              refine bodyPost_ret (results_three rfl _ _ _) rfl ?_
              rw [HM.out]
              exact ⟨_, _, rfl, fun o u' h => (by cases h), hbel⟩
            · have hne : ((x : Int) == 122) = false := beq_eq_false_iff_ne.2 (by omega)
              go_wp2_with fail
              refine (skipped_any x gK wr).mono ?_
              rintro e w' ⟨rfl, rfl⟩
              rw [e32]
              go_wp2_with fail
              refine (isDigit_any x gK wr).mono ?_
              rintro e w' ⟨rfl, rfl⟩
              rw [ed]
              go_wp2
              refine bodyPost_ret (results_three rfl _ _ _) rfl ?_
              rw [HM.out]
              exact ⟨_, _, rfl, fun o u' h => (by cases h), hbel⟩
    · have hke : k = l.length := by omega
      subst hke
      rw [List.drop_length] at hgo
      have hM : decM l flush = dend l.length flush s := hgo.symm
      obtain ⟨q, hq⟩ : ∃ q, s.nb = q := ⟨_, rfl⟩
      obtain ⟨Ag, cg, rfl, hcg, hmg, hbg⟩ := hgrp.at_ (hlen.trans hq)
      unfold maxLen at hmg
      have HOW := Lib.hid hown
      have HBL := Lib.hid hown.block
      have HDIG := Lib.hid hdig
      have HVAL := Lib.hid hval
      cases flush with
      | false =>
        have HM := Lib.hid (hM.trans (show dend l.length false s = .ok s.out s.used from rfl))
        clear hM hgo hgrp hown hsep hdig hval hinv
        go_wp2
        refine bodyPost_ret (results_three rfl _ _ _) rfl ?_
        rw [HM.out]
        exact ⟨_, _, rfl, fun o u' h => by injection h with h1 h2; subst h1; subst h2; exact ⟨rfl, HOW.out⟩, hbel⟩
      | true =>
        by_cases h0 : q = 0
        · subst h0
          have HM := Lib.hid (hM.trans (show dend l.length true s = .ok s.out l.length by unfold dend; rw [if_pos rfl, if_pos hq]))
          clear hM hgo hgrp hown hsep hdig hval hinv
          go_wp2
          refine bodyPost_ret (results_three rfl _ _ _) rfl ?_
          rw [HM.out]
          exact ⟨_, _, rfl, fun o u' h => by injection h with h1 h2; subst h1; subst h2; exact ⟨rfl, HOW.out⟩, hbel⟩
        · by_cases h1 : q = 1
          · subst h1
            have HM := Lib.hid (hM.trans (show dend l.length true s = .bad l.length by unfold dend; rw [if_pos rfl, if_neg (by omega), if_pos hq]))
            clear hM hgo hgrp hown hsep hdig hval hinv
            go_wp2
            refine bodyPost_ret (results_three rfl _ _ _) rfl ?_
            rw [HM.out]
            exact ⟨_, _, rfl, fun o u' h => (by cases h), hbel⟩
          · have hpv : val85 (pad85 g) % 4294967296 = padv s.v (5 - q) := by
              rw [pad85_eq g (by omega), hlen, hq]; exact padv_val _ g _ hval
            have HM := Lib.hid (hM.trans (show dend l.length true s = .ok (s.out ++ (be4 (val85 (pad85 g) % 4294967296)).take (q - 1)) l.length by unfold dend; rw [if_pos rfl, if_neg (by omega), if_neg (by omega), hpv, hq]))
            have e0 : ((q : Int) == 0) = false := beq_eq_false_iff_ne.2 (by omega)
            have e1 : ((q : Int) == 1) = false := beq_eq_false_iff_ne.2 (by omega)
            have hpd := pad85_dig g hdig
            have hV64 := val85_lt64 (pad85 g) hpd (by rw [pad85_length]; omega)
            have HPD := Lib.hid hpd
            clear hM hgo hgrp hown hsep hdig hval hinv hpv hpd
            go_wp2_with fail
            refine (padded_any Ag q cg g wr wr.heap.size (Nat.le_refl _) (by omega) hbg).mono ?_
            rintro e w1 ⟨A1, c1, rfl, hbs1, hb1⟩
            have hO1 := HOW.out.below hb1
            have hb2 : Below w.heap.size w w1 := hbel.trans (hb1.mono hsz)
            clear hb1
            go_wp2_with fail
            refine (value85_any A1 5 c1 (pad85 g) w1 w1.heap.size (by omega) HPD.out hbs1).mono ?_
            rintro e w' ⟨rfl, rfl⟩
            obtain ⟨V, hV⟩ : ∃ V, val85 (pad85 g) = V := ⟨_, rfl⟩
            rw [hV] at hV64 HM ⊢
            clear hV
            go_wp2_with fail
            refine (bytes4_any V hV64 w1).mono ?_
            rintro e w2 ⟨v2, rfl, hv2, hb3⟩
            obtain ⟨A3, c3, rfl, hc3, hm3, hbs3⟩ := hv2.at_ (PlainDec.be4_length _)
            have hO2 := hO1.below hb3
            have hb4 : Below w.heap.size w w2 := hb2.trans (hb3.mono hb2.size)
            have hsz4 := hb4.size
            have hbs4 := hbs3.take (k := q - 1) (by omega)
            have esub : (q : Int) - 1 = ((q - 1 : Nat) : Int) := by omega
            unfold maxLen at hm3
            clear hb3 hv2 hO1
            go_wp2_with (at_builtin; refine wpList_append_bytes _ (o := ⟨some 71, _, _, _, _, _⟩) rfl _ _ rfl w.heap.size _ s.out rfl hO2 w2.heap.size A3 (q - 1) c3 ((be4 (V % 4294967296)).take (q - 1)) rfl hbs4 (by omega) hsz4 ?_)
            intro v3 w3 hown3 hg3 _
            have hb5 : Below w.heap.size w w3 := hb4.grown hg3 hsz4 HBL.out
            clear hg3 hO2
            go_wp2
            refine bodyPost_ret (results_three rfl _ _ _) rfl ?_
            rw [HM.out]
            exact ⟨_, _, rfl, fun o u' h => by injection h with h1 h2; subst h1; subst h2; exact ⟨rfl, hown3⟩, hb5⟩

end Go.Proofs.YthhbcnjbnfjiiaaDoor

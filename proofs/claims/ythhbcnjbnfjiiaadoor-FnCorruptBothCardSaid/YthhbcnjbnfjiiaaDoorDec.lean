/-
  The walk of ascii85.Decode: it answers as the plain model says, and only the destination has turned. Conditions: the source reads as a list and lies outside the destination's block, or below or above it there.
-/
import Derived.Test.YthhbcnjbnfjiiaaDoorProg
import Derived.Test.YthhbcnjbnfjiiaaDoorWords
import Derived.Test.YthhbcnjbnfjiiaaDoorPlainDec
import Derived.LoopTactic
import Derived.Outline
import Derived.Deep.DeepCutAuto
import Derived.WalkSpells
import Derived.WalkLawsBesides
import Derived.Lib.Hide
import Derived.Handy
namespace Go.Proofs.YthhbcnjbnfjiiaaDoor
open Go.RowKit
open PlainDec (DS DR be4 next dstep padv dend dgo Inv)

structure DecR (w : World) (bd od ld M : Nat) (T : TypeId) (f : Nat → Value) (l : List Nat) (flush : Bool) (R : DR) (i ndst nsrc v nb er : Value) (wr : World) (k : Nat) (s : DS) (f' : Nat → Value) : Prop where
  kl : k ≤ l.length
  go : dgo ld flush l.length (l.drop k) k s = R
  inv : Inv ld k s
  row : wr.rowIs bd T M f'
  only : Only bd w wr
  out : ∀ j, j < od ∨ od + ld ≤ j → f' j = f j
  txt : ∀ j, j < s.out.length → f' (od + j) = .int .u8 ((s.out.getD j 0 : Nat) : Int)
  ei : i = .int .i64 (k : Int)
  en : ndst = .int .i64 ((s.out.length : Nat) : Int)
  es : nsrc = .int .i64 (s.used : Int)
  ev : v = .int .u32 (s.v : Int)
  eb : nb = .int .i64 (s.nb : Int)
  ee : er = .nilIface
def DecRel (w : World) (bd od ld M : Nat) (T : TypeId) (f : Nat → Value) (l : List Nat) (flush : Bool) (R : DR) (i ndst nsrc v nb er : Value) (wr : World) : Prop :=
  ∃ k s f', DecR w bd od ld M T f l flush R i ndst nsrc v nb er wr k s f'

def DecPost (w : World) (bd od ld M : Nat) (T : TypeId) (f : Nat → Value) (R : DR) (e : Ending) (w' : World) : Prop :=
  ∃ f', w'.rowIs bd T M f' ∧ Only bd w w' ∧ (∀ j, j < od ∨ od + ld ≤ j → f' j = f j) ∧
    match R with
    | .bad a => e = .returned (.tuple #[.int .i64 0, .int .i64 0, .iface 63 (.int .i64 (a : Int))])
    | .ok out used => e = .returned (.tuple #[.int .i64 ((out.length : Nat) : Int), .int .i64 (used : Int), .nilIface]) ∧ (∀ x ∈ out, x < 256) ∧ out.length ≤ ld ∧ ∀ j, j < out.length → f' (od + j) = .int .u8 ((out.getD j 0 : Nat) : Int)

def srcFree (bd od ld : Nat) (A : Option Addr) (n : Nat) : Prop := 0 < n → ∀ b o, A = some ⟨b, o, none⟩ → b = bd → o + n ≤ od ∨ od + ld ≤ o

/-- Four stores, upwards. -/
theorem four_up {w wr : World} {bd M : Nat} {T : TypeId} {f' : Nat → Value} (h : wr.rowIs bd T M f') (ho : Only bd w wr) (od p : Nat) (u0 u1 u2 u3 : Value) :
    ∃ f1, ((((wr.setCell ⟨bd, od + p, none⟩ u0).setCell ⟨bd, od + (p + 1), none⟩ u1).setCell ⟨bd, od + (p + 2), none⟩ u2).setCell ⟨bd, od + (p + 3), none⟩ u3).rowIs bd T M f1 ∧
      Only bd w ((((wr.setCell ⟨bd, od + p, none⟩ u0).setCell ⟨bd, od + (p + 1), none⟩ u1).setCell ⟨bd, od + (p + 2), none⟩ u2).setCell ⟨bd, od + (p + 3), none⟩ u3) ∧
      (∀ i, i < od + p ∨ od + p + 4 ≤ i → f1 i = f' i) ∧ f1 (od + p) = u0 ∧ f1 (od + p + 1) = u1 ∧ f1 (od + p + 2) = u2 ∧ f1 (od + p + 3) = u3 :=
  ⟨_, (((h.set (od + p) u0).set (od + (p + 1)) u1).set (od + (p + 2)) u2).set (od + (p + 3)) u3, (((ho.set (od + p) u0).set (od + (p + 1)) u1).set (od + (p + 2)) u2).set (od + (p + 3)) u3, fun i hi => by
    rw [if_neg (by omega), if_neg (by omega), if_neg (by omega), if_neg (by omega)], by simp, by simp [Nat.add_assoc], by simp [Nat.add_assoc], by simp [Nat.add_assoc]⟩

theorem drop_cons (l : List Nat) (k : Nat) (h : k < l.length) : l.drop k = l.getD k 0 :: l.drop (k + 1) := by
  rw [List.drop_eq_getElem_cons h, List.getD_eq_getElem?_getD, List.getElem?_eq_getElem h]; rfl

/-- What lies outside the destination reads as it did. -/
theorem src_kept' {w wr : World} {bd od ld M : Nat} {T : TypeId} {f f' : Nat → Value} (h : w.rowIs bd T M f) (h' : wr.rowIs bd T M f') (ho : Only bd w wr) (hout : ∀ i, i < od ∨ od + ld ≤ i → f' i = f i) {b o : Nat} {v : Value}
    (hc : w.cell? ⟨b, o, none⟩ = some v) (hd : b = bd → o < od ∨ od + ld ≤ o) : wr.cell? ⟨b, o, none⟩ = some v := by
  by_cases e : b = bd
  · subst e
    have hlt : o < M := by
      rcases Nat.lt_or_ge o M with h1 | h1
      · exact h1
      · obtain ⟨cs, hb, hs, _⟩ := h
        simp [World.cell?, hb, Array.getElem?_eq_none (show cs.size ≤ o by omega)] at hc
    rw [h.cell hlt] at hc
    rw [h'.cell hlt, hout o (hd rfl)]
    exact hc
  · rw [ho.cell e]; exact hc

/-- A round that writes four bytes. -/
theorem dec_round {w wr : World} {bd od ld M : Nat} {T : TypeId} {f f' : Nat → Value} {l : List Nat} {flush : Bool} {R : DR} {k : Nat} {out g : List Nat} {u0 u1 u2 u3 : Value}
    (hkl : k < l.length) (hrow : wr.rowIs bd T M f') (honly : Only bd w wr) (hout : ∀ j, j < od ∨ od + ld ≤ j → f' j = f j) (htxt : ∀ j, j < out.length → f' (od + j) = .int .u8 ((out.getD j 0 : Nat) : Int))
    (hroom : out.length + 4 ≤ ld) (hinv : Inv ld (k + 1) ⟨out ++ g, k + 1, 0, 0⟩) (hgo : dgo ld flush l.length (l.drop (k + 1)) (k + 1) ⟨out ++ g, k + 1, 0, 0⟩ = R) (hg : g.length = 4)
    (e0 : u0 = .int .u8 ((g.getD 0 0 : Nat) : Int)) (e1 : u1 = .int .u8 ((g.getD 1 0 : Nat) : Int)) (e2 : u2 = .int .u8 ((g.getD 2 0 : Nat) : Int)) (e3 : u3 = .int .u8 ((g.getD 3 0 : Nat) : Int)) :
    DecRel w bd od ld M T f l flush R (.int .i64 ((k : Int) + 1)) (.int .i64 ((out.length : Int) + 4)) (.int .i64 ((k : Int) + 1)) (.int .u32 0) (.int .i64 0) .nilIface
      ((((wr.setCell ⟨bd, od + out.length, none⟩ u0).setCell ⟨bd, od + (out.length + 1), none⟩ u1).setCell ⟨bd, od + (out.length + 2), none⟩ u2).setCell ⟨bd, od + (out.length + 3), none⟩ u3) := by
  obtain ⟨f1, hrow1, honly1, hf1, a0, a1, a2, a3⟩ := four_up hrow honly od out.length u0 u1 u2 u3
  refine ⟨k + 1, ⟨out ++ g, k + 1, 0, 0⟩, f1, by omega, hgo, hinv, hrow1, honly1, fun j hj => ?_, fun j hj => ?_, by simp, by simp [hg], by simp, rfl, rfl, rfl⟩
  · rw [hf1 j (by omega), hout j hj]
  · simp only [List.length_append, hg] at hj
    simp only
    rw [List.getD_eq_getElem?_getD, List.getElem?_append]
    by_cases hlt : j < out.length
    · rw [if_pos hlt, ← List.getD_eq_getElem?_getD, hf1 _ (by omega), htxt j hlt]
    · rw [if_neg hlt, ← List.getD_eq_getElem?_getD]
      obtain ⟨q, rfl⟩ : ∃ q, j = out.length + q := ⟨j - out.length, by omega⟩
      rw [Nat.add_sub_cancel_left, ← Nat.add_assoc]
      match q, (show q < 4 by omega) with
      | 0, _ => rw [Nat.add_zero, a0, e0]
      | 1, _ => rw [a1, e1]
      | 2, _ => rw [a2, e2]
      | 3, _ => rw [a3, e3]

theorem dval_u8 {a b : Int} (h : a = b) : Value.int .u8 a = .int .u8 b := by rw [h]
theorem dval_u32 {a b : Int} (h : a = b) : Value.int .u32 a = .int .u32 b := by rw [h]
theorem next_val (v x : Nat) (h : 33 ≤ x) : ((v : Int) * 85 % 4294967296 + ((x : Int) - 33)) % 4294967296 = ((next v x : Nat) : Int) := by unfold next; omega
theorem be4_0 (v x : Nat) (h : 33 ≤ x) : ((v : Int) * 85 + ((x : Int) - 33)) % 4294967296 / 16777216 = (((be4 (next v x)).getD 0 0 : Nat) : Int) := by
  show _ = (((next v x) / 16777216 : Nat) : Int); unfold next; omega
theorem be4_1 (v x : Nat) (h : 33 ≤ x) : ((v : Int) * 85 + ((x : Int) - 33)) % 4294967296 / 65536 % 256 = (((be4 (next v x)).getD 1 0 : Nat) : Int) := by
  show _ = (((next v x) / 65536 % 256 : Nat) : Int); unfold next; omega
theorem be4_2 (v x : Nat) (h : 33 ≤ x) : ((v : Int) * 85 + ((x : Int) - 33)) % 4294967296 / 256 % 256 = (((be4 (next v x)).getD 2 0 : Nat) : Int) := by
  show _ = (((next v x) / 256 % 256 : Nat) : Int); unfold next; omega
theorem be4_3 (v x : Nat) (h : 33 ≤ x) : ((v : Int) * 85 + ((x : Int) - 33)) % 256 = (((be4 (next v x)).getD 3 0 : Nat) : Int) := by
  show _ = (((next v x) % 256 : Nat) : Int); unfold next; omega

theorem pad3 (v : Nat) : ((((v : Int) * 85 + 84) % 4294967296 * 85 + 84) % 4294967296 * 85 % 4294967296 + 84) % 4294967296 = ((padv v 3 : Nat) : Int) := by simp only [padv]; omega
theorem pad2 (v : Nat) : (((v : Int) * 85 + 84) % 4294967296 * 85 % 4294967296 + 84) % 4294967296 = ((padv v 2 : Nat) : Int) := by simp only [padv]; omega
theorem pad1 (v : Nat) : ((v : Int) * 85 % 4294967296 + 84) % 4294967296 = ((padv v 1 : Nat) : Int) := by simp only [padv]; omega

/-- The bytes of the rest. -/
theorem dec_tail {w w1 : World} {bd od ld M : Nat} {T : TypeId} {f f' f1 : Nat → Value} {out : List Nat} {V m n : Nat} {nd : Int}
    (hrow1 : w1.rowIs bd T M f1) (honly1 : Only bd w w1) (hout : ∀ j, j < od ∨ od + ld ≤ j → f' j = f j) (htxt : ∀ j, j < out.length → f' (od + j) = .int .u8 ((out.getD j 0 : Nat) : Int)) (hby : ∀ x ∈ out, x < 256)
    (hV : V < 4294967296) (hroom : out.length + 4 ≤ ld) (hm : m ≤ 3) (hf1 : ∀ i, i < od + out.length ∨ od + out.length + m ≤ i → f1 i = f' i)
    (hb : ∀ j, j < m → f1 (od + out.length + j) = .int .u8 (((be4 V).getD j 0 : Nat) : Int)) (hnd : nd = (out.length : Int) + (m : Int)) :
    DecPost w bd od ld M T f (.ok (out ++ (be4 V).take m) n) (.returned (.tuple #[.int .i64 nd, .int .i64 (n : Int), .nilIface])) w1 := by
  have hlen : (out ++ (be4 V).take m).length = out.length + m := by rw [List.length_append, List.length_take, PlainDec.be4_length]; omega
  refine ⟨f1, hrow1, honly1, fun j hj => by rw [hf1 j (by omega), hout j hj], ?_⟩
  show _ ∧ _ ∧ _ ∧ _
  refine ⟨by rw [hlen, hnd]; simp, fun x hx => ?_, by rw [hlen]; omega, fun j hj => ?_⟩
  · rcases List.mem_append.1 hx with hx | hx
    · exact hby x hx
    · exact PlainDec.be4_lt V hV x (List.mem_of_mem_take hx)
  · rw [hlen] at hj
    rw [List.getD_eq_getElem?_getD, List.getElem?_append]
    by_cases hlt : j < out.length
    · rw [if_pos hlt, ← List.getD_eq_getElem?_getD, hf1 _ (by omega), htxt j hlt]
    · obtain ⟨q, rfl⟩ : ∃ q, j = out.length + q := ⟨j - out.length, by omega⟩
      rw [if_neg hlt, Nat.add_sub_cancel_left, List.getElem?_take, if_pos (by omega), ← List.getD_eq_getElem?_getD, ← Nat.add_assoc]
      exact hb q (by omega)
theorem tb0 (V : Nat) : (V : Int) / 16777216 = (((be4 V).getD 0 0 : Nat) : Int) := by show _ = ((V / 16777216 : Nat) : Int); omega
theorem tb1 (V : Nat) (_h : V < 4294967296) : (V : Int) * 256 % 4294967296 / 16777216 = (((be4 V).getD 1 0 : Nat) : Int) := by show _ = ((V / 65536 % 256 : Nat) : Int); omega
theorem tb2 (V : Nat) (_h : V < 4294967296) : (V : Int) * 256 % 4294967296 * 256 % 4294967296 / 16777216 = (((be4 V).getD 2 0 : Nat) : Int) := by show _ = ((V / 256 % 256 : Nat) : Int); omega

set_option maxRecDepth 100000 in
set_option maxHeartbeats 2000000 in
theorem decode_any (bd od ld cd M : Nat) (T : TypeId) (f : Nat → Value) (A : Option Addr) (n c : Nat) (l : List Nat) (flush : Bool) (w : World) (B : Nat)
    (hrow : w.rowIs bd T M f) (hfit : od + ld ≤ M) (hlc : ld ≤ cd) (hcm : cd ≤ maxLen) (hl : BS w B A n l) (hnc : n ≤ c) (hcc : c ≤ maxLen) (hdis : srcFree bd od ld A n) :
    Calls Tryd.prog 25 #[.slice (some ⟨bd, od, none⟩) ld cd, .slice A n c, .bool flush] w fun e w' => DecPost w bd od ld M T f (dgo ld flush l.length l 0 PlainDec.init) e w' := by
  unfold maxLen at hcm hcc
  obtain rfl : l.length = n := hl.len
  obtain ⟨R, hR⟩ : ∃ R, dgo ld flush l.length l 0 PlainDec.init = R := ⟨_, rfl⟩
  rw [hR]
  have HR := Lib.hid hR
  have HDIS := Lib.hid hdis
  clear hR hdis
  go_enter Tryd.func25, Tryd.ntmps25
  go_wp2
  go_loopw [17, 6, 7, 9, 10, 8] (fun i ndst nsrc v nb er wr => DecRel w bd od ld M T f l flush R i ndst nsrc v nb er wr) (fun i _ _ _ _ _ _ => l.length - (intOf i).toNat)
  case atStart => exact ⟨0, PlainDec.init, f, ⟨Nat.zero_le _, by simpa using HR.out, PlainDec.inv_init _, hrow, Only.refl _ _, fun _ _ => rfl, fun j hj => by simp [PlainDec.init] at hj, rfl, rfl, rfl, rfl, rfl, rfl⟩⟩
  case round =>
    obtain ⟨k, s, f', hkl, hgo, hinv, hrow', honly, hout, htxt, rfl, rfl, rfl, rfl, rfl, rfl⟩ := hrel
    obtain ⟨out, used, v, nb⟩ := s
    have hnb := hinv.nb
    have hv := hinv.v
    have hfits := hinv.fits
    have hused := hinv.used
    simp only at hnb hv hfits hused htxt
    by_cases hlt : k < l.length
    · obtain ⟨b, o, rfl, hbB, hl⟩ := hl.open_ (by omega)
      have cX := src_kept' hrow hrow' honly hout (hl.cell hlt) (fun e => by have := HDIS.out (by omega) b o rfl e; omega)
      have gX := getD_lt hl.lt k
      rw [drop_cons l k hlt] at hgo
      simp only [dgo] at hgo
      generalize l.getD k 0 = x at *
      have HOUT := Lib.hid hout
      have HTXT := Lib.hid htxt
      clear hout htxt HR
      by_cases hfull : ld < out.length + 4
      · rw [if_pos hfull] at hgo
        have HGO := Lib.hid hgo
        clear hgo
        go_wp2
        go_ret3
        refine ⟨f', hrow', honly, HOUT.out, ?_⟩
        rw [← HGO.out]
        exact ⟨rfl, hinv.bytes, hfits, HTXT.out⟩
      · rw [if_neg hfull] at hgo
        by_cases h32 : x ≤ 32
        · have hs := PlainDec.dstep_skip (k := k) ⟨out, used, v, nb⟩ h32
          rw [hs] at hgo
          have HGO := Lib.hid hgo
          have HS := Lib.hid hs
          clear hgo hs
          go_wp2
          exact ⟨⟨k + 1, _, f', by omega, HGO.out, PlainDec.inv_step hinv (by simp only; omega) HS.out, hrow', honly, HOUT.out, HTXT.out, by simp, rfl, rfl, rfl, rfl, rfl⟩, by simp [intOf]; omega⟩
        · have t32 : decide ((x : Int) ≤ 32) = false := decide_eq_false (by omega)
          have hfr := hrow'.frozen
          have g0 := hrow'.cell (i := od + out.length) (by omega)
          have g1 := hrow'.cell (i := od + (out.length + 1)) (by omega)
          have g2 := hrow'.cell (i := od + (out.length + 2)) (by omega)
          have g3 := hrow'.cell (i := od + (out.length + 3)) (by omega)
          by_cases hz : x = 122
          · subst hz
            by_cases hn0 : nb = 0
            · subst hn0
              have hs := PlainDec.dstep_z (k := k) ⟨out, used, v, 0⟩ rfl
              have hinv' := PlainDec.inv_step hinv (by simp only; omega) hs
              rw [hs] at hgo
              have HGO := Lib.hid hgo
              clear hgo hs
              go_wp2
              exact ⟨dec_round hlt hrow' honly HOUT.out HTXT.out (by omega) hinv' HGO.out rfl rfl rfl rfl rfl, by simp [intOf]; omega⟩
            · have hs := PlainDec.dstep_bad (k := k) (x := 122) ⟨out, used, v, nb⟩ (by decide) (fun _ => hn0)
              rw [hs] at hgo
              have HGO := Lib.hid hgo
              have tn : ((nb : Int) == 0) = false := beq_eq_false_iff_ne.2 (by omega)
              clear hgo hs
              go_wp2
              go_ret3
              refine ⟨f', hrow', honly, HOUT.out, ?_⟩
              rw [← HGO.out]
              exact rfl
          · have tz : ((x : Int) == 122) = false := beq_eq_false_iff_ne.2 (by omega)
            by_cases hd : x ≤ 117
            · have d1 : decide (33 ≤ (x : Int)) = true := decide_eq_true (by omega)
              have d2 : decide ((x : Int) ≤ 117) = true := decide_eq_true (by omega)
              by_cases h4 : nb = 4
              · subst h4
                have hs := PlainDec.dstep_four (k := k) (x := x) ⟨out, used, v, 4⟩ (by omega) hd rfl
                have hinv' := PlainDec.inv_step hinv (by simp only; omega) hs
                rw [hs] at hgo
                have HGO := Lib.hid hgo
                clear hgo hs
                go_wp2
                exact ⟨dec_round hlt hrow' honly HOUT.out HTXT.out (by omega) hinv' HGO.out rfl (dval_u8 (be4_0 v x (by omega))) (dval_u8 (be4_1 v x (by omega))) (dval_u8 (be4_2 v x (by omega))) (dval_u8 (be4_3 v x (by omega))), by simp [intOf]; omega⟩
              · have hs := PlainDec.dstep_digit (k := k) (x := x) ⟨out, used, v, nb⟩ (by omega) hd h4
                have hinv' := PlainDec.inv_step hinv (by simp only; omega) hs
                rw [hs] at hgo
                have HGO := Lib.hid hgo
                have t5 : ((nb : Int) + 1 == 5) = false := beq_eq_false_iff_ne.2 (by omega)
                clear hgo hs
                go_wp2
                exact ⟨⟨k + 1, _, f', by omega, HGO.out, hinv', hrow', honly, HOUT.out, HTXT.out, by simp, rfl, rfl, dval_u32 (next_val v x (by omega)), by simp, rfl⟩, by simp [intOf]; omega⟩
            · have d1 : decide (33 ≤ (x : Int)) = true := decide_eq_true (by omega)
              have d2 : decide ((x : Int) ≤ 117) = false := decide_eq_false (by omega)
              have hs := PlainDec.dstep_bad (k := k) (x := x) ⟨out, used, v, nb⟩ (by omega) (fun h => absurd h hz)
              rw [hs] at hgo
              have HGO := Lib.hid hgo
              clear hgo hs
              go_wp2
              go_ret3
              refine ⟨f', hrow', honly, HOUT.out, ?_⟩
              rw [← HGO.out]
              exact rfl
    · obtain rfl : k = l.length := by omega
      rw [List.drop_of_length_le (Nat.le_refl _)] at hgo
      simp only [dgo] at hgo
      have HOUT := Lib.hid hout
      have HTXT := Lib.hid htxt
      clear hout htxt HR
      cases flush with
      | false =>
        have HGO := Lib.hid hgo
        clear hgo
        go_wp2
        go_ret3
        refine ⟨f', hrow', honly, HOUT.out, ?_⟩
        rw [← HGO.out]
        exact ⟨rfl, hinv.bytes, hfits, HTXT.out⟩
      | true =>
        simp only [dend, if_true] at hgo
        obtain h0 | h0 | h0 | h0 | h0 : nb = 0 ∨ nb = 1 ∨ nb = 2 ∨ nb = 3 ∨ nb = 4 := by omega
        · subst h0
          have HGO := Lib.hid hgo
          clear hgo
          go_wp2
          go_ret3
          refine ⟨f', hrow', honly, HOUT.out, ?_⟩
          rw [← HGO.out]
          exact ⟨rfl, hinv.bytes, hfits, HTXT.out⟩
        · subst h0
          have HGO := Lib.hid hgo
          clear hgo
          go_wp2
          go_ret3
          refine ⟨f', hrow', honly, HOUT.out, ?_⟩
          rw [← HGO.out]
          exact rfl
        · subst h0
          have hlf := hinv.left (by simp)
          simp only at hlf
          have HGO := Lib.hid hgo
          clear hgo
          have hfr := hrow'.frozen
          have g0 := hrow'.cell (i := od + out.length) (by omega)
          go_wp2
          go_rounds 4
          rw [pad3 v]
          obtain ⟨V, hV⟩ : ∃ V, padv v 3 = V := ⟨_, rfl⟩
          have hV32 : V < 4294967296 := by rw [← hV]; exact PlainDec.padv_lt _ _ hv
          rw [hV]
          have HV := Lib.hid hV
          clear hV
          go_rounds 2
          go_ret3
          have hr1 := (hrow'.set (od + out.length) (.int .u8 ((V : Int) / 16777216)))
          have ho1 := (honly.set (od + out.length) (.int .u8 ((V : Int) / 16777216)))
          have fin := dec_tail (f := f) (f' := f') (V := V) (m := 1) (n := l.length) (nd := (out.length : Int) + 1) hr1 ho1 HOUT.out HTXT.out hinv.bytes hV32 hlf (by omega)
            (fun i hi => by rw [if_neg (by omega)])
            (fun j hj => by
              match j, hj with
              | 0, _ => rw [← dval_u8 (tb0 V)]; simp) rfl
          have hR : R = .ok (out ++ (be4 V).take 1) l.length := by rw [← HGO.out, ← HV.out]; rfl
          rw [hR]
          exact fin
        · subst h0
          have hlf := hinv.left (by simp)
          simp only at hlf
          have HGO := Lib.hid hgo
          clear hgo
          have hfr := hrow'.frozen
          have g0 := hrow'.cell (i := od + out.length) (by omega)
          have g1 := hrow'.cell (i := od + (out.length + 1)) (by omega)
          go_wp2
          go_rounds 3
          rw [pad2 v]
          obtain ⟨V, hV⟩ : ∃ V, padv v 2 = V := ⟨_, rfl⟩
          have hV32 : V < 4294967296 := by rw [← hV]; exact PlainDec.padv_lt _ _ hv
          rw [hV]
          have HV := Lib.hid hV
          clear hV
          go_rounds 3
          go_ret3
          have hr1 := ((hrow'.set (od + out.length) (.int .u8 ((V : Int) / 16777216))).set (od + (out.length + 1)) (.int .u8 ((V : Int) * 256 % 4294967296 / 16777216)))
          have ho1 := ((honly.set (od + out.length) (.int .u8 ((V : Int) / 16777216))).set (od + (out.length + 1)) (.int .u8 ((V : Int) * 256 % 4294967296 / 16777216)))
          have fin := dec_tail (f := f) (f' := f') (V := V) (m := 2) (n := l.length) (nd := (out.length : Int) + 2) hr1 ho1 HOUT.out HTXT.out hinv.bytes hV32 hlf (by omega)
            (fun i hi => by rw [if_neg (by omega), if_neg (by omega)])
            (fun j hj => by
              match j, hj with
              | 0, _ => rw [← dval_u8 (tb0 V)]; simp
              | 1, _ => rw [← dval_u8 (tb1 V hV32)]; simp [Nat.add_assoc]) rfl
          have hR : R = .ok (out ++ (be4 V).take 2) l.length := by rw [← HGO.out, ← HV.out]; rfl
          rw [hR]
          exact fin
        · subst h0
          have hlf := hinv.left (by simp)
          simp only at hlf
          have HGO := Lib.hid hgo
          clear hgo
          have hfr := hrow'.frozen
          have g0 := hrow'.cell (i := od + out.length) (by omega)
          have g1 := hrow'.cell (i := od + (out.length + 1)) (by omega)
          have g2 := hrow'.cell (i := od + (out.length + 2)) (by omega)
          go_wp2
          go_rounds 2
          rw [pad1 v]
          obtain ⟨V, hV⟩ : ∃ V, padv v 1 = V := ⟨_, rfl⟩
          have hV32 : V < 4294967296 := by rw [← hV]; exact PlainDec.padv_lt _ _ hv
          rw [hV]
          have HV := Lib.hid hV
          clear hV
          go_rounds 4
          go_ret3
          have hr1 := (((hrow'.set (od + out.length) (.int .u8 ((V : Int) / 16777216))).set (od + (out.length + 1)) (.int .u8 ((V : Int) * 256 % 4294967296 / 16777216))).set (od + (out.length + 2)) (.int .u8 ((V : Int) * 256 % 4294967296 * 256 % 4294967296 / 16777216)))
          have ho1 := (((honly.set (od + out.length) (.int .u8 ((V : Int) / 16777216))).set (od + (out.length + 1)) (.int .u8 ((V : Int) * 256 % 4294967296 / 16777216))).set (od + (out.length + 2)) (.int .u8 ((V : Int) * 256 % 4294967296 * 256 % 4294967296 / 16777216)))
          have fin := dec_tail (f := f) (f' := f') (V := V) (m := 3) (n := l.length) (nd := (out.length : Int) + 3) hr1 ho1 HOUT.out HTXT.out hinv.bytes hV32 hlf (by omega)
            (fun i hi => by rw [if_neg (by omega), if_neg (by omega), if_neg (by omega)])
            (fun j hj => by
              match j, hj with
              | 0, _ => rw [← dval_u8 (tb0 V)]; simp
              | 1, _ => rw [← dval_u8 (tb1 V hV32)]; simp [Nat.add_assoc]
              | 2, _ => rw [← dval_u8 (tb2 V hV32)]; simp [Nat.add_assoc]) rfl
          have hR : R = .ok (out ++ (be4 V).take 3) l.length := by rw [← HGO.out, ← HV.out]; rfl
          rw [hR]
          exact fin

end Go.Proofs.YthhbcnjbnfjiiaaDoor

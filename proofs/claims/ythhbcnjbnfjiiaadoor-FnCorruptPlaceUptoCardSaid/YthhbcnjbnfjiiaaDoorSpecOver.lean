/-
  The walk of spec.Overflows: it answers some Bool, and nothing that lay there before turns. Conditions: the text reads as a list of at most 2^40 bytes.
-/
import Derived.Test.YthhbcnjbnfjiiaaDoorSpecDec
namespace Go.Proofs.YthhbcnjbnfjiiaaDoor
open Go.RowKit

structure OvR (w : World) (l : List Nat) (i grp : Value) (wr : World) (k : Nat) (g : List Nat) : Prop where
  kl : k ≤ l.length
  bel : Below w.heap.size w wr
  ogr : Own wr w.heap.size grp g
  len : g.length ≤ 4
  dig : ∀ x ∈ g, 33 ≤ x ∧ x ≤ 117
  ei : i = .int .i64 (k : Int)
def OvRel (w : World) (l : List Nat) (i grp : Value) (wr : World) : Prop := ∃ k g, OvR w l i grp wr k g

set_option maxRecDepth 100000 in
set_option maxHeartbeats 2000000 in
theorem overflows_any (A : Option Addr) (n c : Nat) (l : List Nat) (flush : Bool) (w : World) (B : Nat) (hB : B ≤ w.heap.size) (hn : n ≤ 1099511627776) (hl : BS w B A n l) :
    Calls Tryd.prog 20 #[.slice A n c, .bool flush] w fun e w' => AnyBool e ∧ Below w.heap.size w w' := by
  obtain rfl : l.length = n := hl.len
  go_enter Tryd.func20, Tryd.ntmps20
  go_wp2_with fail
  go_loopw [11, 5] (fun i grp wr => OvRel w l i grp wr) (fun i _ _ => l.length - (intOf i).toNat)
  case atStart =>
    exact ⟨0, [], Nat.zero_le _, (Below.refl _ _).alloc (Nat.le_refl _) _, Own.empty w, by simp, by simp, rfl⟩
  case round =>
    obtain ⟨k, g, hR⟩ := hrel
    obtain ⟨hkl, hbel, hgrp, hlen, hdig, rfl⟩ := hR
    have hb' := hl.below (hbel.mono hB)
    have hsz := hbel.size
    obtain ⟨q, hq⟩ : ∃ q, g.length = q := ⟨_, rfl⟩
    obtain ⟨Ag, cg, rfl, hcg, hmg, hbg⟩ := hgrp.at_ hq
    unfold maxLen at hmg
    have HG := Lib.hid hgrp
    have HBL := Lib.hid hgrp.block
    have HDIG := Lib.hid hdig
    clear hgrp hdig
    by_cases hlt : k < l.length
    · obtain ⟨b1, o1, rfl, hb1, hb'⟩ := hb'.open_ (by omega)
      have cK := hb'.cell hlt
      have gK := getD_lt hl.lt k
      generalize l.getD k 0 = x at *
      by_cases hd : 33 ≤ x ∧ x ≤ 117
      · have ed : dig x = true := decide_eq_true hd
        have hdig' : ∀ y ∈ g ++ [x], 33 ≤ y ∧ y ≤ 117 := by
          intro y hy
          rcases List.mem_append.1 hy with hy | hy
          · exact HDIG.out y hy
          · simp at hy; omega
        have HD' := Lib.hid hdig'
        clear hdig'
        go_wp2_with fail
        refine (isDigit_any x gK wr).mono ?_
        rintro e w' ⟨rfl, rfl⟩
        rw [ed]
        go_wp2_with (at_builtin; refine wpList_append_bytes _ (o := ⟨some 20, _, _, _, _, _⟩) rfl _ _ rfl w.heap.size _ g rfl (HG.out.alloc _) (wr.heap.size + 1) (some ⟨wr.heap.size, 0, none⟩) 1 1 [x] rfl (BS.lit wr [x] (by simpa using gK)) (by omega) (by simp; omega) ?_)
        intro v1 w1 hown1 hg1 _
        have hb2 : Below w.heap.size w w1 := (hbel.alloc hsz _).grown hg1 (by simp; omega) HBL.out
        have hl5 : (g ++ [x]).length = q + 1 := by rw [List.length_append, hq]; rfl
        have HO := Lib.hid hown1
        obtain ⟨A2, c2, rfl, hc2, hm2, hbs2⟩ := hown1.at_ hl5
        unfold maxLen at hm2
        clear hg1 hown1
        by_cases h4 : q = 4
        · subst h4
          have hV64 := val85_lt64 (g ++ [x]) HD'.out (by omega)
          go_wp2_with fail
          refine (value85_any A2 5 c2 (g ++ [x]) w1 w1.heap.size (by omega) HD'.out hbs2).mono ?_
          rintro e w' ⟨rfl, rfl⟩
          obtain ⟨V, hV⟩ : ∃ V, val85 (g ++ [x]) = V := ⟨_, rfl⟩
          rw [hV] at hV64 ⊢
          clear hV
          by_cases hov : 4294967296 ≤ V
          · have eo : decide (4294967296 ≤ (V : Int)) = true := decide_eq_true (by omega)
            go_wp2
            go_ret
            exact ⟨⟨_, rfl⟩, hb2⟩
          · have eo : decide (4294967296 ≤ (V : Int)) = false := decide_eq_false (by omega)
            go_wp2
            exact ⟨⟨k + 1, [], by omega, hb2, Own.nil _ _, by simp, by simp, by simp⟩, by simp [intOf]; omega⟩
        · have e5 : ((q : Int) + 1 == 5) = false := beq_eq_false_iff_ne.2 (by omega)
          go_wp2
          exact ⟨⟨k + 1, g ++ [x], by omega, hb2, HO.out, by omega, HD'.out, by simp⟩, by simp [intOf]; omega⟩
      · have ed : dig x = false := decide_eq_false hd
        have e5 : ((q : Int) == 5) = false := beq_eq_false_iff_ne.2 (by omega)
        go_wp2_with fail
        refine (isDigit_any x gK wr).mono ?_
        rintro e w' ⟨rfl, rfl⟩
        rw [ed]
        go_wp2
        exact ⟨⟨k + 1, g, by omega, hbel, HG.out, by omega, HDIG.out, by simp⟩, by simp [intOf]; omega⟩
    · have hke : k = l.length := by omega
      subst hke
      cases flush with
      | false =>
        go_wp2
        go_ret
        exact ⟨⟨_, rfl⟩, hbel⟩
      | true =>
        by_cases h1 : 1 < q
        · have e1 : decide (1 < (q : Int)) = true := decide_eq_true (by omega)
          have hpd := pad85_dig g HDIG.out
          have hV64 := val85_lt64 (pad85 g) hpd (by rw [pad85_length]; omega)
          have HPD := Lib.hid hpd
          clear hpd
          go_wp2_with fail
          refine (padded_any Ag q cg g wr wr.heap.size (Nat.le_refl _) (by omega) hbg).mono ?_
          rintro e w1 ⟨A1, c1, rfl, hbs1, hb1⟩
          have hb2 : Below w.heap.size w w1 := hbel.trans (hb1.mono hsz)
          clear hb1
          go_wp2_with fail
          refine (value85_any A1 5 c1 (pad85 g) w1 w1.heap.size (by omega) HPD.out hbs1).mono ?_
          rintro e w' ⟨rfl, rfl⟩
          obtain ⟨V, hV⟩ : ∃ V, val85 (pad85 g) = V := ⟨_, rfl⟩
          rw [hV] at hV64 ⊢
          clear hV
          obtain ⟨bo, hbo⟩ : ∃ bo, decide (4294967296 ≤ (V : Int)) = bo := ⟨_, rfl⟩
          go_wp2
          go_ret
          exact ⟨⟨_, rfl⟩, hb2⟩
        · have e1 : decide (1 < (q : Int)) = false := decide_eq_false (by omega)
          go_wp2
          go_ret
          exact ⟨⟨_, rfl⟩, hbel⟩

end Go.Proofs.YthhbcnjbnfjiiaaDoor

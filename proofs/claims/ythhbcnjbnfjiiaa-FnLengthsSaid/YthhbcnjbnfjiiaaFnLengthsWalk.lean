/-
  The walk of the law FnLengths (in full): it returns true and changes nothing that was there. Proved: for every byte slice the law FnLengths returns true (how long a text is, of which signs it is made, and that it is never longer than the greatest length), and the argument reads afterwards as before. Conditions: none but those of the given row.
-/
import Derived.Test.YthhbcnjbnfjiiaaProg
import Derived.Test.YthhbcnjbnfjiiaaOpenArgs
import Derived.WalkKit
import Derived.Below
import Derived.WalkSmall
import Derived.Lib.Hide
import Derived.Test.YthhbcnjbnfjiiaaImplEnc
import Derived.LoopTactic
import Derived.Deep.DeepCutAuto
namespace Go.Proofs.Ythhbcnjbnfjiiaa.fnLengths
open Go.RowKit
set_option linter.unusedVariables false

open Plain85 (enc grp num4)
def LenRel (l : List Nat) (n i : Value) : Prop :=
  ∃ k m : Nat, 4 * k ≤ l.length ∧ (enc (l.take (4 * k))).length = m ∧ m ≤ 5 * k ∧ i = .int .i64 ((4 * k : Nat) : Int) ∧ n = .int .i64 (m : Int)
def LenCut (f : Bool) (w : World) (b : Value) (wx : World) : Prop := b = .bool f ∧ wx = w
def RngRel (L : Nat) (i : Value) : Prop := ∃ k : Nat, k ≤ L ∧ i = .int .i64 (k : Int)
theorem len_step (l : List Nat) (k m x0 x1 x2 x3 : Nat) (r : List Nat) (h : (enc (l.take (4 * k))).length = m) (h4 : 4 * k + 4 ≤ l.length) (hd : l.drop (4 * k) = x0 :: x1 :: x2 :: x3 :: r) :
    (enc (l.take (4 * (k + 1)))).length = m + (if num4 x0 x1 x2 x3 = 0 then 1 else 5) := by
  have hl : (l.take (4 * k)).length = 4 * k := by rw [List.length_take]; omega
  have e : l.take (4 * (k + 1)) = l.take (4 * k) ++ [x0, x1, x2, x3] := by
    rw [show 4 * (k + 1) = 4 * k + 4 by omega, List.take_add, hd]; rfl
  rw [e, Plain85.enc_append k _ _ hl, List.length_append, h, Plain85.enc_four, List.length_append, Plain85.grp_length]
  simp [enc]
theorem getD_drop (l : List Nat) (k j : Nat) : l.getD (k + j) 0 = (l.drop k).getD j 0 := by
  rw [List.getD_eq_getElem?_getD, List.getD_eq_getElem?_getD, List.getElem?_drop]
theorem val_i64' {a b : Int} (h : a = b) : Value.int .i64 a = .int .i64 b := by rw [h]

set_option maxRecDepth 100000 in
set_option maxHeartbeats 2000000 in
theorem walk (A0 : Option Addr) (n0 c0 : Nat) (l0 : List Nat) (w : World) (b0 : BS w w.heap.size A0 n0 l0) (nc0 : n0 ≤ c0) (r0 : c0 ≤ 140737488351232) :
    Calls Try.prog 9 #[.slice A0 n0 c0] w fun e w' => e = .returned (.bool true) ∧ Below w.heap.size w w' := by
  have hm : c0 ≤ maxLen := by unfold maxLen; omega
  by_cases hbig : 100000 < n0
  · go_enter Try.func9, Try.ntmps9
    go_wp2
    go_ret
    exact ⟨rfl, Below.refl _ _⟩
  · obtain rfl : l0.length = n0 := b0.len
    go_enter Try.func9, Try.ntmps9
    go_wp2
    go_loop [3, 4] (fun n i => LenRel l0 n i) (fun _ i => l0.length - (intOf i).toNat)
    case atStart => exact ⟨0, 0, Nat.zero_le _, rfl, Nat.zero_le _, rfl, rfl⟩
    case round =>
      obtain ⟨k, m, hk, hmm, hmk, rfl, rfl⟩ := hrel
      have HM := Lib.hid hmm
      clear hmm
      by_cases h4 : 4 * k + 4 ≤ l0.length
      · obtain ⟨x0, x1, x2, x3, r, hd⟩ := Plain85.four_of (l0.drop (4 * k)) (by rw [List.length_drop]; omega)
        obtain ⟨b, o, rfl, hbB, b0⟩ := b0.open_ (by omega)
        have g0 := b0.cell (i := 4 * k + 0) (by omega)
        have g1 := b0.cell (i := 4 * k + 1) (by omega)
        have g2 := b0.cell (i := 4 * k + 2) (by omega)
        have g3 := b0.cell (i := 4 * k + 3) (by omega)
        rw [getD_drop, hd] at g0 g1 g2 g3
        simp only [List.getD_cons_zero, List.getD_cons_succ, Nat.add_zero] at g0 g1 g2 g3
        have hst := len_step l0 k m x0 x1 x2 x3 r HM.out h4 hd
        have HST := Lib.hid hst
        clear hst hd
        have q1 : (4 * (k : Int) + 1).toNat = 4 * k + 1 := by omega
        have q2 : (4 * (k : Int) + 2).toNat = 4 * k + 2 := by omega
        have q3 : (4 * (k : Int) + 3).toNat = 4 * k + 3 := by omega
        go_upto_region 8 with (fail)
        go_cut [48] (fun b wx => LenCut (decide (num4 x0 x1 x2 x3 = 0)) w b wx)
        case first =>
          by_cases h0 : x0 = 0
          · subst h0
            by_cases h1 : x1 = 0
            · subst h1
              by_cases h2 : x2 = 0
              · subst h2
                by_cases h3 : x3 = 0
                · subst h3
                  go_wp2
                  go_meet
                  exact ⟨rfl, rfl⟩
                · have e3 : ((x3 : Int) == 0) = false := beq_eq_false_iff_ne.2 (by omega)
                  go_wp2
                  go_meet
                  exact ⟨by rw [decide_eq_false (by unfold num4; omega)], rfl⟩
              · have e2 : ((x2 : Int) == 0) = false := beq_eq_false_iff_ne.2 (by omega)
                go_wp2
                go_meet
                exact ⟨by rw [decide_eq_false (by unfold num4; omega)], rfl⟩
            · have e1 : ((x1 : Int) == 0) = false := beq_eq_false_iff_ne.2 (by omega)
              go_wp2
              go_meet
              exact ⟨by rw [decide_eq_false (by unfold num4; omega)], rfl⟩
          · have e0 : ((x0 : Int) == 0) = false := beq_eq_false_iff_ne.2 (by omega)
            go_wp2
            go_meet
            exact ⟨by rw [decide_eq_false (by unfold num4; omega)], rfl⟩
        case rest =>
          obtain ⟨rfl, rfl⟩ := hcut
          clear g0 g1 g2 g3 q1 q2 q3
          by_cases hz : num4 x0 x1 x2 x3 = 0
          · have dz : decide (num4 x0 x1 x2 x3 = 0) = true := decide_eq_true hz
            rw [dz]
            clear dz
            have hs := HST.out
            rw [if_pos hz] at hs
            have HS := Lib.hid hs
            clear hs hz
            go_wp2
            exact ⟨⟨k + 1, m + 1, by omega, HS.out, by omega, val_i64' (by omega), val_i64' (by omega)⟩, by simp [intOf]; omega⟩
          · have dz : decide (num4 x0 x1 x2 x3 = 0) = false := decide_eq_false hz
            rw [dz]
            clear dz
            have hs := HST.out
            rw [if_neg hz] at hs
            have HS := Lib.hid hs
            clear hs hz
            go_wp2
            exact ⟨⟨k + 1, m + 5, by omega, HS.out, by omega, val_i64' (by omega), val_i64' (by omega)⟩, by simp [intOf]; omega⟩
      · obtain ⟨N, hN⟩ : ∃ N, (enc l0).length = N := ⟨_, rfl⟩
        have hlt4 : l0.length - 4 * k < 4 := by omega
        have htk : (l0.take (4 * k)).length = 4 * k := by rw [List.length_take]; omega
        have hdl : (l0.drop (4 * k)).length = l0.length - 4 * k := by rw [List.length_drop]
        have hNm : N = m + (enc (l0.drop (4 * k))).length := by
          have h := Plain85.enc_append k (l0.take (4 * k)) (l0.drop (4 * k)) htk
          rw [List.take_append_drop] at h
          rw [← hN, h, List.length_append, HM.out]
        have hNle : N ≤ 5 * ((l0.length + 3) / 4) := by rw [← hN]; exact Plain85.enc_le l0
        have hrest : N = m + (if l0.length % 4 = 0 then 0 else l0.length % 4 + 1) := by
          by_cases hr : l0.length % 4 = 0
          · rw [hNm, List.eq_nil_of_length_eq_zero (show (l0.drop (4 * k)).length = 0 by omega), if_pos hr]; simp [enc]
          · rw [hNm, Plain85.enc_rest _ (by omega) (by omega), if_neg hr]; omega
        have HN := Lib.hid hN
        have HR := Lib.hid hrest
        clear hN hNm hrest htk hdl HM
        go_upto_if 54 with (fail)
        go_cut [3] (fun v wx => v = .int .i64 (N : Int) ∧ wx = w)
        case first =>
          have hr' := HR.out
          by_cases hr : l0.length % 4 = 0
          · rw [if_pos hr] at hr'
            have HR' := Lib.hid hr'
            clear hr'
            go_wp2
            go_meet
            exact ⟨val_i64' (by have := HR'.out; omega), rfl⟩
          · rw [if_neg hr] at hr'
            have HR' := Lib.hid hr'
            clear hr'
            go_wp2
            go_meet
            exact ⟨val_i64' (by have := HR'.out; omega), rfl⟩
        case rest =>
          obtain ⟨rfl, rfl⟩ := hcut
          clear HR
          go_wp2_with fail
          refine (implEncode_any A0 l0.length c0 l0 wc wc.heap.size (Nat.le_refl _) nc0 hm (by omega) b0).mono ?_
          rintro e w1 ⟨v1, rfl, hv1, hb1⟩
          obtain ⟨A1, c1, rfl, hc1, hm1, bs1⟩ := hv1.at_ HN.out
          have hrng := Plain85.enc_range l0
          have HRNG := Lib.hid hrng
          clear hrng hv1
          go_wp2_with fail
          go_loop [65] (fun i => RngRel N i) (fun i => N - (intOf i).toNat)
          case atStart => exact ⟨0, Nat.zero_le _, rfl⟩
          case round =>
            obtain ⟨j, hj, rfl⟩ := hrel
            by_cases hjl : j < N
            · obtain ⟨b2, o2, rfl, hb2, bs1⟩ := bs1.open_ (by omega)
              have cJ := bs1.cell hjl
              have hin : (enc l0).getD j 0 ∈ enc l0 := by
                rw [List.getD_eq_getElem?_getD, List.getElem?_eq_getElem (by rw [HN.out]; exact hjl)]; exact List.getElem_mem _
              have hx := HRNG.out _ hin
              clear hin
              generalize (enc l0).getD j 0 = x at *
              rcases hx with hx | hx
              · have e1 : decide ((x : Int) < 33) = false := decide_eq_false (by omega)
                have e2 : decide (117 < (x : Int)) = false := decide_eq_false (by omega)
                go_wp2
                exact ⟨⟨j + 1, by omega, by simp⟩, by simp [intOf]; omega⟩
              · subst hx
                go_wp2
                exact ⟨⟨j + 1, by omega, by simp⟩, by simp [intOf]; omega⟩
            · obtain rfl : j = N := by omega
              have e3 : decide ((j : Int) ≤ ((l0.length : Int) + 3) / 4 * 5) = true := decide_eq_true (by omega)
              go_wp2
              go_ret
              exact ⟨by simp, hb1⟩

end Go.Proofs.Ythhbcnjbnfjiiaa.fnLengths

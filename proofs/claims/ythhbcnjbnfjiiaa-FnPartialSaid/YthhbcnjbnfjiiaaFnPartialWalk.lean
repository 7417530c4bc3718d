/-
  The walk of the law FnPartial (in full): it returns true and changes nothing that was there. Proved: for every byte slice the law FnPartial returns true (a rest of one to three bytes has the first digits of the group that zeros complete), and the argument reads afterwards as before. Conditions: none but those of the given row.
-/
import Derived.Test.YthhbcnjbnfjiiaaProg
import Derived.Test.YthhbcnjbnfjiiaaOpenArgs
import Derived.WalkKit
import Derived.Below
import Derived.WalkSmall
import Derived.Lib.Hide
import Derived.Test.YthhbcnjbnfjiiaaImplEnc
import Derived.Test.YthhbcnjbnfjiiaaEqual
import Derived.LoopTactic
import Derived.Deep.DeepCutAuto
import Derived.Deep.RegionHeld3
import Derived.Lib.SlBytesConst
namespace Go.Proofs.Ythhbcnjbnfjiiaa.fnPartial
open Go.RowKit
set_option linter.unusedVariables false

open Plain85 (enc grp num4 digits)
theorem enc_zero : enc [0, 0, 0, 0] = [122] := rfl
theorem part_eq (l : List Nat) (h1 : 1 ≤ l.length) (h3 : l.length ≤ 3) (x0 x1 x2 x3 : Nat) (h : (l ++ [0, 0, 0]).take 4 = [x0, x1, x2, x3]) (hx : ¬ (x0 = 0 ∧ x1 = 0 ∧ x2 = 0)) :
    enc ((l ++ [0, 0, 0]).take 4) = digits (num4 x0 x1 x2 x3) ∧ (digits (num4 x0 x1 x2 x3)).take (l.length + 1) = enc l := by
  match l, h1, h3, h with
  | [a], _, _, h =>
    simp at h
    obtain ⟨rfl, rfl, rfl, rfl⟩ := h
    refine ⟨?_, rfl⟩
    show grp (num4 a 0 0 0) ++ [] = _
    rw [grp, if_neg (by unfold num4; omega), List.append_nil]
  | [a, b], _, _, h =>
    simp at h
    obtain ⟨rfl, rfl, rfl, rfl⟩ := h
    refine ⟨?_, rfl⟩
    show grp (num4 a b 0 0) ++ [] = _
    rw [grp, if_neg (by unfold num4; omega), List.append_nil]
  | [a, b, c], _, _, h =>
    simp at h
    obtain ⟨rfl, rfl, rfl, rfl⟩ := h
    refine ⟨?_, rfl⟩
    show grp (num4 a b c 0) ++ [] = _
    rw [grp, if_neg (by unfold num4; omega), List.append_nil]
theorem part_zero (l : List Nat) (h1 : 1 ≤ l.length) (h3 : l.length ≤ 3) (x3 : Nat) (h : (l ++ [0, 0, 0]).take 4 = [0, 0, 0, x3]) : [33, 33, 33, 33, 33].take (l.length + 1) = enc l := by
  match l, h1, h3, h with
  | [a], _, _, h => simp at h; obtain ⟨rfl, _⟩ := h; rfl
  | [a, b], _, _, h => simp at h; obtain ⟨rfl, rfl, _⟩ := h; rfl
  | [a, b, c], _, _, h => simp at h; obtain ⟨rfl, rfl, rfl, _⟩ := h; rfl
theorem four_eq (l : List Nat) (h1 : 1 ≤ l.length) (h3 : l.length ≤ 3) : ∃ x0 x1 x2 x3, (l ++ [0, 0, 0]).take 4 = [x0, x1, x2, x3] := by
  match l, h1, h3 with
  | [a], _, _ => exact ⟨a, 0, 0, 0, rfl⟩
  | [a, b], _, _ => exact ⟨a, b, 0, 0, rfl⟩
  | [a, b, c], _, _ => exact ⟨a, b, c, 0, rfl⟩
def PartCut (w : World) (l : List Nat) (v : Value) (wx : World) : Prop :=
  ∃ A c t, v = .slice A 5 c ∧ 5 ≤ c ∧ c ≤ 9223372036854775807 ∧ BS wx wx.heap.size A 5 t ∧ t.take (l.length + 1) = enc l ∧ Below w.heap.size w wx

set_option maxRecDepth 100000 in
set_option maxHeartbeats 2000000 in
theorem walk (A0 : Option Addr) (n0 c0 : Nat) (l0 : List Nat) (w : World) (b0 : BS w w.heap.size A0 n0 l0) (nc0 : n0 ≤ c0) (r0 : c0 ≤ 140737488351232) :
    Calls Try.prog 8 #[.slice A0 n0 c0] w fun e w' => e = .returned (.bool true) ∧ Below w.heap.size w w' := by
  have hm : c0 ≤ maxLen := by unfold maxLen; omega
  by_cases hs1 : n0 < 1
  · obtain rfl : n0 = 0 := by omega
    go_enter Try.func8, Try.ntmps8
    go_wp2
    go_ret
    exact ⟨rfl, Below.refl _ _⟩
  · by_cases hs3 : 3 < n0
    · have e1 : decide ((n0 : Int) < 1) = false := decide_eq_false (by omega)
      have e2 : decide (3 < (n0 : Int)) = true := decide_eq_true (by omega)
      go_enter Try.func8, Try.ntmps8
      go_wp2
      go_ret
      exact ⟨rfl, Below.refl _ _⟩
    · have e1 : decide ((n0 : Int) < 1) = false := decide_eq_false (by omega)
      have e2 : decide (3 < (n0 : Int)) = false := decide_eq_false (by omega)
      obtain rfl : l0.length = n0 := b0.len
      have kc := fun (w : World) (C : Array Value) (n c : Nat) => Lib.run_convert_bytes_const (P := Try.prog) w 25 5 C n c Try.underlying25 Try.underlying5
      go_enter Try.func8, Try.ntmps8
      go_upto_region 4 with (fail)
      have bsw : BS (w.alloc (.cells #[.int .u8 33, .int .u8 33, .int .u8 33, .int .u8 33, .int .u8 33] 5 (5, 6))) (w.heap.size + 1) (some ⟨w.heap.size, 0, none⟩) 5 [33, 33, 33, 33, 33] :=
        ⟨rfl, by decide, fun _ => ⟨w.heap.size, 0, rfl, by omega, fun i hi => by
          rw [World.cell?_alloc_mark, Nat.zero_add]
          match i, hi with
          | 0, _ => rfl
          | 1, _ => rfl
          | 2, _ => rfl
          | 3, _ => rfl
          | 4, _ => rfl⟩⟩
      have bel1 : Below w.heap.size w (w.alloc (.cells #[.int .u8 33, .int .u8 33, .int .u8 33, .int .u8 33, .int .u8 33] 5 (5, 6))) := (Below.refl _ _).alloc (Nat.le_refl _) _
      have hsz1 : (w.alloc (.cells #[.int .u8 33, .int .u8 33, .int .u8 33, .int .u8 33, .int .u8 33] 5 (5, 6))).heap.size = w.heap.size + 1 := by simp
      obtain ⟨w1, hw1⟩ : ∃ w1, (w.alloc (.cells #[.int .u8 33, .int .u8 33, .int .u8 33, .int .u8 33, .int .u8 33] 5 (5, 6))) = w1 := ⟨_, rfl⟩
      rw [hw1] at bsw bel1 hsz1 ⊢
      rw [← hsz1] at bsw
      obtain ⟨g, hg⟩ : ∃ g, w.heap.size = g := ⟨_, rfl⟩
      have b01 := b0.below bel1
      rw [hg] at bsw ⊢
      have hle1 := bel1.size
      clear hw1 kc hsz1 e1 e2
      go_wp2_with (at_builtin; refine wpList_append_bytes _ (o := ⟨some 17, _, _, _, _, _⟩) rfl _ _ rfl w1.heap.size _ [] rfl (Own.empty w1) w.heap.size A0 l0.length c0 l0 rfl (b01.alloc hle1 _) (by simp; omega) (by simp) ?_)
      intro v2 w2 hown2 hg2 _
      have hb12 : Below w1.heap.size w1 w2 := ((Below.refl _ _).alloc (Nat.le_refl _) _).grown hg2 (by simp) (fun k hk => by simp [Value.ownBlock] at hk; omega)
      have hsz2 := hb12.size
      have HBL := Lib.hid hown2.block
      clear hg2
      go_wp2_with (at_builtin; refine wpList_append_bytes _ (o := ⟨some 19, _, _, _, _, _⟩) rfl _ _ rfl w1.heap.size _ l0 rfl (hown2.alloc _) (w2.heap.size + 1) (some ⟨w2.heap.size, 0, none⟩) 3 3 [0, 0, 0] rfl (BS.lit w2 [0, 0, 0] (by decide)) (by omega) (by simp; omega) ?_)
      intro v3 w3 hown3 hg3 _
      have hb13 : Below w1.heap.size w1 w3 := (hb12.alloc hsz2 _).grown hg3 (by simp; omega) HBL.out
      obtain ⟨A3, c3, rfl, hc3, hm3, bs3⟩ := hown3.at_ (n := l0.length + 3) (by simp)
      have bs4 := bs3.take (k := 4) (by omega)
      obtain ⟨x0, x1, x2, x3, hx⟩ := four_eq l0 (by omega) (by omega)
      rw [hx] at bs4
      have bel3 : Below w.heap.size w w3 := bel1.trans (hb13.mono hle1)
      have bsw3 := bsw.below hb13
      have hsz3 := hb13.size
      have HX := Lib.hid hx
      obtain ⟨b, o, rfl, hbb, bs4⟩ := bs4.open_ (by omega)
      have g0 := bs4.cell (i := 0) (by omega)
      have g1 := bs4.cell (i := 1) (by omega)
      have g2 := bs4.cell (i := 2) (by omega)
      simp only [List.getD_cons_zero, List.getD_cons_succ, Nat.add_zero] at g0 g1 g2
      unfold maxLen at hm3
      clear hg3 hown3 bs3 hx hown2 bsw b01 hb12 hb13 bel1
      go_upto_region 5 with (fail)
      go_cut [36] (fun b wx => b = .bool (!decide (x0 = 0 ∧ x1 = 0 ∧ x2 = 0)) ∧ wx = w3)
      case first =>
        by_cases h0 : x0 = 0
        · subst h0
          by_cases h1 : x1 = 0
          · subst h1
            by_cases h2 : x2 = 0
            · subst h2
              go_wp2
              go_meet
              exact ⟨rfl, rfl⟩
            · have e2 : ((x2 : Int) != 0) = true := by rw [bne_iff_ne]; omega
              go_wp2
              go_meet
              exact ⟨by rw [decide_eq_false (by omega)]; rfl, rfl⟩
          · have e1 : ((x1 : Int) != 0) = true := by rw [bne_iff_ne]; omega
            go_wp2
            go_meet
            exact ⟨by rw [decide_eq_false (by omega)]; rfl, rfl⟩
        · have e0 : ((x0 : Int) != 0) = true := by rw [bne_iff_ne]; omega
          go_wp2
          go_meet
          exact ⟨by rw [decide_eq_false (by omega)]; rfl, rfl⟩
      case rest =>
        obtain ⟨rfl, rfl⟩ := hcut
        clear g0 g1 g2
        go_upto_if 36 with (fail)
        go_cut [3] (fun v wx => PartCut w l0 v wx)
        case first =>
          by_cases hz : x0 = 0 ∧ x1 = 0 ∧ x2 = 0
          · rw [decide_eq_true hz]
            obtain ⟨rfl, rfl, rfl⟩ := hz
            go_wp2
            go_meet
            exact ⟨_, 5, _, rfl, Nat.le_refl _, by omega, bsw3.mono hsz3, part_zero l0 (by omega) (by omega) x3 HX.out, bel3⟩
          · rw [decide_eq_false hz]
            have HZ := Lib.hid (part_eq l0 (by omega) (by omega) x0 x1 x2 x3 HX.out hz)
            clear hz
            go_wp2_with fail
            refine (implEncode_any _ 4 c3 [x0, x1, x2, x3] wc wc.heap.size (Nat.le_refl _) (by omega) (by unfold maxLen; omega) (by omega) bs4).mono ?_
            rintro e w5 ⟨v5, rfl, hv5, hb5⟩
            obtain ⟨A5, c5, rfl, hc5, hm5, bs5⟩ := hv5.at_ (n := 5) (by rw [← HX.out, HZ.out.1]; rfl)
            unfold maxLen at hm5
            go_wp2
            go_meet
            exact ⟨A5, c5, _, rfl, hc5, by omega, bs5, by rw [← HX.out, HZ.out.1]; exact HZ.out.2, bel3.trans (hb5.mono (by omega))⟩
        case rest =>
          obtain ⟨A7, c7, t7, rfl, h57, hc7, bs7, ht7, bel7⟩ := hcut
          have HT7 := Lib.hid ht7
          clear ht7 bs4 bsw3 bel3
          have hsz7 := bel7.size
          have b07 := b0.below bel7
          have hLn : (enc l0).length = l0.length + 1 := Plain85.enc_rest l0 (by omega) (by omega)
          have HLN := Lib.hid hLn
          clear hLn
          go_wp2_with fail
          have q0 : (0 : Int) ≤ (l0.length : Int) + 1 := by omega
          have q1 : (l0.length : Int) + 1 ≤ (c7 : Int) := by omega
          have q2 : ((l0.length : Int) + 1).toNat = l0.length + 1 := by omega
          have q3 : IntKind.i64.wrap ((l0.length : Int) + 1) = (l0.length : Int) + 1 := by rw [IntKind.wrap_i64]; omega
          have b07d := b07.drew
          have bel7d := bel7.drew
          have bs7d := bs7.drew
          go_region_held3 (fun w' => Below w.heap.size w w' ∧ BS w' w'.heap.size A7 5 t7)
            (first | exact ⟨bel7d, bs7d⟩ | exact ⟨bel7d.trans (hb8.mono hsz7), (bs7d.below hb8).mono hb8.size⟩)
            (first
            | (go_at_call 16; refine (implEncode_any A0 l0.length c0 l0 wc.drew w.heap.size hsz7 nc0 hm (by omega) b07d).mono ?_; rintro e w8 ⟨v8, rfl, hv8, hb8⟩; obtain ⟨A8, c8, rfl, hc8, hm8, bs8⟩ := hv8.at_ HLN.out)
            | (go_at_call 18; refine (equal_any A8 (l0.length + 1) c8 A7 (l0.length + 1) c7 _ _ w8 _ _ bs8 (((bs7d.below hb8).mono hb8.size).take (by omega))).mono ?_; rintro e w9 ⟨rfl, rfl⟩))
          go_wp2
          go_ret
          exact ⟨congrArg (fun b => Ending.returned (Value.bool b)) (decide_eq_true HT7.out.symm), bel7d.trans (hb8.mono hsz7)⟩

end Go.Proofs.Ythhbcnjbnfjiiaa.fnPartial

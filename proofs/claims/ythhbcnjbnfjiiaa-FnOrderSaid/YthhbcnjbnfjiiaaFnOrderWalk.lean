/-
  The walk of the law FnOrder (in full): it returns true and changes nothing that was there. Proved: for all byte slices a and b the law FnOrder returns true (data of equal length in whole groups, none of them zero, are ordered as their texts are), and the arguments read afterwards as before. Conditions: none but those of the given row.
-/
import Derived.Test.YthhbcnjbnfjiiaaProg
import Derived.Test.YthhbcnjbnfjiiaaOpenArgs
import Derived.WalkKit
import Derived.Below
import Derived.WalkSmall
import Derived.Lib.Hide
import Derived.Test.YthhbcnjbnfjiiaaImplEnc
import Derived.Test.YthhbcnjbnfjiiaaEqual
import Derived.Test.YthhbcnjbnfjiiaaPlainOrd
import Derived.LoopTactic
import Derived.BigQuiet
import Derived.Deep.QuietTactic
import Derived.Deep.DeepCutAuto
import Derived.Laws.BitsAllLaws
namespace Go.Proofs.Ythhbcnjbnfjiiaa.fnOrder
open Go.RowKit
set_option linter.unusedVariables false

open Plain85 (enc num4)
def OrdRel (l0 l1 : List Nat) (w : World) (i : Value) (wr : World) : Prop :=
  ∃ k m : Nat, 4 * k ≤ l0.length ∧ (∀ j, j < k → num4 (l0.getD (4 * j) 0) (l0.getD (4 * j + 1) 0) (l0.getD (4 * j + 2) 0) (l0.getD (4 * j + 3) 0) ≠ 0) ∧ (∀ j, j < k → num4 (l1.getD (4 * j) 0) (l1.getD (4 * j + 1) 0) (l1.getD (4 * j + 2) 0) (l1.getD (4 * j + 3) 0) ≠ 0) ∧
    i = .int .i64 ((4 * k : Nat) : Int) ∧ wr = w.drewN m
theorem orz (x0 x1 x2 x3 : Nat) (h0 : x0 < 256) (h1 : x1 < 256) (h2 : x2 < 256) (h3 : x3 < 256) :
    (bits .or .u8 (bits .or .u8 (bits .or .u8 (x0 : Int) (x1 : Int)) (x2 : Int)) (x3 : Int) == 0) = decide (num4 x0 x1 x2 x3 = 0) := by
  have a1 : x0 ||| x1 < 256 := Nat.or_lt_two_pow (n := 8) h0 h1
  have a2 : x0 ||| x1 ||| x2 < 256 := Nat.or_lt_two_pow (n := 8) a1 h2
  rw [u8_or_nat x0 x1 h0 h1, u8_or_nat _ x2 a1 h2, u8_or_nat _ x3 a2 h3]
  by_cases hz : num4 x0 x1 x2 x3 = 0
  · have : x0 = 0 ∧ x1 = 0 ∧ x2 = 0 ∧ x3 = 0 := by unfold num4 at hz; omega
    obtain ⟨rfl, rfl, rfl, rfl⟩ := this
    rfl
  · rw [decide_eq_false hz]
    refine beq_eq_false_iff_ne.2 fun e => hz ?_
    have e' : x0 ||| x1 ||| x2 ||| x3 = 0 := by omega
    rw [Nat.or_eq_zero_iff, Nat.or_eq_zero_iff, Nat.or_eq_zero_iff] at e'
    obtain ⟨⟨⟨rfl, rfl⟩, rfl⟩, rfl⟩ := e'
    rfl

set_option maxRecDepth 100000 in
set_option maxHeartbeats 2000000 in
theorem walk (A0 : Option Addr) (n0 c0 : Nat) (l0 : List Nat) (A1 : Option Addr) (n1 c1 : Nat) (l1 : List Nat) (w : World) (b0 : BS w w.heap.size A0 n0 l0) (nc0 : n0 ≤ c0) (r0 : c0 ≤ 140737488351232) (b1 : BS w w.heap.size A1 n1 l1) (nc1 : n1 ≤ c1) (r1 : c1 ≤ 140737488351232) :
    Calls Try.prog 7 #[.slice A0 n0 c0, .slice A1 n1 c1] w fun e w' => e = .returned (.bool true) ∧ Below w.heap.size w w' := by
  have hm : c0 ≤ maxLen := by unfold maxLen; omega
  have hm1 : c1 ≤ maxLen := by unfold maxLen; omega
  by_cases h01 : n0 = n1
  · subst h01
    by_cases h4 : n0 % 4 = 0
    · by_cases hbig : 100000 < n0
      · have e1 : ((n0 : Int) != (n0 : Int)) = false := by simp
        have e2 : ((n0 : Int) % 4 != 0) = false := by rw [show (n0 : Int) % 4 = 0 by omega]; rfl
        have e3 : decide (100000 < (n0 : Int)) = true := decide_eq_true (by omega)
        go_enter Try.func7, Try.ntmps7
        go_wp2
        go_ret
        exact ⟨rfl, Below.refl _ _⟩
      · have e1 : ((n0 : Int) != (n0 : Int)) = false := by simp
        have e2 : ((n0 : Int) % 4 != 0) = false := by rw [show (n0 : Int) % 4 = 0 by omega]; rfl
        have e3 : decide (100000 < (n0 : Int)) = false := decide_eq_false (by omega)
        obtain rfl : l0.length = n0 := b0.len
        go_enter Try.func7, Try.ntmps7
        go_wp2
        go_loopw [5] (fun i wr => OrdRel l0 l1 w i wr) (fun i _ => l0.length - (intOf i).toNat)
        case atStart => exact ⟨0, 0, Nat.zero_le _, fun j hj => by omega, fun j hj => by omega, rfl, rfl⟩
        case round =>
          obtain ⟨k, m, hk, hz0, hz1, rfl, rfl⟩ := hrel
          have HZ0 := Lib.hid hz0
          have HZ1 := Lib.hid hz1
          clear hz0 hz1 e1 e2 e3
          by_cases hlt : 4 * k < l0.length
          · have hn1 : l1.length = l0.length := b1.len
            obtain ⟨b, o, rfl, hbB, b0⟩ := b0.open_ (by omega)
            obtain ⟨b', o', rfl, hbB', b1⟩ := b1.open_ (by omega)
            have g0 := b0.cell (i := 4 * k) (by omega)
            have g1 := b0.cell (i := 4 * k + 1) (by omega)
            have g2 := b0.cell (i := 4 * k + 2) (by omega)
            have g3 := b0.cell (i := 4 * k + 3) (by omega)
            have f0 := b1.cell (i := 4 * k) (by omega)
            have f1 := b1.cell (i := 4 * k + 1) (by omega)
            have f2 := b1.cell (i := 4 * k + 2) (by omega)
            have f3 := b1.cell (i := 4 * k + 3) (by omega)
            have hx := orz _ _ _ _ (getD_lt b0.lt (4 * k)) (getD_lt b0.lt (4 * k + 1)) (getD_lt b0.lt (4 * k + 2)) (getD_lt b0.lt (4 * k + 3))
            have hy := orz _ _ _ _ (getD_lt b1.lt (4 * k)) (getD_lt b1.lt (4 * k + 1)) (getD_lt b1.lt (4 * k + 2)) (getD_lt b1.lt (4 * k + 3))
            have s0 : ∀ j, j < k + 1 → num4 (l0.getD (4 * k) 0) (l0.getD (4 * k + 1) 0) (l0.getD (4 * k + 2) 0) (l0.getD (4 * k + 3) 0) ≠ 0 → num4 (l0.getD (4 * j) 0) (l0.getD (4 * j + 1) 0) (l0.getD (4 * j + 2) 0) (l0.getD (4 * j + 3) 0) ≠ 0 := fun j hj hne => by
              rcases Nat.lt_or_ge j k with h | h
              · exact HZ0.out j h
              · rw [show j = k by omega]; exact hne
            have s1 : ∀ j, j < k + 1 → num4 (l1.getD (4 * k) 0) (l1.getD (4 * k + 1) 0) (l1.getD (4 * k + 2) 0) (l1.getD (4 * k + 3) 0) ≠ 0 → num4 (l1.getD (4 * j) 0) (l1.getD (4 * j + 1) 0) (l1.getD (4 * j + 2) 0) (l1.getD (4 * j + 3) 0) ≠ 0 := fun j hj hne => by
              rcases Nat.lt_or_ge j k with h | h
              · exact HZ1.out j h
              · rw [show j = k by omega]; exact hne
            have S0 := Lib.hid s0
            have S1 := Lib.hid s1
            clear s0 s1 HZ0 HZ1
            generalize l0.getD (4 * k) 0 = x0 at *
            generalize l0.getD (4 * k + 1) 0 = x1 at *
            generalize l0.getD (4 * k + 2) 0 = x2 at *
            generalize l0.getD (4 * k + 3) 0 = x3 at *
            generalize l1.getD (4 * k) 0 = y0 at *
            generalize l1.getD (4 * k + 1) 0 = y1 at *
            generalize l1.getD (4 * k + 2) 0 = y2 at *
            generalize l1.getD (4 * k + 3) 0 = y3 at *
            have q1 : (4 * (k : Int) + 1).toNat = 4 * k + 1 := by omega
            have q2 : (4 * (k : Int) + 2).toNat = 4 * k + 2 := by omega
            have q3 : (4 * (k : Int) + 3).toNat = 4 * k + 3 := by omega
            have p1 : IntKind.i64.wrap (4 * (k : Int) + 1) = 4 * (k : Int) + 1 := by rw [IntKind.wrap_i64]; omega
            have p2 : IntKind.i64.wrap (4 * (k : Int) + 2) = 4 * (k : Int) + 2 := by rw [IntKind.wrap_i64]; omega
            have p3 : IntKind.i64.wrap (4 * (k : Int) + 3) = 4 * (k : Int) + 3 := by rw [IntKind.wrap_i64]; omega
            have r0' : (0 : Int) ≤ 4 * (k : Int) := by omega
            have r1' : (0 : Int) ≤ 4 * (k : Int) + 1 := by omega
            have r2' : (0 : Int) ≤ 4 * (k : Int) + 2 := by omega
            have r3' : (0 : Int) ≤ 4 * (k : Int) + 3 := by omega
            have t0 : 4 * (k : Int) < (l0.length : Int) := by omega
            have t1 : 4 * (k : Int) + 1 < (l0.length : Int) := by omega
            have t2 : 4 * (k : Int) + 2 < (l0.length : Int) := by omega
            have t3 : 4 * (k : Int) + 3 < (l0.length : Int) := by omega
            clear hn1
            by_cases hz : num4 x0 x1 x2 x3 = 0
            · rw [decide_eq_true hz] at hx
              clear hz hy f0 f1 f2 f3
              go_wp2
              go_quiet (fail)
              go_wp2
              go_ret
              exact ⟨rfl, below_drewN (below_drewN (Below.refl _ _) m) nq⟩
            · by_cases hz1 : num4 y0 y1 y2 y3 = 0
              · rw [decide_eq_true hz1] at hy
                rw [decide_eq_false hz] at hx
                clear hz hz1
                go_wp2
                go_quiet (fail)
                go_wp2
                go_ret
                exact ⟨rfl, below_drewN (below_drewN (Below.refl _ _) m) nq⟩
              · have T0 := Lib.hid (fun j hj => S0.out j hj hz)
                have T1 := Lib.hid (fun j hj => S1.out j hj hz1)
                rw [decide_eq_false hz1] at hy
                rw [decide_eq_false hz] at hx
                clear hz hz1
                go_wp2
                go_quiet (fail)
                go_wp2
                exact ⟨⟨k + 1, m + nq, by omega, T0.out, T1.out, congrArg (Value.int .i64) (by omega), rfl⟩, by simp [intOf]; omega⟩
          · have hk2 : l0.length = 4 * k := by omega
            have hord := order k l0 l1 hk2 (b1.len.trans hk2) b0.lt b1.lt (fun j hj => HZ0.out j (by omega)) (fun j hj => HZ1.out j (by have := b1.len; omega))
            have hlx : Op.bytesLess (strOf (enc l0)).toList (strOf (enc l1)).toList = Op.bytesLess (strOf l0).toList (strOf l1).toList := by
              rw [str_toList, str_toList, str_toList, str_toList, less_lexlt _ _ (Plain85.enc_lt l0) (Plain85.enc_lt l1), less_lexlt _ _ b0.lt b1.lt, hord.1]
            have hex : ((strOf (enc l0)).toList == (strOf (enc l1)).toList) = ((strOf l0).toList == (strOf l1).toList) := by
              rw [str_beq (Plain85.enc_lt l0) (Plain85.enc_lt l1), str_beq b0.lt b1.lt, decide_eq_decide.2 hord.2]
            have HLX := Lib.hid hlx
            have HEX := Lib.hid hex
            clear hlx hex hord HZ0 HZ1 hk2
            have b0d := b0.drewN m
            have b1d := b1.drewN m
            have hbd : Below w.heap.size w (w.drewN m) := below_drewN (Below.refl _ _) m
            have hszd := hbd.size
            go_wp2_with fail
            refine (implEncode_any A0 l0.length c0 l0 (w.drewN m) w.heap.size hszd nc0 hm (by omega) b0d).mono ?_
            rintro e w1 ⟨v1, rfl, hv1, hb1⟩
            obtain ⟨L1, hL1⟩ : ∃ L, (enc l0).length = L := ⟨_, rfl⟩
            obtain ⟨A2, c2, rfl, hc2, hm2, bs2⟩ := hv1.at_ hL1
            have cv1 := run_str (P := Try.prog) bs2 25 9 5 c2 Try.underlying25 Try.underlying5 Try.underlying9
            have hb01 : Below w.heap.size w w1 := hbd.trans (hb1.mono hszd)
            have hsz1 := hb01.size
            clear hL1 hv1 hb1 hc2 hm2
            go_wp2_with fail
            refine (implEncode_any A1 l0.length c1 l1 w1 w.heap.size hsz1 nc1 hm1 (by omega) (b1.below hb01)).mono ?_
            rintro e w2 ⟨v2, rfl, hv2, hb2⟩
            obtain ⟨L2, hL2⟩ : ∃ L, (enc l1).length = L := ⟨_, rfl⟩
            obtain ⟨A3, c3, rfl, hc3, hm3, bs3⟩ := hv2.at_ hL2
            have cv2 := run_str (P := Try.prog) bs3 25 9 5 c3 Try.underlying25 Try.underlying5 Try.underlying9
            have hb02 : Below w.heap.size w w2 := hb01.trans (hb2.mono hsz1)
            have cv3 := run_str (P := Try.prog) (b0.below hb02) 25 9 5 c0 Try.underlying25 Try.underlying5 Try.underlying9
            have cv4 := run_str (P := Try.prog) (b1.below hb02) 25 9 5 c1 Try.underlying25 Try.underlying5 Try.underlying9
            obtain ⟨lx, hlx0⟩ : ∃ lx, Op.bytesLess (strOf l0).toList (strOf l1).toList = lx := ⟨_, rfl⟩
            obtain ⟨ex, hex0⟩ : ∃ ex, ((strOf l0).toList == (strOf l1).toList) = ex := ⟨_, rfl⟩
            have hlx1 := HLX.out.trans hlx0
            have hex1 := HEX.out.trans hex0
            clear hL2 hv2 hb2 hc3 hm3 cv1 bs2 bs3
            go_wp2
            go_ret
            exact ⟨rfl, hb02⟩
    · have e1 : ((n0 : Int) != (n0 : Int)) = false := by simp
      have e2 : ((n0 : Int) % 4 != 0) = true := by rw [bne_iff_ne]; omega
      go_enter Try.func7, Try.ntmps7
      go_wp2
      go_ret
      exact ⟨rfl, Below.refl _ _⟩
  · have e1 : ((n0 : Int) != (n1 : Int)) = true := by rw [bne_iff_ne]; omega
    go_enter Try.func7, Try.ntmps7
    go_wp2
    go_ret
    exact ⟨rfl, Below.refl _ _⟩

end Go.Proofs.Ythhbcnjbnfjiiaa.fnOrder

/-
  The walk of adler32.update: the two sums of the bytes. Conditions: both sums come in below 65521.
-/
import Derived.Test.YtdpjdglcienbfaaProg
import Derived.Test.YtdpjdglcienbfaaWords
import Derived.Test.YtdpjdglcienbfaaPlainAd
import Derived.LoopTactic
import Derived.Outline
import Derived.BigQuiet
import Derived.Deep.QuietTactic
import Derived.Deep.DeepCutAuto
import Derived.Laws.BitsAllLaws
import Derived.WalkSpells
import Derived.WalkLawsBesides
import Derived.Lib.Hide
namespace Go.Proofs.Ytdpjdglcienbfaa
open Go.RowKit

/-- The length of a slice in a slot. -/
def slen : Value → Nat | .slice _ n _ => n | _ => 0

def UpdOut (w : World) (B : Nat) (s : Nat × Nat) (l : List Nat) (p a b : Value) (wr : World) : Prop :=
  ∃ (pre r : List Nat) (A' : Option Addr) (c' m x y : Nat), pre ++ r = l ∧ r.length ≤ c' ∧ c' ≤ 9223372036854775807 ∧ BS w B A' r.length r ∧ PlainAd.sums s pre = (x, y) ∧ x < 65521 ∧ y < 65521 ∧
    p = .slice A' r.length c' ∧ a = .int .u32 (x : Int) ∧ b = .int .u32 (y : Int) ∧ wr = w.drewN m
def UpdCut (w : World) (B : Nat) (r : List Nat) (A' : Option Addr) (c' : Nat) (p q : Value) (wr : World) : Prop :=
  ∃ (ch r2 : List Nat) (Aq : Option Addr) (cq m : Nat), ch ++ r2 = r ∧ 0 < ch.length ∧ ch.length ≤ 5552 ∧ ch.length ≤ c' ∧ BS w B A' ch.length ch ∧ p = .slice A' ch.length c' ∧
    r2.length ≤ cq ∧ cq ≤ 9223372036854775807 ∧ BS w B Aq r2.length r2 ∧ q = .slice Aq r2.length cq ∧ wr = w.drewN m
def UpdFour (w : World) (B : Nat) (s : Nat × Nat) (ch : List Nat) (p a b : Value) : Prop :=
  ∃ (pre r : List Nat) (A' : Option Addr) (c' x y : Nat), pre ++ r = ch ∧ r.length ≤ c' ∧ c' ≤ 9223372036854775807 ∧ BS w B A' r.length r ∧ PlainAd.raw s pre = (x, y) ∧
    p = .slice A' r.length c' ∧ a = .int .u32 (x : Int) ∧ b = .int .u32 (y : Int)
def UpdOne (s : Nat × Nat) (pre r : List Nat) (i a b : Value) : Prop :=
  ∃ (k x y : Nat), k ≤ r.length ∧ PlainAd.raw s (pre ++ r.take k) = (x, y) ∧ i = .int .i64 (k : Int) ∧ a = .int .u32 (x : Int) ∧ b = .int .u32 (y : Int)

theorem raw_four (s : Nat × Nat) (pre : List Nat) (x y a b c d : Nat) (h : PlainAd.raw s pre = (x, y)) :
    PlainAd.raw s (pre ++ [a, b, c, d]) = (x + a + b + c + d, y + (x + a) + (x + a + b) + (x + a + b + c) + (x + a + b + c + d)) := by
  rw [PlainAd.raw_append, h]; rfl
theorem raw_one (s : Nat × Nat) (pre r : List Nat) (k x y : Nat) (hk : k < r.length) (h : PlainAd.raw s (pre ++ r.take k) = (x, y)) :
    PlainAd.raw s (pre ++ r.take (k + 1)) = (x + r.getD k 0, y + (x + r.getD k 0)) := by
  rw [List.take_succ_eq_append_getElem hk, ← List.append_assoc, PlainAd.raw_append, h, List.getD_eq_getElem?_getD, List.getElem?_eq_getElem hk]; rfl
theorem raw_small' (s : Nat × Nat) (ch : List Nat) (x y : Nat) (h : PlainAd.raw s ch = (x, y)) (hb : ∀ v ∈ ch, v < 256) (hl : ch.length ≤ 5552) (h1 : s.1 < 65521) (h2 : s.2 < 65521) :
    x ≤ 1481280 ∧ y ≤ 4294690200 := by
  have := PlainAd.raw_small ch s hb hl h1 h2
  rw [h] at this; exact this

theorem val_u32 {a b : Int} (h : a = b) : Value.int .u32 a = .int .u32 b := by rw [h]

set_option maxRecDepth 100000 in
set_option maxHeartbeats 1000000 in
theorem update_any (d : Nat) (A : Option Addr) (n c : Nat) (l : List Nat) (w : World) (B : Nat) (h1 : d % 65536 < 65521) (h2 : d / 65536 < 65521) (hc : n ≤ c) (hm : c ≤ maxLen) (hl : BS w B A n l) :
    Calls Try.prog 44 #[.int .u32 (d : Int), .slice A n c] w fun e w' => e = .returned (.int .u32 ((PlainAd.word (PlainAd.sums (d % 65536, d / 65536) l) : Nat) : Int)) ∧ ∃ k, w' = w.drewN k := by
  unfold maxLen at hm
  have e1 : bits .and .u32 (d : Int) 65535 = ((d % 65536 : Nat) : Int) := by
    have := u32_and_nat d 65535 (by omega) (by omega)
    rw [show ((65535 : Nat) : Int) = 65535 from rfl] at this
    rw [this, nat_mask16]
  obtain rfl : l.length = n := hl.len
  go_enter Try.func44, Try.ntmps44
  go_wp2
  go_loopw [1, 5, 6] (fun p a b wr => UpdOut w B (d % 65536, d / 65536) l p a b wr) (fun p _ _ _ => slen p)
  case atStart => exact ⟨[], l, A, c, 0, _, _, rfl, hc, hm, hl, rfl, h1, h2, rfl, val_u32 (by omega), val_u32 (by omega), rfl⟩
  case round =>
    clear e1
    obtain ⟨pre, r, A', c', m, x, y, hpr, hrc, hc', hbs, hxy, hx, hy, rfl, rfl, rfl, rfl⟩ := hrel
    have HXY := Lib.hid hxy
    have HPR := Lib.hid hpr
    clear hxy hpr
    by_cases h0 : r.length = 0
    · have e2 : bits .or .u32 ((y : Int) * 65536) (x : Int) = ((PlainAd.word (x, y) : Nat) : Int) := by
        have := u32_or_nat (y * 65536) x (by omega) (by omega)
        rw [nat_join 16 (y * 65536) x (by omega) (by omega)] at this
        simpa [PlainAd.word] using this
      have E2 := Lib.hid e2
      clear e2
      go_wp2
      go_ret
      refine ⟨congrArg Ending.returned ((val_u32 E2.out).trans ?_), m, rfl⟩
      have : pre = l := by rw [← HPR.out, List.eq_nil_of_length_eq_zero h0, List.append_nil]
      rw [← HXY.out, this]
    · obtain ⟨b, o, rfl, hbB, hbs⟩ := hbs.open_ (by omega)
      go_upto_if 19 with (fail)
      go_cut [1, 7] (fun p q wx => UpdCut w B r (some ⟨b, o, none⟩) c' p q wx)
      case first =>
        by_cases hbig : 5552 < r.length
        · go_wp2
          go_quiet (fail)
          go_wp2
          go_meet
          have hl5 : (r.take 5552).length = 5552 := by rw [List.length_take]; omega
          have hl6 : (r.drop 5552).length = r.length - 5552 := by rw [List.length_drop]
          exact ⟨r.take 5552, r.drop 5552, some ⟨b, o + 5552, none⟩, c' - 5552, m + nq, List.take_append_drop _ _, by omega, by omega, by omega, by rw [hl5]; exact hbs.take (by omega), by rw [hl5],
            by omega, by omega, by rw [hl6]; exact hbs.drop (by omega), by rw [hl6], World.drewN_drewN _ _ _⟩
        · go_wp2
          go_meet
          exact ⟨r, [], none, 0, m, by simp, by omega, by omega, hrc, hbs, rfl, by simp, by omega, BS.nil _ _ _, rfl, rfl⟩
      case rest =>
        obtain ⟨ch, r2, Aq, cq, m2, hch, hp, h52, hchc, hbc, rfl, hq1, hq2, hbq, rfl, rfl⟩ := hcut
        have HCH := Lib.hid hch
        clear hch
        have hlt : ∀ v ∈ ch, v < 256 := hbc.lt
        have HLT := Lib.hid hlt
        clear hlt hbs
        go_wp2
        go_loop [1, 5, 6] (fun p a b => UpdFour w B (x, y) ch p a b) (fun p _ _ => slen p)
        case atStart => exact ⟨[], ch, _, c', x, y, rfl, hchc, hc', hbc, rfl, rfl, rfl, rfl⟩
        case round =>
          obtain ⟨pre1, r1, A1, c1, x1, y1, hpr1, hrc1, hc1, hbs1, hxy1, rfl, rfl, rfl⟩ := hrel
          have HXY1 := Lib.hid hxy1
          have HPR1 := Lib.hid hpr1
          clear hxy1 hpr1 hbc
          by_cases h4 : 4 ≤ r1.length
          · obtain ⟨z0, z1, z2, z3, r3, rfl⟩ : ∃ z0 z1 z2 z3 r3, r1 = z0 :: z1 :: z2 :: z3 :: r3 := by
              match r1, h4 with
              | z0 :: z1 :: z2 :: z3 :: r3, _ => exact ⟨z0, z1, z2, z3, r3, rfl⟩
            obtain ⟨b1, o1, rfl, hb1, hbs1⟩ := hbs1.open_ (by omega)
            have c0 := hbs1.cell (i := 0) (by omega)
            have c1' := hbs1.cell (i := 1) (by omega)
            have c2 := hbs1.cell (i := 2) (by omega)
            have c3 := hbs1.cell (i := 3) (by omega)
            simp only [List.getD_cons_zero, List.getD_cons_succ, Nat.add_zero] at c0 c1' c2 c3
            have g0 : z0 < 256 := hbs1.lt _ (by simp)
            have g1 : z1 < 256 := hbs1.lt _ (by simp)
            have g2 : z2 < 256 := hbs1.lt _ (by simp)
            have g3 : z3 < 256 := hbs1.lt _ (by simp)
            have hr4 := raw_four (x, y) pre1 x1 y1 z0 z1 z2 z3 HXY1.out
            have hsm := raw_small' (x, y) _ _ _ hr4 (fun v hv => HLT.out v (by rw [← HPR1.out, show pre1 ++ z0 :: z1 :: z2 :: z3 :: r3 = (pre1 ++ [z0, z1, z2, z3]) ++ r3 by simp]; exact List.mem_append_left _ hv)) (by have := congrArg List.length HPR1.out; simp at this ⊢; omega) hx hy
            have HR4 := Lib.hid hr4
            clear hr4
            obtain ⟨hs1, hs2⟩ := hsm
            go_wp2
            exact ⟨⟨pre1 ++ [z0, z1, z2, z3], r3, _, c1 - 4, _, _, by rw [← HPR1.out]; simp, by simp at hrc1; omega, by omega, hbs1.dropIf (k := 4) (by simp) hrc1, HR4.out, rfl, val_u32 (by simp), val_u32 (by simp)⟩, by simp [slen]; omega⟩
          · go_wp2
            have hl1 : r1.length ≤ 9223372036854775807 := by omega
            go_loop [67, 5, 6] (fun i a b => UpdOne (x, y) pre1 r1 i a b) (fun i _ _ => r1.length - (intOf i).toNat)
            case atStart => exact ⟨0, x1, y1, Nat.zero_le _, by simpa using HXY1.out, rfl, rfl, rfl⟩
            case round =>
              obtain ⟨k, x2, y2, hk, hxy2, rfl, rfl, rfl⟩ := hrel
              by_cases hkl : k < r1.length
              · obtain ⟨b1, o1, rfl, hb1, hbs1⟩ := hbs1.open_ (by omega)
                have cK := hbs1.cell hkl
                have gK := getD_lt hbs1.lt k
                have hr := raw_one (x, y) pre1 r1 k x2 y2 hkl hxy2
                have hsm := raw_small' (x, y) _ _ _ hr (fun v hv => HLT.out v (by rw [← HPR1.out]; rcases List.mem_append.1 hv with h | h; exact List.mem_append_left _ h; exact List.mem_append_right _ (List.mem_of_mem_take h))) (by have := congrArg List.length HPR1.out; simp at this ⊢; omega) hx hy
                have HR := Lib.hid hr
                clear hr hxy2
                obtain ⟨hs1, hs2⟩ := hsm
                generalize r1.getD k 0 = zk at *
                go_wp2
                exact ⟨⟨k + 1, _, _, by omega, HR.out, by simp, val_u32 (by simp), val_u32 (by simp)⟩, by simp [intOf]; omega⟩
              · have hall : r1.take k = r1 := List.take_of_length_le (by omega)
                rw [hall, HPR1.out] at hxy2
                have hsm := raw_small' (x, y) _ _ _ hxy2 HLT.out (by omega) hx hy
                have HXY2 := Lib.hid hxy2
                clear hxy2 hall
                obtain ⟨hs1, hs2⟩ := hsm
                obtain rfl : k = r1.length := by omega
                go_wp2
                have hs : PlainAd.sums (d % 65536, d / 65536) (pre ++ ch) = (x2 % 65521, y2 % 65521) := by
                  rw [PlainAd.sums_append, HXY.out, PlainAd.sums_of_raw _ _ hx hy, HXY2.out]; rfl
                have hlen := congrArg List.length HCH.out
                rw [List.length_append] at hlen
                exact ⟨⟨pre ++ ch, r2, Aq, cq, m2, _, _, by rw [← HPR.out, ← HCH.out, List.append_assoc], hq1, hq2, hbq, hs, Nat.mod_lt _ (by decide), Nat.mod_lt _ (by decide), rfl, val_u32 (by simp), val_u32 (by simp), rfl⟩, by simp only [slen]; omega⟩
end Go.Proofs.Ytdpjdglcienbfaa

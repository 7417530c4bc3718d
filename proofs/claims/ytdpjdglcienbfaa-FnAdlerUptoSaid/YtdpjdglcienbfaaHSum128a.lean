/-
  The walks of the methods of hash/fnv.sum128a: written by hashgen128.py. Conditions: those of 'Good'.
-/
import Derived.Test.YtdpjdglcienbfaaHTwo
namespace Go.Proofs.Ytdpjdglcienbfaa
open Go.RowKit
open PlainHash (be4 be8 be16 f1 f1a)

def kSum128a : Kind where
  dyn := 88
  elem := 87
  cells s := #[.int .u64 ((s / 18446744073709551616 : Nat) : Int), .int .u64 ((s % 18446744073709551616 : Nat) : Int)]
  init := 144066263297769815596495629667062367629
  size := 16
  block := 1
  ok s := s < 340282366920938463463374607431768211456
  step := f1a 340282366920938463463374607431768211456 309485009821345068724781371
  bytes := be16
  magic := [102, 110, 118, 6]
  val _ := 0
  fWrite := 133
  fSum := 131
  fReset := 129
  fSize := 130
  fBlock := 126
  fClone := 127
  fMarshal := 128
  fUnmarshal := 132

namespace Sum128a
theorem step_lt (s c : Nat) (_ : kSum128a.ok s) (_ : c < 256) : kSum128a.ok (kSum128a.step s c) := PlainHash.f1a_lt _ _ _ _ (by decide)
structure WR (w : World) (b s : Nat) (l : List Nat) (i : Value) (wr : World) (k hi lo : Nat) : Prop where
  kl : k ≤ l.length
  fold : (l.take k).foldl kSum128a.step s = hi * 18446744073709551616 + lo
  hiL : hi < 18446744073709551616
  loL : lo < 18446744073709551616
  only : Only b w wr
  blk : wr.heap[b]? = some (.cells #[.int .u64 (hi : Int), .int .u64 (lo : Int)] 87 (0, 0))
  ei : i = .int .i64 (k : Int)
def WRel (w : World) (b s : Nat) (l : List Nat) (i : Value) (wr : World) : Prop := ∃ k hi lo, WR w b s l i wr k hi lo
theorem rep_two {w : World} {b hi lo : Nat} (h : w.heap[b]? = some (.cells #[.int .u64 (hi : Int), .int .u64 (lo : Int)] 87 (0, 0))) (h1 : hi < 18446744073709551616) (h2 : lo < 18446744073709551616) : Rep kSum128a w b (hi * 18446744073709551616 + lo) := by
  have e1 : (hi * 18446744073709551616 + lo) / 18446744073709551616 = hi := by omega
  have e2 : (hi * 18446744073709551616 + lo) % 18446744073709551616 = lo := by omega
  refine ⟨?_, (by show hi * 18446744073709551616 + lo < 340282366920938463463374607431768211456; omega)⟩
  show w.heap[b]? = some (.cells #[.int .u64 (((hi * 18446744073709551616 + lo) / 18446744073709551616 : Nat) : Int), .int .u64 (((hi * 18446744073709551616 + lo) % 18446744073709551616 : Nat) : Int)] 87 (0, 0))
  rw [e1, e2, h]

set_option maxRecDepth 100000 in
set_option maxHeartbeats 400000 in
theorem write (w : World) (b s : Nat) (A : Option Addr) (n c : Nat) (l : List Nat) (B : Nat) (hr : Rep kSum128a w b s) (hl : BS w B A n l) (hA : ∀ a, A = some a → 0 < n → a.block ≠ b) (hnc : n ≤ c) (hm : c ≤ maxLen) :
    Calls Try.prog 133 #[hp b, .slice A n c] w fun e w' => RetWrite kSum128a w b s n l e w' := by
  obtain rfl : l.length = n := hl.len
  unfold maxLen at hm
  obtain ⟨hr, hs⟩ := hr
  have hs' : s < 340282366920938463463374607431768211456 := hs
  have HR := Lib.hid hr
  have HA := Lib.hid hA
  clear hr hs hA
  unfold hp
  go_enter Try.func133, Try.ntmps133
  go_wp2
  go_loopw [12] (fun i wr => WRel w b s l i wr) (fun i _ => l.length - (intOf i).toNat)
  case atStart => exact ⟨0, s / 18446744073709551616, s % 18446744073709551616, Nat.zero_le _, (by show s = _; omega), by omega, by omega, Only.refl _ _, HR.out, rfl⟩
  case round =>
    obtain ⟨k, hi, lo, hk, hfold, hhi, hlo, honly, hblk, rfl⟩ := hrel
    have HF := Lib.hid hfold
    clear hfold
    have h0 := two0 hblk
    have h1 := two1 hblk
    have f0 := twof (i := 0) hblk
    have f1' := twof (i := 1) hblk
    have HB := Lib.hid hblk
    clear hblk
    by_cases hkl : k < l.length
    · have HS := Lib.hid (foldl_take kSum128a.step s l k hkl)
      obtain ⟨b1, o1, rfl, hb1, hl⟩ := hl.open_ (by omega)
      have hne : b1 ≠ b := HA.out _ rfl (by omega)
      have cK := (honly.cell hne).trans (hl.cell hkl)
      have gK := getD_lt hl.lt k
      generalize l.getD k 0 = zk at *
      have hx := u64_xor_nat lo zk hlo (by omega)
      have hX2 : lo ^^^ zk < 18446744073709551616 := PlainHash.xor_lt (n := 64) hlo (by omega)
      have hst0 := xor_low hi lo zk hlo gK
      obtain ⟨X, hX⟩ : ∃ X, lo ^^^ zk = X := ⟨_, rfl⟩
      rw [hX] at hx hX2 hst0
      have HXE := Lib.hid hx
      have HST0 := Lib.hid hst0
      clear hX hx hst0
      have g1 : wr.drew.cell? ⟨b, 1, none⟩ = some (.int .u64 (lo : Int)) := two1 HB.out
      have gf : wr.drew.frozen? ⟨b, 1, none⟩ = false := twof (i := 1) HB.out
      go_wp2
      refine wp_region_still_tail 9 (by kernel_rfl) (by kernel_rfl) ?_
      change wpStill _ _ (World.drew _) _ _ _
      simp only [List.take_succ_cons, List.take_zero, List.drop_succ_cons, List.drop_zero]
      repeat still_step
      refine wpStill_nil ?_
      change wpList _ _ _ _ _ wr.drew
      clear h0 h1 f0 f1' cK
      have hcv : ∀ v, (wr.setCell ⟨b, 1, none⟩ v).drew.cell? ⟨b, 1, none⟩ = some v := fun v => two1 (two_set1 HB.out)
      go_wp2_with fail
      rw [HXE.out]
      clear hcv
      generalize hw4 : (wr.setCell ⟨b, 1, none⟩ (.int .u64 (X : Int))).drew = w4
      have hblk4 : w4.heap[b]? = some (.cells #[.int .u64 (hi : Int), .int .u64 (X : Int)] 87 (0, 0)) := by
        rw [← hw4]; exact two_set1 (w := wr) HB.out
      have hon4 : Only b w w4 := by rw [← hw4]; exact (honly.set 1 _).drewN 1
      have h0 := two0 hblk4
      have h1 := two1 hblk4
      have f0 := twof (i := 0) hblk4
      have f1' := twof (i := 1) hblk4
      have HB4 := Lib.hid hblk4
      clear hblk4 hw4 g1 gf
      refine (mul315 X hX2 w4).mono ?_
      rintro e w1 ⟨rfl, rfl⟩
      have hr : 315 * X % 18446744073709551616 < 18446744073709551616 := by omega
      obtain ⟨a1, a2, a3, y, e1, e2, e3, e4, hy, hst⟩ := mulp hi X
      generalize 315 * X / 18446744073709551616 = q at *
      generalize 315 * X % 18446744073709551616 = r at *
      have HST := Lib.hid hst
      clear hst
      go_wp2
      go_quiet (fail)
      go_wp2
      refine ⟨⟨k + 1, y, r, by omega, ?_, hy, hr, (((hon4.drewN nq).set 1 _).set 0 _), two_set0 (two_set1 (w := w4.drewN nq) HB4.out), by simp⟩, by simp [intOf]; omega⟩
      rw [HS.out, HF.out]
      show ((hi * 18446744073709551616 + lo) ^^^ zk) * 309485009821345068724781371 % 340282366920938463463374607431768211456 = _
      rw [HST0.out, HST.out]
    · obtain rfl : k = l.length := by omega
      have hfold := HF.out
      rw [List.take_of_length_le (Nat.le_refl _)] at hfold
      have HFO := Lib.hid hfold
      clear hfold HF
      go_wp2
      refine bodyPost_ret (results_two rfl _ _ _) rfl ⟨rfl, honly, ?_⟩
      rw [HFO.out]
      exact rep_two HB.out hhi hlo

theorem sum (w : World) (b s base : Nat) (sv : Value) (l : List Nat) (hr : Rep kSum128a w b s) (ho : Own w base sv l) (hb : b < base) (hB : base ≤ w.heap.size) (hn : l.length ≤ 70368744177664) :
    Calls Try.prog 131 #[hp b, sv] w fun e w' => RetApp w base (l ++ be16 s) e w' := by
  have hs' : s < 340282366920938463463374607431768211456 := hr.2
  have h0 := two0 hr.1
  have HR := Lib.hid hr
  have HO := Lib.hid ho
  clear ho hr
  unfold hp
  go_enter Try.func131, Try.ntmps131
  go_wp2_with fail
  refine (beAppend64 (s / 18446744073709551616) (by omega) w base sv l HO.out hB (by omega)).mono ?_
  rintro e w1 ⟨v1, rfl, ho1, hb1⟩
  have hr1 := HR.out.below hb1 hb
  have h1 := two1 hr1.1
  have hsz1 := hb1.size
  have HO1 := Lib.hid ho1
  clear ho1 hr1
  go_wp2_with fail
  refine (beAppend64 (s % 18446744073709551616) (by omega) w1 base v1 (l ++ be8 (s / 18446744073709551616)) HO1.out (by omega) (by rw [List.length_append, PlainHash.be8_length]; omega)).mono ?_
  rintro e w2 ⟨v2, rfl, ho2, hb2⟩
  go_wp2
  go_ret
  rw [List.append_assoc] at ho2
  exact ⟨v2, rfl, ho2, hb1.trans hb2⟩

theorem reset (w : World) (b s : Nat) (hr : Rep kSum128a w b s) : Calls Try.prog 129 #[hp b] w fun e w' => RetReset kSum128a w b e w' := by
  have h0 := two0 hr.1
  have h1 := two1 hr.1
  have f0 := twof (i := 0) hr.1
  have f1' := twof (i := 1) hr.1
  have HR := Lib.hid hr
  clear hr
  unfold hp
  go_enter Try.func129, Try.ntmps129
  go_wp2
  go_end0
  exact ⟨rfl, ((Only.refl _ _).set 0 _).set 1 _, two_set1 (two_set0 HR.out.1), by show (144066263297769815596495629667062367629 : Nat) < 340282366920938463463374607431768211456; decide⟩

theorem size_ (w : World) (b : Nat) : Calls Try.prog 130 #[hp b] w fun e w' => e = .returned (.int .i64 ((kSum128a.size : Nat) : Int)) ∧ w = w' := by
  unfold hp
  go_enter Try.func130, Try.ntmps130
  go_wp2
  go_ret
  exact ⟨rfl, rfl⟩
theorem block_ (w : World) (b : Nat) : Calls Try.prog 126 #[hp b] w fun e w' => e = .returned (.int .i64 ((kSum128a.block : Nat) : Int)) ∧ w = w' := by
  unfold hp
  go_enter Try.func126, Try.ntmps126
  go_wp2
  go_ret
  exact ⟨rfl, rfl⟩
theorem clone (w : World) (b s : Nat) (hr : Rep kSum128a w b s) : Calls Try.prog 127 #[hp b] w fun e w' => RetClone kSum128a w s e w' := by
  have h0 := two0 hr.1
  have h1 := two1 hr.1
  clear hr
  unfold hp
  go_enter Try.func127, Try.ntmps127
  go_wp2
  exact bodyPost_ret (results_two rfl _ _ _) rfl ⟨rfl, rfl⟩

set_option maxRecDepth 100000 in
theorem appendBinary (w : World) (b s base : Nat) (sv : Value) (l : List Nat) (hr : Rep kSum128a w b s) (ho : Own w base sv l) (hb : b < base) (hB : base ≤ w.heap.size) (hn : l.length ≤ 1000) :
    Calls Try.prog 134 #[hp b, sv] w fun e w' => ∃ v, e = .returned (.tuple #[v, .nilIface]) ∧ Own w' base v ((l ++ [102, 110, 118, 6]) ++ be16 s) ∧ Below base w w' := by
  have hs' : s < 340282366920938463463374607431768211456 := hr.2
  obtain ⟨i, hi, hzz⟩ := Option.map_eq_some_iff.1 Try.infoByte
  simp only [Prod.mk.injEq] at hzz
  obtain ⟨hz, hsz, hby⟩ := hzz
  have HO := Lib.hid ho
  have HR := Lib.hid hr
  clear ho hr
  unfold hp
  go_enter Try.func134, Try.ntmps134
  go_wp2_with (at_builtin; refine Lib.wpList_append_own_string _ (o := ⟨some 7, _, _, _, _, _⟩) rfl _ _ 22 9 rfl base 5 i Try.underlying22 Try.underlying9 hi hz hsz hby sv l.length (bv l) rfl HO.out.1 ⟨#[102, 110, 118, 6]⟩ rfl (by unfold maxLen; have : (⟨#[102, 110, 118, 6]⟩ : ByteArray).size = 4 := rfl; omega) (by have : (⟨#[102, 110, 118, 6]⟩ : ByteArray).size = 4 := rfl; omega) hB ?_)
  intro v1 w1 hown1 hg1 _
  have ho1 : Own w1 base v1 (l ++ [102, 110, 118, 6]) := own_magic HO.out.2 (by decide) rfl rfl hown1
  have hb1 : Below base w w1 := (Below.refl _ _).grown hg1 hB HO.out.block
  have hr1 := HR.out.below hb1 hb
  have h0 := two0 hr1.1
  have hsz1 := hb1.size
  have HR1 := Lib.hid hr1
  have HO1 := Lib.hid ho1
  clear hown1 hg1 ho1 hr1
  go_wp2_with fail
  refine (beAppend64 (s / 18446744073709551616) (by omega) w1 base v1 (l ++ [102, 110, 118, 6]) HO1.out (by omega) (by rw [List.length_append]; simp only [List.length_cons, List.length_nil]; omega)).mono ?_
  rintro e w2 ⟨v2, rfl, ho2, hb2⟩
  have hr2 := HR1.out.below hb2 hb
  have h1 := two1 hr2.1
  have hsz2 := hb2.size
  have HO2 := Lib.hid ho2
  clear ho2 hr2
  go_wp2_with fail
  refine (beAppend64 (s % 18446744073709551616) (by omega) w2 base v2 ((l ++ [102, 110, 118, 6]) ++ be8 (s / 18446744073709551616)) HO2.out (by omega) (by rw [List.length_append, List.length_append, PlainHash.be8_length]; simp only [List.length_cons, List.length_nil]; omega)).mono ?_
  rintro e w3 ⟨v3, rfl, ho3, hb3⟩
  rw [List.append_assoc] at ho3
  go_wp2
  exact bodyPost_ret (results_two rfl _ _ _) rfl ⟨v3, rfl, ho3, (hb1.trans hb2).trans hb3⟩

theorem marshal (w : World) (b s : Nat) (hr : Rep kSum128a w b s) : Calls Try.prog 128 #[hp b] w fun e w' => RetMarshal kSum128a w s e w' := by
  have hmk : ∀ w : World, (Instr.makeSlice 22 (.int .i64 0) (.int .i64 20)).run Try.prog w = .ok (.slice (some ⟨w.heap.size, 0, none⟩) 0 20) (w.alloc (.cells #[.int .u8 0, .int .u8 0, .int .u8 0, .int .u8 0, .int .u8 0, .int .u8 0, .int .u8 0, .int .u8 0, .int .u8 0, .int .u8 0, .int .u8 0, .int .u8 0, .int .u8 0, .int .u8 0, .int .u8 0, .int .u8 0, .int .u8 0, .int .u8 0, .int .u8 0, .int .u8 0] 5)) := fun _ => by kernel_rfl
  have hlt := hr.lt
  have hb : Below w.heap.size w (w.alloc (.cells #[.int .u8 0, .int .u8 0, .int .u8 0, .int .u8 0, .int .u8 0, .int .u8 0, .int .u8 0, .int .u8 0, .int .u8 0, .int .u8 0, .int .u8 0, .int .u8 0, .int .u8 0, .int .u8 0, .int .u8 0, .int .u8 0, .int .u8 0, .int .u8 0, .int .u8 0, .int .u8 0] 5)) := (Below.refl _ _).alloc (Nat.le_refl _) _
  have hr1 := hr.below hb hlt
  have ho : Own (w.alloc (.cells #[.int .u8 0, .int .u8 0, .int .u8 0, .int .u8 0, .int .u8 0, .int .u8 0, .int .u8 0, .int .u8 0, .int .u8 0, .int .u8 0, .int .u8 0, .int .u8 0, .int .u8 0, .int .u8 0, .int .u8 0, .int .u8 0, .int .u8 0, .int .u8 0, .int .u8 0, .int .u8 0] 5)) w.heap.size (.slice (some ⟨w.heap.size, 0, none⟩) 0 20) [] := ⟨World.ownsRow_made w #[.int .u8 0, .int .u8 0, .int .u8 0, .int .u8 0, .int .u8 0, .int .u8 0, .int .u8 0, .int .u8 0, .int .u8 0, .int .u8 0, .int .u8 0, .int .u8 0, .int .u8 0, .int .u8 0, .int .u8 0, .int .u8 0, .int .u8 0, .int .u8 0, .int .u8 0, .int .u8 0] 20 (Nat.le_refl _) (by unfold maxLen; omega) rfl, by simp⟩
  have HO := Lib.hid ho
  have HR := Lib.hid hr1
  clear ho hr1 hr
  unfold hp
  go_enter Try.func128, Try.ntmps128
  go_wp2_with fail
  refine (appendBinary _ b s w.heap.size _ [] HR.out HO.out hlt (by simp) (by simp)).mono ?_
  rintro e w1 ⟨v1, rfl, ho1, hb1⟩
  go_wp2
  exact bodyPost_ret (results_two rfl _ _ _) rfl ⟨v1, rfl, ho1, hb.trans hb1⟩

set_option maxRecDepth 100000 in
theorem unmarshal (w : World) (b s s' : Nat) (A : Option Addr) (n c : Nat) (B : Nat) (hr : Rep kSum128a w b s) (hl : BS w B A n ([102, 110, 118, 6] ++ be16 s')) (hnc : n ≤ c) (hA : ∀ a, A = some a → 0 < n → a.block ≠ b) (hs' : s' < 340282366920938463463374607431768211456) :
    Calls Try.prog 132 #[hp b, .slice A n c] w fun e w' => RetUnmarshal kSum128a w b s' e w' := by
  obtain ⟨hi, lo, hhi, hlo, rfl⟩ : ∃ hi lo, hi < 18446744073709551616 ∧ lo < 18446744073709551616 ∧ s' = hi * 18446744073709551616 + lo := ⟨s' / 18446744073709551616, s' % 18446744073709551616, by omega, by omega, by omega⟩
  have hbe : be16 (hi * 18446744073709551616 + lo) = be8 hi ++ be8 lo := by unfold be16; rw [show (hi * 18446744073709551616 + lo) / 18446744073709551616 = hi by omega, show (hi * 18446744073709551616 + lo) % 18446744073709551616 = lo by omega]
  rw [hbe] at hl
  obtain rfl : 20 = n := hl.len
  obtain ⟨b1, o1, rfl, hb1, hl⟩ := hl.open_ (by omega)
  have hne : b1 ≠ b := hA _ rfl (by omega)
  have hconv := Aid.run_str (P := Try.prog) (hl.take (k := 4) (by omega)) 22 9 5 c Try.underlying22 Try.underlying5 Try.underlying9
  have hm : Aid.strOf (List.take 4 (([102, 110, 118, 6] : List Nat) ++ (be8 hi ++ be8 lo))) = (⟨#[102, 110, 118, 6]⟩ : ByteArray) := rfl
  rw [hm] at hconv
  have hd := hl.drop (k := 4) (by omega)
  have hm2 : List.drop 4 (([102, 110, 118, 6] : List Nat) ++ (be8 hi ++ be8 lo)) = be8 hi ++ be8 lo := rfl
  rw [hm2] at hd
  have hd2 := hl.drop (k := 12) (by omega)
  have hm3 : List.drop 12 (([102, 110, 118, 6] : List Nat) ++ (be8 hi ++ be8 lo)) = be8 lo ++ [] := rfl
  rw [hm3] at hd2
  have h0 := two0 hr.1
  have f0 := twof (i := 0) hr.1
  have HR := Lib.hid hr
  have HD := Lib.hid hd
  have HD2 := Lib.hid hd2
  have hne4 : ¬ c = 4 := by omega
  have hne12 : ¬ c = 12 := by omega
  clear hr hl hd hd2 hm hm2 hm3 hA hbe
  unfold hp
  go_enter Try.func132, Try.ntmps132
  go_wp2_with fail
  go_region_with (go_at_call 105; refine (beUint64 hi hhi (be8 lo) _ B b1 (o1 + 4) 16 (c - 4) (by omega) ?_).mono ?_; exact HD.out.drew; rintro e w1 ⟨rfl, k, rfl⟩)
  generalize hw2 : (w.drewN (1 + k)).setCell ⟨b, 0, none⟩ (.int .u64 (hi : Int)) = w2
  have hblk2 := two_set0 (w := w.drewN (1 + k)) (u := .int .u64 (hi : Int)) HR.out.1
  have hon2 : Only b w ((w.drewN (1 + k)).setCell ⟨b, 0, none⟩ (.int .u64 (hi : Int))) := (Only.drewN (Only.refl b w) (1 + k)).set 0 _
  rw [hw2] at hblk2 hon2
  have hd3 := HD2.out.keepNe (w' := w2) (b := b) hne (fun o => hon2.cell hne)
  have h1 := two1 hblk2
  have f1' := twof (i := 1) hblk2
  have HD3 := Lib.hid hd3
  have HB2 := Lib.hid hblk2
  clear hd3 hblk2 hw2 h0 f0 hconv
  go_wp2_with fail
  go_region_with (go_at_call 105; refine (beUint64 lo hlo [] _ B b1 (o1 + 12) 8 (c - 12) (by omega) ?_).mono ?_; exact HD3.out.drew; rintro e w3 ⟨rfl, k2, rfl⟩)
  go_wp2
  go_ret
  exact ⟨rfl, (Only.drewN hon2 (1 + k2)).set 1 _, rep_two (two_set1 (w := w2.drewN (1 + k2)) HB2.out) hhi hlo⟩
end Sum128a

theorem goodSum128a : Good Try.prog kSum128a where
  init_ok := by show (144066263297769815596495629667062367629 : Nat) < 340282366920938463463374607431768211456; decide
  step_ok := Sum128a.step_lt
  bytes_len _ := rfl
  bytes_lt := PlainHash.be16_lt
  bytes_inj := PlainHash.be16_inj
  magic_len := rfl
  magic_lt := by decide
  size_le := by decide
  block_le := by decide
  write w b s A n c l B hr hl hA hn hm := Sum128a.write w b s A n c l B hr hl hA hn hm
  sum w b s base sv l hr ho hb hB hn := Sum128a.sum w b s base sv l hr ho hb hB hn
  reset := Sum128a.reset
  size_ := Sum128a.size_
  block_ := Sum128a.block_
  clone := Sum128a.clone
  marshal := Sum128a.marshal
  unmarshal w b s s' A n c B hr hl hnc hA hs := Sum128a.unmarshal w b s s' A n c B hr hl hnc hA hs

end Go.Proofs.Ytdpjdglcienbfaa

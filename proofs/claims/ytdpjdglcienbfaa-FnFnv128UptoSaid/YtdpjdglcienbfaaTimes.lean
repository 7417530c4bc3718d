/-
  The walk of spec.times: the product of two numbers of n bytes, without what is beyond n bytes. Conditions: at least one and at most 1000 bytes, both of one length.
-/
import Derived.Test.YtdpjdglcienbfaaAppend
import Derived.Test.YtdpjdglcienbfaaPlainTimes
import Derived.Outline
import Derived.Lib.Hide
import Derived.LoopTactic
import Derived.WalkSpells
import Derived.WalkLawsBesides
import Derived.Deep.QuietTactic
import Derived.BigQuiet
import Derived.Deep.OwnRows
namespace Go.Proofs.Ytdpjdglcienbfaa
open Go.RowKit
open PlainTimes (lev)

theorem own_of_row' {w1 : World} {g M : Nat} {f : Nat → Value} (h : w1.rowIs g 5 M f) {base : Nat} (hb : base ≤ g) (t : List Nat) (ht : t.length ≤ M) (hM : M ≤ maxLen) (hlt : ∀ x ∈ t, x < 256)
    (hat : ∀ j, j < t.length → f (0 + j) = .int .u8 ((t.getD j 0 : Nat) : Int)) : Own w1 base (.slice (some ⟨g, 0, none⟩) t.length M) t := by
  obtain ⟨cur, hc, hs, hcur⟩ := h
  refine ⟨⟨by simp [bv_length], .inr ⟨g, M, cur, rfl, hb, hc, ht, hM, by omega, ?_⟩⟩, hlt⟩
  apply List.ext_getElem?
  intro i
  rw [List.getElem?_take]
  by_cases hi : i < t.length
  · rw [if_pos (by omega), Array.getElem?_toList, hcur i (by omega), bv_at _ _ hi, ← hat i hi, Nat.zero_add]
  · rw [if_neg (by omega), List.getElem?_eq_none (by rw [bv_length]; omega)]

def fl (l : List Nat) : Nat → Nat := fun p => l.getD p 0
structure TO (w : World) (n : Nat) (la lb : List Nat) (wr : World) (i : Nat) (f : Nat → Nat) : Prop where
  il : i ≤ n
  row : wr.rowIs w.heap.size 5 n (fun p => .int .u8 ((f p : Nat) : Int))
  bel : Below w.heap.size w wr
  lt : ∀ p, f p < 256
  val : lev n f n % 256 ^ n = lev n (fl la) i * lev n (fl lb) n % 256 ^ n
def TORel (w : World) (n : Nat) (la lb : List Nat) (i : Value) (wr : World) : Prop := ∃ k f, TO w n la lb wr k f ∧ i = .int .i64 (k : Int)
structure TI (w : World) (n : Nat) (la lb : List Nat) (wr : World) (i O : Nat) (j c : Nat) (f : Nat → Nat) : Prop where
  jl : i + j ≤ n
  row : wr.rowIs w.heap.size 5 n (fun p => .int .u8 ((f p : Nat) : Int))
  bel : Below w.heap.size w wr
  lt : ∀ p, f p < 256
  clt : c < 256
  val : lev n f n + c * 256 ^ (i + j) = O + fl la (n - 1 - i) * 256 ^ i * lev n (fl lb) j
def TIRel (w : World) (n : Nat) (la lb : List Nat) (i O : Nat) (j c : Value) (wr : World) : Prop := ∃ k x f, TI w n la lb wr i O k x f ∧ j = .int .i64 (k : Int) ∧ c = .int .i64 (x : Int)

theorem times_arith (zo za zb x : Nat) (h1 : zo < 256) (h2 : za < 256) (h3 : zb < 256) (h4 : x < 256) : wrap64 (wrap64 ((zo : Int) + wrap64 ((za : Int) * (zb : Int))) + (x : Int)) = ((zo + za * zb + x : Nat) : Int) := by
  have hm : za * zb ≤ 255 * 255 := Nat.mul_le_mul (by omega) (by omega)
  have e : (za : Int) * (zb : Int) = ((za * zb : Nat) : Int) := by simp
  rw [e]
  generalize za * zb = m at *
  unfold wrap64
  omega
theorem times_quo (X : Nat) : wrap64 (((X : Nat) : Int).tdiv 256) = wrap64 (((X / 256 : Nat)) : Int) := by
  congr 1
theorem times_rem (X : Nat) : ((X : Nat) : Int).tmod 256 % 256 = ((X % 256 : Nat) : Int) := by
  rw [show ((X : Nat) : Int).tmod 256 = ((X % 256 : Nat) : Int) from rfl]
  omega
theorem TI.next {w : World} {n : Nat} {la lb : List Nat} {wr : World} {i O j x : Nat} {f2 : Nat → Nat} {zo za zb : Nat} (hrow : wr.rowIs w.heap.size 5 n (fun p => .int .u8 ((f2 p : Nat) : Int))) (hbel : Below w.heap.size w wr) (hlt : ∀ p, f2 p < 256) (hx : x < 256)
    (hval : lev n f2 n + x * 256 ^ (i + j) = O + fl la (n - 1 - i) * 256 ^ i * lev n (fl lb) j) (hfo : f2 (n - 1 - i - j) = zo) (hj : i + j < n) (nq : Nat) (gO : zo < 256) (gA : za < 256) (gB : zb < 256) (hza : la.getD (n - 1 - i) 0 = za) (hzb : lb.getD (n - 1 - j) 0 = zb) :
    TIRel w n la lb i O (.int .i64 ((j : Int) + 1)) (.int .i64 (wrap64 (((zo + za * zb + x) / 256 : Nat) : Int))) ((wr.drewN nq).setCell ⟨w.heap.size, n - 1 - i - j, none⟩ (.int .u8 (((zo + za * zb + x) % 256 : Nat) : Int))) := by
  obtain ⟨hc1, hc2⟩ := PlainTimes.carry_le gO gA gB hx
  have hw : wrap64 (((zo + za * zb + x) / 256 : Nat) : Int) = (((zo + za * zb + x) / 256 : Nat) : Int) := by
    generalize (zo + za * zb + x) / 256 = m at *
    unfold wrap64; omega
  rw [hw]
  refine ⟨j + 1, (zo + za * zb + x) / 256, fun p => if p = n - 1 - i - j then (zo + za * zb + x) % 256 else f2 p, ⟨by omega, ?_, ?_, ?_, hc1, ?_⟩, by simp, rfl⟩
  · refine (World.rowIs.set (w := wr.drewN nq) hrow (n - 1 - i - j) _).congr fun p _ => ?_
    by_cases e : p = n - 1 - i - j <;> simp [e]
  · exact (hbel.trans ⟨rfl, rfl, rfl, Nat.le_refl _, fun _ _ => rfl⟩ : Below w.heap.size w (wr.drewN nq)).setCell (Nat.le_refl _) _
  · intro p
    by_cases e : p = n - 1 - i - j
    · simp only [e, if_true]; exact Nat.mod_lt _ (by decide)
    · simp only [e, if_false]; exact hlt p
  · have hset := PlainTimes.lev_set n f2 (fun p => if p = n - 1 - i - j then (zo + za * zb + x) % 256 else f2 p) (i + j) ((zo + za * zb + x) % 256) (if_pos (by omega)) (fun p hp => if_neg (by omega)) n hj (Nat.le_refl _)
    rw [show n - 1 - (i + j) = n - 1 - i - j by omega, hfo] at hset
    have hstep := PlainTimes.inner_step (q := 0) hval hset rfl
    rw [show i + (j + 1) = i + j + 1 by omega, Nat.pow_succ, hstep]
    simp only [lev, fl]
    rw [hza, hzb, Nat.mul_add, ← Nat.add_assoc, Nat.pow_add]
    congr 1
    simp only [Nat.mul_left_comm, Nat.mul_assoc]

theorem lev_zero (n : Nat) : ∀ m, lev n (fun _ => 0) m = 0 := by
  intro m
  induction m with
  | zero => rfl
  | succ m ih => simp [lev, ih]
theorem TO.next {w : World} {n : Nat} {la lb : List Nat} {wr : World} {i j x : Nat} {f f2 : Nat → Nat} (hi : i < n) (hij : i + j = n) (hrow : wr.rowIs w.heap.size 5 n (fun p => .int .u8 ((f2 p : Nat) : Int))) (hbel : Below w.heap.size w wr) (hlt : ∀ p, f2 p < 256)
    (hval : lev n f2 n + x * 256 ^ (i + j) = lev n f n + fl la (n - 1 - i) * 256 ^ i * lev n (fl lb) j) (hO : lev n f n % 256 ^ n = lev n (fl la) i * lev n (fl lb) n % 256 ^ n) :
    TORel w n la lb (.int .i64 ((i : Int) + 1)) wr := by
  obtain ⟨r, hr⟩ := PlainTimes.lev_split n (fl lb) j n (by omega)
  rw [show 256 ^ j = 256 ^ (n - i) by congr 1; omega] at hr
  rw [hij] at hval
  exact ⟨i + 1, f2, ⟨hi, hrow, hbel, hlt, PlainTimes.outer_step hi hO hval r hr⟩, by simp⟩
/-- A call that hands back n bytes of its own whose number is X without what is beyond n bytes. -/
def RetTimes (w : World) (n X : Nat) (e : Ending) (w' : World) : Prop := ∃ v, e = .returned v ∧ (∃ l, Own w' w.heap.size v l ∧ l.length = n ∧ lev n (fl l) n = X % 256 ^ n) ∧ Below w.heap.size w w'
theorem TO.done {w wr : World} {n X : Nat} {f : Nat → Nat} (hrow : wr.rowIs w.heap.size 5 n (fun p => .int .u8 ((f p : Nat) : Int))) (hn : n ≤ maxLen) (hlt : ∀ p, f p < 256) (hval : lev n f n % 256 ^ n = X % 256 ^ n) :
    ∃ l, Own wr w.heap.size (.slice (some ⟨w.heap.size, 0, none⟩) n n) l ∧ l.length = n ∧ lev n (fl l) n = X % 256 ^ n := by
  have hat : ∀ j, j < n → ((List.range n).map f).getD j 0 = f j := fun j hj => by simp [List.getD_eq_getElem?_getD, hj]
  refine ⟨(List.range n).map f, ?_, by simp, ?_⟩
  · have h := own_of_row' hrow (base := w.heap.size) (Nat.le_refl _) ((List.range n).map f) (by simp) hn (fun x hx => by obtain ⟨p, _, rfl⟩ := List.mem_map.1 hx; exact hlt p) (fun j hj => by rw [hat j (by simpa using hj), Nat.zero_add])
    simpa using h
  · rw [← hval, Nat.mod_eq_of_lt (PlainTimes.lev_lt n f hlt n)]
    exact PlainTimes.lev_congr n _ _ n (fun t ht => hat _ (by omega))

set_option maxRecDepth 100000 in
set_option maxHeartbeats 1000000 in
theorem times_any (A : Option Addr) (n c : Nat) (la : List Nat) (A2 : Option Addr) (c2 : Nat) (lb : List Nat) (w : World) (B : Nat) (hB : B ≤ w.heap.size) (hn0 : 0 < n) (hn : n ≤ 1000) (h1 : BS w B A n la) (h2 : BS w B A2 n lb) :
    Calls Try.prog 53 #[.slice A n c, .slice A2 n c2] w fun e w' => RetTimes w n (lev n (fl la) n * lev n (fl lb) n) e w' := by
  have hmk := fun W => run_make_row' (P := Try.prog) 22 5 (.int .u8 0) 1 Try.underlying22 Try.infoByte rfl .i64 .i64 n (by omega) (by omega) W
  obtain ⟨b1, o1, rfl, hb1, h1⟩ := h1.open_ hn0
  obtain ⟨b2, o2, rfl, hb2, h2⟩ := h2.open_ hn0
  have hrow := World.rowIs_made w (.int .u8 0) n 5
  have HROW := Lib.hid hrow
  clear hrow
  go_enter Try.func53, Try.ntmps53
  go_wp2
  go_loopw [7] (fun i wr => TORel w n la lb i wr) (fun i _ => n - (intOf i).toNat)
  case atStart => exact ⟨0, fun _ => 0, ⟨Nat.zero_le _, HROW.out, (Below.refl _ _).alloc (Nat.le_refl _) _, fun _ => by omega, by rw [lev_zero]; simp [lev]⟩, rfl⟩
  case round =>
    obtain ⟨i, f, ⟨hil, hrow, hbel, hlt, hval⟩, rfl⟩ := hrel
    have HVAL := Lib.hid hval
    have HLT := Lib.hid hlt
    have HROW := Lib.hid hrow
    clear hval hlt hrow
    by_cases hi : i < n
    · obtain ⟨wo, rfl⟩ : ∃ wo : World, wo = wr := ⟨_, rfl⟩
      go_wp2
      go_loopw [9, 8] (fun j c wr => TIRel w n la lb i (lev n f n) j c wr) (fun j _ _ => n - (intOf j).toNat)
      case atStart => exact ⟨0, 0, f, ⟨by omega, HROW.out, hbel, HLT.out, by omega, by simp [lev]⟩, rfl, rfl⟩
      case round =>
        obtain ⟨j, x, f2, ⟨hjl, hrow2, hbel2, hlt2, hx, hval2⟩, rfl, rfl⟩ := hrel
        by_cases hj : i + j < n
        · have cA := (h1.below (hbel2.mono hB)).cell (i := n - 1 - i) (by omega)
          have cB := (h2.below (hbel2.mono hB)).cell (i := n - 1 - j) (by omega)
          have cO := hrow2.cell (i := n - 1 - i - j) (by omega)
          have gA := getD_lt h1.lt (n - 1 - i)
          have gB := getD_lt h2.lt (n - 1 - j)
          have gO := hlt2 (n - 1 - i - j)
          have fO := hrow2.frozen (n - 1 - i - j)
          generalize hza : la.getD (n - 1 - i) 0 = za at *
          generalize hzb : lb.getD (n - 1 - j) 0 = zb at *
          have HZA := Lib.hid hza
          have HZB := Lib.hid hzb
          clear hza hzb
          generalize hfo : f2 (n - 1 - i - j) = zo at *
          have HFO := Lib.hid hfo
          have HV2 := Lib.hid hval2
          have HL2 := Lib.hid hlt2
          have HR2 := Lib.hid hrow2
          clear hfo hval2 hlt2 hrow2
          go_wp2
          go_quiet (fail)
          go_wp2
          rw [times_arith zo za zb x gO gA gB hx, times_quo, times_rem]
          exact ⟨TI.next HR2.out hbel2 HL2.out hx HV2.out HFO.out hj nq gO gA gB HZA.out HZB.out, by simp [intOf]; omega⟩
        · have HN := Lib.hid (TO.next hi (by omega) hrow2 hbel2 hlt2 hval2 HVAL.out)
          clear hval2 hlt2 hrow2
          go_wp2
          exact ⟨HN.out, by simp [intOf]; omega⟩
    · obtain rfl : i = n := by omega
      have HN := Lib.hid (TO.done HROW.out (by unfold maxLen; omega) HLT.out HVAL.out)
      go_wp2
      go_ret
      exact ⟨_, rfl, HN.out, hbel⟩

end Go.Proofs.Ytdpjdglcienbfaa

/-
  What the walk of ascii85.Encode rests on: the relation of its loop, what each way through a round does to it, how the four bytes of a group are joined. Conditions: those that each fact names.
-/
import Derived.Test.YthhbcnjbnfjiiaaDoorWords
import Derived.Test.YthhbcnjbnfjiiaaDoorPlainEnc
import Derived.LoopTactic
import Derived.Outline
import Derived.Deep.DeepCutAuto
import Derived.Laws.BitsAllLaws
import Derived.WalkSpells
import Derived.WalkLawsBesides
import Derived.Lib.Hide
import Derived.Handy
namespace Go.Proofs.YthhbcnjbnfjiiaaDoor
open Go.RowKit
open Plain85 (enc grp digits num4)

def slenE : Value → Nat | .slice _ n _ => n | _ => 0

structure EncR (w : World) (B bd od ld cd M : Nat) (T : TypeId) (f : Nat → Value) (l : List Nat) (dst src n : Value) (wr : World) (pre r : List Nat) (A' : Option Addr) (c' : Nat) (f' : Nat → Value) : Prop where
  split : pre ++ r = l
  whole : r = [] ∨ ∃ k, pre.length = 4 * k
  rc : r.length ≤ c'
  cm : c' ≤ 9223372036854775807
  bs : BS w B A' r.length r
  dis : ∀ b o, A' = some ⟨b, o, none⟩ → b = bd → o + r.length ≤ od
  row : wr.rowIs bd T M f'
  only : Only bd w wr
  low : ∀ i, i < od → f' i = f i
  high : ∀ i, od + 5 * ((l.length + 3) / 4) ≤ i → f' i = f i
  txt : ∀ j, j < (enc pre).length → f' (od + j) = .int .u8 (((enc pre).getD j 0 : Nat) : Int)
  edst : dst = .slice (some ⟨bd, od + (enc pre).length, none⟩) (ld - (enc pre).length) (cd - (enc pre).length)
  esrc : src = .slice A' r.length c'
  en : n = .int .i64 (((enc pre).length : Nat) : Int)
def EncRel (w : World) (B bd od ld cd M : Nat) (T : TypeId) (f : Nat → Value) (l : List Nat) (dst src n : Value) (wr : World) : Prop :=
  ∃ pre r A' c' f', EncR w B bd od ld cd M T f l dst src n wr pre r A' c' f'

def EncCut (flag : Bool) (w1 : World) (b : Value) (wx : World) : Prop := b = .bool flag ∧ wx = w1

theorem or_add (i : Nat) {A C : Int} {a b : Nat} (hA : A = (a : Int)) (hC : C = (b : Int)) (ha : a < 2 ^ i) (hb : b % 2 ^ i = 0) (h : a + b < 4294967296) : bits .or .u32 A C = ((a + b : Nat) : Int) := by
  rw [hA, hC, u32_or_nat a b (by omega) (by omega), Nat.or_comm, nat_join i b a hb ha, Nat.add_comm]
theorem or4 (x0 x1 x2 x3 : Nat) (h0 : x0 < 256) (h1 : x1 < 256) (h2 : x2 < 256) (h3 : x3 < 256) :
    bits .or .u32 (bits .or .u32 (bits .or .u32 (bits .or .u32 0 (x3 : Int)) ((x2 : Int) * 256)) ((x1 : Int) * 65536)) ((x0 : Int) * 16777216) = ((num4 x0 x1 x2 x3 : Nat) : Int) := by
  rw [or_add 0 (A := 0) (C := (x3 : Int)) (a := 0) (b := x3) rfl rfl (by decide) (by omega) (by omega), or_add 8 (C := (x2 : Int) * 256) (a := 0 + x3) (b := x2 * 256) rfl (by omega) (by omega) (by omega) (by omega),
    or_add 16 (C := (x1 : Int) * 65536) (a := 0 + x3 + x2 * 256) (b := x1 * 65536) rfl (by omega) (by omega) (by omega) (by omega), or_add 24 (C := (x0 : Int) * 16777216) (a := 0 + x3 + x2 * 256 + x1 * 65536) (b := x0 * 16777216) rfl (by omega) (by omega) (by omega) (by omega)]
  congr 1
  unfold num4
  omega
theorem or3 (x0 x1 x2 : Nat) (h0 : x0 < 256) (h1 : x1 < 256) (h2 : x2 < 256) :
    bits .or .u32 (bits .or .u32 (bits .or .u32 0 ((x2 : Int) * 256)) ((x1 : Int) * 65536)) ((x0 : Int) * 16777216) = ((num4 x0 x1 x2 0 : Nat) : Int) := by
  rw [or_add 8 (A := 0) (C := (x2 : Int) * 256) (a := 0) (b := x2 * 256) rfl (by omega) (by decide) (by omega) (by omega),
    or_add 16 (C := (x1 : Int) * 65536) (a := 0 + x2 * 256) (b := x1 * 65536) rfl (by omega) (by omega) (by omega) (by omega), or_add 24 (C := (x0 : Int) * 16777216) (a := 0 + x2 * 256 + x1 * 65536) (b := x0 * 16777216) rfl (by omega) (by omega) (by omega) (by omega)]
  congr 1
  unfold num4
  omega
theorem or2 (x0 x1 : Nat) (h0 : x0 < 256) (h1 : x1 < 256) :
    bits .or .u32 (bits .or .u32 0 ((x1 : Int) * 65536)) ((x0 : Int) * 16777216) = ((num4 x0 x1 0 0 : Nat) : Int) := by
  rw [or_add 16 (A := 0) (C := (x1 : Int) * 65536) (a := 0) (b := x1 * 65536) rfl (by omega) (by decide) (by omega) (by omega), or_add 24 (C := (x0 : Int) * 16777216) (a := 0 + x1 * 65536) (b := x0 * 16777216) rfl (by omega) (by omega) (by omega) (by omega)]
  congr 1
  unfold num4
  omega
theorem or1 (x : Nat) (hx : x < 256) : bits .or .u32 0 ((x : Int) * 16777216) = ((num4 x 0 0 0 : Nat) : Int) := by
  rw [or_add 24 (A := 0) (C := (x : Int) * 16777216) (a := 0) (b := x * 16777216) rfl (by omega) (by decide) (by omega) (by omega)]
  congr 1
  unfold num4
  omega

def EncPost (w : World) (bd od M : Nat) (T : TypeId) (f : Nat → Value) (l : List Nat) (e : Ending) (w' : World) : Prop :=
  ∃ f', e = .returned (.int .i64 (((enc l).length : Nat) : Int)) ∧ w'.rowIs bd T M f' ∧ Only bd w w' ∧ (∀ i, i < od → f' i = f i) ∧ (∀ i, od + 5 * ((l.length + 3) / 4) ≤ i → f' i = f i) ∧
    ∀ j, j < (enc l).length → f' (od + j) = .int .u8 (((enc l).getD j 0 : Nat) : Int)

/-- What lies outside the destination reads as it did. -/
theorem src_kept {w wr : World} {bd od M : Nat} {T : TypeId} {f f' : Nat → Value} (h : w.rowIs bd T M f) (h' : wr.rowIs bd T M f') (ho : Only bd w wr) (hlow : ∀ i, i < od → f' i = f i) {b o : Nat} (hM : od ≤ M)
    (hd : b = bd → o < od) : wr.cell? ⟨b, o, none⟩ = w.cell? ⟨b, o, none⟩ := by
  by_cases e : b = bd
  · subst e
    have := hd rfl
    rw [h.cell (by omega), h'.cell (by omega), hlow o this]
  · exact ho.cell e

/-- Five stores, upwards. -/
theorem five_up {w wr : World} {bd M : Nat} {T : TypeId} {f' : Nat → Value} (h : wr.rowIs bd T M f') (ho : Only bd w wr) (p : Nat) (u0 u1 u2 u3 u4 : Value) :
    ∃ f1, (((((wr.setCell ⟨bd, p, none⟩ u0).setCell ⟨bd, p + 1, none⟩ u1).setCell ⟨bd, p + 2, none⟩ u2).setCell ⟨bd, p + 3, none⟩ u3).setCell ⟨bd, p + 4, none⟩ u4).rowIs bd T M f1 ∧
      Only bd w (((((wr.setCell ⟨bd, p, none⟩ u0).setCell ⟨bd, p + 1, none⟩ u1).setCell ⟨bd, p + 2, none⟩ u2).setCell ⟨bd, p + 3, none⟩ u3).setCell ⟨bd, p + 4, none⟩ u4) ∧
      (∀ i, i < p ∨ p + 5 ≤ i → f1 i = f' i) :=
  ⟨_, ((((h.set p u0).set (p + 1) u1).set (p + 2) u2).set (p + 3) u3).set (p + 4) u4, ((((ho.set p u0).set (p + 1) u1).set (p + 2) u2).set (p + 3) u3).set (p + 4) u4, fun i hi => by
    rw [if_neg (by omega), if_neg (by omega), if_neg (by omega), if_neg (by omega), if_neg (by omega)]⟩
/-- Five stores, downwards. -/
theorem five_down {w wr : World} {bd M : Nat} {T : TypeId} {f' : Nat → Value} (h : wr.rowIs bd T M f') (ho : Only bd w wr) (p : Nat) (u0 u1 u2 u3 u4 : Value) :
    ∃ f1, (((((wr.setCell ⟨bd, p + 4, none⟩ u4).setCell ⟨bd, p + 3, none⟩ u3).setCell ⟨bd, p + 2, none⟩ u2).setCell ⟨bd, p + 1, none⟩ u1).setCell ⟨bd, p, none⟩ u0).rowIs bd T M f1 ∧
      Only bd w (((((wr.setCell ⟨bd, p + 4, none⟩ u4).setCell ⟨bd, p + 3, none⟩ u3).setCell ⟨bd, p + 2, none⟩ u2).setCell ⟨bd, p + 1, none⟩ u1).setCell ⟨bd, p, none⟩ u0) ∧
      (∀ i, i < p ∨ p + 5 ≤ i → f1 i = f' i) ∧ f1 p = u0 ∧ f1 (p + 1) = u1 ∧ f1 (p + 2) = u2 ∧ f1 (p + 3) = u3 ∧ f1 (p + 4) = u4 :=
  ⟨_, ((((h.set (p + 4) u4).set (p + 3) u3).set (p + 2) u2).set (p + 1) u1).set p u0, ((((ho.set (p + 4) u4).set (p + 3) u3).set (p + 2) u2).set (p + 1) u1).set p u0, fun i hi => by
    rw [if_neg (by omega), if_neg (by omega), if_neg (by omega), if_neg (by omega), if_neg (by omega)], by simp, by simp, by simp, by simp, by simp⟩

theorem txt_append {f2 : Nat → Value} {od L : Nat} {t1 g t2 : List Nat} (ht : t2 = t1 ++ g) (hL : t1.length = L) (h1 : ∀ j, j < L → f2 (od + j) = .int .u8 ((t1.getD j 0 : Nat) : Int))
    (h2 : ∀ j, j < g.length → f2 (od + L + j) = .int .u8 ((g.getD j 0 : Nat) : Int)) : ∀ j, j < t2.length → f2 (od + j) = .int .u8 ((t2.getD j 0 : Nat) : Int) := by
  subst ht
  intro j hj
  rw [List.length_append, hL] at hj
  rw [List.getD_eq_getElem?_getD, List.getElem?_append]
  by_cases hlt : j < L
  · rw [if_pos (by omega), ← List.getD_eq_getElem?_getD]; exact h1 j hlt
  · rw [if_neg (by omega), ← List.getD_eq_getElem?_getD, hL, show od + j = od + L + (j - L) by omega]
    exact h2 _ (by omega)

def dig0 (V : Nat) : Value := .int .u8 (33 + (V : Int) / 85 / 85 / 85 / 85 % 85)
def dig1 (V : Nat) : Value := .int .u8 (33 + (V : Int) / 85 / 85 / 85 % 85)
def dig2 (V : Nat) : Value := .int .u8 (33 + (V : Int) / 85 / 85 % 85)
def dig3 (V : Nat) : Value := .int .u8 (33 + (V : Int) / 85 % 85)
def dig4 (V : Nat) : Value := .int .u8 (33 + (V : Int) % 85)
theorem val_u8 {a b : Int} (h : a = b) : Value.int .u8 a = .int .u8 b := by rw [h]
theorem dig_digits {f2 : Nat → Value} {p V : Nat} (h0 : f2 p = dig0 V) (h1 : f2 (p + 1) = dig1 V) (h2 : f2 (p + 2) = dig2 V) (h3 : f2 (p + 3) = dig3 V) (h4 : f2 (p + 4) = dig4 V) (m : Nat) :
    ∀ j, j < ((digits V).take m).length → f2 (p + j) = .int .u8 ((((digits V).take m).getD j 0 : Nat) : Int) := by
  intro j hj
  rw [List.length_take, Plain85.digits_length] at hj
  rw [List.getD_eq_getElem?_getD, List.getElem?_take, if_pos (by omega)]
  match j, hj with
  | 0, _ => rw [Nat.add_zero, h0]; exact val_u8 (by simp only [digits, List.getElem?_cons_zero, Option.getD_some]; omega)
  | 1, _ => rw [h1]; exact val_u8 (by simp only [digits, List.getElem?_cons_succ, List.getElem?_cons_zero, Option.getD_some]; omega)
  | 2, _ => rw [h2]; exact val_u8 (by simp only [digits, List.getElem?_cons_succ, List.getElem?_cons_zero, Option.getD_some]; omega)
  | 3, _ => rw [h3]; exact val_u8 (by simp only [digits, List.getElem?_cons_succ, List.getElem?_cons_zero, Option.getD_some]; omega)
  | 4, _ => rw [h4]; exact val_u8 (by simp only [digits, List.getElem?_cons_succ, List.getElem?_cons_zero, Option.getD_some]; omega)
  | (_ + 5), h => omega

/-- A round that writes five digits. -/
theorem enc_round {w w1 : World} {B bd od ld cd M L V m : Nat} {T : TypeId} {f f' f1 : Nat → Value} {l pre pre2 r2 : List Nat} {A2 : Option Addr} {c2 : Nat} {src n : Value}
    (hrow1 : w1.rowIs bd T M f1) (honly1 : Only bd w w1) (hlow : ∀ i, i < od → f' i = f i) (hhigh : ∀ i, od + 5 * ((l.length + 3) / 4) ≤ i → f' i = f i)
    (htxt : ∀ j, j < L → f' (od + j) = .int .u8 (((enc pre).getD j 0 : Nat) : Int)) (hf1 : ∀ i, i < od + L ∨ od + L + 5 ≤ i → f1 i = f' i) (hL : (enc pre).length = L) (hL5 : L + 5 ≤ 5 * ((l.length + 3) / 4))
    (hsp : pre2 ++ r2 = l) (hwh : r2 = [] ∨ ∃ k, pre2.length = 4 * k) (henc : enc pre2 = enc pre ++ (digits V).take m) (hm : m ≤ 5)
    (hrc : r2.length ≤ c2) (hcm : c2 ≤ 9223372036854775807) (hbs : BS w B A2 r2.length r2) (hds : ∀ b o, A2 = some ⟨b, o, none⟩ → b = bd → o + r2.length ≤ od)
    (hsrc : src = .slice A2 r2.length c2) (hn : n = .int .i64 ((L : Int) + m)) :
    EncRel w B bd od ld cd M T f l (.slice (some ⟨bd, od + L + m, none⟩) (ld - L - m) (cd - L - m)) src n
      (((((w1.setCell ⟨bd, od + L + 4, none⟩ (dig4 V)).setCell ⟨bd, od + L + 3, none⟩ (dig3 V)).setCell ⟨bd, od + L + 2, none⟩ (dig2 V)).setCell ⟨bd, od + L + 1, none⟩ (dig1 V)).setCell ⟨bd, od + L, none⟩ (dig0 V)) := by
  obtain ⟨f2, hrow2, honly2, hf2, e0, e1, e2, e3, e4⟩ := five_down hrow1 honly1 (od + L) (dig0 V) (dig1 V) (dig2 V) (dig3 V) (dig4 V)
  have hlen2 : (enc pre2).length = L + m := by rw [henc, List.length_append, hL, List.length_take, Plain85.digits_length]; omega
  refine ⟨pre2, r2, A2, c2, f2, hsp, hwh, hrc, hcm, hbs, hds, hrow2, honly2, fun i hi => ?_, fun i hi => ?_, ?_, ?_, hsrc, ?_⟩
  · rw [hf2 i (by omega), hf1 i (by omega), hlow i hi]
  · rw [hf2 i (by omega), hf1 i (by omega), hhigh i hi]
  · refine txt_append henc hL (fun j hj => ?_) (dig_digits e0 e1 e2 e3 e4 m)
    rw [hf2 _ (by omega), hf1 _ (by omega), htxt j hj]
  · rw [hlen2, Nat.add_assoc, Nat.sub_sub, Nat.sub_sub]
  · rw [hn, hlen2]; simp

/-- A round that writes z. -/
theorem enc_round_z {w w1 : World} {B bd od ld cd M L : Nat} {T : TypeId} {f f' f1 : Nat → Value} {l pre pre2 r2 : List Nat} {A2 : Option Addr} {c2 : Nat} {src n : Value}
    (hrow1 : w1.rowIs bd T M f1) (honly1 : Only bd w w1) (hlow : ∀ i, i < od → f' i = f i) (hhigh : ∀ i, od + 5 * ((l.length + 3) / 4) ≤ i → f' i = f i)
    (htxt : ∀ j, j < L → f' (od + j) = .int .u8 (((enc pre).getD j 0 : Nat) : Int)) (hf1 : ∀ i, i < od + L ∨ od + L + 5 ≤ i → f1 i = f' i) (hL : (enc pre).length = L) (hL5 : L + 5 ≤ 5 * ((l.length + 3) / 4))
    (hsp : pre2 ++ r2 = l) (hwh : r2 = [] ∨ ∃ k, pre2.length = 4 * k) (henc : enc pre2 = enc pre ++ [122])
    (hrc : r2.length ≤ c2) (hcm : c2 ≤ 9223372036854775807) (hbs : BS w B A2 r2.length r2) (hds : ∀ b o, A2 = some ⟨b, o, none⟩ → b = bd → o + r2.length ≤ od)
    (hsrc : src = .slice A2 r2.length c2) (hn : n = .int .i64 ((L : Int) + 1)) :
    EncRel w B bd od ld cd M T f l (.slice (some ⟨bd, od + L + 1, none⟩) (ld - L - 1) (cd - L - 1)) src n (w1.setCell ⟨bd, od + L, none⟩ (.int .u8 122)) := by
  have hlen2 : (enc pre2).length = L + 1 := by rw [henc, List.length_append, hL]; rfl
  refine ⟨pre2, r2, A2, c2, _, hsp, hwh, hrc, hcm, hbs, hds, hrow1.set (od + L) (.int .u8 122), honly1.set (od + L) _, fun i hi => ?_, fun i hi => ?_, ?_, ?_, hsrc, ?_⟩
  · show (if i = od + L then _ else _) = _
    rw [if_neg (by omega), hf1 i (by omega), hlow i hi]
  · show (if i = od + L then _ else _) = _
    rw [if_neg (by omega), hf1 i (by omega), hhigh i hi]
  · refine txt_append (f2 := fun j => if j = od + L then .int .u8 122 else f1 j) henc hL (fun j hj => ?_) (fun j hj => ?_)
    · rw [if_neg (by omega), hf1 _ (by omega), htxt j hj]
    · have : j = 0 := by simpa using hj
      subst this
      simp
  · rw [hlen2, Nat.add_assoc, Nat.sub_sub, Nat.sub_sub]
  · rw [hn, hlen2]; simp

end Go.Proofs.YthhbcnjbnfjiiaaDoor

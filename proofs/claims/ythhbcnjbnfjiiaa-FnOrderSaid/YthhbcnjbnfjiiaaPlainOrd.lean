/-
  Plain facts on the order of texts: byte lists of equal length in whole groups, none of them zero, are ordered as their texts are. Conditions: bytes below 256.
-/
import Derived.Test.YthhbcnjbnfjiiaaPlainEnc
import Derived.Test.YthhbcnjbnfjiiaaEqual
namespace Go.Proofs.Ythhbcnjbnfjiiaa
open Plain85 (enc grp digits num4)

def lexlt : List Nat → List Nat → Bool
  | _, [] => false
  | [], _ :: _ => true
  | a :: x, b :: y => decide (a < b) || (decide (a = b) && lexlt x y)

theorem less_lexlt (a : List Nat) : ∀ b : List Nat, (∀ x ∈ a, x < 256) → (∀ x ∈ b, x < 256) → Op.bytesLess (bytesOf a) (bytesOf b) = lexlt a b := by
  induction a with
  | nil => intro b _ _; cases b <;> simp [bytesOf, Op.bytesLess, lexlt]
  | cons x a ih =>
    intro b ha hb
    cases b with
    | nil => simp [bytesOf, Op.bytesLess, lexlt]
    | cons y b =>
      have hx := ha x (by simp)
      have hy := hb y (by simp)
      have h1 : decide (UInt8.ofNat x < UInt8.ofNat y) = decide (x < y) := by
        rw [decide_eq_decide, UInt8.lt_iff_toNat_lt, UInt8.toNat_ofNat', UInt8.toNat_ofNat']
        omega
      have h2 : (UInt8.ofNat x == UInt8.ofNat y) = decide (x = y) := by
        by_cases h : x = y
        · subst h; simp
        · rw [decide_eq_false h]
          refine beq_eq_false_iff_ne.2 fun e => h ?_
          have := congrArg UInt8.toNat e
          rw [UInt8.toNat_ofNat', UInt8.toNat_ofNat'] at this
          omega
      show (decide (UInt8.ofNat x < UInt8.ofNat y) || (UInt8.ofNat x == UInt8.ofNat y && Op.bytesLess (bytesOf a) (bytesOf b))) = _
      rw [h1, h2, ih b (fun z hz => ha z (by simp [hz])) (fun z hz => hb z (by simp [hz]))]
      rfl

theorem lexlt_append (g : List Nat) : ∀ (h r s : List Nat), g.length = h.length → lexlt (g ++ r) (h ++ s) = (lexlt g h || (decide (g = h) && lexlt r s)) := by
  induction g with
  | nil => intro h r s hl; obtain rfl : h = [] := List.eq_nil_of_length_eq_zero hl.symm; simp [lexlt]
  | cons x g ih =>
    intro h r s hl
    cases h with
    | nil => simp at hl
    | cons y h =>
      simp only [List.length_cons, Nat.add_right_cancel_iff] at hl
      show (decide (x < y) || (decide (x = y) && lexlt (g ++ r) (h ++ s))) = ((decide (x < y) || (decide (x = y) && lexlt g h)) || (decide (x :: g = y :: h) && lexlt r s))
      rw [ih h r s hl]
      by_cases hlt : x < y
      · simp [hlt]
      · by_cases he : x = y
        · subst he; simp
        · simp [hlt, he]

/-- A list of digits to the base B as a number. -/
def val (B : Nat) : List Nat → Nat
  | [] => 0
  | x :: l => x * B ^ l.length + val B l
theorem val_lt (B : Nat) : ∀ l : List Nat, (∀ x ∈ l, x < B) → val B l < B ^ l.length := by
  intro l
  induction l with
  | nil => intro _; simp [val]
  | cons x l ih =>
    intro h
    have hx := h x (by simp)
    have := ih (fun z hz => h z (by simp [hz]))
    simp only [val, List.length_cons, Nat.pow_succ]
    have h2 : (x + 1) * B ^ l.length ≤ B * B ^ l.length := Nat.mul_le_mul_right _ (by omega)
    rw [Nat.add_mul, Nat.one_mul] at h2
    rw [Nat.mul_comm (B ^ l.length) B]
    omega
theorem lex_val (B : Nat) : ∀ l l' : List Nat, l.length = l'.length → (∀ x ∈ l, x < B) → (∀ x ∈ l', x < B) → lexlt l l' = decide (val B l < val B l') := by
  intro l
  induction l with
  | nil => intro l' hl _ _; obtain rfl : l' = [] := List.eq_nil_of_length_eq_zero hl.symm; simp [lexlt, val]
  | cons x l ih =>
    intro l' hl h h'
    cases l' with
    | nil => simp at hl
    | cons y l' =>
      simp only [List.length_cons, Nat.add_right_cancel_iff] at hl
      have v1 := val_lt B l (fun z hz => h z (by simp [hz]))
      have v2 := val_lt B l' (fun z hz => h' z (by simp [hz]))
      have i := ih l' hl (fun z hz => h z (by simp [hz])) (fun z hz => h' z (by simp [hz]))
      show (decide (x < y) || (decide (x = y) && lexlt l l')) = decide (x * B ^ l.length + val B l < y * B ^ l'.length + val B l')
      rw [i]
      rw [← hl] at v2 ⊢
      by_cases h1 : x < y
      · have h2 : (x + 1) * B ^ l.length ≤ y * B ^ l.length := Nat.mul_le_mul_right _ (by omega)
        rw [Nat.add_mul, Nat.one_mul] at h2
        rw [decide_eq_true h1, Bool.true_or, decide_eq_true (by omega)]
      · by_cases h3 : x = y
        · subst h3
          rw [decide_eq_false h1, decide_eq_true rfl, Bool.false_or, Bool.true_and]
          rw [decide_eq_decide]
          omega
        · have h2 : (y + 1) * B ^ l.length ≤ x * B ^ l.length := Nat.mul_le_mul_right _ (by omega)
          rw [Nat.add_mul, Nat.one_mul] at h2
          rw [decide_eq_false h1, decide_eq_false h3, Bool.false_and, Bool.or_false, decide_eq_false (by omega)]
theorem lexlt_shift (k : Nat) : ∀ l l' : List Nat, lexlt (l.map (k + ·)) (l'.map (k + ·)) = lexlt l l' := by
  intro l
  induction l with
  | nil => intro l'; cases l' <;> simp [lexlt]
  | cons x l ih =>
    intro l'
    cases l' with
    | nil => simp [lexlt]
    | cons y l' =>
      show (decide (k + x < k + y) || (decide (k + x = k + y) && lexlt (l.map (k + ·)) (l'.map (k + ·)))) = (decide (x < y) || (decide (x = y) && lexlt l l'))
      rw [ih]
      congr 1
      · rw [decide_eq_decide]; omega
      · congr 1
        rw [decide_eq_decide]; omega

theorem lex4 (a b c d a' b' c' d' : Nat) (ha : a < 256) (hb : b < 256) (hc : c < 256) (hd : d < 256) (ha' : a' < 256) (hb' : b' < 256) (hc' : c' < 256) (hd' : d' < 256) :
    lexlt [a, b, c, d] [a', b', c', d'] = decide (num4 a b c d < num4 a' b' c' d') := by
  rw [lex_val 256 [a, b, c, d] [a', b', c', d'] rfl (by simp; omega) (by simp; omega)]
  have h1 : val 256 [a, b, c, d] = num4 a b c d := by simp only [val, num4, List.length_cons, List.length_nil]; omega
  have h2 : val 256 [a', b', c', d'] = num4 a' b' c' d' := by simp only [val, num4, List.length_cons, List.length_nil]; omega
  rw [h1, h2]

def digs (v : Nat) : List Nat := [v / 52200625 % 85, v / 614125 % 85, v / 7225 % 85, v / 85 % 85, v % 85]
theorem digs_val (v : Nat) (h : v < 4294967296) : val 85 (digs v) = v := by
  simp only [val, digs, List.length_cons, List.length_nil]
  omega
theorem digs_lt (v : Nat) : ∀ x ∈ digs v, x < 85 := by
  intro x hx
  simp only [digs, List.mem_cons, List.not_mem_nil, or_false] at hx
  omega
theorem lex5 (v v' : Nat) (h : v < 4294967296) (h' : v' < 4294967296) : lexlt (digits v) (digits v') = decide (v < v') := by
  have e : ∀ u, digits u = (digs u).map (33 + ·) := fun _ => rfl
  rw [e, e, lexlt_shift, lex_val 85 (digs v) (digs v') rfl (digs_lt v) (digs_lt v'), digs_val v h, digs_val v' h']

theorem digits_inj {v v' : Nat} (h : v < 4294967296) (h' : v' < 4294967296) (he : digits v = digits v') : v = v' := by
  simp only [digits, List.cons.injEq, and_true] at he
  omega

theorem num4_inj {a b c d a' b' c' d' : Nat} (hb : b < 256) (hc : c < 256) (hd : d < 256) (hb' : b' < 256) (hc' : c' < 256) (hd' : d' < 256) (h : num4 a b c d = num4 a' b' c' d') : [a, b, c, d] = [a', b', c', d'] := by
  unfold num4 at h
  simp only [List.cons.injEq, and_true]
  omega

/-- No group of the list is zero. -/
def noZero (l : List Nat) : Prop := ∀ k, 4 * k + 4 ≤ l.length → num4 (l.getD (4 * k) 0) (l.getD (4 * k + 1) 0) (l.getD (4 * k + 2) 0) (l.getD (4 * k + 3) 0) ≠ 0

theorem order (n : Nat) : ∀ a b : List Nat, a.length = 4 * n → b.length = 4 * n → (∀ x ∈ a, x < 256) → (∀ x ∈ b, x < 256) → noZero a → noZero b →
    lexlt (enc a) (enc b) = lexlt a b ∧ (enc a = enc b ↔ a = b) := by
  induction n with
  | zero =>
    intro a b ha hb _ _ _ _
    obtain rfl : a = [] := List.eq_nil_of_length_eq_zero (by omega)
    obtain rfl : b = [] := List.eq_nil_of_length_eq_zero (by omega)
    simp [enc, lexlt]
  | succ n ih =>
    intro a b ha hb la lb za zb
    obtain ⟨x0, x1, x2, x3, r, rfl⟩ := Plain85.four_of a (by omega)
    obtain ⟨y0, y1, y2, y3, s, rfl⟩ := Plain85.four_of b (by omega)
    have zx : num4 x0 x1 x2 x3 ≠ 0 := by simpa using za 0 (by omega)
    have zy : num4 y0 y1 y2 y3 ≠ 0 := by simpa using zb 0 (by omega)
    have shift : ∀ (p0 p1 p2 p3 : Nat) (t : List Nat), noZero (p0 :: p1 :: p2 :: p3 :: t) → noZero t := by
      intro p0 p1 p2 p3 t ht k hk
      have := ht (k + 1) (by simp only [List.length_cons]; omega)
      rw [show 4 * (k + 1) = 4 * k + 4 by omega] at this
      simpa using this
    have lx0 := la x0 (by simp)
    have lx1 := la x1 (by simp)
    have lx2 := la x2 (by simp)
    have lx3 := la x3 (by simp)
    have ly0 := lb y0 (by simp)
    have ly1 := lb y1 (by simp)
    have ly2 := lb y2 (by simp)
    have ly3 := lb y3 (by simp)
    obtain ⟨i1, i2⟩ := ih r s (by simp only [List.length_cons] at ha; omega) (by simp only [List.length_cons] at hb; omega) (fun z hz => la z (by simp [hz])) (fun z hz => lb z (by simp [hz])) (shift _ _ _ _ r za) (shift _ _ _ _ s zb)
    have vx := Plain85.num4_lt lx0 lx1 lx2 lx3
    have vy := Plain85.num4_lt ly0 ly1 ly2 ly3
    rw [Plain85.enc_four, Plain85.enc_four, grp, grp, if_neg zx, if_neg zy]
    have e1 : x0 :: x1 :: x2 :: x3 :: r = [x0, x1, x2, x3] ++ r := rfl
    have e2 : y0 :: y1 :: y2 :: y3 :: s = [y0, y1, y2, y3] ++ s := rfl
    have hd : (digits (num4 x0 x1 x2 x3) = digits (num4 y0 y1 y2 y3)) ↔ [x0, x1, x2, x3] = [y0, y1, y2, y3] := by
      constructor
      · intro h
        exact num4_inj lx1 lx2 lx3 ly1 ly2 ly3 (digits_inj vx vy h)
      · intro h
        simp only [List.cons.injEq, and_true] at h
        obtain ⟨rfl, rfl, rfl, rfl⟩ := h
        rfl
    rw [e1, e2]
    have hdl : (digits (num4 x0 x1 x2 x3)).length = (digits (num4 y0 y1 y2 y3)).length := by rw [Plain85.digits_length, Plain85.digits_length]
    constructor
    · rw [lexlt_append (digits (num4 x0 x1 x2 x3)) (digits (num4 y0 y1 y2 y3)) _ _ hdl, lexlt_append [x0, x1, x2, x3] [y0, y1, y2, y3] _ _ rfl, lex5 _ _ vx vy, lex4 _ _ _ _ _ _ _ _ lx0 lx1 lx2 lx3 ly0 ly1 ly2 ly3, i1, decide_eq_decide.2 hd]
    · have j1 : (digits (num4 x0 x1 x2 x3) ++ enc r = digits (num4 y0 y1 y2 y3) ++ enc s) ↔ (digits (num4 x0 x1 x2 x3) = digits (num4 y0 y1 y2 y3) ∧ enc r = enc s) :=
        ⟨fun h => List.append_inj h hdl, fun h => by rw [h.1, h.2]⟩
      have j2 : ([x0, x1, x2, x3] ++ r = [y0, y1, y2, y3] ++ s) ↔ ([x0, x1, x2, x3] = [y0, y1, y2, y3] ∧ r = s) :=
        ⟨fun h => List.append_inj h rfl, fun h => by rw [h.1, h.2]⟩
      rw [j1, j2, hd, i2]

end Go.Proofs.Ythhbcnjbnfjiiaa

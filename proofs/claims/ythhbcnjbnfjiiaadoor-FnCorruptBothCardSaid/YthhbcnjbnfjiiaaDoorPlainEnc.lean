/-
  Plain facts on the text of ascii85, with no program in sight: 'enc' is the text of a list of bytes; behind whole groups it goes on as if it began; how long it is. Conditions: none but those that each fact names.
-/
namespace Go.Proofs.YthhbcnjbnfjiiaaDoor.Plain85

def num4 (a b c d : Nat) : Nat := ((a * 256 + b) * 256 + c) * 256 + d
def digits (v : Nat) : List Nat := [33 + v / 52200625 % 85, 33 + v / 614125 % 85, 33 + v / 7225 % 85, 33 + v / 85 % 85, 33 + v % 85]
def grp (v : Nat) : List Nat := if v = 0 then [122] else digits v
def enc : List Nat → List Nat
  | a :: b :: c :: d :: r => grp (num4 a b c d) ++ enc r
  | [a, b, c] => (digits (num4 a b c 0)).take 4
  | [a, b] => (digits (num4 a b 0 0)).take 3
  | [a] => (digits (num4 a 0 0 0)).take 2
  | [] => []

theorem enc_nil : enc [] = [] := rfl
theorem enc_four (a b c d : Nat) (r : List Nat) : enc (a :: b :: c :: d :: r) = grp (num4 a b c d) ++ enc r := rfl

/-- A list of at least four splits. -/
theorem four_of (l : List Nat) (h : 4 ≤ l.length) : ∃ a b c d r, l = a :: b :: c :: d :: r := by
  match l, h with
  | a :: b :: c :: d :: r, _ => exact ⟨a, b, c, d, r, rfl⟩

theorem cases_of (l : List Nat) (h : 0 < l.length) : (∃ a, l = [a]) ∨ (∃ a b, l = [a, b]) ∨ (∃ a b c, l = [a, b, c]) ∨ ∃ a b c d r, l = a :: b :: c :: d :: r := by
  match l, h with
  | [a], _ => exact .inl ⟨a, rfl⟩
  | [a, b], _ => exact .inr (.inl ⟨a, b, rfl⟩)
  | [a, b, c], _ => exact .inr (.inr (.inl ⟨a, b, c, rfl⟩))
  | a :: b :: c :: d :: r, _ => exact .inr (.inr (.inr ⟨a, b, c, d, r, rfl⟩))

theorem enc_append : ∀ (n : Nat) (a b : List Nat), a.length = 4 * n → enc (a ++ b) = enc a ++ enc b := by
  intro n
  induction n with
  | zero => intro a b h; obtain rfl : a = [] := List.eq_nil_of_length_eq_zero (by omega); simp [enc_nil]
  | succ n ih =>
    intro a b h
    obtain ⟨x, y, z, u, r, rfl⟩ := four_of a (by omega)
    simp only [List.length_cons] at h
    show grp (num4 x y z u) ++ enc (r ++ b) = (grp (num4 x y z u) ++ enc r) ++ enc b
    rw [ih r b (by omega), List.append_assoc]

theorem digits_length (v : Nat) : (digits v).length = 5 := rfl
theorem grp_length (v : Nat) : (grp v).length = if v = 0 then 1 else 5 := by unfold grp; split <;> rfl
theorem grp_le (v : Nat) : 1 ≤ (grp v).length ∧ (grp v).length ≤ 5 := by rw [grp_length]; split <;> omega

theorem enc_rest (l : List Nat) (h0 : 0 < l.length) (h : l.length < 4) : (enc l).length = l.length + 1 := by
  match l, h0, h with
  | [a], _, _ => rfl
  | [a, b], _, _ => rfl
  | [a, b, c], _, _ => rfl

theorem enc_le (l : List Nat) : (enc l).length ≤ 5 * ((l.length + 3) / 4) := by
  induction hn : l.length using Nat.strongRecOn generalizing l with
  | _ n ih =>
    by_cases h4 : 4 ≤ l.length
    · obtain ⟨x, y, z, u, r, rfl⟩ := four_of l h4
      have := ih r.length (by simp only [List.length_cons] at hn; omega) r rfl
      have hg := (grp_le (num4 x y z u)).2
      rw [enc_four, List.length_append]
      simp only [List.length_cons] at hn
      omega
    · by_cases h0 : l.length = 0
      · rw [List.eq_nil_of_length_eq_zero h0]; simp [enc_nil]
      · rw [enc_rest l (by omega) (by omega)]; omega

theorem enc_pos (l : List Nat) (h : 0 < l.length) : 0 < (enc l).length := by
  by_cases h4 : 4 ≤ l.length
  · obtain ⟨x, y, z, u, r, rfl⟩ := four_of l h4
    rw [enc_four, List.length_append]
    have := grp_le (num4 x y z u)
    omega
  · rw [enc_rest l h (by omega)]; omega

theorem num4_lt {a b c d : Nat} (ha : a < 256) (hb : b < 256) (hc : c < 256) (hd : d < 256) : num4 a b c d < 4294967296 := by unfold num4; omega

theorem digits_range {v : Nat} : ∀ x ∈ digits v, 33 ≤ x ∧ x ≤ 117 := by
  intro x hx
  simp only [digits, List.mem_cons, List.not_mem_nil, or_false] at hx
  omega

/-- Each sign of a text is a digit or z. -/
theorem enc_range (l : List Nat) : ∀ x ∈ enc l, (33 ≤ x ∧ x ≤ 117) ∨ x = 122 := by
  induction hn : l.length using Nat.strongRecOn generalizing l with
  | _ n ih =>
    intro x hx
    by_cases h4 : 4 ≤ l.length
    · obtain ⟨a, b, c, d, r, rfl⟩ := four_of l h4
      rw [enc_four, List.mem_append] at hx
      rcases hx with hx | hx
      · unfold grp at hx
        split at hx
        · simp at hx; exact .inr hx
        · exact .inl (digits_range x hx)
      · exact ih r.length (by simp only [List.length_cons] at hn; omega) r rfl x hx
    · match l, h4 with
      | [], _ => simp [enc_nil] at hx
      | [a], _ => exact .inl (digits_range x (List.mem_of_mem_take hx))
      | [a, b], _ => exact .inl (digits_range x (List.mem_of_mem_take hx))
      | [a, b, c], _ => exact .inl (digits_range x (List.mem_of_mem_take hx))
      | a :: b :: c :: d :: r, h => simp at h

theorem enc_lt (l : List Nat) : ∀ x ∈ enc l, x < 256 := fun x hx => by rcases enc_range l x hx with h | h <;> omega

end Go.Proofs.YthhbcnjbnfjiiaaDoor.Plain85

/-
  Plain facts on reading a text of ascii85 in parts: what is decoded of whole groups, and that whole groups at the beginning of a text of data stand for a beginning of the data. Conditions: those that each fact names.
-/
import Derived.Test.YthhbcnjbnfjiiaaDoorPlainDec2
namespace Go.Proofs.YthhbcnjbnfjiiaaDoor.PlainDec
open Plain85 (enc grp digits num4)

def dig (x : Nat) : Prop := 33 ≤ x ∧ x ≤ 117
/-- The text t is made of whole groups, which stand for d. -/
inductive Grps : List Nat → List Nat → Prop
  | nil : Grps [] []
  | zero {t d : List Nat} : Grps t d → Grps (122 :: t) (0 :: 0 :: 0 :: 0 :: d)
  | five {a b c e f : Nat} {t d : List Nat} : dig a → dig b → dig c → dig e → dig f → Grps t d → Grps (a :: b :: c :: e :: f :: t) (be4 (next (next (next (next (next 0 a) b) c) e) f) ++ d)
theorem Grps.app {t d t' d' : List Nat} (h : Grps t d) (h' : Grps t' d') : Grps (t ++ t') (d ++ d') := by
  induction h with
  | nil => exact h'
  | zero _ ih => exact .zero ih
  | five ha hb hc he hf _ ih => rw [List.append_assoc]; exact .five ha hb hc he hf ih
theorem Grps.good {t d : List Nat} (h : Grps t d) : ∀ x ∈ t, dig x ∨ x = 122 := by
  induction h with
  | nil => simp
  | zero _ ih =>
    intro x hx
    rcases List.mem_cons.1 hx with rfl | hx
    · exact .inr rfl
    · exact ih x hx
  | five ha hb hc he hf _ ih =>
    intro x hx
    simp only [List.mem_cons] at hx
    rcases hx with rfl | rfl | rfl | rfl | rfl | hx
    · exact .inl ha
    · exact .inl hb
    · exact .inl hc
    · exact .inl he
    · exact .inl hf
    · exact ih x hx
theorem Grps.nil_out {t : List Nat} (h : Grps t []) : t = [] := by
  generalize hd : ([] : List Nat) = d at h
  cases h with
  | nil => rfl
  | zero _ => cases hd
  | five _ _ _ _ _ _ => cases hd

theorem enc_cases (l : List Nat) : l = [] ∨ (∃ a b c d r, l = a :: b :: c :: d :: r) ∨ ((∀ x ∈ enc l, dig x) ∧ (enc l).length ≤ 4) := by
  rcases Nat.eq_zero_or_pos l.length with h0 | h0
  · exact .inl (List.eq_nil_of_length_eq_zero h0)
  · by_cases h4 : 4 ≤ l.length
    · exact .inr (.inl (Plain85.four_of l h4))
    · refine .inr (.inr ⟨?_, by have := Plain85.enc_rest l h0 (by omega); omega⟩)
      rcases Plain85.cases_of l h0 with ⟨a, rfl⟩ | ⟨a, b, rfl⟩ | ⟨a, b, c, rfl⟩ | ⟨a, b, c, d, r, rfl⟩
      · intro x hx; exact Plain85.digits_range x (List.mem_of_mem_take hx)
      · intro x hx; exact Plain85.digits_range x (List.mem_of_mem_take hx)
      · intro x hx; exact Plain85.digits_range x (List.mem_of_mem_take hx)
      · simp only [List.length_cons] at h4; omega
/-- Whole groups at the beginning of the text of l stand for a beginning of l. -/
theorem Grps.data {t d : List Nat} (h : Grps t d) : ∀ (l X : List Nat), (∀ x ∈ l, x < 256) → t ++ X = enc l → ∃ Y, l = d ++ Y := by
  induction h with
  | nil => intro l X _ _; exact ⟨l, rfl⟩
  | zero _ ih =>
    intro l X hl he
    rcases enc_cases l with rfl | ⟨a, b, c, d, r, rfl⟩ | ⟨h1, _⟩
    · simp [enc] at he
    · rw [Plain85.enc_four, grp] at he
      split at he
      · next hz =>
        have h0 : a = 0 ∧ b = 0 ∧ c = 0 ∧ d = 0 := by unfold num4 at hz; omega
        obtain ⟨rfl, rfl, rfl, rfl⟩ := h0
        simp only [List.cons_append, List.nil_append, List.cons.injEq, true_and] at he
        obtain ⟨Y, rfl⟩ := ih r X (fun x hx => hl x (by simp [hx])) he
        exact ⟨Y, rfl⟩
      · simp only [digits, List.cons_append, List.cons.injEq] at he
        have := he.1
        omega
    · have := h1 122 (by rw [← he]; simp)
      unfold dig at this; omega
  | @five x1 x2 x3 x4 x5 t d ha hb hc hd he' _ ih =>
    intro l X hl he
    rcases enc_cases l with rfl | ⟨a, b, c, d, r, rfl⟩ | ⟨_, h2⟩
    · simp [enc] at he
    · have hv := Plain85.num4_lt (hl a (by simp)) (hl b (by simp)) (hl c (by simp)) (hl d (by simp))
      rw [Plain85.enc_four, grp] at he
      split at he
      · simp only [List.cons_append, List.cons.injEq] at he
        have := he.1
        unfold dig at ha
        omega
      · simp only [digits, List.cons_append, List.nil_append, List.cons.injEq] at he
        obtain ⟨rfl, rfl, rfl, rfl, rfl, he⟩ := he
        obtain ⟨Y, rfl⟩ := ih r X (fun x hx => hl x (by simp [hx])) he
        rw [nx1 _ hv, nx2 _ hv, nx3 _ hv, nx4 _ hv, nx5 _ hv, be4_num4 (hl b (by simp)) (hl c (by simp)) (hl d (by simp))]
        exact ⟨Y, rfl⟩
    · rw [← he] at h2
      simp only [List.cons_append, List.length_cons] at h2
      omega

theorem Grps.one {p : List Nat} {b : Nat} (h4 : p.length = 4) (hp : ∀ x ∈ p, dig x) (hb : dig b) : Grps (p ++ [b]) (be4 (next (p.foldl next 0) b)) := by
  match p, h4 with
  | [a, b', c, d], _ =>
    have := Grps.five (hp a (by simp)) (hp b' (by simp)) (hp c (by simp)) (hp d (by simp)) hb Grps.nil
    rw [List.append_nil] at this
    exact this
/-- What decoding without the flush has used are whole groups; where it has decoded nothing, all that it saw are at most four digits. -/
theorem dgo_grps {room n : Nat} {o : List Nat} {u : Nat} : ∀ (t g p out : List Nat), (∀ x ∈ t, 32 < x) → Grps g out → (∀ x ∈ p, dig x) → p.length ≤ 4 →
    dgo room false n t (g.length + p.length) ⟨out, g.length, p.foldl next 0, p.length⟩ = .ok o u →
    u ≤ (g ++ p ++ t).length ∧ Grps ((g ++ p ++ t).take u) o ∧ (o = [] → 4 ≤ room → (∀ x ∈ g ++ p ++ t, dig x) ∧ (g ++ p ++ t).length ≤ 4) := by
  intro t
  induction t with
  | nil =>
    intro g p out _ hg hp hp4 h
    simp only [dgo, dend, Bool.false_eq_true, if_false] at h
    injection h with h1 h2
    subst h1; subst h2
    refine ⟨by simp only [List.length_append]; omega, ?_, fun h _ => ?_⟩
    · rw [List.append_nil, List.take_left]; exact hg
    · subst h
      rw [hg.nil_out, List.nil_append, List.append_nil]
      exact ⟨hp, hp4⟩
  | cons b r ih =>
    intro g p out ht hg hp hp4 h
    have hb := ht b (by simp)
    have htr : ∀ x ∈ r, 32 < x := fun x hx => ht x (by simp [hx])
    simp only [dgo] at h
    split at h
    · injection h with h1 h2
      subst h1; subst h2
      refine ⟨by simp only [List.length_append]; omega, ?_, fun h hr => ?_⟩
      · rw [List.append_assoc, List.take_left]; exact hg
      · next hroom => subst h; simp only [List.length_nil] at hroom; omega
    · next hroom =>
      by_cases hz : b = 122 ∧ p.length = 0
      · obtain ⟨rfl, hp0⟩ := hz
        obtain rfl : p = [] := List.eq_nil_of_length_eq_zero hp0
        rw [dstep_z _ rfl] at h
        have hg' : Grps (g ++ [122]) (out ++ [0, 0, 0, 0]) := hg.app (.zero .nil)
        obtain ⟨k1, k2, k3⟩ := ih (g ++ [122]) [] (out ++ [0, 0, 0, 0]) htr hg' (by simp) (by simp) (by simpa using h)
        have e : g ++ [] ++ 122 :: r = g ++ [122] ++ [] ++ r := by simp
        rw [e]
        refine ⟨k1, k2, fun ho hr => ?_⟩
        have := (k3 ho hr).1 122 (by simp)
        unfold dig at this; omega
      · by_cases hd : b ≤ 117
        · have hbd : dig b := ⟨by omega, hd⟩
          by_cases h4 : p.length = 4
          · rw [dstep_four _ (by omega) hd h4] at h
            have hg' : Grps (g ++ (p ++ [b])) (out ++ be4 (next (p.foldl next 0) b)) := hg.app (Grps.one h4 hp hbd)
            have hlen : (g ++ (p ++ [b])).length = g.length + p.length + 1 := by simp; omega
            obtain ⟨k1, k2, k3⟩ := ih (g ++ (p ++ [b])) [] _ htr hg' (by simp) (by simp) (by simpa [hlen] using h)
            have e : g ++ p ++ b :: r = g ++ (p ++ [b]) ++ [] ++ r := by simp
            rw [e]
            refine ⟨k1, k2, fun ho hr => ?_⟩
            have := (k3 ho hr).2
            simp only [List.length_append, List.length_cons, List.length_nil] at this
            omega
          · rw [dstep_digit _ (by omega) hd h4] at h
            have hp' : ∀ x ∈ p ++ [b], dig x := fun x hx => by
              rcases List.mem_append.1 hx with hx | hx
              · exact hp x hx
              · rcases List.mem_singleton.1 hx with rfl; exact hbd
            have e : g ++ p ++ b :: r = g ++ (p ++ [b]) ++ r := by simp
            rw [e]
            refine ih g (p ++ [b]) out htr hg hp' (by simp; omega) ?_
            simpa [List.foldl_append, Nat.add_assoc] using h
        · rw [dstep_bad _ (by omega) (fun e h0 => hz ⟨e, h0⟩)] at h
          cases h
/-- The same for a whole call. -/
theorem dgo_part {room n : Nat} {t o : List Nat} {u : Nat} (ht : ∀ x ∈ t, 32 < x) (h : dgo room false n t 0 init = .ok o u) :
    u ≤ t.length ∧ Grps (t.take u) o ∧ (o = [] → 4 ≤ room → (∀ x ∈ t, dig x) ∧ t.length ≤ 4) := by
  have := dgo_grps (room := room) (n := n) t [] [] [] ht .nil (by simp) (by simp) h
  simpa using this
/-- A byte that is no digit makes the whole corrupt. -/
theorem dgo_corrupt {room n : Nat} {flush : Bool} {c : Nat} (hc : 117 < c) (hz : c ≠ 122) : ∀ (t : List Nat) (k : Nat) (s : DS), c ∈ t → s.out.length + 4 * t.length + 4 ≤ room → ∃ a, dgo room flush n t k s = .bad a := by
  intro t
  induction t with
  | nil => intro k s h; simp at h
  | cons b r ih =>
    intro k s h hr
    simp only [List.length_cons] at hr
    simp only [dgo]
    rw [if_neg (by omega)]
    cases hs : dstep k b s with
    | none => exact ⟨k, rfl⟩
    | some s' =>
      have hout : s'.out.length ≤ s.out.length + 4 := by
        unfold dstep at hs
        split at hs
        · injection hs with hs; subst hs; omega
        · split at hs
          · injection hs with hs; subst hs; simp
          · split at hs
            · split at hs
              · injection hs with hs; subst hs; simp [be4_length]
              · injection hs with hs; subst hs; simp
            · cases hs
      rcases List.mem_cons.1 h with rfl | h
      · rw [dstep_bad s hc (fun e => absurd e hz)] at hs
        cases hs
      · exact ih (k + 1) s' h (by omega)

/-- Whole groups at the beginning of a text with a byte c that is no digit stand before it. -/
theorem ahead_of {g X pre post : List Nat} {c : Nat} (hg : c ∉ g) (h : g ++ X = pre ++ c :: post) : c ∈ X ∧ ∃ Y, pre = g ++ Y := by
  rcases List.append_eq_append_iff.1 h with ⟨Z, h1, h2⟩ | ⟨Z, h1, h2⟩
  · exact ⟨by rw [h2]; simp, Z, h1⟩
  · cases Z with
    | nil =>
      rw [List.append_nil] at h1
      rw [List.nil_append] at h2
      exact ⟨by rw [← h2]; simp, [], by rw [List.append_nil]; exact h1.symm⟩
    | cons z Z =>
      rw [List.cons_append] at h2
      injection h2 with h3 h4
      exact absurd (by rw [h1, h3]; simp) hg

end Go.Proofs.YthhbcnjbnfjiiaaDoor.PlainDec

/-
  Plain facts on the model of ascii85.Decode: how much is used; bytes up to the space change nothing. Conditions: room enough.
-/
import Derived.Test.YthhbcnjbnfjiiaaDoorPlainDec2
namespace Go.Proofs.YthhbcnjbnfjiiaaDoor.PlainDec
open Plain85 (enc grp digits num4)

theorem dgo_used {room n : Nat} {flush : Bool} : ∀ (r : List Nat) (k : Nat) (s : DS) (o : List Nat) (u : Nat), Inv room k s → k + r.length = n → 4 * n + 4 ≤ room →
    dgo room flush n r k s = .ok o u → (flush = true → u = n) ∧ u ≤ n ∧ o.length ≤ 4 * n + 4 := by
  intro r
  induction r with
  | nil =>
    intro k s o u hi hk hr h
    have hus := hi.used
    have hl := hi.len
    simp only [List.length_nil] at hk
    simp only [dgo, dend] at h
    cases flush with
    | false =>
      simp only [Bool.false_eq_true, if_false] at h
      injection h with h1 h2
      subst h1; subst h2
      exact ⟨(fun h => by cases h), by omega, by omega⟩
    | true =>
      simp only [if_true] at h
      split at h
      · injection h with h1 h2
        subst h1; subst h2
        exact ⟨fun _ => rfl, Nat.le_refl _, by omega⟩
      · split at h
        · cases h
        · injection h with h1 h2
          subst h1; subst h2
          refine ⟨fun _ => rfl, Nat.le_refl _, ?_⟩
          rw [List.length_append, List.length_take, be4_length]
          omega
  | cons b r ih =>
    intro k s o u hi hk hr h
    have hl := hi.len
    simp only [List.length_cons] at hk
    simp only [dgo] at h
    rw [if_neg (by omega)] at h
    cases hs : dstep k b s with
    | none => rw [hs] at h; cases h
    | some s' =>
      rw [hs] at h
      exact ih (k + 1) s' o u (inv_step hi (by omega) hs) (by omega) hr h

/-- Two answers that say the same bytes, and are both corrupt or both not. -/
def Like : DR → DR → Prop
  | .bad _, .bad _ => True
  | .ok o _, .ok o' _ => o = o'
  | _, _ => False
theorem dgo_strip {room room' n n' : Nat} {flush : Bool} : ∀ (r : List Nat) (k k' : Nat) (s s' : DS), s.out = s'.out → s.v = s'.v → s.nb = s'.nb → s.out.length + 4 * r.length + 4 ≤ room → s.out.length + 4 * r.length + 4 ≤ room' →
    Like (dgo room flush n r k s) (dgo room' flush n' (r.filter fun x => decide (32 < x)) k' s') := by
  intro r
  induction r with
  | nil =>
    intro k k' s s' h1 h2 h3 _ _
    obtain ⟨o, u, v, nb⟩ := s
    obtain ⟨o', u', v', nb'⟩ := s'
    simp only at h1 h2 h3
    subst h1; subst h2; subst h3
    simp only [List.filter_nil, dgo, dend]
    cases flush
    · simp [Like]
    · simp only [if_true]
      by_cases h0 : nb = 0
      · simp [h0, Like]
      · by_cases h1 : nb = 1
        · simp [h1, Like]
        · simp [h0, h1, Like]
  | cons b r ih =>
    intro k k' s s' h1 h2 h3 hr hr'
    simp only [List.length_cons] at hr hr'
    by_cases hb : b ≤ 32
    · rw [List.filter_cons, if_neg (by simpa using hb), dgo_cons (by omega) (dstep_skip s hb)]
      exact ih (k + 1) k' s s' h1 h2 h3 (by omega) (by omega)
    · rw [List.filter_cons, if_pos (by simpa using hb)]
      obtain ⟨o, u, v, nb⟩ := s
      obtain ⟨o', u', v', nb'⟩ := s'
      simp only at h1 h2 h3 hr hr'
      subst h1; subst h2; subst h3
      by_cases hz : b = 122 ∧ nb = 0
      · obtain ⟨rfl, rfl⟩ := hz
        rw [dgo_cons (by simp only; omega) (dstep_z _ rfl), dgo_cons (by simp only; omega) (dstep_z _ rfl)]
        exact ih _ _ _ _ rfl rfl rfl (by simp only [List.length_append, List.length_cons, List.length_nil]; omega) (by simp only [List.length_append, List.length_cons, List.length_nil]; omega)
      · by_cases hd : b ≤ 117
        · by_cases h4 : nb = 4
          · subst h4
            rw [dgo_cons (by simp only; omega) (dstep_four _ (by omega) hd rfl), dgo_cons (by simp only; omega) (dstep_four _ (by omega) hd rfl)]
            exact ih _ _ _ _ rfl rfl rfl (by simp only [List.length_append, be4_length]; omega) (by simp only [List.length_append, be4_length]; omega)
          · rw [dgo_cons (by simp only; omega) (dstep_digit _ (by omega) hd h4), dgo_cons (by simp only; omega) (dstep_digit _ (by omega) hd h4)]
            exact ih _ _ _ _ rfl rfl rfl (by simp only; omega) (by simp only; omega)
        · have e1 : dstep k b ⟨o, u, v, nb⟩ = none := dstep_bad _ (by omega) (fun e h => hz ⟨e, h⟩)
          have e2 : dstep k' b ⟨o, u', v, nb⟩ = none := dstep_bad _ (by omega) (fun e h => hz ⟨e, h⟩)
          simp only [dgo]
          rw [if_neg (by omega), if_neg (by omega), e1, e2]
          exact trivial

theorem enc_gt (l : List Nat) : ∀ x ∈ enc l, 32 < x := fun x hx => by rcases Plain85.enc_range l x hx with h | h <;> omega
theorem enc_filter (l : List Nat) : (enc l).filter (fun x => decide (32 < x)) = enc l := by
  rw [List.filter_eq_self]
  intro x hx
  exact decide_eq_true (enc_gt l x hx)

end Go.Proofs.YthhbcnjbnfjiiaaDoor.PlainDec

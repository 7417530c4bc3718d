/-
  Plain facts: each step of the seven hashes is one to one in the state and in the byte, so that data that differ in one byte have different states. Conditions: those that each fact names.
-/
import Derived.Test.YtdpjdglcienbfaaGreatImplHash
namespace Go.Proofs.YtdpjdglcienbfaaGreat
open Go.RowKit
open PlainHash (f1 f1a)

structure OneOne (K : Kind) : Prop where
  st : ∀ s s' c, K.ok s → K.ok s' → c < 256 → K.step s c = K.step s' c → s = s'
  ch : ∀ s c c', K.ok s → c < 256 → c' < 256 → K.step s c = K.step s c' → c = c'

theorem mul_back {m p q x : Nat} (h : p * q % m = 1) (hx : x < m) : (x * p % m) * q % m = x := by
  rw [Nat.mul_mod, Nat.mod_mod, ← Nat.mul_mod, Nat.mul_assoc, Nat.mul_mod, h, Nat.mul_one, Nat.mod_mod, Nat.mod_eq_of_lt hx]
theorem mul_one_one {m p q s t : Nat} (h : p * q % m = 1) (hs : s < m) (ht : t < m) (e : s * p % m = t * p % m) : s = t := by
  rw [← mul_back h hs, ← mul_back h ht, e]
theorem xor_back (a c : Nat) : (a ^^^ c) ^^^ c = a := by rw [Nat.xor_assoc, Nat.xor_self, Nat.xor_zero]
theorem xor_st {a b c : Nat} (h : a ^^^ c = b ^^^ c) : a = b := by rw [← xor_back a c, h, xor_back]
theorem xor_ch {a c d : Nat} (h : a ^^^ c = a ^^^ d) : c = d := by
  rw [Nat.xor_comm a c, Nat.xor_comm a d] at h
  exact xor_st h
theorem f1_one {m p q : Nat} (h : p * q % m = 1) : (∀ s s' c, s < m → s' < m → f1 m p s c = f1 m p s' c → s = s') ∧ (∀ s c c', f1 m p s c = f1 m p s c' → c = c') :=
  ⟨fun _ _ _ hs hs' e => mul_one_one h hs hs' (xor_st e), fun _ _ _ e => xor_ch e⟩
theorem f1a_one {m p q n : Nat} (h : p * q % m = 1) (hm : m = 2 ^ n) (hn : 256 ≤ m) : (∀ s s' c, s < m → s' < m → c < 256 → f1a m p s c = f1a m p s' c → s = s') ∧ (∀ s c c', s < m → c < 256 → c' < 256 → f1a m p s c = f1a m p s c' → c = c') := by
  have hx : ∀ s c, s < m → c < 256 → s ^^^ c < m := fun s c hs hc => by rw [hm]; exact PlainHash.xor_lt (by rw [← hm]; exact hs) (by rw [← hm]; omega)
  exact ⟨fun s s' c hs hs' hc e => xor_st (mul_one_one h (hx s c hs hc) (hx s' c hs' hc) e), fun s c c' hs hc hc' e => xor_ch (mul_one_one h (hx s c hs hc) (hx s c' hs hc') e)⟩
theorem oneSum32 : OneOne kSum32 := ⟨fun s s' c hs hs' _ e => (f1_one (q := 899433627) (by decide)).1 s s' c hs hs' e, fun s c c' _ _ _ e => (f1_one (m := 4294967296) (p := 16777619) (q := 899433627) (by decide)).2 s c c' e⟩
theorem oneSum32a : OneOne kSum32a := ⟨fun s s' c hs hs' hc e => (f1a_one (q := 899433627) (n := 32) (by decide) (by decide) (by decide)).1 s s' c hs hs' hc e, fun s c c' hs hc hc' e => (f1a_one (q := 899433627) (n := 32) (by decide) (by decide) (by decide)).2 s c c' hs hc hc' e⟩
theorem oneSum64 : OneOne kSum64 := ⟨fun s s' c hs hs' _ e => (f1_one (q := 14886173955864302971) (by decide)).1 s s' c hs hs' e, fun s c c' _ _ _ e => (f1_one (m := 18446744073709551616) (p := 1099511628211) (q := 14886173955864302971) (by decide)).2 s c c' e⟩
theorem oneSum64a : OneOne kSum64a := ⟨fun s s' c hs hs' hc e => (f1a_one (q := 14886173955864302971) (n := 64) (by decide) (by decide) (by decide)).1 s s' c hs hs' hc e, fun s c c' hs hc hc' e => (f1a_one (q := 14886173955864302971) (n := 64) (by decide) (by decide) (by decide)).2 s c c' hs hc hc' e⟩
theorem oneSum128 : OneOne kSum128 := ⟨fun s s' c hs hs' _ e => (f1_one (q := 235294668448601749631651150104872562675) (by decide)).1 s s' c hs hs' e, fun s c c' _ _ _ e => (f1_one (m := 340282366920938463463374607431768211456) (p := 309485009821345068724781371) (q := 235294668448601749631651150104872562675) (by decide)).2 s c c' e⟩
theorem oneSum128a : OneOne kSum128a := ⟨fun s s' c hs hs' hc e => (f1a_one (q := 235294668448601749631651150104872562675) (n := 128) (by decide) (by decide) (by decide)).1 s s' c hs hs' hc e, fun s c c' hs hc hc' e => (f1a_one (q := 235294668448601749631651150104872562675) (n := 128) (by decide) (by decide) (by decide)).2 s c c' hs hc hc' e⟩
theorem word_inj {p r : Nat × Nat} (hp : p.1 < 65521) (hr : r.1 < 65521) (e : PlainAd.word p = PlainAd.word r) : p = r := by
  obtain ⟨e1, e2⟩ := Digest.word_parts p hp
  obtain ⟨e3, e4⟩ := Digest.word_parts r hr
  refine Prod.ext ?_ ?_
  · rw [← e1, ← e3, e]
  · rw [← e2, ← e4, e]
theorem oneDigest : OneOne kDigest := by
  have h1 : ∀ (p : Nat × Nat) (c : Nat), (PlainAd.step p c).1 < 65521 := fun p c => Nat.mod_lt _ (by decide)
  refine ⟨fun s s' c hs hs' _ e => ?_, fun s c c' hs hc hc' e => ?_⟩
  · have e2 := word_inj (h1 _ _) (h1 _ _) e
    obtain ⟨a1, a2⟩ := hs
    obtain ⟨b1, b2⟩ := hs'
    simp only [PlainAd.step, Prod.mk.injEq] at e2
    omega
  · have e2 := word_inj (h1 _ _) (h1 _ _) e
    obtain ⟨a1, a2⟩ := hs
    simp only [PlainAd.step, Prod.mk.injEq] at e2
    omega
theorem kindOf_one (kd : Nat) : OneOne (kindOf kd) := kindOf_cases (Q := OneOne) kd oneSum32 oneSum32a oneSum64 oneSum64a oneSum128 oneSum128a oneDigest

theorem fold_ok {P : Program} {K : Kind} (G : Good P K) (l : List Nat) : ∀ s, (∀ x ∈ l, x < 256) → K.ok s → K.ok (l.foldl K.step s) := by
  induction l with
  | nil => intro s _ h; exact h
  | cons x r ih => intro s hl h; exact ih _ (fun y hy => hl y (by simp [hy])) (G.step_ok s x h (hl x (by simp)))
theorem fold_ne {P : Program} {K : Kind} (G : Good P K) (O : OneOne K) (l : List Nat) : ∀ s s', (∀ x ∈ l, x < 256) → K.ok s → K.ok s' → s ≠ s' → l.foldl K.step s ≠ l.foldl K.step s' := by
  induction l with
  | nil => intro s s' _ _ _ h; exact h
  | cons x r ih =>
    intro s s' hl hs hs' h
    have hx := hl x (by simp)
    exact ih _ _ (fun y hy => hl y (by simp [hy])) (G.step_ok s x hs hx) (G.step_ok s' x hs' hx) (fun e => h (O.st s s' x hs hs' hx e))
/-- Data that differ in one byte have different sums. -/
theorem sums_ne {P : Program} {K : Kind} (G : Good P K) (O : OneOne K) (l : List Nat) (hl : ∀ x ∈ l, x < 256) (i c : Nat) (hi : i < l.length) (hc : c < 256) (hne : c ≠ l.getD i 0) :
    K.bytes (l.foldl K.step K.init) ≠ K.bytes ((l.set i c).foldl K.step K.init) := by
  have e1 : l = l.take i ++ l.getD i 0 :: l.drop (i + 1) := by
    rw [List.getD_eq_getElem?_getD, List.getElem?_eq_getElem hi, Option.getD_some, List.getElem_cons_drop, List.take_append_drop]
  have e2 : l.set i c = l.take i ++ c :: l.drop (i + 1) := by rw [List.set_eq_take_append_cons_drop, if_pos hi]
  have hd : l.getD i 0 < 256 := by
    rw [List.getD_eq_getElem?_getD, List.getElem?_eq_getElem hi]; exact hl _ (List.getElem_mem _)
  have h1 : ∀ x ∈ l.take i, x < 256 := fun x hx => hl x (List.mem_of_mem_take hx)
  have h2 : ∀ x ∈ l.drop (i + 1), x < 256 := fun x hx => hl x (List.mem_of_mem_drop hx)
  have hs := fold_ok G (l.take i) K.init h1 G.init_ok
  have f1 := G.step_ok _ (l.getD i 0) hs hd
  have f2 := G.step_ok _ c hs hc
  have key : l.foldl K.step K.init ≠ (l.set i c).foldl K.step K.init := by
    rw [e2]
    conv => lhs; rw [e1]
    rw [List.foldl_append, List.foldl_append, List.foldl_cons, List.foldl_cons]
    exact fold_ne G O _ _ _ h2 f1 f2 (fun e => hne (O.ch _ _ _ hs hd hc e).symm)
  have hset : ∀ x ∈ l.set i c, x < 256 := fun x hx => by
    rcases List.mem_or_eq_of_mem_set hx with h | h
    · exact hl x h
    · rw [h]; exact hc
  exact fun e => key (G.bytes_inj _ _ (fold_ok G l _ hl G.init_ok) (fold_ok G _ _ hset G.init_ok) e)

end Go.Proofs.YtdpjdglcienbfaaGreat

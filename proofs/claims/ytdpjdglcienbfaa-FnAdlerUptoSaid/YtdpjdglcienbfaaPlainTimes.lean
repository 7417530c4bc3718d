/-
  Plain facts on products of numbers that lie as bytes, the greatest first. Conditions: those that each fact names.
-/
namespace Go.Proofs.Ytdpjdglcienbfaa.PlainTimes

/-- The number of the lowest m of n bytes, the greatest first. -/
def lev (n : Nat) (f : Nat → Nat) : Nat → Nat
  | 0 => 0
  | m + 1 => lev n f m + f (n - 1 - m) * 256 ^ m
theorem lev_congr (n : Nat) (f g : Nat → Nat) : ∀ m, (∀ t, t < m → f (n - 1 - t) = g (n - 1 - t)) → lev n f m = lev n g m := by
  intro m
  induction m with
  | zero => intro _; rfl
  | succ m ih => intro h; simp only [lev]; rw [ih (fun t ht => h t (by omega)), h m (by omega)]
theorem lev_set (n : Nat) (f g : Nat → Nat) (q v : Nat) (hv : g (n - 1 - q) = v) (hg : ∀ p, p ≠ n - 1 - q → g p = f p) : ∀ m, q < m → m ≤ n → lev n g m + f (n - 1 - q) * 256 ^ q = lev n f m + v * 256 ^ q := by
  intro m
  induction m with
  | zero => intro h; omega
  | succ m ih =>
    intro hq hm
    simp only [lev]
    by_cases e : q = m
    · subst e
      have : lev n g q = lev n f q := lev_congr n g f q (fun t ht => hg _ (by omega))
      rw [this, hv]
      omega
    · have := ih (by omega) (by omega)
      rw [hg (n - 1 - m) (by omega)]
      omega
theorem lev_lt (n : Nat) (f : Nat → Nat) (hf : ∀ p, f p < 256) : ∀ m, lev n f m < 256 ^ m := by
  intro m
  induction m with
  | zero => simp [lev]
  | succ m ih =>
    simp only [lev, Nat.pow_succ]
    have h1 := hf (n - 1 - m)
    have h2 : f (n - 1 - m) * 256 ^ m ≤ 255 * 256 ^ m := Nat.mul_le_mul_right _ (by omega)
    omega
/-- One step of the inner loop. -/
theorem inner_step {O O' R a b c f q P : Nat} (hR : O + c * P = R) (hO : O' + f * P = O + ((f + a * b + c) % 256) * P) (_ : q = q) : O' + (f + a * b + c) / 256 * (P * 256) = R + a * b * P := by
  have hd := Nat.div_add_mod (f + a * b + c) 256
  have h1 : (f + a * b + c) % 256 * P + (f + a * b + c) / 256 * (P * 256) = (f + a * b + c) * P := by
    have : (f + a * b + c) * P = (256 * ((f + a * b + c) / 256) + (f + a * b + c) % 256) * P := by rw [hd]
    rw [this, Nat.add_mul, Nat.mul_comm 256, Nat.mul_assoc, Nat.mul_comm 256 P, Nat.add_comm]
  have h2 : (f + a * b + c) * P = f * P + a * b * P + c * P := by rw [Nat.add_mul, Nat.add_mul]
  omega
theorem carry_le {f a b c : Nat} (hf : f < 256) (ha : a < 256) (hb : b < 256) (hc : c < 256) : (f + a * b + c) / 256 < 256 ∧ f + a * b + c < 65536 := by
  have : a * b ≤ 255 * 255 := Nat.mul_le_mul (by omega) (by omega)
  omega
/-- The lowest bytes are what is left of all of them. -/
theorem lev_split (n : Nat) (f : Nat → Nat) (j : Nat) : ∀ m, j ≤ m → ∃ r, lev n f m = lev n f j + r * 256 ^ j := by
  intro m
  induction m with
  | zero =>
    intro h
    have e : j = 0 := by omega
    subst e
    exact ⟨0, by simp⟩
  | succ m ih =>
    intro h
    by_cases e : j = m + 1
    · subst e; exact ⟨0, by simp⟩
    · obtain ⟨r, hr⟩ := ih (by omega)
      refine ⟨r + f (n - 1 - m) * 256 ^ (m - j), ?_⟩
      simp only [lev]
      rw [hr, Nat.add_mul, Nat.mul_assoc, ← Nat.pow_add, show m - j + j = m by omega]
      omega
/-- One round of the outer loop. -/
theorem outer_step {n i a c O O' S B Bj : Nat} (hi : i < n) (hO : O % 256 ^ n = S * B % 256 ^ n) (hin : O' + c * 256 ^ n = O + a * 256 ^ i * Bj) (r : Nat) (hB : B = Bj + r * 256 ^ (n - i)) :
    O' % 256 ^ n = (S + a * 256 ^ i) * B % 256 ^ n := by
  have h1 : (O' + c * 256 ^ n) % 256 ^ n = O' % 256 ^ n := by rw [Nat.add_mul_mod_self_right]
  have h2 : (S + a * 256 ^ i) * B = S * B + a * 256 ^ i * Bj + a * r * 256 ^ n := by
    have e : 256 ^ n = 256 ^ i * 256 ^ (n - i) := by rw [← Nat.pow_add]; congr 1; omega
    rw [Nat.add_mul, hB, Nat.mul_add (a * 256 ^ i), e]
    have : a * 256 ^ i * (r * 256 ^ (n - i)) = a * r * (256 ^ i * 256 ^ (n - i)) := by
      rw [Nat.mul_assoc a, Nat.mul_left_comm (256 ^ i) r, ← Nat.mul_assoc a r]
    rw [this, Nat.add_assoc]
  rw [← h1, hin, h2, Nat.add_mul_mod_self_right, Nat.add_mod, hO, ← Nat.add_mod]

end Go.Proofs.Ytdpjdglcienbfaa.PlainTimes

/-
  Plain facts on the two sums of Adler-32, with no program in sight: the sums without reduction over a short piece, reduced at its end, are the sums that are reduced at every byte. Conditions: bytes below 256, pieces of at most 5552 bytes where a bound is told.
-/
namespace Go.Proofs.Ytdpjdglcienbfaa.PlainAd

/-- One byte, both sums reduced. -/
def step (s : Nat × Nat) (c : Nat) : Nat × Nat := ((s.1 + c) % 65521, (s.2 + (s.1 + c) % 65521) % 65521)
/-- All bytes, reduced at each. -/
def sums (s : Nat × Nat) (l : List Nat) : Nat × Nat := l.foldl step s
/-- One byte, no reduction. -/
def rawStep (s : Nat × Nat) (c : Nat) : Nat × Nat := (s.1 + c, s.2 + (s.1 + c))
def raw (s : Nat × Nat) (l : List Nat) : Nat × Nat := l.foldl rawStep s
def red (s : Nat × Nat) : Nat × Nat := (s.1 % 65521, s.2 % 65521)

theorem step_red (s : Nat × Nat) (c : Nat) : step (red s) c = red (rawStep s c) := by
  simp only [step, red, rawStep, Prod.mk.injEq]
  omega
theorem sums_red (l : List Nat) : ∀ s, sums (red s) l = red (raw s l) := by
  induction l with
  | nil => intro s; rfl
  | cons c l ih => intro s; show sums (step (red s) c) l = red (raw (rawStep s c) l); rw [step_red, ih]
theorem red_of_lt (s : Nat × Nat) (h1 : s.1 < 65521) (h2 : s.2 < 65521) : red s = s := by
  simp only [red]; rw [Nat.mod_eq_of_lt h1, Nat.mod_eq_of_lt h2]
theorem sums_of_raw (s : Nat × Nat) (l : List Nat) (h1 : s.1 < 65521) (h2 : s.2 < 65521) : sums s l = red (raw s l) := by
  rw [← sums_red, red_of_lt s h1 h2]
theorem red_lt (s : Nat × Nat) : (red s).1 < 65521 ∧ (red s).2 < 65521 := ⟨Nat.mod_lt _ (by decide), Nat.mod_lt _ (by decide)⟩
theorem sums_lt (s : Nat × Nat) (l : List Nat) (h1 : s.1 < 65521) (h2 : s.2 < 65521) : (sums s l).1 < 65521 ∧ (sums s l).2 < 65521 := by
  rw [sums_of_raw s l h1 h2]; exact red_lt _
theorem sums_append (s : Nat × Nat) (a b : List Nat) : sums s (a ++ b) = sums (sums s a) b := by simp [sums]
theorem raw_append (s : Nat × Nat) (a b : List Nat) : raw s (a ++ b) = raw (raw s a) b := by simp [raw]

/-- The raw sums over n bytes stay small. -/
theorem raw_bound (l : List Nat) : ∀ s : Nat × Nat, (∀ x ∈ l, x < 256) →
    (raw s l).1 ≤ s.1 + 255 * l.length ∧ 2 * (raw s l).2 ≤ 2 * s.2 + 2 * (l.length * s.1) + 255 * (l.length * (l.length + 1)) := by
  induction l with
  | nil => intro s _; simp [raw]
  | cons c l ih =>
    intro s h
    have hc : c < 256 := h c (by simp)
    obtain ⟨h1, h2⟩ := ih (rawStep s c) (fun x hx => h x (by simp [hx]))
    have e : raw s (c :: l) = raw (rawStep s c) l := rfl
    rw [e]
    simp only [rawStep] at h1 h2 ⊢
    simp only [List.length_cons]
    generalize l.length = n at *
    refine ⟨by omega, ?_⟩
    have hk : n * (s.1 + c) ≤ n * s.1 + n * 255 := by
      rw [Nat.mul_add]; exact Nat.add_le_add_left (Nat.mul_le_mul_left _ (by omega)) _
    have e1 : (n + 1) * s.1 = n * s.1 + s.1 := by rw [Nat.add_mul, Nat.one_mul]
    have e2 : (n + 1) * (n + 1 + 1) = n * (n + 1) + 2 * n + 2 := by
      rw [Nat.add_mul, Nat.mul_add n (n + 1) 1]; omega
    rw [e1, e2]
    omega

theorem raw_small (l : List Nat) (s : Nat × Nat) (h : ∀ x ∈ l, x < 256) (hl : l.length ≤ 5552) (h1 : s.1 < 65521) (h2 : s.2 < 65521) :
    (raw s l).1 ≤ 1481280 ∧ (raw s l).2 ≤ 4294690200 := by
  obtain ⟨a, b⟩ := raw_bound l s h
  have c1 : l.length * s.1 ≤ 5552 * 65520 := Nat.mul_le_mul hl (by omega)
  have c2 : l.length * (l.length + 1) ≤ 5552 * 5553 := Nat.mul_le_mul hl (by omega)
  omega

/-- Both sums as one number. -/
def word (s : Nat × Nat) : Nat := s.2 * 65536 + s.1
def adler (l : List Nat) : Nat := word (sums (1, 0) l)

theorem adler_parts (l : List Nat) : adler l % 65536 < 65521 ∧ adler l / 65536 < 65521 := by
  have := sums_lt (1, 0) l (by decide) (by decide)
  unfold adler word
  omega
theorem adler_mod (l : List Nat) : adler l % 65536 = (sums (1, 0) l).1 := by
  have := sums_lt (1, 0) l (by decide) (by decide)
  unfold adler word
  omega
theorem adler_div (l : List Nat) : adler l / 65536 = (sums (1, 0) l).2 := by
  have := sums_lt (1, 0) l (by decide) (by decide)
  unfold adler word
  omega
theorem raw_add (l : List Nat) : ∀ (s : Nat × Nat) (d e : Nat), raw (s.1 + d, s.2 + e) l = ((raw s l).1 + d, (raw s l).2 + e + l.length * d) := by
  induction l with
  | nil => intro s d e; simp [raw]
  | cons c l ih =>
    intro s d e
    show raw (rawStep (s.1 + d, s.2 + e) c) l = ((raw (rawStep s c) l).1 + d, (raw (rawStep s c) l).2 + e + (l.length + 1) * d)
    have h : rawStep (s.1 + d, s.2 + e) c = ((rawStep s c).1 + d, (rawStep s c).2 + (e + d)) := by
      simp only [rawStep, Prod.mk.injEq]; omega
    rw [h, ih, Nat.add_mul, Nat.one_mul]
    generalize raw (rawStep s c) l = r
    generalize l.length * d = q
    rw [show r.2 + (e + d) + q = r.2 + e + (q + d) by omega]

theorem join_arith (x1 x2 y1 y2 p q : Nat) (h : p % 65521 = q % 65521) :
    ((y2 + x2 + p) % 65521 * 65536 + (y1 + (x1 + 65520)) % 65521) = (x2 + y2 % 65521 + q) % 65521 * 65536 + (x1 + y1 % 65521 + 65520) % 65521 := by omega

/-- The checksum of two lists behind each other. -/
theorem adler_joined (a b : List Nat) : adler (a ++ b) = (adler a / 65536 + adler b / 65536 + (adler a % 65536 + 65520) % 65521 * (b.length % 65521)) % 65521 * 65536 + (adler a % 65536 + adler b % 65536 + 65520) % 65521 := by
  rw [adler_mod, adler_mod, adler_div, adler_div]
  have ha := sums_lt (1, 0) a (by decide) (by decide)
  show word (sums (1, 0) (a ++ b)) = _
  rw [sums_append]
  generalize sums (1, 0) a = s at *
  obtain ⟨x1, x2⟩ := s
  simp only at ha
  have hr : red (x1 + 65521, x2) = (x1, x2) := by simp only [red, Prod.mk.injEq]; omega
  have h1 : sums (x1, x2) b = red (raw (1 + (x1 + 65520), 0 + x2) b) := by
    rw [show (1 + (x1 + 65520), 0 + x2) = (x1 + 65521, x2) by rw [Prod.mk.injEq]; omega, ← sums_red, hr]
  have h2 : sums (1, 0) b = red (raw (1, 0) b) := sums_of_raw _ _ (by decide) (by decide)
  rw [h1, h2]
  have h3 := raw_add b (1, 0) (x1 + 65520) x2
  simp only at h3
  rw [h3]
  have hmul : b.length * (x1 + 65520) % 65521 = (x1 + 65520) % 65521 * (b.length % 65521) % 65521 := by
    rw [Nat.mul_comm b.length, Nat.mul_mod (x1 + 65520)]
  exact join_arith x1 x2 _ _ _ _ hmul

end Go.Proofs.Ytdpjdglcienbfaa.PlainAd

/-
  A plain model of ascii85.Decode, with no program in sight: one byte after the other, the number of a group modulo 2^32. Conditions: those that each fact names.
-/
namespace Go.Proofs.YthhbcnjbnfjiiaaDoor.PlainDec

structure DS where
  out : List Nat
  used : Nat
  v : Nat
  nb : Nat
inductive DR where
  | bad (at_ : Nat)
  | ok (out : List Nat) (used : Nat)

def be4 (v : Nat) : List Nat := [v / 16777216, v / 65536 % 256, v / 256 % 256, v % 256]
def next (v b : Nat) : Nat := (v * 85 + (b - 33)) % 4294967296
def dstep (k b : Nat) (s : DS) : Option DS :=
  if b ≤ 32 then some s
  else if b = 122 ∧ s.nb = 0 then some ⟨s.out ++ [0, 0, 0, 0], k + 1, 0, 0⟩
  else if 33 ≤ b ∧ b ≤ 117 then
    if s.nb = 4 then some ⟨s.out ++ be4 (next s.v b), k + 1, 0, 0⟩ else some ⟨s.out, s.used, next s.v b, s.nb + 1⟩
  else none
def padv (v : Nat) : Nat → Nat
  | 0 => v
  | n + 1 => padv ((v * 85 + 84) % 4294967296) n
def dend (n : Nat) (flush : Bool) (s : DS) : DR :=
  if flush then (if s.nb = 0 then .ok s.out n else if s.nb = 1 then .bad n else .ok (s.out ++ (be4 (padv s.v (5 - s.nb))).take (s.nb - 1)) n) else .ok s.out s.used
def dgo (room : Nat) (flush : Bool) (n : Nat) : List Nat → Nat → DS → DR
  | [], _, s => dend n flush s
  | b :: r, k, s => if room < s.out.length + 4 then .ok s.out s.used else match dstep k b s with
    | none => .bad k
    | some s' => dgo room flush n r (k + 1) s'
def init : DS := ⟨[], 0, 0, 0⟩

/-- What holds of the state behind k bytes. -/
structure Inv (room k : Nat) (s : DS) : Prop where
  nb : s.nb ≤ 4
  v : s.v < 4294967296
  bytes : ∀ x ∈ s.out, x < 256
  len : s.out.length ≤ 4 * k
  used : s.used ≤ k
  fits : s.out.length ≤ room
  left : 0 < s.nb → s.out.length + 4 ≤ room
theorem inv_init (room : Nat) : Inv room 0 init := ⟨by decide, by decide, by simp [init], by simp [init], by simp [init], by simp [init], by simp [init]⟩
theorem next_lt (v b : Nat) : next v b < 4294967296 := Nat.mod_lt _ (by decide)
theorem be4_lt (v : Nat) (h : v < 4294967296) : ∀ x ∈ be4 v, x < 256 := by
  intro x hx
  simp only [be4, List.mem_cons, List.not_mem_nil, or_false] at hx
  omega
theorem padv_lt : ∀ (n v : Nat), v < 4294967296 → padv v n < 4294967296 := by
  intro n
  induction n with
  | zero => intro v h; exact h
  | succ n ih => intro v _; exact ih _ (Nat.mod_lt _ (by decide))
theorem be4_length (v : Nat) : (be4 v).length = 4 := rfl

theorem dstep_skip {k x : Nat} (s : DS) (h : x ≤ 32) : dstep k x s = some s := by unfold dstep; rw [if_pos h]
theorem dstep_z {k : Nat} (s : DS) (h : s.nb = 0) : dstep k 122 s = some ⟨s.out ++ [0, 0, 0, 0], k + 1, 0, 0⟩ := by unfold dstep; rw [if_neg (by decide), if_pos ⟨rfl, h⟩]
theorem dstep_four {k x : Nat} (s : DS) (h : 33 ≤ x) (h' : x ≤ 117) (h4 : s.nb = 4) : dstep k x s = some ⟨s.out ++ be4 (next s.v x), k + 1, 0, 0⟩ := by
  unfold dstep; rw [if_neg (by omega), if_neg (by omega), if_pos ⟨h, h'⟩, if_pos h4]
theorem dstep_digit {k x : Nat} (s : DS) (h : 33 ≤ x) (h' : x ≤ 117) (h4 : s.nb ≠ 4) : dstep k x s = some ⟨s.out, s.used, next s.v x, s.nb + 1⟩ := by
  unfold dstep; rw [if_neg (by omega), if_neg (by omega), if_pos ⟨h, h'⟩, if_neg h4]
theorem dstep_bad {k x : Nat} (s : DS) (h : 117 < x) (hz : x = 122 → s.nb ≠ 0) : dstep k x s = none := by
  unfold dstep; rw [if_neg (by omega), if_neg (fun h => hz h.1 h.2), if_neg (by omega)]

theorem inv_step {room k b : Nat} {s s' : DS} (h : Inv room k s) (hr : s.out.length + 4 ≤ room) (hs : dstep k b s = some s') : Inv room (k + 1) s' := by
  have hnb := h.nb
  have hlen := h.len
  have hus := h.used
  unfold dstep at hs
  split at hs
  · injection hs with hs; subst hs
    exact ⟨hnb, h.v, h.bytes, by omega, by omega, h.fits, h.left⟩
  · split at hs
    · injection hs with hs; subst hs
      refine ⟨Nat.zero_le _, show (0 : Nat) < 4294967296 by decide, ?_, ?_, Nat.le_refl _, ?_, fun h0 => absurd h0 (Nat.lt_irrefl 0)⟩
      · intro x hx
        rcases List.mem_append.1 hx with hx | hx
        · exact h.bytes x hx
        · simp at hx; omega
      · rw [List.length_append]; simp only [List.length_cons, List.length_nil]; omega
      · rw [List.length_append]; simp only [List.length_cons, List.length_nil]; omega
    · split at hs
      · split at hs
        · injection hs with hs; subst hs
          refine ⟨Nat.zero_le _, show (0 : Nat) < 4294967296 by decide, ?_, ?_, Nat.le_refl _, ?_, fun h0 => absurd h0 (Nat.lt_irrefl 0)⟩
          · intro x hx
            rcases List.mem_append.1 hx with hx | hx
            · exact h.bytes x hx
            · exact be4_lt _ (next_lt _ _) x hx
          · rw [List.length_append, be4_length]; omega
          · rw [List.length_append, be4_length]; omega
        · next h4 =>
          injection hs with hs; subst hs
          exact ⟨by show s.nb + 1 ≤ 4; omega, next_lt _ _, h.bytes, by show s.out.length ≤ _; omega, by show s.used ≤ _; omega, h.fits, fun _ => hr⟩
      · cases hs

end Go.Proofs.YthhbcnjbnfjiiaaDoor.PlainDec

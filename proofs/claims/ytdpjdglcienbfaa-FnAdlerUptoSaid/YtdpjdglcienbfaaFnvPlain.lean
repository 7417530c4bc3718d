/-
  Plain facts for spec.Fnv: bytes are told by their number; the steps of FNV on bytes. Conditions: those that each fact names.
-/
import Derived.Test.YtdpjdglcienbfaaTimes
import Derived.Test.YtdpjdglcienbfaaPlainHash
namespace Go.Proofs.Ytdpjdglcienbfaa
open PlainTimes (lev)
open PlainHash (be4 be8 be16)

theorem lev_inj (n : Nat) (f g : Nat → Nat) (hf : ∀ p, f p < 256) (hg : ∀ p, g p < 256) : ∀ m, lev n f m = lev n g m → ∀ t, t < m → f (n - 1 - t) = g (n - 1 - t) := by
  intro m
  induction m with
  | zero => intro _ t ht; omega
  | succ m ih =>
    intro h t ht
    simp only [lev] at h
    have h1 := PlainTimes.lev_lt n f hf m
    have h2 := PlainTimes.lev_lt n g hg m
    have hp : 0 < 256 ^ m := Nat.pow_pos (by decide)
    have e1 : f (n - 1 - m) = g (n - 1 - m) := by
      have a1 : (lev n f m + f (n - 1 - m) * 256 ^ m) / 256 ^ m = f (n - 1 - m) := by rw [Nat.add_mul_div_right _ _ hp, Nat.div_eq_of_lt h1, Nat.zero_add]
      have a2 : (lev n g m + g (n - 1 - m) * 256 ^ m) / 256 ^ m = g (n - 1 - m) := by rw [Nat.add_mul_div_right _ _ hp, Nat.div_eq_of_lt h2, Nat.zero_add]
      rw [← a1, ← a2, h]
    by_cases e : t = m
    · subst e; exact e1
    · exact ih (by rw [e1] at h; omega) t (by omega)
theorem list_of_lev {l l' : List Nat} {n : Nat} (h : l.length = n) (h' : l'.length = n) (hl : ∀ x ∈ l, x < 256) (hl' : ∀ x ∈ l', x < 256) (e : lev n (fl l) n = lev n (fl l') n) : l = l' := by
  apply List.ext_getElem?
  intro i
  by_cases hi : i < n
  · have := lev_inj n (fl l) (fl l') (fun p => getD_lt hl p) (fun p => getD_lt hl' p) n e (n - 1 - i) (by omega)
    rw [show n - 1 - (n - 1 - i) = i by omega] at this
    unfold fl at this
    rw [List.getD_eq_getElem?_getD, List.getD_eq_getElem?_getD, List.getElem?_eq_getElem (by omega), List.getElem?_eq_getElem (by omega)] at this
    rw [List.getElem?_eq_getElem (by omega), List.getElem?_eq_getElem (by omega)]
    exact congrArg some this
  · rw [List.getElem?_eq_none (by omega), List.getElem?_eq_none (by omega)]
theorem lev_be4 (s : Nat) (_ : s < 4294967296) : lev 4 (fl (be4 s)) 4 = s := by
  show 0 + s % 256 * 256 ^ 0 + s / 256 % 256 * 256 ^ 1 + s / 65536 % 256 * 256 ^ 2 + s / 16777216 * 256 ^ 3 = s
  omega
theorem lev_be8 (s : Nat) (_ : s < 18446744073709551616) : lev 8 (fl (be8 s)) 8 = s := by
  show 0 + s % 256 * 256 ^ 0 + s / 256 % 256 * 256 ^ 1 + s / 65536 % 256 * 256 ^ 2 + s / 16777216 % 256 * 256 ^ 3 + s / 4294967296 % 256 * 256 ^ 4 + s / 1099511627776 % 256 * 256 ^ 5 + s / 281474976710656 % 256 * 256 ^ 6 + s / 72057594037927936 * 256 ^ 7 = s
  omega
theorem lev_be16 (s : Nat) (h : s < 340282366920938463463374607431768211456) : lev 16 (fl (be16 s)) 16 = s := by
  have h1 : 0 + (s / 18446744073709551616) % 256 * 256 ^ 0 + (s / 18446744073709551616) / 256 % 256 * 256 ^ 1 + (s / 18446744073709551616) / 65536 % 256 * 256 ^ 2 + (s / 18446744073709551616) / 16777216 % 256 * 256 ^ 3 + (s / 18446744073709551616) / 4294967296 % 256 * 256 ^ 4 + (s / 18446744073709551616) / 1099511627776 % 256 * 256 ^ 5 + (s / 18446744073709551616) / 281474976710656 % 256 * 256 ^ 6 + (s / 18446744073709551616) / 72057594037927936 * 256 ^ 7 = (s / 18446744073709551616) := lev_be8 (s / 18446744073709551616) (by omega)
  have h2 : 0 + (s % 18446744073709551616) % 256 * 256 ^ 0 + (s % 18446744073709551616) / 256 % 256 * 256 ^ 1 + (s % 18446744073709551616) / 65536 % 256 * 256 ^ 2 + (s % 18446744073709551616) / 16777216 % 256 * 256 ^ 3 + (s % 18446744073709551616) / 4294967296 % 256 * 256 ^ 4 + (s % 18446744073709551616) / 1099511627776 % 256 * 256 ^ 5 + (s % 18446744073709551616) / 281474976710656 % 256 * 256 ^ 6 + (s % 18446744073709551616) / 72057594037927936 * 256 ^ 7 = (s % 18446744073709551616) := lev_be8 (s % 18446744073709551616) (by omega)
  have e : lev 16 (fl (be16 s)) 16 = (0 + (s % 18446744073709551616) % 256 * 256 ^ 0 + (s % 18446744073709551616) / 256 % 256 * 256 ^ 1 + (s % 18446744073709551616) / 65536 % 256 * 256 ^ 2 + (s % 18446744073709551616) / 16777216 % 256 * 256 ^ 3 + (s % 18446744073709551616) / 4294967296 % 256 * 256 ^ 4 + (s % 18446744073709551616) / 1099511627776 % 256 * 256 ^ 5 + (s % 18446744073709551616) / 281474976710656 % 256 * 256 ^ 6 + (s % 18446744073709551616) / 72057594037927936 * 256 ^ 7) + (0 + (s / 18446744073709551616) % 256 * 256 ^ 0 + (s / 18446744073709551616) / 256 % 256 * 256 ^ 1 + (s / 18446744073709551616) / 65536 % 256 * 256 ^ 2 + (s / 18446744073709551616) / 16777216 % 256 * 256 ^ 3 + (s / 18446744073709551616) / 4294967296 % 256 * 256 ^ 4 + (s / 18446744073709551616) / 1099511627776 % 256 * 256 ^ 5 + (s / 18446744073709551616) / 281474976710656 % 256 * 256 ^ 6 + (s / 18446744073709551616) / 72057594037927936 * 256 ^ 7) * 18446744073709551616 := by
    show 0 + (s % 18446744073709551616) % 256 * 256 ^ 0 + (s % 18446744073709551616) / 256 % 256 * 256 ^ 1 + (s % 18446744073709551616) / 65536 % 256 * 256 ^ 2 + (s % 18446744073709551616) / 16777216 % 256 * 256 ^ 3 + (s % 18446744073709551616) / 4294967296 % 256 * 256 ^ 4 + (s % 18446744073709551616) / 1099511627776 % 256 * 256 ^ 5 + (s % 18446744073709551616) / 281474976710656 % 256 * 256 ^ 6 + (s % 18446744073709551616) / 72057594037927936 * 256 ^ 7 + (s / 18446744073709551616) % 256 * 256 ^ 8 + (s / 18446744073709551616) / 256 % 256 * 256 ^ 9 + (s / 18446744073709551616) / 65536 % 256 * 256 ^ 10 + (s / 18446744073709551616) / 16777216 % 256 * 256 ^ 11 + (s / 18446744073709551616) / 4294967296 % 256 * 256 ^ 12 + (s / 18446744073709551616) / 1099511627776 % 256 * 256 ^ 13 + (s / 18446744073709551616) / 281474976710656 % 256 * 256 ^ 14 + (s / 18446744073709551616) / 72057594037927936 * 256 ^ 15 = _
    generalize (s / 18446744073709551616) = x at *
    generalize (s % 18446744073709551616) = y at *
    clear h1 h2 h
    simp only [Nat.add_mul, Nat.mul_assoc, Nat.reducePow, Nat.reduceMul, Nat.zero_add, Nat.add_assoc]
  rw [e, h1, h2]
  omega

end Go.Proofs.Ytdpjdglcienbfaa

/-
  Aids for the hashes of two cells: blocks of two cells, the product with the prime of 128 bits. Conditions: those that each fact names.
-/
import Derived.Test.YtdpjdglcienbfaaHMul
import Derived.StillTailTactics
import Derived.Deep.RegionWith
namespace Go.Proofs.Ytdpjdglcienbfaa
open Go.RowKit

theorem two0 {w : World} {b : Nat} {x y : Value} {t : TypeId} (h : w.heap[b]? = some (.cells #[x, y] t (0, 0))) : w.cell? ⟨b, 0, none⟩ = some x := by simp [World.cell?, h]
theorem two1 {w : World} {b : Nat} {x y : Value} {t : TypeId} (h : w.heap[b]? = some (.cells #[x, y] t (0, 0))) : w.cell? ⟨b, 1, none⟩ = some y := by simp [World.cell?, h]
theorem twof {w : World} {b i : Nat} {x y : Value} {t : TypeId} (h : w.heap[b]? = some (.cells #[x, y] t (0, 0))) : w.frozen? ⟨b, i, none⟩ = false := by simp [World.frozen?, h]
theorem two_set0 {w : World} {b : Nat} {x y u : Value} {t : TypeId} (h : w.heap[b]? = some (.cells #[x, y] t (0, 0))) : (w.setCell ⟨b, 0, none⟩ u).heap[b]? = some (.cells #[u, y] t (0, 0)) := by
  have hlt := lt_of_block h
  have h' : w.heap[b] = .cells #[x, y] t (0, 0) := by simpa [Array.getElem?_eq_getElem hlt] using h
  show (w.heap.modify b _)[b]? = _
  rw [Array.getElem?_eq_getElem (by simpa using hlt), Array.getElem_modify_self, h']
  rfl
theorem two_set1 {w : World} {b : Nat} {x y u : Value} {t : TypeId} (h : w.heap[b]? = some (.cells #[x, y] t (0, 0))) : (w.setCell ⟨b, 1, none⟩ u).heap[b]? = some (.cells #[x, u] t (0, 0)) := by
  have hlt := lt_of_block h
  have h' : w.heap[b] = .cells #[x, y] t (0, 0) := by simpa [Array.getElem?_eq_getElem hlt] using h
  show (w.heap.modify b _)[b]? = _
  rw [Array.getElem?_eq_getElem (by simpa using hlt), Array.getElem_modify_self, h']
  rfl
theorem BS.keepNe {w w' : World} {B n b b1 o1 : Nat} {l : List Nat} (h : BS w B (some ⟨b1, o1, none⟩) n l) (_ : b1 ≠ b) (hk : ∀ o, w'.cell? ⟨b1, o, none⟩ = w.cell? ⟨b1, o, none⟩) : BS w' B (some ⟨b1, o1, none⟩) n l :=
  ⟨h.len, h.lt, fun hn => by
    obtain ⟨b2, o2, e, hb, hc⟩ := h.spot hn
    injection e with e; injection e with e1 e2 e3; subst e1; subst e2
    exact ⟨b1, o1, rfl, hb, fun i hi => (hk _).trans (hc i hi)⟩⟩
theorem mulp (hi lo : Nat) :
    ∃ a1 a2 a3 y : Nat, IntKind.u64.wrap ((lo : Int) * 16777216) = (a1 : Int) ∧ IntKind.u64.wrap (315 * (hi : Int)) = (a2 : Int) ∧ IntKind.u64.wrap ((a1 : Int) + (a2 : Int)) = (a3 : Int) ∧
      IntKind.u64.wrap (((315 * lo / 18446744073709551616 : Nat) : Int) + (a3 : Int)) = (y : Int) ∧ y < 18446744073709551616 ∧
      (hi * 18446744073709551616 + lo) * 309485009821345068724781371 % 340282366920938463463374607431768211456 = y * 18446744073709551616 + 315 * lo % 18446744073709551616 := by
  refine ⟨lo * 16777216 % 18446744073709551616, 315 * hi % 18446744073709551616, (lo * 16777216 % 18446744073709551616 + 315 * hi % 18446744073709551616) % 18446744073709551616,
    (315 * lo / 18446744073709551616 + (lo * 16777216 % 18446744073709551616 + 315 * hi % 18446744073709551616) % 18446744073709551616) % 18446744073709551616, ?_, ?_, ?_, ?_, Nat.mod_lt _ (by decide), ?_⟩
  · rw [IntKind.wrap_u64]; omega
  · rw [IntKind.wrap_u64]; omega
  · rw [IntKind.wrap_u64]; omega
  · rw [IntKind.wrap_u64]; omega
  · omega
theorem xor_low (y r c : Nat) (hr : r < 18446744073709551616) (hc : c < 256) : (y * 18446744073709551616 + r) ^^^ c = y * 18446744073709551616 + (r ^^^ c) := by
  have hx : r ^^^ c < 2 ^ 64 := Nat.xor_lt_two_pow hr (by omega)
  have h1 : ((y * 18446744073709551616 + r) ^^^ c) / 2 ^ 64 = y := by
    rw [Nat.xor_div_two_pow]
    have e1 : (y * 18446744073709551616 + r) / 2 ^ 64 = y := by omega
    have e2 : c / 2 ^ 64 = 0 := by omega
    rw [e1, e2, Nat.xor_zero]
  have h2 : ((y * 18446744073709551616 + r) ^^^ c) % 2 ^ 64 = r ^^^ c := by
    rw [Nat.xor_mod_two_pow]
    have e1 : (y * 18446744073709551616 + r) % 2 ^ 64 = r := by omega
    have e2 : c % 2 ^ 64 = c := by omega
    rw [e1, e2]
  omega

end Go.Proofs.Ytdpjdglcienbfaa

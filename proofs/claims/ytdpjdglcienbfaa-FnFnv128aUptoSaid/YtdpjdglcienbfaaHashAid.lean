/-
  Aids for the walks of the hashes' methods: string(b) of a byte slice, a constant text appended to a row of the call's own, a state stored into its block. Conditions: those that each fact names.
-/
import Derived.Test.YtdpjdglcienbfaaHashKind
import Derived.OneCell
import Derived.Laws.IdiomStrings
import Derived.Laws.BitsAllLaws
import Derived.Lib.AppendStr
namespace Go.Proofs.Ytdpjdglcienbfaa
open Go.RowKit
namespace Aid

def bytesOf (l : List Nat) : List UInt8 := l.map UInt8.ofNat
def strOf (l : List Nat) : ByteArray := ⟨(bytesOf l).toArray⟩
/-- 'string(b)' of a byte slice that reads as l. -/
theorem run_str {P : Program} {w : World} {B n : Nat} {A : Option Addr} {l : List Nat} (h : BS w B A n l) (src dst e : TypeId) (c : Nat) (hs : P.underlying src = some (.slice e)) (he : P.underlying e = some (.int .u8)) (hd : P.underlying dst = some .string) :
    (convert src dst (.slice A n c)).run P w = .ok (.string (strOf l)) w := by
  obtain rfl : l.length = n := h.len
  have hlen : (bytesOf l).length = l.length := by simp [bytesOf]
  cases A with
  | none =>
    have h0 : l = [] := by
      rcases Nat.eq_zero_or_pos l.length with h0 | h0
      · exact List.eq_nil_of_length_eq_zero h0
      · obtain ⟨b, o, e', _⟩ := h.spot h0
        cases e'
    subst h0
    rw [run_convert_bytes_string w src dst e _ _ c hs he hd]
    simp [Conv.bytesToString, strOf, bytesOf]
    rfl
  | some a =>
    rw [← hlen]
    refine run_convert_bytes_back w src dst e a c (bytesOf l) hs he hd fun j hj => ?_
    rw [hlen] at hj
    obtain ⟨b, o, e', _, hc⟩ := h.spot (by omega)
    injection e' with e'
    subst e'
    have hadd : (⟨b, o, none⟩ : Addr).add j = ⟨b, o + j, none⟩ := by unfold Addr.add; split <;> simp_all
    rw [hadd, hc j hj]
    have hx := h.lt l[j] (List.getElem_mem hj)
    simp only [bytesOf, List.getElem_map, UInt8.toNat_ofNat', List.getD_eq_getElem?_getD, List.getElem?_eq_getElem hj, Option.getD_some]
    rw [show l[j] % 2 ^ 8 = l[j] by omega]

theorem str_toList (l : List Nat) : (strOf l).toList = bytesOf l := by rw [ByteArray.toList_eq]; simp [strOf]
end Aid

theorem Only.drewN {b : Nat} {w w1 : World} (h : Only b w w1) (k : Nat) : Only b w (w1.drewN k) := ⟨h.os, h.tape, h.output, h.size, h.block⟩

theorem own_magic {w : World} {base : Nat} {v : Value} {l m : List Nat} {s : ByteArray} (hl : ∀ x ∈ l, x < 256) (hm : ∀ x ∈ m, x < 256) (hs : s.size = m.length) (hc : Lib.strCells s = bv m)
    (h : w.ownsRow base 5 1 v (l.length + s.size) (bv l ++ Lib.strCells s)) : Own w base v (l ++ m) := by
  refine ⟨?_, fun x hx => ?_⟩
  · rw [List.length_append, bv_append, ← hs, ← hc]; exact h
  · rcases List.mem_append.1 hx with hx | hx
    · exact hl x hx
    · exact hm x hx

/-- A hash of one cell takes a new state. -/
theorem only_store {b : Nat} {w w1 : World} (h : Only b w w1) (v : Value) : Only b w (w1.setCell ⟨b, 0, none⟩ v) := h.set 0 v

theorem foldl_take (f : Nat → Nat → Nat) (s : Nat) (l : List Nat) (k : Nat) (hk : k < l.length) : (l.take (k + 1)).foldl f s = f ((l.take k).foldl f s) (l.getD k 0) := by
  rw [List.take_succ_eq_append_getElem hk, List.getD_eq_getElem?_getD, List.getElem?_eq_getElem hk, List.foldl_append]; rfl
theorem foldl_lt {f : Nat → Nat → Nat} {m : Nat} (hf : ∀ s c, s < m → c < 256 → f s c < m) : ∀ (l : List Nat) (s : Nat), s < m → (∀ x ∈ l, x < 256) → l.foldl f s < m := by
  intro l
  induction l with
  | nil => intro s hs _; exact hs
  | cons x r ih => intro s hs hl; exact ih _ (hf s x hs (hl x (by simp))) (fun y hy => hl y (by simp [hy]))
theorem val_u32 {a b : Int} (h : a = b) : Value.int .u32 a = .int .u32 b := by rw [h]
theorem val_u64' {a b : Int} (h : a = b) : Value.int .u64 a = .int .u64 b := by rw [h]

end Go.Proofs.Ytdpjdglcienbfaa

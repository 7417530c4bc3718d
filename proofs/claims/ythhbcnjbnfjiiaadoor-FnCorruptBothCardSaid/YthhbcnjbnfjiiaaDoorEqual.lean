/-
  The walk of laws.equal: it tells whether two byte slices read as the same list. Conditions: both read as lists.
-/
import Derived.Test.YthhbcnjbnfjiiaaDoorProg
import Derived.Test.YthhbcnjbnfjiiaaDoorWords
import Derived.Laws.IdiomStrings
import Derived.Outline
import Derived.WalkSpells
import Derived.WalkLawsBesides
import Derived.Lib.Hide
namespace Go.Proofs.YthhbcnjbnfjiiaaDoor
open Go.RowKit

def bytesOf (l : List Nat) : List UInt8 := l.map UInt8.ofNat
def strOf (l : List Nat) : ByteArray := ⟨(bytesOf l).toArray⟩
theorem bytesOf_inj {a b : List Nat} (ha : ∀ x ∈ a, x < 256) (hb : ∀ x ∈ b, x < 256) (h : bytesOf a = bytesOf b) : a = b := by
  induction a generalizing b with
  | nil => cases b with
    | nil => rfl
    | cons y b => simp [bytesOf] at h
  | cons x a ih => cases b with
    | nil => simp [bytesOf] at h
    | cons y b =>
      simp only [bytesOf, List.map_cons, List.cons.injEq] at h
      have hx := ha x (by simp)
      have hy := hb y (by simp)
      have he := congrArg UInt8.toNat h.1
      simp only [UInt8.toNat_ofNat'] at he
      rw [show x = y by omega, ih (fun z hz => ha z (by simp [hz])) (fun z hz => hb z (by simp [hz])) h.2]
theorem strOf_inj {a b : List Nat} (ha : ∀ x ∈ a, x < 256) (hb : ∀ x ∈ b, x < 256) (h : strOf a = strOf b) : a = b := by
  unfold strOf at h
  injection h with h
  exact bytesOf_inj ha hb (by simpa using congrArg Array.toList h)

/-- 'string(b)' of a byte slice that reads as l. -/
theorem run_str {P : Program} {w : World} {B n : Nat} {A : Option Addr} {l : List Nat} (h : BS w B A n l) (src dst e : TypeId) (c : Nat) (hs : P.underlying src = some (.slice e)) (he : P.underlying e = some (.int .u8)) (hd : P.underlying dst = some .string) :
    (convert src dst (.slice A n c)).run P w = .ok (.string (strOf l)) w := by
  obtain rfl : l.length = n := h.len
  have hlen : (bytesOf l).length = l.length := by simp [bytesOf]
  cases A with
  | none =>
    have h0 : l = [] := by
      rcases Nat.eq_zero_or_pos l.length with h0 | h0
      · exact List.eq_nil_of_length_eq_zero h0
      · obtain ⟨b, o, e', _⟩ := h.spot h0
        cases e'
    subst h0
    rw [run_convert_bytes_string w src dst e _ _ c hs he hd]
    simp [Conv.bytesToString, strOf, bytesOf]
    rfl
  | some a =>
    rw [← hlen]
    refine run_convert_bytes_back w src dst e a c (bytesOf l) hs he hd fun j hj => ?_
    rw [hlen] at hj
    obtain ⟨b, o, e', _, hc⟩ := h.spot (by omega)
    injection e' with e'
    subst e'
    have hadd : (⟨b, o, none⟩ : Addr).add j = ⟨b, o + j, none⟩ := by unfold Addr.add; split <;> simp_all
    rw [hadd, hc j hj]
    have hx := h.lt l[j] (List.getElem_mem hj)
    simp only [bytesOf, List.getElem_map, UInt8.toNat_ofNat', List.getD_eq_getElem?_getD, List.getElem?_eq_getElem hj, Option.getD_some]
    rw [show l[j] % 2 ^ 8 = l[j] by omega]

theorem str_toList (l : List Nat) : (strOf l).toList = bytesOf l := by rw [ByteArray.toList_eq]; simp [strOf]
theorem str_beq {a b : List Nat} (ha : ∀ x ∈ a, x < 256) (hb : ∀ x ∈ b, x < 256) : ((strOf a).toList == (strOf b).toList) = decide (a = b) := by
  rw [str_toList, str_toList]
  by_cases h : a = b
  · subst h; simp
  · rw [decide_eq_false h]
    exact beq_eq_false_iff_ne.2 fun e => h (bytesOf_inj ha hb e)

theorem equal_any (A : Option Addr) (n c : Nat) (A2 : Option Addr) (n2 c2 : Nat) (l l2 : List Nat) (w : World) (B B2 : Nat) (h1 : BS w B A n l) (h2 : BS w B2 A2 n2 l2) :
    Calls Tryd.prog 15 #[.slice A n c, .slice A2 n2 c2] w fun e w' => e = .returned (.bool (decide (l = l2))) ∧ w = w' := by
  have hc1 := run_str (P := Tryd.prog) h1 22 9 5 c Tryd.underlying22 Tryd.underlying5 Tryd.underlying9
  have hc2 := run_str (P := Tryd.prog) h2 22 9 5 c2 Tryd.underlying22 Tryd.underlying5 Tryd.underlying9
  go_enter Tryd.func15, Tryd.ntmps15
  go_wp2
  go_ret
  exact ⟨congrArg (fun b => Ending.returned (Value.bool b)) (str_beq h1.lt h2.lt), rfl⟩

end Go.Proofs.YthhbcnjbnfjiiaaDoor

/-
  A plain model of impl.run: the states of the hashes and the answers, step by step. Conditions: those that each fact names.
-/
import Derived.Test.YtdpjdglcienbfaaRunWords
namespace Go.Proofs.Ytdpjdglcienbfaa
open Go.RowKit

structure Stp where
  op : Int
  slot : Int
  frm : Int
  data : List Nat
def Stp.zero : Stp := ⟨0, 0, 0, []⟩
structure Ans where
  data : List Nat
  value : Nat
  number : Nat
  fail : Bool
  sav : Option Nat
def Ans.zero : Ans := ⟨[], 0, 0, false, none⟩
structure RS where
  ss : List Nat
  an : List Ans
def savedAt (an : List Ans) (f : Int) : Option Nat := if 0 ≤ f ∧ f < an.length then (an.getD f.toNat Ans.zero).sav else none
/-- What a step does where its slot is there: the states behind it, and its answer. -/
def doM (K : Kind) (r : RS) (s : Stp) (st : Nat) : List Nat × Ans :=
  if s.op = 0 then (r.ss.set s.slot.toNat (s.data.foldl K.step st), ⟨[], 0, s.data.length, false, none⟩)
  else if s.op = 1 then (r.ss, ⟨s.data ++ K.bytes st, 0, 0, false, none⟩)
  else if s.op = 2 then (r.ss.set s.slot.toNat K.init, Ans.zero)
  else if s.op = 3 then (r.ss, ⟨[], 0, K.size, false, none⟩)
  else if s.op = 4 then (r.ss, ⟨[], 0, K.block, false, none⟩)
  else if s.op = 5 then (r.ss ++ [st], ⟨[], 0, r.ss.length, false, none⟩)
  else if s.op = 6 then (r.ss, ⟨K.magic ++ K.bytes st, 0, 0, false, some st⟩)
  else if s.op = 7 then match savedAt r.an s.frm with
    | some x => (r.ss.set s.slot.toNat x, Ans.zero)
    | none => (r.ss, ⟨[], 0, 0, true, none⟩)
  else if s.op = 8 then (r.ss, ⟨[], K.val st, 0, false, none⟩)
  else (r.ss, Ans.zero)
def stepM (K : Kind) (r : RS) (s : Stp) : RS :=
  if 0 ≤ s.slot ∧ s.slot < r.ss.length then ⟨(doM K r s (r.ss.getD s.slot.toNat 0)).1, r.an ++ [(doM K r s (r.ss.getD s.slot.toNat 0)).2]⟩ else ⟨r.ss, r.an ++ [Ans.zero]⟩
def runM (K : Kind) (L : List Stp) : RS := L.foldl (stepM K) ⟨[K.init], []⟩

theorem snoc_ind {α : Type} {P : List α → Prop} (h0 : P []) (h1 : ∀ L s, P L → P (L ++ [s])) : ∀ L, P L := by
  have h : ∀ M : List α, P M.reverse := by
    intro M
    induction M with
    | nil => exact h0
    | cons x r ih => rw [List.reverse_cons]; exact h1 _ _ ih
  intro L
  have := h L.reverse
  rwa [List.reverse_reverse] at this
theorem runM_take (K : Kind) (L : List Stp) (k : Nat) (hk : k < L.length) : runM K (L.take (k + 1)) = stepM K (runM K (L.take k)) (L.getD k Stp.zero) := by
  unfold runM
  rw [List.take_succ_eq_append_getElem hk, List.getD_eq_getElem?_getD, List.getElem?_eq_getElem hk, List.foldl_append]; rfl
theorem runM_snoc (K : Kind) (L : List Stp) (s : Stp) : runM K (L ++ [s]) = stepM K (runM K L) s := by simp [runM]

theorem doM_hit {K : Kind} {r : RS} {slot frm : Int} {data : List Nat} {st x : Nat} (h : savedAt r.an frm = some x) : doM K r ⟨7, slot, frm, data⟩ st = (r.ss.set slot.toNat x, Ans.zero) := by simp [doM, h]
theorem doM_miss {K : Kind} {r : RS} {slot frm : Int} {data : List Nat} {st : Nat} (h : savedAt r.an frm = none) : doM K r ⟨7, slot, frm, data⟩ st = (r.ss, ⟨[], 0, 0, true, none⟩) := by simp [doM, h]
theorem stepM_as (K : Kind) (r : RS) (s : Stp) : ∃ a, (stepM K r s).an = r.an ++ [a] := by
  unfold stepM; split <;> exact ⟨_, rfl⟩
theorem runM_len (K : Kind) (L : List Stp) : ((runM K L).an).length = L.length := by
  refine snoc_ind (P := fun L => ((runM K L).an).length = L.length) rfl (fun L s ih => ?_) L
  obtain ⟨a, h⟩ := stepM_as K (runM K L) s
  rw [runM_snoc, h, List.length_append, List.length_append, ih]; rfl

/-- What is known of an answer by what it has saved. -/
def SavAt (K : Kind) (s : Stp) (a : Ans) : Prop :=
  match a.sav with
  | some x => s.op = 6 ∧ a.data = K.magic ++ K.bytes x ∧ a.fail = false
  | none => s.op = 6 → a.data = [] ∧ a.fail = false
theorem savAt_zero (K : Kind) (s : Stp) : SavAt K s Ans.zero := fun _ => ⟨rfl, rfl⟩
theorem stepM_sav (K : Kind) (r : RS) (s : Stp) : ∃ a, (stepM K r s).an = r.an ++ [a] ∧ SavAt K s a := by
  unfold stepM
  split
  · refine ⟨_, rfl, ?_⟩
    unfold doM
    split; · exact fun h => by omega
    split; · exact fun h => by omega
    split; · exact savAt_zero K s
    split; · exact fun h => by omega
    split; · exact fun h => by omega
    split; · exact fun h => by omega
    split
    · next h6 => exact ⟨h6, rfl, rfl⟩
    split
    · next h7 =>
      cases savedAt r.an s.frm with
      | some x => exact savAt_zero K s
      | none => exact fun h => by omega
    split; · exact fun h => by omega
    exact savAt_zero K s
  · exact ⟨_, rfl, savAt_zero K s⟩
theorem runM_sav (K : Kind) (L : List Stp) : ∀ i, i < L.length → SavAt K (L.getD i Stp.zero) ((runM K L).an.getD i Ans.zero) := by
  refine snoc_ind (P := fun L => ∀ i, i < L.length → SavAt K (L.getD i Stp.zero) ((runM K L).an.getD i Ans.zero)) (fun i hi => by simp at hi) (fun L s ih => ?_) L
  · intro i hi
    obtain ⟨a, h, hs⟩ := stepM_sav K (runM K L) s
    rw [runM_snoc, h]
    have hlen := runM_len K L
    by_cases hlt : i < L.length
    · have := ih i hlt
      rw [List.getD_eq_getElem?_getD, List.getD_eq_getElem?_getD] at this ⊢
      rw [List.getElem?_append_left hlt, List.getElem?_append_left (by omega)]
      exact this
    · have hi2 : i = L.length := by rw [List.length_append] at hi; simp at hi; omega
      subst hi2
      rw [List.getD_eq_getElem?_getD, List.getD_eq_getElem?_getD, List.getElem?_append_right (Nat.le_refl _), List.getElem?_append_right (by omega), hlen]
      simpa using hs

/-- The cells of some answers. -/
def ansCells : List (Value × Ans) → List Value
  | [] => []
  | (v, a) :: r => v :: .int .u64 ((a.value : Nat) : Int) :: .int .i64 ((a.number : Nat) : Int) :: .bool a.fail :: ansCells r
theorem ansCells_append (a b : List (Value × Ans)) : ansCells (a ++ b) = ansCells a ++ ansCells b := by
  induction a with
  | nil => rfl
  | cons x r ih => obtain ⟨v, a⟩ := x; simp [ansCells, ih]
theorem ansCells_length (P : List (Value × Ans)) : (ansCells P).length = P.length * 4 := by
  induction P with
  | nil => rfl
  | cons x r ih => obtain ⟨v, a⟩ := x; simp [ansCells, ih]; omega
theorem ansCells_at (P : List (Value × Ans)) : ∀ i, i < P.length → (ansCells P)[i * 4]? = some (P.getD i (.nilIface, Ans.zero)).1 ∧ (ansCells P)[i * 4 + 1]? = some (.int .u64 (((P.getD i (.nilIface, Ans.zero)).2.value : Nat) : Int)) ∧
    (ansCells P)[i * 4 + 2]? = some (.int .i64 (((P.getD i (.nilIface, Ans.zero)).2.number : Nat) : Int)) ∧ (ansCells P)[i * 4 + 3]? = some (.bool (P.getD i (.nilIface, Ans.zero)).2.fail) := by
  induction P with
  | nil => intro i hi; simp at hi
  | cons x r ih =>
    obtain ⟨v, a⟩ := x
    intro i hi
    cases i with
    | zero => simp [ansCells]
    | succ i =>
      have := ih i (by simpa using hi)
      simp only [ansCells, List.getD_cons_succ]
      rw [show (i + 1) * 4 = i * 4 + 1 + 1 + 1 + 1 by omega, show i * 4 + 1 + 1 + 1 + 1 + 1 = i * 4 + 1 + 1 + 1 + 1 + 1 from rfl]
      simp only [List.getElem?_cons_succ]
      exact this

end Go.Proofs.Ytdpjdglcienbfaa

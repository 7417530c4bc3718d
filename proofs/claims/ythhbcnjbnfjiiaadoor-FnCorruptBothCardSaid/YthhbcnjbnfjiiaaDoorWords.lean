/-
  Words for memory: 'BS w B A n l': the byte slice with the address A and the length n reads as the list l of numbers below 256 and lies in a block below B; how that is kept over draws, new blocks, stores elsewhere, cuts. Conditions: none but those that each fact names.
-/
import Derived.WalkKit
import Derived.Below
import Derived.Deep.Draws
import Derived.Deep.OwnRows
namespace Go.Proofs.YthhbcnjbnfjiiaaDoor
open Go.RowKit

/-- The byte slice at A of n bytes reads as l, in a block below B. -/
structure BS (w : World) (B : Nat) (A : Option Addr) (n : Nat) (l : List Nat) : Prop where
  len : l.length = n
  lt : ∀ x ∈ l, x < 256
  spot : 0 < n → ∃ b o, A = some ⟨b, o, none⟩ ∧ b < B ∧ ∀ i, i < n → w.cell? ⟨b, o + i, none⟩ = some (.int .u8 ((l.getD i 0 : Nat) : Int))

theorem getD_lt {l : List Nat} (h : ∀ x ∈ l, x < 256) (i : Nat) : l.getD i 0 < 256 := by
  rw [List.getD_eq_getElem?_getD]
  cases hi : l[i]? with
  | none => simp
  | some x => simpa using h x (List.mem_of_getElem? hi)

section
variable {w w' : World} {B B' n : Nat} {A : Option Addr} {l : List Nat}
theorem BS.nil (w : World) (B : Nat) (A : Option Addr) : BS w B A 0 [] := ⟨rfl, by simp, fun h => absurd h (by omega)⟩
theorem BS.keep (h : BS w B A n l) (hk : ∀ b o, b < B → w'.cell? ⟨b, o, none⟩ = w.cell? ⟨b, o, none⟩) : BS w' B A n l :=
  ⟨h.len, h.lt, fun hn => by
    obtain ⟨b, o, e, hb, hc⟩ := h.spot hn
    exact ⟨b, o, e, hb, fun i hi => (hk b _ hb).trans (hc i hi)⟩⟩
theorem BS.mono (h : BS w B A n l) (hB : B ≤ B') : BS w B' A n l :=
  ⟨h.len, h.lt, fun hn => by
    obtain ⟨b, o, e, hb, hc⟩ := h.spot hn
    exact ⟨b, o, e, by omega, hc⟩⟩
theorem BS.below (h : BS w B A n l) (hb : Below B w w') : BS w' B A n l := h.keep fun _ _ hp => hb.cell hp
theorem BS.drewN (h : BS w B A n l) (k : Nat) : BS (w.drewN k) B A n l := ⟨h.len, h.lt, h.spot⟩
theorem BS.drew (h : BS w B A n l) : BS w.drew B A n l := ⟨h.len, h.lt, h.spot⟩
theorem BS.alloc (h : BS w B A n l) (hB : B ≤ w.heap.size) (o : Obj) : BS (w.alloc o) B A n l := h.keep fun b _ hb => World.cell?_alloc_lt w o ⟨b, _, none⟩ (Nat.lt_of_lt_of_le hb hB)
/-- A cut from k on: 's[k:]', with the model's own word for the address. -/
theorem BS.cut (h : BS w B A n l) {k cap : Nat} (hk : k ≤ n) (hc : n ≤ cap) :
    BS w B (if cap = k then A else A.map (·.add k)) (n - k) (l.drop k) := by
  refine ⟨by rw [List.length_drop, h.len], fun x hx => h.lt x (List.mem_of_mem_drop hx), fun hn => ?_⟩
  obtain ⟨b, o, rfl, hb, hcell⟩ := h.spot (by omega)
  rw [if_neg (by omega)]
  refine ⟨b, o + k, ?_, hb, fun i hi => ?_⟩
  · simp only [Option.map_some, Addr.add]
    split
    · next h0 => simp [h0]
    · simp
  · have := hcell (k + i) (by omega)
    rw [Nat.add_assoc, this]
    congr 3
    rw [List.getD_eq_getElem?_getD, List.getD_eq_getElem?_getD, List.getElem?_drop]
theorem BS.drop {b o : Nat} (h : BS w B (some ⟨b, o, none⟩) n l) {k : Nat} (hk : k ≤ n) : BS w B (some ⟨b, o + k, none⟩) (n - k) (l.drop k) := by
  refine ⟨by rw [List.length_drop, h.len], fun x hx => h.lt x (List.mem_of_mem_drop hx), fun hn => ?_⟩
  obtain ⟨b', o', e, hb, hcell⟩ := h.spot (by omega)
  injection e with e; injection e with e1 e2 e3; subst e1; subst e2
  refine ⟨b, o + k, rfl, hb, fun i hi => ?_⟩
  have := hcell (k + i) (by omega)
  rw [Nat.add_assoc, this]
  congr 3
  rw [List.getD_eq_getElem?_getD, List.getD_eq_getElem?_getD, List.getElem?_drop]
/-- 's[k:]' as the walk writes it. -/
theorem BS.dropIf {b o c : Nat} (h : BS w B (some ⟨b, o, none⟩) n l) {k : Nat} (hk : k ≤ n) (hc : n ≤ c) : BS w B (if c = k then some ⟨b, o, none⟩ else some ⟨b, o + k, none⟩) (n - k) (l.drop k) := by
  by_cases e : c = k
  · obtain rfl : n = k := by omega
    rw [if_pos e]
    exact ⟨by rw [List.length_drop, h.len], fun x hx => h.lt x (List.mem_of_mem_drop hx), fun hn => by omega⟩
  · rw [if_neg e]; exact h.drop hk
/-- The address of a slice that is not empty, and its cells. -/
theorem BS.open_ (h : BS w B A n l) (hn : 0 < n) : ∃ b o, A = some ⟨b, o, none⟩ ∧ b < B ∧ BS w B (some ⟨b, o, none⟩) n l := by
  obtain ⟨b, o, rfl, hb, _⟩ := h.spot hn
  exact ⟨b, o, rfl, hb, h⟩
theorem BS.cell {b o : Nat} (h : BS w B (some ⟨b, o, none⟩) n l) {i : Nat} (hi : i < n) : w.cell? ⟨b, o + i, none⟩ = some (.int .u8 ((l.getD i 0 : Nat) : Int)) := by
  obtain ⟨b', o', e, hb, hcell⟩ := h.spot (by omega)
  injection e with e; injection e with e1 e2 e3; subst e1; subst e2
  exact hcell i hi
/-- A cut up to k: 's[:k]'. -/
theorem BS.take (h : BS w B A n l) {k : Nat} (hk : k ≤ n) : BS w B A k (l.take k) := by
  refine ⟨by rw [List.length_take, h.len]; omega, fun x hx => h.lt x (List.mem_of_mem_take hx), fun hn => ?_⟩
  obtain ⟨b, o, rfl, hb, hcell⟩ := h.spot (by omega)
  refine ⟨b, o, rfl, hb, fun i hi => ?_⟩
  rw [hcell i (by omega)]
  congr 3
  rw [List.getD_eq_getElem?_getD, List.getD_eq_getElem?_getD, List.getElem?_take, if_pos hi]
end

/-- Only block b has turned; no block is new. -/
structure Only (b : Nat) (w w' : World) : Prop where
  os : w'.os = w.os
  tape : w'.tape = w.tape
  output : w'.output = w.output
  size : w'.heap.size = w.heap.size
  block : ∀ k, k ≠ b → w'.heap[k]? = w.heap[k]?
theorem Only.refl (b : Nat) (w : World) : Only b w w := ⟨rfl, rfl, rfl, rfl, fun _ _ => rfl⟩
theorem Only.trans {b : Nat} {w w1 w2 : World} (h : Only b w w1) (k : Only b w1 w2) : Only b w w2 :=
  ⟨k.os.trans h.os, k.tape.trans h.tape, k.output.trans h.output, k.size.trans h.size, fun i hi => (k.block i hi).trans (h.block i hi)⟩
theorem Only.set {b : Nat} {w w1 : World} (h : Only b w w1) (i : Nat) (v : Value) : Only b w (w1.setCell ⟨b, i, none⟩ v) :=
  ⟨h.os, h.tape, h.output, by simpa [World.setCell] using h.size, fun k hk => (Below.heap_setCell w1 ⟨b, i, none⟩ v k hk).trans (h.block k hk)⟩
theorem Only.below {b B : Nat} {w w' : World} (h : Only b w w') (hB : B ≤ b) : Below B w w' := ⟨h.os, h.tape, h.output, Nat.le_of_eq h.size.symm, fun k hk => h.block k (by omega)⟩
theorem Only.cell {b : Nat} {w w' : World} (h : Only b w w') {k o : Nat} (hk : k ≠ b) : w'.cell? ⟨k, o, none⟩ = w.cell? ⟨k, o, none⟩ := World.cell?_of_block (w := w) (h.block k hk)

/-- A row of bytes as the frame of a law hands it over. -/
theorem bs_of_row {w : World} {a : Option Addr} {len cap : Nat} {zs : List Int}
    (h : (a = none ∧ len = 0 ∧ cap = 0 ∧ zs = []) ∨ ∃ x, a = some x ∧ len ≤ cap ∧ cap ≤ maxLen ∧ zs.length = cap ∧ (∀ i, i < zs.length → w.cell? (x.add i) = some (.int .u8 (zs.getD i 0))) ∧ ∀ n ∈ zs, (Lit.int .u8 n).wf = true) :
    len ≤ cap ∧ cap ≤ maxLen ∧ ∃ l, BS w w.heap.size a len l := by
  rcases h with ⟨rfl, rfl, rfl, rfl⟩ | ⟨x, rfl, hl, hm, hz, hcell, hwz⟩
  · exact ⟨Nat.le_refl _, Nat.zero_le _, [], BS.nil _ _ _⟩
  · refine ⟨hl, hm, (zs.take len).map Int.toNat, by simp; omega, ?_, fun hn => ?_⟩
    · intro y hy
      obtain ⟨z, hz', rfl⟩ := List.mem_map.1 hy
      have := hwz z (List.mem_of_mem_take hz')
      simp [Lit.wf, IntKind.min, IntKind.max, IntKind.signed, IntKind.bits] at this
      omega
    · obtain ⟨b, o, spot⟩ := x
      have hc0 := hcell 0 (by omega)
      have hspot : spot = none := by simpa [Addr.add] using World.cell?_spot hc0
      subst hspot
      have hadd : ∀ i, (⟨b, o, none⟩ : Addr).add i = ⟨b, o + i, none⟩ := fun i => by unfold Addr.add; split <;> simp_all
      have hlt := World.block_lt_of_cell? w _ hc0
      rw [hadd] at hlt
      refine ⟨b, o, rfl, hlt, fun i hi => ?_⟩
      have hc := hcell i (by omega)
      rw [hadd] at hc
      rw [hc]
      have hiz : i < zs.length := by omega
      have hw := hwz (zs.getD i 0) (by rw [List.getD_eq_getElem?_getD, List.getElem?_eq_getElem hiz]; exact List.getElem_mem hiz)
      simp [Lit.wf, IntKind.min, IntKind.max, IntKind.signed, IntKind.bits] at hw
      congr 2
      simp only [List.getD_eq_getElem?_getD, List.getElem?_map, List.getElem?_take, hi, if_true] at hw ⊢
      rw [List.getElem?_eq_getElem hiz] at hw ⊢
      simp at hw ⊢
      omega

end Go.Proofs.YthhbcnjbnfjiiaaDoor

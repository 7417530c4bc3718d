/-
  What a kind of hash is (a cell or two behind a pointer, a step for a byte, its bytes) and what its methods are asked to do. Conditions: none but those that each contract names.
-/
import Derived.Test.YtdpjdglcienbfaaHashBe
namespace Go.Proofs.Ytdpjdglcienbfaa
open Go.RowKit

theorem results_two {fn : Func} {t u : Tmp} (h : fn.results = #[.tmp t, .tmp u]) (tmps : Array Value) (P : Program) (w : World) :
    (results fn tmps).run P w = .ok (.tuple #[tmps.getD t undef, tmps.getD u undef]) w := by simp [results, h]

structure Kind where
  dyn : TypeId
  elem : TypeId
  cells : Nat → Array Value
  init : Nat
  size : Nat
  block : Nat
  ok : Nat → Prop
  step : Nat → Nat → Nat
  bytes : Nat → List Nat
  magic : List Nat
  val : Nat → Nat
  fWrite : FuncId
  fSum : FuncId
  fReset : FuncId
  fSize : FuncId
  fBlock : FuncId
  fClone : FuncId
  fMarshal : FuncId
  fUnmarshal : FuncId

/-- Block b is a hash of this kind in the state s. -/
def Rep (K : Kind) (w : World) (b s : Nat) : Prop := w.heap[b]? = some (.cells (K.cells s) K.elem (0, 0)) ∧ K.ok s

theorem Rep.keep {K : Kind} {w w' : World} {b s : Nat} (h : Rep K w b s) (e : w'.heap[b]? = w.heap[b]?) : Rep K w' b s := ⟨e.trans h.1, h.2⟩
theorem Rep.below {K : Kind} {w w' : World} {b s B : Nat} (h : Rep K w b s) (hb : Below B w w') (hB : b < B) : Rep K w' b s := h.keep (hb.block b hB)
theorem Rep.lt {K : Kind} {w : World} {b s : Nat} (h : Rep K w b s) : b < w.heap.size := (Array.getElem?_eq_some_iff.1 h.1).1

/-- The address of a hash. -/
def hp (b : Nat) : Value := .pointer (some ⟨b, 0, none⟩)

def RetWrite (K : Kind) (w : World) (b s n : Nat) (l : List Nat) (e : Ending) (w' : World) : Prop :=
  e = .returned (.tuple #[.int .i64 (n : Int), .nilIface]) ∧ Only b w w' ∧ Rep K w' b (l.foldl K.step s)
def RetReset (K : Kind) (w : World) (b : Nat) (e : Ending) (w' : World) : Prop := e = .returned (.tuple #[]) ∧ Only b w w' ∧ Rep K w' b K.init
def RetClone (K : Kind) (w : World) (s : Nat) (e : Ending) (w' : World) : Prop :=
  e = .returned (.tuple #[.iface K.dyn (hp w.heap.size), .nilIface]) ∧ w' = w.alloc (.cells (K.cells s) K.elem)
def RetMarshal (K : Kind) (w : World) (s : Nat) (e : Ending) (w' : World) : Prop :=
  ∃ v, e = .returned (.tuple #[v, .nilIface]) ∧ Own w' w.heap.size v (K.magic ++ K.bytes s) ∧ Below w.heap.size w w'
def RetUnmarshal (K : Kind) (w : World) (b s' : Nat) (e : Ending) (w' : World) : Prop := e = .returned .nilIface ∧ Only b w w' ∧ Rep K w' b s'

/-- What the methods of a kind do. -/
structure Good (P : Program) (K : Kind) : Prop where
  init_ok : K.ok K.init
  step_ok : ∀ s c, K.ok s → c < 256 → K.ok (K.step s c)
  bytes_len : ∀ s, (K.bytes s).length = K.size
  bytes_lt : ∀ s, K.ok s → ∀ x ∈ K.bytes s, x < 256
  bytes_inj : ∀ s s', K.ok s → K.ok s' → K.bytes s = K.bytes s' → s = s'
  magic_len : K.magic.length = 4
  magic_lt : ∀ x ∈ K.magic, x < 256
  size_le : K.size ≤ 16
  block_le : K.block ≤ 4
  write : ∀ (w : World) (b s : Nat) (A : Option Addr) (n c : Nat) (l : List Nat) (B : Nat), Rep K w b s → BS w B A n l → (∀ a, A = some a → 0 < n → a.block ≠ b) → n ≤ c → c ≤ maxLen →
    Calls P K.fWrite #[hp b, .slice A n c] w fun e w' => RetWrite K w b s n l e w'
  sum : ∀ (w : World) (b s base : Nat) (sv : Value) (l : List Nat), Rep K w b s → Own w base sv l → b < base → base ≤ w.heap.size → l.length ≤ 70368744177664 →
    Calls P K.fSum #[hp b, sv] w fun e w' => RetApp w base (l ++ K.bytes s) e w'
  reset : ∀ (w : World) (b s : Nat), Rep K w b s → Calls P K.fReset #[hp b] w fun e w' => RetReset K w b e w'
  size_ : ∀ (w : World) (b : Nat), Calls P K.fSize #[hp b] w fun e w' => e = .returned (.int .i64 ((K.size : Nat) : Int)) ∧ w = w'
  block_ : ∀ (w : World) (b : Nat), Calls P K.fBlock #[hp b] w fun e w' => e = .returned (.int .i64 ((K.block : Nat) : Int)) ∧ w = w'
  clone : ∀ (w : World) (b s : Nat), Rep K w b s → Calls P K.fClone #[hp b] w fun e w' => RetClone K w s e w'
  marshal : ∀ (w : World) (b s : Nat), Rep K w b s → Calls P K.fMarshal #[hp b] w fun e w' => RetMarshal K w s e w'
  unmarshal : ∀ (w : World) (b s s' : Nat) (A : Option Addr) (n c : Nat) (B : Nat), Rep K w b s → BS w B A n (K.magic ++ K.bytes s') → n ≤ c → (∀ a, A = some a → 0 < n → a.block ≠ b) → K.ok s' →
    Calls P K.fUnmarshal #[hp b, .slice A n c] w fun e w' => RetUnmarshal K w b s' e w'

end Go.Proofs.Ytdpjdglcienbfaa

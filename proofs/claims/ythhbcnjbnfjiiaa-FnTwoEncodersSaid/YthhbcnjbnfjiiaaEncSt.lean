/-
  The state of the stream encoder over a bytes.Buffer, and what keeps it. Printed by encgen.py. Conditions: those that each fact names.
-/
import Derived.Test.YthhbcnjbnfjiiaaBufPut
import Derived.Test.YthhbcnjbnfjiiaaImplEnc
import Derived.Deep.RegionLaw
namespace Go.Proofs.Ythhbcnjbnfjiiaa
open Go.RowKit
open Plain85 (enc)

theorem bw_find (a : Addr) (w : World) : (Go.method 181 33 (.pointer (some a)) "Write").run Try.prog w = .ok (43, .pointer (some a)) w := by kernel_rfl
theorem bw_ahead (a : Addr) (w : World) : (Go.nilAhead 181 33 (.pointer (some a)) "Write").run Try.prog w = .ok (some false) w := by kernel_rfl
theorem bw_enter (args : Array Value) (w : World) : (callFunc 43 args).run Try.prog w = .ok (.enter 43 args) w := entersB Try.func43 (by kernel_rfl) rfl args w

theorem cut4 (eb o n : Nat) (hn : n ≤ 4) (W : World) : (Instr.sliceAt 53 (.pointer (some ⟨eb, o, none⟩)) (some (.int .i64 0)) (some (.int .i64 (n : Int))) none).run Try.prog W = .ok (.slice (some ⟨eb, o, none⟩) n 4) W := by
  have e1 : Try.prog.arrayLen 53 = 4 := by kernel_rfl
  have e2 : Try.prog.elem 53 = 5 := by kernel_rfl
  have h := run_sliceAt_array_lh (P := Try.prog) W 53 ⟨eb, o, none⟩ (by rw [e1, e2]; exact Try.underlying53) .i64 .i64 0 (n : Int) (by omega) (by omega) (by rw [e1]; omega)
  rw [h, e1, e2]
  obtain ⟨i0, hi, hzz⟩ := Option.map_eq_some_iff.1 Try.infoByte
  simp only [Prod.mk.injEq] at hzz
  simp [sizeOf, typeInfo, hi, slicedAt, Addr.add]
theorem cut1024 (eb o n : Nat) (hn : n ≤ 1024) (W : World) : (Instr.sliceAt 54 (.pointer (some ⟨eb, o, none⟩)) (some (.int .i64 0)) (some (.int .i64 (n : Int))) none).run Try.prog W = .ok (.slice (some ⟨eb, o, none⟩) n 1024) W := by
  have e1 : Try.prog.arrayLen 54 = 1024 := by kernel_rfl
  have e2 : Try.prog.elem 54 = 5 := by kernel_rfl
  have h := run_sliceAt_array_lh (P := Try.prog) W 54 ⟨eb, o, none⟩ (by rw [e1, e2]; exact Try.underlying54) .i64 .i64 0 (n : Int) (by omega) (by omega) (by rw [e1]; omega)
  rw [h, e1, e2]
  obtain ⟨i0, hi, hzz⟩ := Option.map_eq_some_iff.1 Try.infoByte
  simp only [Prod.mk.injEq] at hzz
  simp [sizeOf, typeInfo, hi, slicedAt, Addr.add]

/-- Block eb is an encoder over the buffer in block b, with the bytes r of a group that is begun. -/
structure EncS (w : World) (eb b : Nat) (f : Nat → Value) (r : List Nat) : Prop where
  row : w.rowIs eb 56 1031 f
  f0 : f 0 = .nilIface
  f1 : f 1 = .iface 33 (.pointer (some ⟨b, 0, none⟩))
  f6 : f 6 = .int .i64 ((r.length : Nat) : Int)
  fr : ∀ i, i < r.length → f (2 + i) = .int .u8 ((r.getD i 0 : Nat) : Int)
  lt : ∀ x ∈ r, x < 256
  r4 : r.length ≤ 4
theorem own_ne_row {w : World} {B eb n : Nat} {v : Value} {l : List Nat} {f : Nat → Value} (h : Own w B v l) (hr : w.rowIs eb 56 n f) : v.ownBlock ≠ some eb := by
  obtain ⟨c, hc, _⟩ := hr
  rcases h.1.2 with ⟨rfl, _⟩ | ⟨g, cap, cur, rfl, _, hg, _⟩
  · simp [Value.ownBlock]
  · intro e
    simp only [Value.ownBlock, Option.some.injEq] at e
    subst e
    rw [hc] at hg
    injection hg with hg
    injection hg with _ h2
    exact absurd h2 (by decide)
theorem Only.grow {b : Nat} {w w' : World} (h : Only b w w') : w.grownBy w' (some b) := ⟨h.os, h.tape, h.output, Nat.le_of_eq h.size.symm, fun k _ hk => h.block k (fun e => hk (by rw [e]))⟩
theorem Buf.only {w w' : World} {B b eb m cap n : Nat} {A : Option Addr} {lr : Int} {l : List Nat} {f : Nat → Value} (h : Buf w B b A m cap lr l) (hr : w.rowIs eb 56 n f) (hne : eb ≠ b) (ho : Only eb w w') : Buf w' B b A m cap lr l :=
  ⟨h.len, (ho.block b (Ne.symm hne)).trans h.blk, h.own.grown ho.grow (.inr (own_ne_row h.own hr)), h.ne, h.base⟩
theorem Two.toBelow {b B : Nat} {g : Option Nat} {w w' : World} (h : Two b g w w') (hb : B ≤ b) (hg : ∀ k, g = some k → B ≤ k) (hB : B ≤ w.heap.size) : Below B w w' :=
  ⟨h.os, h.tape, h.output, h.size, fun k hk => h.block k (by omega) (by omega) (fun e => by have := hg k e.symm; omega)⟩
theorem Buf.drew {w : World} {B b m cap : Nat} {A : Option Addr} {lr : Int} {l : List Nat} (h : Buf w B b A m cap lr l) : Buf w.drew B b A m cap lr l := ⟨h.len, h.blk, h.own, h.ne, h.base⟩
theorem EncS.bs {w : World} {eb b : Nat} {f : Nat → Value} {r : List Nat} (h : EncS w eb b f r) {n : Nat} (hn : r.length = n) : BS w w.heap.size (some ⟨eb, 2, none⟩) n r :=
  ⟨hn, h.lt, fun _ => ⟨eb, 2, rfl, h.row.lt, fun i hi => by rw [h.row.cell (by have := h.r4; omega), h.fr i (by omega)]⟩⟩
theorem out_bs {w : World} {eb : Nat} {f : Nat → Value} {t : List Nat} (h : w.rowIs eb 56 1031 f) (hlt : ∀ x ∈ t, x < 256) (hl : t.length ≤ 1024) (ht : ∀ j, j < t.length → f (7 + j) = .int .u8 ((t.getD j 0 : Nat) : Int)) {n : Nat} (hn : t.length = n) : BS w w.heap.size (some ⟨eb, 7, none⟩) n t :=
  ⟨hn, hlt, fun _ => ⟨eb, 7, rfl, h.lt, fun i hi => by rw [h.cell (by omega), ht i (by omega)]⟩⟩

end Go.Proofs.Ythhbcnjbnfjiiaa

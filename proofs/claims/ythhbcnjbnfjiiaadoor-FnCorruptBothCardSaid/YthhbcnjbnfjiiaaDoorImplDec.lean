/-
  The walk of impl.Decode: the bytes, how many were used, whether the text is corrupt, and the number of the error, as the plain model says. Conditions: the text reads as a list of at most 2^40 bytes; errors.errorType is as the row lists it.
-/
import Derived.Test.YthhbcnjbnfjiiaaDoorDec
import Derived.Test.YthhbcnjbnfjiiaaDoorCorrupt
import Derived.Test.YthhbcnjbnfjiiaaDoorImplEnc
namespace Go.Proofs.YthhbcnjbnfjiiaaDoor
open Go.RowKit
open PlainDec (DS DR be4 next dstep padv dend dgo Inv)

theorem results_four {fn : Func} {t u v x : Tmp} (h : fn.results = #[.tmp t, .tmp u, .tmp v, .tmp x]) (tmps : Array Value) (P : Program) (w : World) :
    (results fn tmps).run P w = .ok (.tuple #[tmps.getD t undef, tmps.getD u undef, tmps.getD v undef, tmps.getD x undef]) w := by simp [results, h]

def outOf : DR → List Nat | .bad _ => [] | .ok o _ => o
def usedOf : DR → Nat | .bad _ => 0 | .ok _ u => u
def badOf : DR → Bool | .bad _ => true | .ok _ _ => false
def atOf : DR → Nat | .bad a => a | .ok _ _ => 0
/-- The model of a whole call of impl.Decode. -/
def decM (l : List Nat) (flush : Bool) : DR := dgo (4 * l.length + 4) flush l.length l 0 PlainDec.init

def RetDec (w : World) (R : DR) (e : Ending) (w' : World) : Prop :=
  ∃ v, e = .returned (.tuple #[v, .int .i64 ((usedOf R : Nat) : Int), .bool (badOf R), .int .i64 ((atOf R : Nat) : Int)]) ∧ Own w' w.heap.size v (outOf R) ∧ Below w.heap.size w w'

set_option maxRecDepth 100000 in
set_option maxHeartbeats 1000000 in
theorem implDecode_any (A : Option Addr) (n c : Nat) (l : List Nat) (flush : Bool) (w : World) (B : Nat) (hB : B ≤ w.heap.size) (hc : n ≤ c) (hm : c ≤ maxLen) (hn : n ≤ 1099511627776) (hl : BS w B A n l) (hg : ErrType w) :
    Calls Tryd.prog 14 #[.slice A n c, .bool flush] w fun e w' => RetDec w (decM l flush) e w' := by
  have hmk := fun W => run_make_row' (P := Tryd.prog) 22 5 (.int .u8 0) 1 Tryd.underlying22 Tryd.infoByte rfl .i64 .i64 (4 * n + 4) (by omega) (by omega) W
  rw [show ((4 * n + 4 : Nat) : Int) = 4 * (n : Int) + 4 by omega] at hmk
  have hrow := World.rowIs_made w (.int .u8 0) (4 * n + 4) 5
  have hb : Below w.heap.size w (w.alloc (.cells (madeCells #[.int .u8 0] (4 * n + 4)) 5)) := (Below.refl _ _).alloc (Nat.le_refl _) _
  have hl' := hl.alloc hB (.cells (madeCells #[.int .u8 0] (4 * n + 4)) 5)
  have hfree : srcFree w.heap.size 0 (4 * n + 4) A n := fun h0 b o e hbb => by
    obtain ⟨b', o', e', hb', _⟩ := hl.spot h0
    rw [e] at e'
    injection e' with e'
    injection e' with e1
    omega
  have hpos := hg.pos
  have HG := Lib.hid hg
  have HF := Lib.hid hfree
  clear hg hfree
  go_enter Tryd.func14, Tryd.ntmps14
  go_wp2_with fail
  refine (decode_any w.heap.size 0 (4 * n + 4) (4 * n + 4) (4 * n + 4) 5 _ A n c l flush _ B hrow (by omega) (by omega) (by unfold maxLen; omega) hl' hc hm HF.out).mono ?_
  rintro e w1 ⟨f', hrow', honly, _, hR⟩
  have hbel : Below w.heap.size w w1 := hb.trans (honly.below (Nat.le_refl _))
  have hg1 := HG.out.below hbel hpos
  have hdm : dgo (4 * n + 4) flush l.length l 0 PlainDec.init = decM l flush := by unfold decM; rw [hl.len]
  rw [hdm] at hR
  clear hdm
  obtain ⟨R, hRR⟩ : ∃ R, decM l flush = R := ⟨_, rfl⟩
  rw [hRR] at hR
  have HRR := Lib.hid hRR
  clear hRR
  have HG1 := Lib.hid hg1
  have hsz := hbel.size
  clear hg1 HG
  cases R with
  | bad a =>
    simp only at hR
    subst hR
    have hown := own_of_row hrow' (base := w.heap.size) (Nat.le_refl _) [] (by simp) (by unfold maxLen; omega) (by simp) (by simp)
    have HOWN := Lib.hid hown
    clear hown
    go_wp2_with fail
    refine (corrupt_hit _ w1 HG1.out).mono ?_
    rintro e w2 ⟨rfl, hb2⟩
    go_wp2
    refine bodyPost_ret (results_four rfl _ _ _) rfl ?_
    rw [HRR.out]
    exact ⟨_, rfl, HOWN.out.below hb2, hbel.trans (hb2.mono hsz)⟩
  | ok out used =>
    simp only at hR
    obtain ⟨rfl, hlt, hfit, htxt⟩ := hR
    have hown := own_of_row hrow' (base := w.heap.size) (Nat.le_refl _) out hfit (by unfold maxLen; omega) hlt htxt
    have HOWN := Lib.hid hown
    clear hown htxt hlt
    generalize hL : out.length = L at *
    clear hL
    go_wp2_with fail
    refine (corrupt_nil w1).mono ?_
    rintro e w2 ⟨rfl, hb2⟩
    go_wp2
    refine bodyPost_ret (results_four rfl _ _ _) rfl ?_
    rw [HRR.out]
    exact ⟨_, rfl, HOWN.out.below hb2, hbel.trans (hb2.mono hsz)⟩

end Go.Proofs.YthhbcnjbnfjiiaaDoor

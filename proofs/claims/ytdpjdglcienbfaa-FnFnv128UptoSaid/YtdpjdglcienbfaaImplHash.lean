/-
  The walks of the seven constructors and of impl.Fnv32, .., impl.Adler, laws.hashed: the answers are those of the plain model. Written by implgen.py. Conditions: at most 2^40 steps, each with at most 2^46 bytes.
-/
import Derived.Test.YtdpjdglcienbfaaRun
import Derived.Test.YtdpjdglcienbfaaHLinks
namespace Go.Proofs.Ytdpjdglcienbfaa
open Go.RowKit

theorem apartSum32 : Apart kSum32 := ⟨by decide, by decide, by decide⟩
set_option maxRecDepth 100000 in
theorem newSum32 (w : World) : Calls Try.prog 37 #[] w fun e w' => e = .returned (.iface kSum32.dyn (hp w.heap.size)) ∧ Rep kSum32 w' w.heap.size kSum32.init ∧ Below w.heap.size w w' := by
  go_enter Try.func37, Try.ntmps37
  go_wp2
  go_ret
  exact ⟨rfl, ⟨_root_.Go.heap_alloc_new w _, goodSum32.init_ok⟩, (Below.refl _ _).alloc (Nat.le_refl _) _⟩
set_option maxRecDepth 100000 in
theorem implSum32 (A : Option Addr) (n c : Nat) (L : List Stp) (w : World) (hS : SS w w.heap.size A n L) (hn : n ≤ 1099511627776) (hd : ∀ s ∈ L, s.data.length ≤ 70368744177664) :
    Calls Try.prog 18 #[.slice A n c] w fun e w' => RetRun kSum32 w.heap.size w L e w' := by
  have HS := Lib.hid hS
  have HD := Lib.hid hd
  clear hS hd
  go_enter Try.func18, Try.ntmps18
  go_wp2_with fail
  refine (newSum32 w).mono ?_
  rintro e w1 ⟨rfl, hr, hb⟩
  have HR := Lib.hid hr
  clear hr
  go_wp2_with fail
  refine (run_any kSum32 goodSum32 linkedSum32 apartSum32 w1 w.heap.size w.heap.size HR.out (Nat.le_refl _) A n c L (HS.out.below hb) hn HD.out).mono ?_
  rintro e w2 ⟨v, P, rfl, ho, hp, hdat, hb2⟩
  go_wp2
  go_ret
  exact ⟨v, P, rfl, ho, hp, hdat, hb.trans hb2⟩

theorem apartSum32a : Apart kSum32a := ⟨by decide, by decide, by decide⟩
set_option maxRecDepth 100000 in
theorem newSum32a (w : World) : Calls Try.prog 38 #[] w fun e w' => e = .returned (.iface kSum32a.dyn (hp w.heap.size)) ∧ Rep kSum32a w' w.heap.size kSum32a.init ∧ Below w.heap.size w w' := by
  go_enter Try.func38, Try.ntmps38
  go_wp2
  go_ret
  exact ⟨rfl, ⟨_root_.Go.heap_alloc_new w _, goodSum32a.init_ok⟩, (Below.refl _ _).alloc (Nat.le_refl _) _⟩
set_option maxRecDepth 100000 in
theorem implSum32a (A : Option Addr) (n c : Nat) (L : List Stp) (w : World) (hS : SS w w.heap.size A n L) (hn : n ≤ 1099511627776) (hd : ∀ s ∈ L, s.data.length ≤ 70368744177664) :
    Calls Try.prog 19 #[.slice A n c] w fun e w' => RetRun kSum32a w.heap.size w L e w' := by
  have HS := Lib.hid hS
  have HD := Lib.hid hd
  clear hS hd
  go_enter Try.func19, Try.ntmps19
  go_wp2_with fail
  refine (newSum32a w).mono ?_
  rintro e w1 ⟨rfl, hr, hb⟩
  have HR := Lib.hid hr
  clear hr
  go_wp2_with fail
  refine (run_any kSum32a goodSum32a linkedSum32a apartSum32a w1 w.heap.size w.heap.size HR.out (Nat.le_refl _) A n c L (HS.out.below hb) hn HD.out).mono ?_
  rintro e w2 ⟨v, P, rfl, ho, hp, hdat, hb2⟩
  go_wp2
  go_ret
  exact ⟨v, P, rfl, ho, hp, hdat, hb.trans hb2⟩

theorem apartSum64 : Apart kSum64 := ⟨by decide, by decide, by decide⟩
set_option maxRecDepth 100000 in
theorem newSum64 (w : World) : Calls Try.prog 39 #[] w fun e w' => e = .returned (.iface kSum64.dyn (hp w.heap.size)) ∧ Rep kSum64 w' w.heap.size kSum64.init ∧ Below w.heap.size w w' := by
  go_enter Try.func39, Try.ntmps39
  go_wp2
  go_ret
  exact ⟨rfl, ⟨_root_.Go.heap_alloc_new w _, goodSum64.init_ok⟩, (Below.refl _ _).alloc (Nat.le_refl _) _⟩
set_option maxRecDepth 100000 in
theorem implSum64 (A : Option Addr) (n c : Nat) (L : List Stp) (w : World) (hS : SS w w.heap.size A n L) (hn : n ≤ 1099511627776) (hd : ∀ s ∈ L, s.data.length ≤ 70368744177664) :
    Calls Try.prog 20 #[.slice A n c] w fun e w' => RetRun kSum64 w.heap.size w L e w' := by
  have HS := Lib.hid hS
  have HD := Lib.hid hd
  clear hS hd
  go_enter Try.func20, Try.ntmps20
  go_wp2_with fail
  refine (newSum64 w).mono ?_
  rintro e w1 ⟨rfl, hr, hb⟩
  have HR := Lib.hid hr
  clear hr
  go_wp2_with fail
  refine (run_any kSum64 goodSum64 linkedSum64 apartSum64 w1 w.heap.size w.heap.size HR.out (Nat.le_refl _) A n c L (HS.out.below hb) hn HD.out).mono ?_
  rintro e w2 ⟨v, P, rfl, ho, hp, hdat, hb2⟩
  go_wp2
  go_ret
  exact ⟨v, P, rfl, ho, hp, hdat, hb.trans hb2⟩

theorem apartSum64a : Apart kSum64a := ⟨by decide, by decide, by decide⟩
set_option maxRecDepth 100000 in
theorem newSum64a (w : World) : Calls Try.prog 40 #[] w fun e w' => e = .returned (.iface kSum64a.dyn (hp w.heap.size)) ∧ Rep kSum64a w' w.heap.size kSum64a.init ∧ Below w.heap.size w w' := by
  go_enter Try.func40, Try.ntmps40
  go_wp2
  go_ret
  exact ⟨rfl, ⟨_root_.Go.heap_alloc_new w _, goodSum64a.init_ok⟩, (Below.refl _ _).alloc (Nat.le_refl _) _⟩
set_option maxRecDepth 100000 in
theorem implSum64a (A : Option Addr) (n c : Nat) (L : List Stp) (w : World) (hS : SS w w.heap.size A n L) (hn : n ≤ 1099511627776) (hd : ∀ s ∈ L, s.data.length ≤ 70368744177664) :
    Calls Try.prog 21 #[.slice A n c] w fun e w' => RetRun kSum64a w.heap.size w L e w' := by
  have HS := Lib.hid hS
  have HD := Lib.hid hd
  clear hS hd
  go_enter Try.func21, Try.ntmps21
  go_wp2_with fail
  refine (newSum64a w).mono ?_
  rintro e w1 ⟨rfl, hr, hb⟩
  have HR := Lib.hid hr
  clear hr
  go_wp2_with fail
  refine (run_any kSum64a goodSum64a linkedSum64a apartSum64a w1 w.heap.size w.heap.size HR.out (Nat.le_refl _) A n c L (HS.out.below hb) hn HD.out).mono ?_
  rintro e w2 ⟨v, P, rfl, ho, hp, hdat, hb2⟩
  go_wp2
  go_ret
  exact ⟨v, P, rfl, ho, hp, hdat, hb.trans hb2⟩

theorem apartSum128 : Apart kSum128 := ⟨by decide, by decide, by decide⟩
set_option maxRecDepth 100000 in
theorem newSum128 (w : World) : Calls Try.prog 41 #[] w fun e w' => e = .returned (.iface kSum128.dyn (hp w.heap.size)) ∧ Rep kSum128 w' w.heap.size kSum128.init ∧ Below w.heap.size w w' := by
  go_enter Try.func41, Try.ntmps41
  go_wp2
  go_ret
  exact ⟨rfl, ⟨_root_.Go.heap_alloc_new w _, goodSum128.init_ok⟩, (Below.refl _ _).alloc (Nat.le_refl _) _⟩
set_option maxRecDepth 100000 in
theorem implSum128 (A : Option Addr) (n c : Nat) (L : List Stp) (w : World) (hS : SS w w.heap.size A n L) (hn : n ≤ 1099511627776) (hd : ∀ s ∈ L, s.data.length ≤ 70368744177664) :
    Calls Try.prog 22 #[.slice A n c] w fun e w' => RetRun kSum128 w.heap.size w L e w' := by
  have HS := Lib.hid hS
  have HD := Lib.hid hd
  clear hS hd
  go_enter Try.func22, Try.ntmps22
  go_wp2_with fail
  refine (newSum128 w).mono ?_
  rintro e w1 ⟨rfl, hr, hb⟩
  have HR := Lib.hid hr
  clear hr
  go_wp2_with fail
  refine (run_any kSum128 goodSum128 linkedSum128 apartSum128 w1 w.heap.size w.heap.size HR.out (Nat.le_refl _) A n c L (HS.out.below hb) hn HD.out).mono ?_
  rintro e w2 ⟨v, P, rfl, ho, hp, hdat, hb2⟩
  go_wp2
  go_ret
  exact ⟨v, P, rfl, ho, hp, hdat, hb.trans hb2⟩

theorem apartSum128a : Apart kSum128a := ⟨by decide, by decide, by decide⟩
set_option maxRecDepth 100000 in
theorem newSum128a (w : World) : Calls Try.prog 42 #[] w fun e w' => e = .returned (.iface kSum128a.dyn (hp w.heap.size)) ∧ Rep kSum128a w' w.heap.size kSum128a.init ∧ Below w.heap.size w w' := by
  go_enter Try.func42, Try.ntmps42
  go_wp2
  go_ret
  exact ⟨rfl, ⟨_root_.Go.heap_alloc_new w _, goodSum128a.init_ok⟩, (Below.refl _ _).alloc (Nat.le_refl _) _⟩
set_option maxRecDepth 100000 in
theorem implSum128a (A : Option Addr) (n c : Nat) (L : List Stp) (w : World) (hS : SS w w.heap.size A n L) (hn : n ≤ 1099511627776) (hd : ∀ s ∈ L, s.data.length ≤ 70368744177664) :
    Calls Try.prog 23 #[.slice A n c] w fun e w' => RetRun kSum128a w.heap.size w L e w' := by
  have HS := Lib.hid hS
  have HD := Lib.hid hd
  clear hS hd
  go_enter Try.func23, Try.ntmps23
  go_wp2_with fail
  refine (newSum128a w).mono ?_
  rintro e w1 ⟨rfl, hr, hb⟩
  have HR := Lib.hid hr
  clear hr
  go_wp2_with fail
  refine (run_any kSum128a goodSum128a linkedSum128a apartSum128a w1 w.heap.size w.heap.size HR.out (Nat.le_refl _) A n c L (HS.out.below hb) hn HD.out).mono ?_
  rintro e w2 ⟨v, P, rfl, ho, hp, hdat, hb2⟩
  go_wp2
  go_ret
  exact ⟨v, P, rfl, ho, hp, hdat, hb.trans hb2⟩

theorem apartDigest : Apart kDigest := ⟨by decide, by decide, by decide⟩
set_option maxRecDepth 100000 in
theorem newDigest (w : World) : Calls Try.prog 43 #[] w fun e w' => e = .returned (.iface kDigest.dyn (hp w.heap.size)) ∧ Rep kDigest w' w.heap.size kDigest.init ∧ Below w.heap.size w w' := by
  have hr : Rep kDigest (w.alloc (.cells #[.int .u32 0] kDigest.elem)) w.heap.size 0 := ⟨_root_.Go.heap_alloc_new w _, by decide, by decide⟩
  have HR := Lib.hid hr
  clear hr
  go_enter Try.func43, Try.ntmps43
  go_wp2_with fail
  refine (Digest.reset _ w.heap.size 0 HR.out).mono ?_
  rintro e w1 ⟨rfl, hon, hr1⟩
  go_wp2
  go_ret
  exact ⟨rfl, hr1, ((Below.refl _ _).alloc (Nat.le_refl _) _).trans (hon.below (Nat.le_refl _))⟩
set_option maxRecDepth 100000 in
theorem implDigest (A : Option Addr) (n c : Nat) (L : List Stp) (w : World) (hS : SS w w.heap.size A n L) (hn : n ≤ 1099511627776) (hd : ∀ s ∈ L, s.data.length ≤ 70368744177664) :
    Calls Try.prog 24 #[.slice A n c] w fun e w' => RetRun kDigest w.heap.size w L e w' := by
  have HS := Lib.hid hS
  have HD := Lib.hid hd
  clear hS hd
  go_enter Try.func24, Try.ntmps24
  go_wp2_with fail
  refine (newDigest w).mono ?_
  rintro e w1 ⟨rfl, hr, hb⟩
  have HR := Lib.hid hr
  clear hr
  go_wp2_with fail
  refine (run_any kDigest goodDigest linkedDigest apartDigest w1 w.heap.size w.heap.size HR.out (Nat.le_refl _) A n c L (HS.out.below hb) hn HD.out).mono ?_
  rintro e w2 ⟨v, P, rfl, ho, hp, hdat, hb2⟩
  go_wp2
  go_ret
  exact ⟨v, P, rfl, ho, hp, hdat, hb.trans hb2⟩

/-- The kinds by their numbers. -/
def kindOf : Nat → Kind
  | 0 => kSum32
  | 1 => kSum32a
  | 2 => kSum64
  | 3 => kSum64a
  | 4 => kSum128
  | 5 => kSum128a
  | _ => kDigest
theorem kindOf_cases {Q : Kind → Prop} (kd : Nat) (h0 : Q kSum32) (h1 : Q kSum32a) (h2 : Q kSum64) (h3 : Q kSum64a) (h4 : Q kSum128) (h5 : Q kSum128a) (h6 : Q kDigest) : Q (kindOf kd) := by
  match kd with
  | 0 => exact h0
  | 1 => exact h1
  | 2 => exact h2
  | 3 => exact h3
  | 4 => exact h4
  | 5 => exact h5
  | _ + 6 => exact h6
theorem kindOf_good (kd : Nat) : Good Try.prog (kindOf kd) := kindOf_cases (Q := fun K => Good Try.prog K) kd goodSum32 goodSum32a goodSum64 goodSum64a goodSum128 goodSum128a goodDigest
set_option maxRecDepth 100000 in
theorem hashed_any (kd : Nat) (hk : kd ≤ 6) (A : Option Addr) (n c : Nat) (L : List Stp) (w : World) (hS : SS w w.heap.size A n L) (hn : n ≤ 1099511627776) (hd : ∀ s ∈ L, s.data.length ≤ 70368744177664) :
    Calls Try.prog 28 #[.int .i64 (kd : Int), .slice A n c] w fun e w' => RetRun (kindOf kd) w.heap.size w L e w' := by
  have HS := Lib.hid hS
  have HD := Lib.hid hd
  clear hS hd
  match kd, hk with
  | 0, _ =>
    go_enter Try.func28, Try.ntmps28
    go_wp2_with fail
    refine (implSum32 A n c L w HS.out hn HD.out).mono ?_
    rintro e w2 ⟨v, P, rfl, ho, hp, hdat, hb2⟩
    go_wp2
    go_ret
    exact ⟨v, P, rfl, ho, hp, hdat, hb2⟩
  | 1, _ =>
    go_enter Try.func28, Try.ntmps28
    go_wp2_with fail
    refine (implSum32a A n c L w HS.out hn HD.out).mono ?_
    rintro e w2 ⟨v, P, rfl, ho, hp, hdat, hb2⟩
    go_wp2
    go_ret
    exact ⟨v, P, rfl, ho, hp, hdat, hb2⟩
  | 2, _ =>
    go_enter Try.func28, Try.ntmps28
    go_wp2_with fail
    refine (implSum64 A n c L w HS.out hn HD.out).mono ?_
    rintro e w2 ⟨v, P, rfl, ho, hp, hdat, hb2⟩
    go_wp2
    go_ret
    exact ⟨v, P, rfl, ho, hp, hdat, hb2⟩
  | 3, _ =>
    go_enter Try.func28, Try.ntmps28
    go_wp2_with fail
    refine (implSum64a A n c L w HS.out hn HD.out).mono ?_
    rintro e w2 ⟨v, P, rfl, ho, hp, hdat, hb2⟩
    go_wp2
    go_ret
    exact ⟨v, P, rfl, ho, hp, hdat, hb2⟩
  | 4, _ =>
    go_enter Try.func28, Try.ntmps28
    go_wp2_with fail
    refine (implSum128 A n c L w HS.out hn HD.out).mono ?_
    rintro e w2 ⟨v, P, rfl, ho, hp, hdat, hb2⟩
    go_wp2
    go_ret
    exact ⟨v, P, rfl, ho, hp, hdat, hb2⟩
  | 5, _ =>
    go_enter Try.func28, Try.ntmps28
    go_wp2_with fail
    refine (implSum128a A n c L w HS.out hn HD.out).mono ?_
    rintro e w2 ⟨v, P, rfl, ho, hp, hdat, hb2⟩
    go_wp2
    go_ret
    exact ⟨v, P, rfl, ho, hp, hdat, hb2⟩
  | 6, _ =>
    go_enter Try.func28, Try.ntmps28
    go_wp2_with fail
    refine (implDigest A n c L w HS.out hn HD.out).mono ?_
    rintro e w2 ⟨v, P, rfl, ho, hp, hdat, hb2⟩
    go_wp2
    go_ret
    exact ⟨v, P, rfl, ho, hp, hdat, hb2⟩
  | k + 7, h => omega

end Go.Proofs.Ytdpjdglcienbfaa

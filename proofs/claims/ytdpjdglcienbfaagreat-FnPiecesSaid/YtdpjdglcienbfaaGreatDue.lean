/-
  The walk of laws.due: the sum of some data by the reference is that of the plain hash. Conditions: the data read as a list.
-/
import Derived.Test.YtdpjdglcienbfaaGreatFnvAll
import Derived.Test.YtdpjdglcienbfaaGreatDueAid
namespace Go.Proofs.YtdpjdglcienbfaaGreat
open Go.RowKit
open PlainHash (be4)

set_option maxRecDepth 100000 in
theorem due_any (kd : Nat) (hk : kd ≤ 6) (A : Option Addr) (n c : Nat) (l : List Nat) (w : World) (B : Nat) (hB : B ≤ w.heap.size) (hc : n ≤ c) (hm : c ≤ maxLen) (hl : BS w B A n l) :
    Calls Tryz.prog 25 #[.int .i64 (kd : Int), .slice A n c] w fun e w' => RetOwn w ((kindOf kd).bytes (l.foldl (kindOf kd).step (kindOf kd).init)) e w' := by
  have HL := Lib.hid hl
  have hn : n ≤ 9223372036854775807 := by unfold maxLen at hm; omega
  clear hl
  match kd, hk with
  | 0, _ =>
    go_enter Tryz.func25, Tryz.ntmps25
    go_wp2_with fail
    refine (fnvSum32 A n c l _ B (by simp; omega) hn (HL.out.alloc hB _)).mono ?_
    rintro e w2 ⟨v, rfl, ho, hb⟩
    go_wp2
    go_ret
    exact ⟨v, rfl, ho.mono (by simp), ((Below.refl _ _).alloc (Nat.le_refl _) _).trans (hb.mono (by simp))⟩
  | 1, _ =>
    go_enter Tryz.func25, Tryz.ntmps25
    go_wp2_with fail
    refine (fnvSum32a A n c l _ B (by simp; omega) hn (HL.out.alloc hB _)).mono ?_
    rintro e w2 ⟨v, rfl, ho, hb⟩
    go_wp2
    go_ret
    exact ⟨v, rfl, ho.mono (by simp), ((Below.refl _ _).alloc (Nat.le_refl _) _).trans (hb.mono (by simp))⟩
  | 2, _ =>
    go_enter Tryz.func25, Tryz.ntmps25
    go_wp2_with fail
    refine (fnvSum64 A n c l _ B (by simp; omega) hn (HL.out.alloc hB _)).mono ?_
    rintro e w2 ⟨v, rfl, ho, hb⟩
    go_wp2
    go_ret
    exact ⟨v, rfl, ho.mono (by simp), ((Below.refl _ _).alloc (Nat.le_refl _) _).trans (hb.mono (by simp))⟩
  | 3, _ =>
    go_enter Tryz.func25, Tryz.ntmps25
    go_wp2_with fail
    refine (fnvSum64a A n c l _ B (by simp; omega) hn (HL.out.alloc hB _)).mono ?_
    rintro e w2 ⟨v, rfl, ho, hb⟩
    go_wp2
    go_ret
    exact ⟨v, rfl, ho.mono (by simp), ((Below.refl _ _).alloc (Nat.le_refl _) _).trans (hb.mono (by simp))⟩
  | 4, _ =>
    go_enter Tryz.func25, Tryz.ntmps25
    go_wp2_with fail
    refine (fnvSum128 A n c l _ B (by simp; omega) hn (HL.out.alloc hB _)).mono ?_
    rintro e w2 ⟨v, rfl, ho, hb⟩
    go_wp2
    go_ret
    exact ⟨v, rfl, ho.mono (by simp), ((Below.refl _ _).alloc (Nat.le_refl _) _).trans (hb.mono (by simp))⟩
  | 5, _ =>
    go_enter Tryz.func25, Tryz.ntmps25
    go_wp2_with fail
    refine (fnvSum128a A n c l _ B (by simp; omega) hn (HL.out.alloc hB _)).mono ?_
    rintro e w2 ⟨v, rfl, ho, hb⟩
    go_wp2
    go_ret
    exact ⟨v, rfl, ho.mono (by simp), ((Below.refl _ _).alloc (Nat.le_refl _) _).trans (hb.mono (by simp))⟩
  | 6, _ =>
    have hp := PlainAd.adler_parts l
    have hlt : PlainAd.adler l < 4294967296 := by omega
    have HE := Lib.hid (Digest.sums_fold l (1, 0) (by decide))
    go_enter Tryz.func25, Tryz.ntmps25
    go_wp2_with fail
    refine (adlerOf_any A n c l w B hc hm HL.out).mono ?_
    rintro e w1 ⟨rfl, rfl⟩
    go_wp2_with fail
    refine (bytes4_any (PlainAd.adler l) (by omega) w).mono ?_
    rintro e w2 ⟨v, rfl, ho, hb⟩
    rw [Nat.mod_eq_of_lt hlt] at ho
    have he : PlainAd.adler l = l.foldl Digest.dstep 1 := HE.out
    rw [he] at ho
    clear he
    go_wp2
    go_ret
    exact ⟨v, rfl, ho, hb⟩
  | k + 7, h => omega

end Go.Proofs.YtdpjdglcienbfaaGreat

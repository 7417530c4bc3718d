/-
  The walk of laws.hashOf for the seven kinds: the sum of some data by the reference is that of the plain hash. Conditions: the data read as a list.
-/
import Derived.Test.YtdpjdglcienbfaaFnvAll
import Derived.Test.YtdpjdglcienbfaaDueAid
namespace Go.Proofs.Ytdpjdglcienbfaa
open Go.RowKit
open PlainHash (be4)

/-- What laws.hashOf is asked to do at a number. -/
def HashOf (K : Kind) (kd : Int) : Prop := ∀ (A : Option Addr) (n c : Nat) (l : List Nat) (w : World) (B : Nat), B ≤ w.heap.size → n ≤ c → c ≤ maxLen → BS w B A n l →
    Calls Try.prog 32 #[.int .i64 kd, .slice A n c] w fun e w' => RetOwn w (K.bytes (l.foldl K.step K.init)) e w'
set_option maxRecDepth 100000 in
theorem hashOfSum32 : HashOf kSum32 32 := by
  intro A n c l w B hB hc hm hl
  have HL := Lib.hid hl
  have hn : n ≤ 9223372036854775807 := by unfold maxLen at hm; omega
  clear hl
  go_enter Try.func32, Try.ntmps32
  go_wp2_with fail
  refine (fnvSum32 A n c l w B hB hn HL.out).mono ?_
  rintro e w2 ⟨v, rfl, ho, hb⟩
  go_wp2
  go_ret
  exact ⟨v, rfl, ho, hb⟩
set_option maxRecDepth 100000 in
theorem hashOfSum32a : HashOf kSum32a 33 := by
  intro A n c l w B hB hc hm hl
  have HL := Lib.hid hl
  have hn : n ≤ 9223372036854775807 := by unfold maxLen at hm; omega
  clear hl
  go_enter Try.func32, Try.ntmps32
  go_wp2_with fail
  refine (fnvSum32a A n c l w B hB hn HL.out).mono ?_
  rintro e w2 ⟨v, rfl, ho, hb⟩
  go_wp2
  go_ret
  exact ⟨v, rfl, ho, hb⟩
set_option maxRecDepth 100000 in
theorem hashOfSum64 : HashOf kSum64 64 := by
  intro A n c l w B hB hc hm hl
  have HL := Lib.hid hl
  have hn : n ≤ 9223372036854775807 := by unfold maxLen at hm; omega
  clear hl
  go_enter Try.func32, Try.ntmps32
  go_wp2_with fail
  refine (fnvSum64 A n c l w B hB hn HL.out).mono ?_
  rintro e w2 ⟨v, rfl, ho, hb⟩
  go_wp2
  go_ret
  exact ⟨v, rfl, ho, hb⟩
set_option maxRecDepth 100000 in
theorem hashOfSum64a : HashOf kSum64a 65 := by
  intro A n c l w B hB hc hm hl
  have HL := Lib.hid hl
  have hn : n ≤ 9223372036854775807 := by unfold maxLen at hm; omega
  clear hl
  go_enter Try.func32, Try.ntmps32
  go_wp2_with fail
  refine (fnvSum64a A n c l w B hB hn HL.out).mono ?_
  rintro e w2 ⟨v, rfl, ho, hb⟩
  go_wp2
  go_ret
  exact ⟨v, rfl, ho, hb⟩
set_option maxRecDepth 100000 in
theorem hashOfSum128 : HashOf kSum128 128 := by
  intro A n c l w B hB hc hm hl
  have HL := Lib.hid hl
  have hn : n ≤ 9223372036854775807 := by unfold maxLen at hm; omega
  clear hl
  go_enter Try.func32, Try.ntmps32
  go_wp2_with fail
  refine (fnvSum128 A n c l w B hB hn HL.out).mono ?_
  rintro e w2 ⟨v, rfl, ho, hb⟩
  go_wp2
  go_ret
  exact ⟨v, rfl, ho, hb⟩
set_option maxRecDepth 100000 in
theorem hashOfSum128a : HashOf kSum128a 129 := by
  intro A n c l w B hB hc hm hl
  have HL := Lib.hid hl
  have hn : n ≤ 9223372036854775807 := by unfold maxLen at hm; omega
  clear hl
  go_enter Try.func32, Try.ntmps32
  go_wp2_with fail
  refine (fnvSum128a A n c l w B hB hn HL.out).mono ?_
  rintro e w2 ⟨v, rfl, ho, hb⟩
  go_wp2
  go_ret
  exact ⟨v, rfl, ho, hb⟩
set_option maxRecDepth 100000 in
theorem hashOfDigest : HashOf kDigest 0 := by
  intro A n c l w B hB hc hm hl
  have HL := Lib.hid hl
  clear hl
  have hp := PlainAd.adler_parts l
  have hlt : PlainAd.adler l < 4294967296 := by omega
  have HE := Lib.hid (Digest.sums_fold l (1, 0) (by decide))
  go_enter Try.func32, Try.ntmps32
  go_wp2_with fail
  refine (adlerOf_any A n c l w B hc hm HL.out).mono ?_
  rintro e w1 ⟨rfl, rfl⟩
  go_wp2_with fail
  refine (bytes4_any (PlainAd.adler l) (by omega) w).mono ?_
  rintro e w2 ⟨v, rfl, ho, hb⟩
  rw [Nat.mod_eq_of_lt hlt] at ho
  have he : PlainAd.adler l = l.foldl Digest.dstep 1 := HE.out
  rw [he] at ho
  clear he
  go_wp2
  go_ret
  exact ⟨v, rfl, ho, hb⟩

end Go.Proofs.Ytdpjdglcienbfaa

/-
  The walks of spec.padded, laws.blank, laws.has127. Conditions: those that each contract names.
-/
import Derived.Test.YthhbcnjbnfjiiaaDoorSpecSmall
namespace Go.Proofs.YthhbcnjbnfjiiaaDoor
open Go.RowKit
open PlainDec (be4)

/-- Five digits: some digits, and u behind them. -/
def pad85 (l : List Nat) : List Nat := (l ++ [117, 117, 117, 117, 117]).take 5
def fiveU : ByteArray := ⟨#[117, 117, 117, 117, 117]⟩
theorem fiveU_cells : Lib.strCells fiveU = bv [117, 117, 117, 117, 117] := rfl
theorem pad85_length (l : List Nat) : (pad85 l).length = 5 := by simp [pad85]

set_option maxRecDepth 100000 in
set_option maxHeartbeats 400000 in
theorem padded_any (A : Option Addr) (n c : Nat) (l : List Nat) (w : World) (B : Nat) (hB : B ≤ w.heap.size) (h5 : n ≤ 5) (hl : BS w B A n l) :
    Calls Tryd.prog 33 #[.slice A n c] w fun e w' => ∃ A' c', e = .returned (.slice A' 5 c') ∧ BS w' w'.heap.size A' 5 (pad85 l) ∧ Below w.heap.size w w' := by
  obtain rfl : l.length = n := hl.len
  go_enter Tryd.func33, Tryd.ntmps33
  go_wp2_with (at_builtin; refine wpList_append_bytes _ (o := ⟨some 5, _, _, _, _, _⟩) rfl _ _ rfl w.heap.size _ [] rfl (Own.empty w) B A l.length c l rfl (hl.alloc hB _) (by simp; omega) (by simp) ?_)
  intro v1 w1 hown1 hg1 _
  have hb1 : Below w.heap.size w w1 := ((Below.refl _ _).alloc (Nat.le_refl _) _).grown hg1 (by simp) (fun k hk => by simp [Value.ownBlock] at hk; omega)
  have HB1 := Lib.hid hown1.block
  have hsz1 := hb1.size
  obtain ⟨i, hi, hzz⟩ := Option.map_eq_some_iff.1 Tryd.infoByte
  simp only [Prod.mk.injEq] at hzz
  obtain ⟨hz, hsz, hby⟩ := hzz
  clear hg1
  go_wp2_with (at_builtin; refine Lib.wpList_append_own_string _ (o := ⟨some 6, _, _, _, _, _⟩) rfl _ _ 22 9 rfl w.heap.size 5 i Tryd.underlying22 Tryd.underlying9 hi hz hsz hby v1 l.length (bv l) rfl hown1.1 fiveU rfl (by unfold maxLen; have : fiveU.size = 5 := rfl; omega) (by have : fiveU.size = 5 := rfl; omega) hsz1 ?_)
  intro v2 w2 hown2 hg2 _
  have hb2 : Below w.heap.size w w2 := hb1.grown hg2 hsz1 HB1.out
  have hlen2 : (l ++ [117, 117, 117, 117, 117]).length = l.length + 5 := by simp
  have hown3 : Own w2 w.heap.size v2 (l ++ [117, 117, 117, 117, 117]) := by
    refine ⟨?_, fun x hx => ?_⟩
    · rw [hlen2, bv_append]; exact hown2
    · rcases List.mem_append.1 hx with hx | hx
      · exact hl.lt x hx
      · simp at hx; omega
  obtain ⟨A3, c3, rfl, hc3, hm3, hbs3⟩ := hown3.at_ hlen2
  have hb5 := hbs3.take (k := 5) (by omega)
  unfold maxLen at hm3
  have HB5 := Lib.hid hb5
  clear hg2 hown2 hown3 hbs3 hb5 hlen2 hown1
  go_wp2
  go_ret
  exact ⟨_, _, rfl, HB5.out, hb2⟩

/-- Some Bool is returned. -/
def AnyBool (e : Ending) : Prop := ∃ r : Bool, e = .returned (.bool r)
def BlankRel (l : List Nat) (i : Value) : Prop := ∃ k : Nat, k ≤ l.length ∧ i = .int .i64 (k : Int)

set_option maxRecDepth 100000 in
set_option maxHeartbeats 400000 in
/-- A slice of spaces is blank. -/
theorem blank_true (A : Option Addr) (n c : Nat) (l : List Nat) (w : World) (B : Nat) (hn : n ≤ 9223372036854775807) (hl : BS w B A n l) (h32 : ∀ x ∈ l, x ≤ 32) :
    Calls Tryd.prog 23 #[.slice A n c] w fun e w' => e = .returned (.bool true) ∧ w = w' := by
  obtain rfl : l.length = n := hl.len
  go_enter Tryd.func23, Tryd.ntmps23
  go_wp2
  go_loop [7] (fun i => BlankRel l i) (fun i => l.length - (intOf i).toNat)
  case atStart => exact ⟨0, Nat.zero_le _, rfl⟩
  case round =>
    obtain ⟨k, hk, rfl⟩ := hrel
    by_cases hkl : k < l.length
    · obtain ⟨b1, o1, rfl, hb1, hl⟩ := hl.open_ (by omega)
      have cK := hl.cell hkl
      have gK := h32 (l.getD k 0) (by rw [List.getD_eq_getElem?_getD, List.getElem?_eq_getElem hkl]; exact List.getElem_mem _)
      generalize l.getD k 0 = zk at *
      go_wp2
      exact ⟨⟨k + 1, by omega, by simp⟩, by simp [intOf]; omega⟩
    · obtain rfl : k = l.length := by omega
      go_wp2
      go_ret
      exact ⟨rfl, rfl⟩

set_option maxRecDepth 100000 in
set_option maxHeartbeats 400000 in
/-- has127 answers something and changes nothing. -/
theorem has127_any (A : Option Addr) (n c : Nat) (l : List Nat) (w : World) (B : Nat) (hn : n ≤ 9223372036854775807) (hl : BS w B A n l) :
    Calls Tryd.prog 19 #[.slice A n c] w fun e w' => AnyBool e ∧ w = w' := by
  obtain rfl : l.length = n := hl.len
  go_enter Tryd.func19, Tryd.ntmps19
  go_wp2
  go_loop [7] (fun i => BlankRel l i) (fun i => l.length - (intOf i).toNat)
  case atStart => exact ⟨0, Nat.zero_le _, rfl⟩
  case round =>
    obtain ⟨k, hk, rfl⟩ := hrel
    by_cases hkl : k < l.length
    · obtain ⟨b1, o1, rfl, hb1, hl⟩ := hl.open_ (by omega)
      have cK := hl.cell hkl
      have gK := getD_lt hl.lt k
      generalize l.getD k 0 = zk at *
      by_cases h127 : zk = 127
      · subst h127
        go_wp2
        go_ret
        exact ⟨⟨_, rfl⟩, rfl⟩
      · have e1 : ((zk : Int) == 127) = false := beq_eq_false_iff_ne.2 (by omega)
        go_wp2
        exact ⟨⟨k + 1, by omega, by simp⟩, by simp [intOf]; omega⟩
    · obtain rfl : k = l.length := by omega
      go_wp2
      go_ret
      exact ⟨⟨_, rfl⟩, rfl⟩

end Go.Proofs.YthhbcnjbnfjiiaaDoor

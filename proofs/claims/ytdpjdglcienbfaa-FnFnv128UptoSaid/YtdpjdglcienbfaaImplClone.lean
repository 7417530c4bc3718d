/-
  The walk of impl.clone, for whatever kind of hash. Conditions: the kind's methods do what 'Good' says and are found as 'Linked' says; at most 2^40 hashes.
-/
import Derived.Test.YtdpjdglcienbfaaRunWords
namespace Go.Proofs.Ytdpjdglcienbfaa
open Go.RowKit

def RetCl (K : Kind) (w : World) (base : Nat) (sv : Value) (n : Nat) (xs : List Value) (s : Nat) (e : Ending) (w' : World) : Prop :=
  ∃ v', e = .returned (.tuple #[v', .agg #[.slice none 0 0, .int .u64 0, .int .i64 (n : Int), .bool false]]) ∧ w'.ownsRow base 58 1 v' (n + 1) (xs ++ [.iface K.dyn (hp (w.heap.size + 1))]) ∧ Rep K w' (w.heap.size + 1) s ∧ w.grownBy w' sv.ownBlock

set_option maxRecDepth 100000 in
set_option maxHeartbeats 400000 in
theorem clone_any (K : Kind) (G : Good Try.prog K) (L : Linked K) (w : World) (b s : Nat) (hr : Rep K w b s) (base : Nat) (sv : Value) (n : Nat) (xs : List Value) (ho : w.ownsRow base 58 1 sv n xs) (hB : base ≤ w.heap.size) (hn : n ≤ 1099511627776) :
    Calls Try.prog 47 #[sv, .iface K.dyn (hp b)] w fun e w' => RetCl K w base sv n xs s e w' := by
  have h1 := L.cloner (hp b)
  have h2 := L.clone.find ⟨b, 0, none⟩
  have h3 := L.clone.enter
  have HR := Lib.hid hr
  have HG := Lib.hid G
  have HO := Lib.hid ho
  obtain ⟨A, c, rfl, hnc, hcm, _⟩ := row_at ho
  unfold maxLen at hcm
  have hblt := ho.lt
  have HBL := Lib.hid hblt
  obtain ⟨i, hi, hzz⟩ := Option.map_eq_some_iff.1 Try.infoHash
  simp only [Prod.mk.injEq] at hzz
  obtain ⟨hz, hsz, hby⟩ := hzz
  have HI := Lib.hid hi
  have HZ := Lib.hid hz
  have HSZ := Lib.hid hsz
  have HBY := Lib.hid hby
  clear hr L G ho hblt hi hz hsz hby
  unfold hp at h1 ⊢
  go_enter Try.func47, Try.ntmps47
  go_wp2_with fail
  refine (HG.out.clone _ b s (HR.out.below ((Below.refl _ _).alloc (Nat.le_refl _) _) HR.out.lt)).mono ?_
  rintro e w1 ⟨rfl, rfl⟩
  unfold hp
  clear h1 h2 h3
  go_wp2_with (at_builtin; refine wpList_append_src _ (o := ⟨some 31, _, _, _, _, _⟩) rfl _ _ 64 rfl base 58 i .nilIface 1 Try.underlying64 HI.out HZ.out HSZ.out rfl (by omega) (.slice A n c) n xs rfl (((HO.out.alloc _).alloc _).alloc _) _ 1 1 [.iface K.dyn (hp (w.heap.size + 1))] rfl ?hs (by simp [Value.oneCell']) (by unfold maxLen; omega) (by rw [HBY.out]; omega) (by simp; omega) ?_)
  case hs => unfold hp; exact src_one' _ _ _ _ (by simp)
  intro v2 w2 ho2 hg2 _
  have hg : w.grownBy w2 (Value.slice A n c).ownBlock := grow_trans (grow_alloc (grow_alloc (World.grownBy_alloc w _ _) _) _) hg2
  have hbk : w2.heap[w.heap.size]? = some (.cells #[.slice none 0 0, .int .u64 0, .int .i64 0, .bool false] 40 (0, 0)) :=
    (hg2.block w.heap.size (by simp; omega) (fun e => by have := (HBL.out _ e.symm).2; omega)).trans (by rw [Below.heap_alloc _ _ _ (by simp; omega), Below.heap_alloc _ _ _ (by simp)]; exact _root_.Go.heap_alloc_new w _)
  have hrp : Rep K w2 (w.heap.size + 1) s := ⟨(hg2.block (w.heap.size + 1) (by simp) (fun e => by have := (HBL.out _ e.symm).2; omega)).trans (by rw [Below.heap_alloc _ _ _ (by simp)]; exact heap_new _ _ _ (by simp)), HR.out.2⟩
  obtain ⟨c20, c21, c22, c23, f20, f21, f22, f23⟩ := four_cells hbk
  have hne2 : v2.ownBlock ≠ some w.heap.size := by
    rcases rows_apart ho2 (rowOfBlock hbk) (by decide) with h | h
    · rw [h]; simp
    · exact h
  have HO2 := Lib.hid (ownsRow_setCell_other (a := ⟨w.heap.size, 3, none⟩) (ownsRow_setCell_other (a := ⟨w.heap.size, 2, none⟩) (ownsRow_setCell_other (a := ⟨w.heap.size, 1, none⟩) (ownsRow_setCell_other (a := ⟨w.heap.size, 0, none⟩) ho2 hne2 (.slice none 0 0)) hne2 (.int .u64 0)) hne2 (.int .i64 (n : Int))) hne2 (.bool false))
  have HRP := Lib.hid ((((hrp.set w.heap.size 0 (.slice none 0 0) (by omega)).set w.heap.size 1 (.int .u64 0) (by omega)).set w.heap.size 2 (.int .i64 (n : Int)) (by omega)).set w.heap.size 3 (.bool false) (by omega))
  have HGG := Lib.hid (grow_set (grow_set (grow_set (grow_set hg w.heap.size 0 (.slice none 0 0) (Nat.le_refl _)) w.heap.size 1 (.int .u64 0) (Nat.le_refl _)) w.heap.size 2 (.int .i64 (n : Int)) (Nat.le_refl _)) w.heap.size 3 (.bool false) (Nat.le_refl _))
  clear ho2 hg2 hg hbk hrp hne2
  go_wp2
  exact bodyPost_ret (v := .tuple #[v2, .agg #[.slice none 0 0, .int .u64 0, .int .i64 (n : Int), .bool false]]) (by simp [results, Try.results47, go_sem, c20, c21, c22, c23]) rfl
    ⟨_, rfl, HO2.out, HRP.out, HGG.out⟩

end Go.Proofs.Ytdpjdglcienbfaa

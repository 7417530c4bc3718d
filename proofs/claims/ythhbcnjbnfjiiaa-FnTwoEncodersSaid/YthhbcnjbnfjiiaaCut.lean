/-
  The walk of laws.cut: the pieces of the data, as the plain model says. Conditions: both arguments read as lists; at most 2^30 lengths.
-/
import Derived.Test.YthhbcnjbnfjiiaaCutPlain
import Derived.LoopTactic
import Derived.WalkSpells
import Derived.WalkLawsBesides
namespace Go.Proofs.Ythhbcnjbnfjiiaa
open Go.RowKit

set_option maxRecDepth 100000 in
set_option maxHeartbeats 2000000 in
theorem cut_any (A : Option Addr) (n c : Nat) (l : List Nat) (A2 : Option Addr) (n2 c2 : Nat) (cuts : List Nat) (w : World) (B : Nat) (hBw : B ≤ w.heap.size) (hc : n ≤ c) (hm : c ≤ maxLen) (hl : BS w B A n l) (hcu : BS w B A2 n2 cuts) (hn2 : n2 ≤ 1073741824) :
    Calls Try.prog 19 #[.slice A n c, .slice A2 n2 c2] w fun e w' => RetCut w B (cutM l cuts) e w' := by
  obtain rfl : cuts.length = n2 := hcu.len
  have HC := Lib.hid hcu
  have HL := Lib.hid hl
  obtain ⟨i, hi, hzz⟩ := Option.map_eq_some_iff.1 Try.infoBytes
  simp only [Prod.mk.injEq] at hzz
  obtain ⟨hz, hsz, hby⟩ := hzz
  have HI := Lib.hid hi
  have HZ := Lib.hid hz
  have HSZ := Lib.hid hsz
  have HBY := Lib.hid hby
  clear hcu hl hi hz hsz hby
  go_enter Try.func19, Try.ntmps19
  go_wp2
  go_loopw [12, 5, 0] (fun i out data wr => CutRel w B l cuts i out data wr) (fun i _ _ _ => cuts.length - (intOf i).toNat)
  case atStart =>
    refine ⟨0, [], A, n, c, l, ⟨Nat.zero_le _, ?_, by simp, by simp, rfl, HL.out.alloc hBw _, hc, hm, (Below.refl _ _).alloc (Nat.le_refl _) _⟩, rfl, rfl⟩
    exact World.ownsRow_made w #[] 0 (Nat.le_refl _) (Nat.zero_le _) rfl
  case round =>
    obtain ⟨k, P, A, n, c, r, hR, rfl, rfl⟩ := hrel
    have hbel := hR.bel
    have hB := hbel.size
    have hkl := hR.kl
    have hpk := hR.pk
    have hnc := hR.nc
    have hcm := hR.cm
    have hrl := hR.bs.len
    have HRR := Lib.hid hR
    clear hR
    unfold maxLen at hcm
    by_cases hlt : k < cuts.length
    · obtain ⟨b1, o1, rfl, hb1, hcu⟩ := (HC.out.below (hbel.mono hBw)).open_ (by omega)
      have cK := hcu.cell hlt
      have gK := getD_lt hcu.lt k
      have HE := Lib.hid (cutM_drop cuts k r hlt)
      clear hcu
      generalize cuts.getD k 0 = zk at *
      by_cases hzn : n < zk
      · have hmn : n ≤ n := Nat.le_refl _
        have hM : min zk r.length = n := by omega
        have HE2 := Lib.hid (hM ▸ HE.out)
        clear hM
        go_wp2_with (at_builtin; refine wpList_append_src _ (o := ⟨some 26, _, _, _, _, _⟩) rfl _ _ 24 rfl w.heap.size 25 i (.slice none 0 0) 1 Try.underlying24 HI.out HZ.out HSZ.out rfl (by omega) _ P.length (P.map (·.1)) rfl (HRR.out.row.alloc _) _ 1 1 [.slice A n c] rfl ?hs (by simp [Value.oneCell']) (by unfold maxLen; omega) (by rw [HBY.out]; omega) ?hb ?_)
        case hs => exact src_slice _ _ _ _ (by simp)
        case hb => first | omega | (simp; omega)
        intro v9 w9 hrow9 hg9 _
        have hb9 : Below w.heap.size wr w9 := ((Below.refl _ _).alloc hB _).grown hg9 (by simp; omega) (fun k' e => (HRR.out.row.lt k' e).1)
        have HF : CutR w B l cuts v9 (if c = n then A else A.map (·.add n)) (n - n) (c - n) w9 (k + 1) (P ++ [(.slice A n c, r.take n)]) (r.drop n) := {
          kl := hlt
          row := by rw [List.length_append, List.map_append, hpk]; exact hrow9
          ps := fun p hp => by
            rcases List.mem_append.1 hp with hp | hp
            · exact (HRR.out.ps p hp).below (hb9.mono hBw)
            · rcases List.mem_singleton.1 hp with rfl
              exact ⟨A, n, c, rfl, (HRR.out.bs.take (by omega)).below (hb9.mono hBw), by omega, by unfold maxLen; omega⟩
          eq := by
            rw [List.map_append, List.append_assoc, ← HRR.out.eq, HE2.out]; rfl
          pk := by rw [List.length_append, hpk]; rfl
          bs := (HRR.out.bs.cut (by omega) hnc).below (hb9.mono hBw)
          nc := by omega
          cm := by unfold maxLen; omega
          bel := hbel.trans hb9 }
        have HFH := Lib.hid HF
        clear HF hrow9 hg9 HE HE2
        go_wp2
        exact ⟨⟨k + 1, _, _, _, _, _, HFH.out, by simp, by simp⟩, by simp [intOf]; omega⟩
      · have hmn : zk ≤ n := by omega
        have hM : min zk r.length = zk := by omega
        have HE2 := Lib.hid (hM ▸ HE.out)
        clear hM
        go_wp2_with (at_builtin; refine wpList_append_src _ (o := ⟨some 26, _, _, _, _, _⟩) rfl _ _ 24 rfl w.heap.size 25 i (.slice none 0 0) 1 Try.underlying24 HI.out HZ.out HSZ.out rfl (by omega) _ P.length (P.map (·.1)) rfl (HRR.out.row.alloc _) _ 1 1 [.slice A zk c] rfl ?hs (by simp [Value.oneCell']) (by unfold maxLen; omega) (by rw [HBY.out]; omega) ?hb ?_)
        case hs => exact src_slice _ _ _ _ (by simp)
        case hb => first | omega | (simp; omega)
        intro v9 w9 hrow9 hg9 _
        have hb9 : Below w.heap.size wr w9 := ((Below.refl _ _).alloc hB _).grown hg9 (by simp; omega) (fun k' e => (HRR.out.row.lt k' e).1)
        have HF : CutR w B l cuts v9 (if c = zk then A else A.map (·.add zk)) (n - zk) (c - zk) w9 (k + 1) (P ++ [(.slice A zk c, r.take zk)]) (r.drop zk) := {
          kl := hlt
          row := by rw [List.length_append, List.map_append, hpk]; exact hrow9
          ps := fun p hp => by
            rcases List.mem_append.1 hp with hp | hp
            · exact (HRR.out.ps p hp).below (hb9.mono hBw)
            · rcases List.mem_singleton.1 hp with rfl
              exact ⟨A, zk, c, rfl, (HRR.out.bs.take (by omega)).below (hb9.mono hBw), by omega, by unfold maxLen; omega⟩
          eq := by
            rw [List.map_append, List.append_assoc, ← HRR.out.eq, HE2.out]; rfl
          pk := by rw [List.length_append, hpk]; rfl
          bs := (HRR.out.bs.cut (by omega) hnc).below (hb9.mono hBw)
          nc := by omega
          cm := by unfold maxLen; omega
          bel := hbel.trans hb9 }
        have HFH := Lib.hid HF
        clear HF hrow9 hg9 HE HE2
        go_wp2
        exact ⟨⟨k + 1, _, _, _, _, _, HFH.out, by simp, by simp⟩, by simp [intOf]; omega⟩
    · obtain rfl : k = cuts.length := by omega
      have heq := HRR.out.eq
      rw [List.drop_of_length_le (Nat.le_refl _), cutM] at heq
      have HEQ := Lib.hid heq
      clear heq
      go_wp2_with (at_builtin; refine wpList_append_src _ (o := ⟨some 34, _, _, _, _, _⟩) rfl _ _ 24 rfl w.heap.size 25 i (.slice none 0 0) 1 Try.underlying24 HI.out HZ.out HSZ.out rfl (by omega) _ P.length (P.map (·.1)) rfl (HRR.out.row.alloc _) _ 1 1 [.slice A n c] rfl ?hs (by simp [Value.oneCell']) (by unfold maxLen; omega) (by rw [HBY.out]; omega) ?hb ?_)
      case hs => exact src_slice _ _ _ _ (by simp)
      case hb => first | omega | (simp; omega)
      intro v9 w9 hrow9 hg9 _
      have hb9 : Below w.heap.size wr w9 := ((Below.refl _ _).alloc hB _).grown hg9 (by simp; omega) (fun k' e => (HRR.out.row.lt k' e).1)
      have HROW := Lib.hid hrow9
      clear hrow9 hg9
      go_wp2
      go_ret
      refine ⟨_, P ++ [(.slice A n c, r)], rfl, by rw [List.length_append, List.map_append, hpk]; exact HROW.out, by rw [List.map_append]; exact HEQ.out, fun p hp => ?_, hbel.trans hb9⟩
      rcases List.mem_append.1 hp with hp | hp
      · exact (HRR.out.ps p hp).below (hb9.mono hBw)
      · rcases List.mem_singleton.1 hp with rfl
        exact ⟨A, n, c, rfl, HRR.out.bs.below (hb9.mono hBw), hnc, by unfold maxLen; omega⟩

end Go.Proofs.Ythhbcnjbnfjiiaa

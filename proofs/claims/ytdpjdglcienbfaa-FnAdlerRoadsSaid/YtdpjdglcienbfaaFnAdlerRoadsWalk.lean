/-
  The walk of the law FnAdlerRoads (in full): it returns true and changes nothing that was there. FnAdlerRoads, for every input: the checksum of data at once is that of the running hash.
-/
import Derived.Test.YtdpjdglcienbfaaProg
import Derived.Test.YtdpjdglcienbfaaOpenArgs
import Derived.WalkKit
import Derived.Below
import Derived.WalkSmall
import Derived.Lib.Hide
import Derived.Test.YtdpjdglcienbfaaStepRow
import Derived.Test.YtdpjdglcienbfaaAdler
import Derived.Test.YtdpjdglcienbfaaScriptRel
import Derived.Test.YtdpjdglcienbfaaSteps
import Derived.Laws.OwnMore
import Derived.Deep.RegionHeld3
namespace Go.Proofs.Ytdpjdglcienbfaa.fnAdlerRoads
open Go.RowKit
set_option linter.unusedVariables false

theorem piece_back {w w' : World} {B : Nat} {p : Value × List Nat} (h : Piece w' B p) (hb : Below B w w') : Piece w B p := by
  obtain ⟨A, n, c, e, hs, h1, h2⟩ := h
  exact ⟨A, n, c, e, hs.keep fun b o hp => (hb.cell (p := ⟨b, o, none⟩) hp).symm, h1, h2⟩
theorem len_of_mem (L : List (List Nat)) : ∀ p ∈ L, p.length ≤ L.flatten.length := by
  induction L with
  | nil => intro p hp; cases hp
  | cons x r ih =>
    intro p hp
    rw [List.flatten_cons, List.length_append]
    rcases List.mem_cons.1 hp with rfl | hp
    · omega
    · have := ih p hp; omega
theorem adler_val (l : List Nat) : (kDigest.val (l.foldl kDigest.step kDigest.init)) = PlainAd.adler l := (Digest.sums_fold l (1, 0) (by decide)).symm

set_option maxRecDepth 100000 in
set_option maxHeartbeats 4000000 in
theorem walk (A0 : Option Addr) (n0 c0 : Nat) (l0 : List Nat) (A1 : Option Addr) (n1 c1 : Nat) (l1 : List Nat) (w : World) (b0 : BS w w.heap.size A0 n0 l0) (nc0 : n0 ≤ c0) (r0 : c0 ≤ 140737488351232) (b1 : BS w w.heap.size A1 n1 l1) (nc1 : n1 ≤ c1) (r1 : c1 ≤ 140737488351232) :
    Calls Try.prog 12 #[.slice A0 n0 c0, .slice A1 n1 c1] w fun e w' => e = .returned (.bool true) ∧ Below w.heap.size w w' := by
  have hm0 : c0 ≤ maxLen := by unfold maxLen; omega
  by_cases hbig : 100000 < n0
  · have e0 : decide (100000 < (n0 : Int)) = true := decide_eq_true (by omega)
    go_enter Try.func12, Try.ntmps12
    go_wp2
    go_ret
    exact ⟨rfl, Below.refl _ _⟩
  have e0 : decide (100000 < (n0 : Int)) = false := decide_eq_false (by omega)
  by_cases hbig1 : 1000 < n1
  · have e1 : decide (1000 < (n1 : Int)) = true := decide_eq_true (by omega)
    go_enter Try.func12, Try.ntmps12
    go_wp2
    go_ret
    exact ⟨rfl, Below.refl _ _⟩
  have e1 : decide (1000 < (n1 : Int)) = false := decide_eq_false (by omega)
  obtain ⟨i, hi, hzz⟩ := Option.map_eq_some_iff.1 Try.infoStp
  simp only [Prod.mk.injEq] at hzz
  obtain ⟨hz, hsz, hby⟩ := hzz
  have HI := Lib.hid hi
  have HZ := Lib.hid hz
  have HSZ := Lib.hid hsz
  have HBY := Lib.hid hby
  clear hi hz hsz hby
  have hwr : IntKind.i64.wrap ((n1 : Int) + 1 + 1) = (n1 : Int) + 1 + 1 := IntWalk.i64_in _ (by omega)
  have hx1 : (0 : Int) ≤ (n1 : Int) + 1 := by omega
  have hx2 : (n1 : Int) < (n1 : Int) + 1 := by omega
  have HB0 := Lib.hid b0
  have HL0 := Lib.hid b0.len
  have HL1 := Lib.hid b1.len
  go_enter Try.func12, Try.ntmps12
  go_wp2_with fail
  refine (cut_any A0 n0 c0 l0 A1 n1 c1 l1 _ w.heap.size (by simp) nc0 hm0 (b0.alloc (Nat.le_refl _) _) (b1.alloc (Nat.le_refl _) _) (by omega)).mono ?_
  rintro e w1 ⟨v1, P, rfl, hr1, hp1, hps1, hb1⟩
  have hPl : P.length = n1 + 1 := by
    have := congrArg List.length hp1
    rw [List.length_map, cutM_len, HL1.out] at this
    exact this
  have hBw1 : Below w.heap.size w w1 := ((Below.refl _ _).alloc (Nat.le_refl _) _).trans (hb1.mono (by simp))
  have hr1' : w1.ownsRow w.heap.size 22 1 v1 P.length (P.map (·.1)) := hr1.mono_base (by simp)
  obtain ⟨Ap, cp, rfl, _, hcpm, hg1⟩ := row_at hr1'
  obtain ⟨gp, rfl, hgpB, hcp⟩ := hg1 (by omega)
  have hps : ∀ p ∈ P, Piece w w.heap.size p := fun p hp => piece_back (hps1 p hp) hBw1
  have HPS := Lib.hid hps
  have HP1 := Lib.hid hp1
  have hrow0 : w1.ownsRow w.heap.size 36 4 (.slice (some ⟨w.heap.size, 0, none⟩) 0 0) 0 (stpCells (qOf (P.take 0))) := by
    have h := World.ownsRow_made w (e := 36) (size := 4) (base := w.heap.size) #[] 0 (Nat.le_refl _) (Nat.zero_le _) rfl
    exact h.kept (grow_of_below hb1) none_or
  have HR0 := Lib.hid hr1'
  have HW0 := Lib.hid hrow0
  rw [hPl]
  clear hr1 hr1' hp1 hps1 hps hb1 hg1 hrow0
  go_wp2
  go_loopw [22, 5] (fun i v wr => PieRel w (.slice (some ⟨gp, 0, none⟩) P.length cp) P i v wr) (fun i _ _ => P.length - (intOf i).toNat)
  case atStart => exact ⟨0, ⟨Nat.zero_le _, HW0.out, HR0.out, hBw1⟩, rfl⟩
  case round =>
    obtain ⟨k, hR, rfl⟩ := hrel
    have hkl := hR.kl
    have hbel := hR.bel
    have hB := hbel.size
    have HRR := Lib.hid hR
    clear hR
    by_cases hlt : k < P.length
    · have hcell := HRR.out.prow.cellAt k (by omega)
      rw [List.getElem?_map, List.getElem?_eq_getElem hlt] at hcell
      have evk : P[k]'hlt = P.getD k (.nilIface, []) := by rw [List.getD_eq_getElem?_getD, List.getElem?_eq_getElem hlt]; rfl
      rw [evk] at hcell
      obtain ⟨Ak, nk, ck, ek, _⟩ := HPS.out _ (getD_mem (d := (Value.nilIface, [])) hlt)
      simp only [Option.map_some, ek] at hcell
      have HEK := Lib.hid ek
      have hlt' : k < n1 + 1 := by omega
      clear ek evk
      go_wp2_with fail
      refine (write_any 0 Ak nk ck wr).mono ?_
      rintro e w2 ⟨rfl, hb2⟩
      have hz2 := hb2.size
      go_wp2_with (at_builtin; refine wpList_append_src _ (o := ⟨some 30, _, _, _, _, _⟩) rfl _ _ 28 rfl w.heap.size 36 i zeroStp 4 Try.underlying28 HI.out HZ.out HSZ.out rfl (by omega) _ k (stpCells (qOf (P.take k))) rfl ((HRR.out.row.kept (grow_of_below hb2) none_or).alloc _) _ 1 1 [.int .i64 0, .int .i64 0, .int .i64 0, .slice Ak nk ck] rfl ?hs (by simp [Value.oneCell']) (by unfold maxLen; omega) (by rw [HBY.out]; omega) ?hb ?_)
      case hs => exact src_step _ _ _ _ _ _ _ (by simp)
      case hb => first | omega | (simp; omega)
      intro v9 w9 hrow9 hg9 _
      have HF := Lib.hid (HRR.out.next hlt hb2 hg9 (by rw [HEK.out]; exact hrow9))
      clear hrow9 hg9
      go_wp2
      exact ⟨⟨k + 1, HF.out, by simp⟩, by simp [intOf]; omega⟩
    · obtain rfl : k = P.length := by omega
      have hrw := HRR.out.row
      rw [List.take_of_length_le (Nat.le_refl _), hPl] at hrw
      obtain ⟨Aw, cw, rfl, _, _, _⟩ := row_at hrw
      have HRW := Lib.hid hrw
      clear hrw
      go_wp2_with (at_builtin; refine wpList_append_src _ (o := ⟨some 35, _, _, _, _, _⟩) rfl _ _ 28 rfl w.heap.size 36 i zeroStp 4 Try.underlying28 HI.out HZ.out HSZ.out rfl (by omega) _ (n1 + 1) (stpCells (qOf P)) rfl (HRW.out.alloc _) _ 1 1 [.int .i64 8, .int .i64 0, .int .i64 0, .slice none 0 0] rfl ?hs (by simp [Value.oneCell']) (by unfold maxLen; omega) (by rw [HBY.out]; omega) ?hb ?_)
      case hs => exact src_step _ _ _ _ _ _ _ (by simp)
      case hb => first | omega | (simp; omega)
      intro v9 w9 hrow9 hg9 _
      have hb9 : Below w.heap.size w w9 := (hbel.alloc hB _).grown hg9 (by simp; omega) (fun k' e => (HRW.out.lt k' e).1)
      have hQ : w9.ownsRow w.heap.size 36 4 v9 (qOf P ++ [((⟨8, 0, 0, []⟩ : Stp), Value.slice none 0 0)]).length (stpCells (qOf P ++ [((⟨8, 0, 0, []⟩ : Stp), Value.slice none 0 0)])) := by
        rw [stpCells_append, List.length_append, qOf_length, hPl]; exact hrow9
      obtain ⟨A9, c9, rfl, hSS⟩ := ss_of_row hQ (fun q hq => by
        rcases List.mem_append.1 hq with hq | hq
        · obtain ⟨p, hp, rfl⟩ := List.mem_map.1 hq
          obtain ⟨A, n, c, e, hs, h1, h2⟩ := (HPS.out p hp).below hb9
          exact ⟨A, n, c, e, hs.mono hb9.size, h1, h2⟩
        · rcases List.mem_singleton.1 hq with rfl
          exact ⟨none, 0, 0, rfl, BS.nil _ _ _, Nat.le_refl _, Nat.zero_le _⟩)
      rw [List.map_append, qOf_fst, HP1.out] at hSS
      simp only [List.map_cons, List.map_nil, List.length_append, qOf_length, List.length_cons, List.length_nil, Nat.zero_add, hPl] at hSS
      have HSS := Lib.hid hSS
      simp only [List.length_append, qOf_length, List.length_cons, List.length_nil, Nat.zero_add, hPl]
      clear hSS hQ hrow9 hg9
      go_wp2_with fail
      refine (implDigest A9 (n1 + 1 + 1) c9 ((cutM l0 l1).map wr0 ++ [⟨8, 0, 0, []⟩]) w9 HSS.out (by omega) ?hd).mono ?_
      case hd =>
        intro s hs
        rcases List.mem_append.1 hs with hs | hs
        · obtain ⟨p, hp, rfl⟩ := List.mem_map.1 hs
          have h := len_of_mem _ p hp
          rw [cutM_flat, HL0.out] at h
          show p.length ≤ _
          omega
        · rcases List.mem_singleton.1 hs with rfl
          exact Nat.zero_le _
      intro e w10 hret
      obtain ⟨A10, n10, c10, rfl, hSA, hn10, _, hb10⟩ := sa_of_run hret
      have hn10' : n10 = n1 + 1 + 1 := by
        rw [hn10, List.length_append, List.length_map, cutM_len, HL1.out]; rfl
      subst hn10'
      have hbF : Below w.heap.size w w10 := hb9.trans (hb10.mono hb9.size)
      obtain ⟨g10, o10, rfl, hg10, hat⟩ := hSA.spot (by omega)
      obtain ⟨_, _, _, hAt⟩ := hat (n1 + 1) (by omega)
      have q1 := hAt.c1
      rw [run_writes_value, List.getD_eq_getElem?_getD, List.getElem?_append_right (by rw [List.length_map, cutM_len, HL1.out]; exact Nat.le_refl _), List.length_map, cutM_len, HL1.out, Nat.sub_self, List.getElem?_cons_zero, Option.getD_some, cutM_flat, adler_val] at q1
      have HB0' := Lib.hid (HB0.out.below hbF)
      have hal := PlainAd.adler_parts l0
      have hal2 : PlainAd.adler l0 < 4294967296 := by omega
      obtain ⟨ad, had⟩ : ∃ ad, PlainAd.adler l0 = ad := ⟨_, rfl⟩
      rw [had] at q1 hal2
      have HAD := Lib.hid had
      have hu : IntKind.u64.wrap (ad : Int) = (ad : Int) := IntWalk.u64_in _ (by omega)
      clear hal had hAt hat hSA hret hn10
      go_wp2_with fail
      refine wp_region_held_drew (S := fun W => Below w10.heap.size w10 W) (by kernel_rfl) ⟨rfl, rfl, rfl, Nat.le_refl _, fun _ _ => rfl⟩ (fun hHeld => ?_)
      refine wpAnyH_take (i := 0) (oi := ⟨some 37, _, _, _, _, _⟩) (v := ?_) rfl (by kernel_rfl) (by kernel_rfl) (by kernel_rfl) (fun _ _ _ h => h) (Or.inl ⟨by rfl, ?_⟩) hHeld ?_
      rotate_left
      · intro W hW; go_simp <;> with_reducible rfl
      simp only [Act.put, List.setIfInBounds_toArray, List.set_cons_zero, List.set_cons_succ]
      refine wpAnyH_take (i := 1) (oi := ⟨some 38, _, _, _, _, _⟩) (v := ?_) rfl (by kernel_rfl) (by kernel_rfl) (by kernel_rfl) (fun _ _ _ h => h) (Or.inl ⟨by rfl, ?_⟩) hHeld ?_
      rotate_left
      · intro W hW; go_simp <;> with_reducible rfl
      simp only [Act.put, List.setIfInBounds_toArray, List.set_cons_zero, List.set_cons_succ]
      refine wpAnyH_take (i := 2) (oi := ⟨some 39, _, _, _, _, _⟩) (v := ?_) rfl (by kernel_rfl) (by kernel_rfl) (by kernel_rfl) (fun _ _ _ h => h) (Or.inl ⟨by rfl, ?_⟩) hHeld ?_
      rotate_left
      · intro W hW; go_simp <;> with_reducible rfl
      simp only [Act.put, List.setIfInBounds_toArray, List.set_cons_zero, List.set_cons_succ]
      refine wpAnyH_take (i := 3) (oi := ⟨some 40, _, _, _, _, _⟩) (v := ?_) rfl (by kernel_rfl) (by kernel_rfl) (by kernel_rfl) (fun _ _ _ h => h) (Or.inl ⟨by rfl, ?_⟩) hHeld ?_
      rotate_left
      · intro W hW; go_simp <;> with_reducible rfl
      simp only [Act.put, List.setIfInBounds_toArray, List.set_cons_zero, List.set_cons_succ]
      refine wpAnyH_take (i := 4) (oi := ⟨some 41, _, _, _, _, _⟩) (v := ?_) rfl (by kernel_rfl) (by kernel_rfl) (by kernel_rfl) (fun _ _ _ h => h) (Or.inl ⟨by rfl, ?_⟩) hHeld ?_
      rotate_left
      · intro W hW; go_simp <;> with_reducible rfl
      simp only [Act.put, List.setIfInBounds_toArray, List.set_cons_zero, List.set_cons_succ]
      refine wpAnyH_take (i := 5) (oi := ⟨some 42, _, _, _, _, _⟩) (v := ?_) rfl (by kernel_rfl) (by kernel_rfl) (by kernel_rfl) (fun _ _ _ h => h) (Or.inl ⟨by rfl, ?_⟩) hHeld ?_
      rotate_left
      · intro W hW; go_simp <;> with_reducible rfl
      simp only [Act.put, List.setIfInBounds_toArray, List.set_cons_zero, List.set_cons_succ]
      refine wpAnyH_take (i := 6) (oi := ⟨some 43, _, _, _, _, _⟩) (v := ?_) rfl (by kernel_rfl) (by kernel_rfl) (by kernel_rfl) (fun _ _ _ h => h) (Or.inl ⟨by rfl, ?_⟩) hHeld ?_
      rotate_left
      · intro W hW; go_simp <;> with_reducible rfl
      simp only [Act.put, List.setIfInBounds_toArray, List.set_cons_zero, List.set_cons_succ]
      refine wpAnyH_take (i := 7) (oi := ⟨some 44, _, _, _, _, _⟩) (v := ?_) rfl (by kernel_rfl) (by kernel_rfl) (by kernel_rfl) (fun _ _ _ h => h) (Or.inl ⟨by rfl, ?_⟩) hHeld ?_
      rotate_left
      · intro W hW; go_simp <;> with_reducible rfl
      simp only [Act.put, List.setIfInBounds_toArray, List.set_cons_zero, List.set_cons_succ]
      refine wpAnyH_take (i := 8) (oi := ⟨some 45, _, _, _, _, _⟩) (v := ?_) rfl (by kernel_rfl) (by kernel_rfl) (by kernel_rfl) (fun _ _ _ h => h) (Or.inl ⟨by rfl, ?_⟩) hHeld ?_
      rotate_left
      · intro W hW; go_simp <;> with_reducible rfl
      simp only [Act.put, List.setIfInBounds_toArray, List.set_cons_zero, List.set_cons_succ]
      refine wpAnyH_take (i := 9) (oi := ⟨some 46, _, _, _, _, _⟩) (v := ?_) rfl (by kernel_rfl) (by kernel_rfl) (by kernel_rfl) (fun _ _ _ h => h) (Or.inl ⟨by rfl, ?_⟩) hHeld ?_
      rotate_left
      · intro W hW; go_simp <;> with_reducible rfl
      simp only [Act.put, List.setIfInBounds_toArray, List.set_cons_zero, List.set_cons_succ]
      refine wpAnyH_take (i := 10) (oi := ⟨some 47, _, _, _, _, _⟩) (v := ?_) rfl (by kernel_rfl) (by kernel_rfl) (by kernel_rfl) (fun _ _ _ h => h) (Or.inl ⟨by rfl, ?_⟩) hHeld ?_
      rotate_left
      · intro W hW; go_simp <;> with_reducible rfl
      simp only [Act.put, List.setIfInBounds_toArray, List.set_cons_zero, List.set_cons_succ]
      refine wpAnyH_take (i := 11) (oi := ⟨some 48, _, _, _, _, _⟩) (v := ?_) rfl (by kernel_rfl) (by kernel_rfl) (by kernel_rfl) (fun _ _ _ h => h) (Or.inl ⟨by rfl, ?_⟩) hHeld ?_
      rotate_left
      · intro W hW; go_simp <;> with_reducible rfl
      simp only [Act.put, List.setIfInBounds_toArray, List.set_cons_zero, List.set_cons_succ]
      refine wpAnyH_take (i := 12) (oi := ⟨some 49, _, _, _, _, _⟩) (v := ?_) rfl (by kernel_rfl) (by kernel_rfl) (by kernel_rfl) (fun _ _ _ h => h) (Or.inl ⟨by rfl, ?_⟩) hHeld ?_
      rotate_left
      · intro W hW; have q := (hW.cell (p := ⟨g10, o10 + (n1 + 1) * 4 + 1, none⟩) hg10).trans q1; go_simp <;> with_reducible rfl
      simp only [Act.put, List.setIfInBounds_toArray, List.set_cons_zero, List.set_cons_succ]
      refine wpAnyH_take (i := 13) (oi := ⟨some 50, _, _, _, _, _⟩) (v := ?_) rfl (by kernel_rfl) (by kernel_rfl) (by kernel_rfl) (fun _ _ _ h => h) (Or.inl ⟨by rfl, ?_⟩) hHeld ?_
      rotate_left
      · intro W hW; go_simp <;> with_reducible rfl
      simp only [Act.put, List.setIfInBounds_toArray, List.set_cons_zero, List.set_cons_succ]
      refine wpAnyH_ready (rs := [14]) (by kernel_rfl) (by simp) (AllReadyH.cons rfl (fun K1 hK1 => ?_) AllReadyH.nil)
      go_simp
      refine (adlerChecksum_any A0 n0 c0 l0 _ w.heap.size nc0 hm0 HB0'.out.drew).mono ?_
      rintro e w11 ⟨rfl, kk, rfl⟩
      rw [HAD.out]
      refine hK1.out _ _ ⟨rfl, rfl, rfl, Nat.le_refl _, fun _ _ => rfl⟩ (fun hHeld => ?_)
      clear hK1 K1
      refine wpAnyH_take (i := 15) (oi := ⟨some 52, _, _, _, _, _⟩) (v := ?_) rfl (by kernel_rfl) (by kernel_rfl) (by kernel_rfl) (fun _ _ _ h => h) (Or.inl ⟨by rfl, ?_⟩) hHeld ?_
      rotate_left
      · intro W hW; go_simp <;> with_reducible rfl
      simp only [Act.put, List.setIfInBounds_toArray, List.set_cons_zero, List.set_cons_succ]
      refine wpAnyH_take (i := 16) (oi := ⟨some 53, _, _, _, _, _⟩) (v := ?_) rfl (by kernel_rfl) (by kernel_rfl) (by kernel_rfl) (fun _ _ _ h => h) (Or.inl ⟨by rfl, ?_⟩) hHeld ?_
      rotate_left
      · intro W hW; go_simp <;> with_reducible rfl
      simp only [Act.put, List.setIfInBounds_toArray, List.set_cons_zero, List.set_cons_succ]
      refine wpAnyH_take (i := 17) (oi := ⟨some 54, _, _, _, _, _⟩) (v := ?_) rfl (by kernel_rfl) (by kernel_rfl) (by kernel_rfl) (fun _ _ _ h => h) (Or.inl ⟨by rfl, ?_⟩) hHeld ?_
      rotate_left
      · intro W hW; go_simp <;> with_reducible rfl
      simp only [Act.put, List.setIfInBounds_toArray, List.set_cons_zero, List.set_cons_succ]
      refine wpAnyH_take (i := 18) (oi := ⟨some 4, _, _, _, _, _⟩) (v := ?_) rfl (by kernel_rfl) (by kernel_rfl) (by kernel_rfl) (fun _ _ _ h => h) (Or.inl ⟨by rfl, ?_⟩) hHeld ?_
      rotate_left
      · intro W hW; go_simp <;> with_reducible rfl
      simp only [Act.put, List.setIfInBounds_toArray, List.set_cons_zero, List.set_cons_succ]
      refine wpAnyH_done (by kernel_rfl) ?_ _
      go_wp2
      go_ret
      refine ⟨?_, hbF.trans ⟨rfl, rfl, rfl, Nat.le_refl _, fun _ _ => rfl⟩⟩
      simp

end Go.Proofs.Ytdpjdglcienbfaa.fnAdlerRoads

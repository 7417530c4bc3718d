/-
  The walks of bytes.growSlice (its deferred closure finds nothing to recover), (*bytes.Buffer).tryGrowByReslice and Len. After the kit's worked contracts of bytes.Buffer. Conditions: those that each names.
-/
import Derived.Test.YthhbcnjbnfjiiaaAppend
import Derived.Lib.AppendZeros
import Derived.Lib.Walk
import Derived.Lib.ByteType
import Derived.Lib.Buffer
import Derived.Lib.Hide
import Derived.Laws.CopyRow
import Derived.Laws.IdiomCopy
import Derived.Defers
import Derived.Recover
import Derived.OwnWalk
namespace Go.Proofs.Ythhbcnjbnfjiiaa
open Go.RowKit

theorem entersB {f : FuncId} {fn : Func} {c : Code} (hf : Try.prog.funcs[f]? = some fn) (hname : (fn.name == "runtime.NumGoroutine") = false) (hb : fn.body = some c) (args : Array Value) (w : World) :
    (callFunc f args).run Try.prog w = .ok (.enter f args) w := by
  have h1 : fn.name ≠ "runtime.NumGoroutine" := by simpa using hname
  simp [callFunc, hf, h1, hb]
set_option maxRecDepth 100000 in
theorem catch_idle (w : World) : CallsD Try.prog 48 #[] .returning w fun e u' w' => e = .returned (.tuple #[]) ∧ u' = .returning ∧ w' = w := by
  have hnn : ∀ w, (binOp .neq 20 .nilIface .nilIface).run Try.prog w = .ok (.bool false) w := fun w => Lib.run_neq_nil_nil w Try.underlying20
  refine callsD_of_wpS Try.func48 rfl fun c₀ cs hu => ?_
  apply wpS_seq
  apply wpS_region
  simp [wpOpsS, go_sem, recoverD, hu, hnn, Try.ntmps48, Exit.thenS]
  refine wpS_cond (t := false) (by simp [Act.eval, Array.replicate]) ?_
  simp only [Bool.false_eq_true, if_false]
  refine wpS_of_wp (wp_skip ?_)
  cases c₀
  simp_all [bodyPostS, results]

/-- What growSlice hands back: a new row that begins as the old one did, with room. -/
def RetGrow (w : World) (l n : Nat) (old : List Value) (e : Ending) (w' : World) : Prop := ∃ cap2 cells, e = .returned (.slice (some ⟨w.heap.size, 0, none⟩) l cap2) ∧ w'.heap[w.heap.size]? = some (.cells cells 5 (0, 0)) ∧
      cells.size = cap2 ∧ cells.toList.take l = old ∧ l + n ≤ cap2 ∧ cap2 ≤ maxLen ∧ Below w.heap.size w w'
theorem lt_of_block' {w : World} {g : Nat} {o : Obj} (h : w.heap[g]? = some o) : g < w.heap.size := (Array.getElem?_eq_some_iff.1 h).1
set_option maxHeartbeats 6400000 in
set_option maxRecDepth 100000 in
theorem growSlice_row (g l c n : Nat) (cur : Array Value) (w : World) (hg : w.heap[g]? = some (.cells cur 5 (0, 0))) (hcs : cur.size = c) (hlc : l ≤ c) (hn : 1 ≤ n)
    (hlim : l + n ≤ 140737488355328) (hc2 : c ≤ 140737488355328) (h1 : ∀ v ∈ cur.toList.take l, v.oneCell' = true) :
    Calls Try.prog 47 #[.slice (some ⟨g, 0, none⟩) l c, .int .i64 n] w fun e w' => RetGrow w l n (cur.toList.take l) e w' := by
  obtain ⟨i0, hi, hzz⟩ := Option.map_eq_some_iff.1 Try.infoByte
  simp only [Prod.mk.injEq] at hzz
  obtain ⟨hz0, hz1, hz2⟩ := hzz
  have hsz1 : (Try.prog.info? 5).map (·.size) = some 1 := by rw [hi]; simp [hz1]
  by_cases hC : l + n < 2 * c
  · have happ := Lib.run_append_nil_zeros (P := Try.prog) w 25 3 25 5 i0 (.int .u8 0) .i64 .i64 Try.underlying25 Try.underlying3 hi hz0 (2 * c) (by omega) (by omega) (by omega) (by rw [hz2]; omega)
    rw [show (((2 * c : Nat)) : Int) = 2 * (c : Int) by omega] at happ
    generalize hcap : grownCap w (2 * c) 0 5 = cap2 at happ
    have hcapge : 2 * c ≤ cap2 := by rw [← hcap]; exact grownCap_ge w _ 0 5
    have hcaple : cap2 ≤ maxLen := by rw [← hcap]; exact grownCap_le_maxLen w _ 0 5 (by unfold maxLen; omega)
    generalize hZ : (Builtin.zeroCells (Value.int .u8 0).cells (2 * c) ++ Builtin.zeroCells (Value.int .u8 0).cells (cap2 - (2 * c))) = Z at happ
    have hZs : Z.size = cap2 := by rw [← hZ]; simp [size_zeroCells, Value.cells]; omega
    clear hcap hZ
    have hgl := lt_of_block' hg
    have hg1 : (w.alloc (.cells Z 5)).drew.heap[g]? = some (.cells cur 5 (0, 0)) := by show (w.alloc (.cells Z 5)).heap[g]? = _; rw [RowKit.Below.heap_alloc w _ g hgl]; exact hg
    have hxl : (cur.toList.take l).length = l := by rw [List.length_take, Array.length_toList]; omega
    have hcopy := run_copy_row (P := Try.prog) (w.alloc (.cells Z 5)).drew 25 25 3 5 w.heap.size 0 (2 * c) cap2 ⟨g, 0, none⟩ l c Z 5 (cur.toList.take l) Try.underlying25 hsz1 (_root_.Go.heap_alloc_new w _) (by rw [hxl]; exact (Nat.min_eq_left (by omega)).symm) (Lib.cells_of_row hg1 l) (by rw [hxl]; omega) h1
    rw [hxl] at hcopy
    generalize hY : (Z.toList.take 0 ++ cur.toList.take l ++ Z.toList.drop (0 + l)).toArray = Y at hcopy
    go_enter_defers Try.func47, Try.ntmps47
    go_wp2_with (at_builtin; refine Lib.wpList_append_run _ rfl _ _ _ _ rfl _ _ rfl rfl _ _ happ ?_)
    refine leaves_cons (f := 48) (args := #[]) (by simp) (entersB Try.func48 (by kernel_rfl) rfl _ _) ?_
    refine (catch_idle _).mono ?_
    rintro e u' w'' ⟨rfl, rfl, rfl⟩
    refine ⟨_, results_tmp rfl _ _ _, ?_⟩
    have hYl : Y.toList = cur.toList.take l ++ Z.toList.drop l := by rw [← hY]; simp
    refine ⟨cap2, Y, rfl, setRow_heap _ _ Z Y 5 (0, 0) (_root_.Go.heap_alloc_new w _), ?_, ?_, by omega, hcaple, ?_⟩
    · have : Y.toList.length = cap2 := by rw [hYl, List.length_append, hxl, List.length_drop, Array.length_toList, hZs]; omega
      simpa using this
    · rw [hYl, List.take_append_of_le_length (by rw [hxl]; exact Nat.le_refl _), List.take_of_length_le (by rw [hxl]; exact Nat.le_refl _)]
    · exact ⟨rfl, rfl, rfl, by simp, fun k hk => by rw [setRow_other _ _ _ _ (by omega)]; exact Below.heap_alloc w _ k hk⟩
  · have happ := Lib.run_append_nil_zeros (P := Try.prog) w 25 3 25 5 i0 (.int .u8 0) .i64 .i64 Try.underlying25 Try.underlying3 hi hz0 (l + n) (by omega) (by omega) (by omega) (by rw [hz2]; omega)
    rw [show (((l + n : Nat)) : Int) = (l : Int) + (n : Int) by omega] at happ
    generalize hcap : grownCap w (l + n) 0 5 = cap2 at happ
    have hcapge : l + n ≤ cap2 := by rw [← hcap]; exact grownCap_ge w _ 0 5
    have hcaple : cap2 ≤ maxLen := by rw [← hcap]; exact grownCap_le_maxLen w _ 0 5 (by unfold maxLen; omega)
    generalize hZ : (Builtin.zeroCells (Value.int .u8 0).cells (l + n) ++ Builtin.zeroCells (Value.int .u8 0).cells (cap2 - (l + n))) = Z at happ
    have hZs : Z.size = cap2 := by rw [← hZ]; simp [size_zeroCells, Value.cells]; omega
    clear hcap hZ
    have hgl := lt_of_block' hg
    have hg1 : (w.alloc (.cells Z 5)).drew.heap[g]? = some (.cells cur 5 (0, 0)) := by show (w.alloc (.cells Z 5)).heap[g]? = _; rw [RowKit.Below.heap_alloc w _ g hgl]; exact hg
    have hxl : (cur.toList.take l).length = l := by rw [List.length_take, Array.length_toList]; omega
    have hcopy := run_copy_row (P := Try.prog) (w.alloc (.cells Z 5)).drew 25 25 3 5 w.heap.size 0 (l + n) cap2 ⟨g, 0, none⟩ l c Z 5 (cur.toList.take l) Try.underlying25 hsz1 (_root_.Go.heap_alloc_new w _) (by rw [hxl]; exact (Nat.min_eq_left (by omega)).symm) (Lib.cells_of_row hg1 l) (by rw [hxl]; omega) h1
    rw [hxl] at hcopy
    generalize hY : (Z.toList.take 0 ++ cur.toList.take l ++ Z.toList.drop (0 + l)).toArray = Y at hcopy
    go_enter_defers Try.func47, Try.ntmps47
    go_wp2_with (at_builtin; refine Lib.wpList_append_run _ rfl _ _ _ _ rfl _ _ rfl rfl _ _ happ ?_)
    refine leaves_cons (f := 48) (args := #[]) (by simp) (entersB Try.func48 (by kernel_rfl) rfl _ _) ?_
    refine (catch_idle _).mono ?_
    rintro e u' w'' ⟨rfl, rfl, rfl⟩
    refine ⟨_, results_tmp rfl _ _ _, ?_⟩
    have hYl : Y.toList = cur.toList.take l ++ Z.toList.drop l := by rw [← hY]; simp
    refine ⟨cap2, Y, rfl, setRow_heap _ _ Z Y 5 (0, 0) (_root_.Go.heap_alloc_new w _), ?_, ?_, by omega, hcaple, ?_⟩
    · have : Y.toList.length = cap2 := by rw [hYl, List.length_append, hxl, List.length_drop, Array.length_toList, hZs]; omega
      simpa using this
    · rw [hYl, List.take_append_of_le_length (by rw [hxl]; exact Nat.le_refl _), List.take_of_length_le (by rw [hxl]; exact Nat.le_refl _)]
    · exact ⟨rfl, rfl, rfl, by simp, fun k hk => by rw [setRow_other _ _ _ _ (by omega)]; exact Below.heap_alloc w _ k hk⟩

set_option maxHeartbeats 6400000 in
set_option maxRecDepth 100000 in
theorem growSlice_nil (n : Nat) (w : World) (hn : 1 ≤ n) (hlim : n ≤ 140737488355328) :
    Calls Try.prog 47 #[.slice none 0 0, .int .i64 n] w fun e w' => RetGrow w 0 n [] e w' := by
  obtain ⟨i0, hi, hzz⟩ := Option.map_eq_some_iff.1 Try.infoByte
  simp only [Prod.mk.injEq] at hzz
  obtain ⟨hz0, hz1, hz2⟩ := hzz
  have happ := Lib.run_append_nil_zeros (P := Try.prog) w 25 3 25 5 i0 (.int .u8 0) .i64 .i64 Try.underlying25 Try.underlying3 hi hz0 n (by omega) (by omega) (by omega) (by rw [hz2]; omega)
  generalize hcap : grownCap w n 0 5 = cap2 at happ
  have hcapge : n ≤ cap2 := by rw [← hcap]; exact grownCap_ge w _ 0 5
  have hcaple : cap2 ≤ maxLen := by rw [← hcap]; exact grownCap_le_maxLen w _ 0 5 (by unfold maxLen; omega)
  generalize hZ : (Builtin.zeroCells (Value.int .u8 0).cells n ++ Builtin.zeroCells (Value.int .u8 0).cells (cap2 - n)) = Z at happ
  have hZs : Z.size = cap2 := by rw [← hZ]; simp [size_zeroCells, Value.cells]; omega
  clear hcap hZ
  have hcopy := run_copy_nil (P := Try.prog) (w.alloc (.cells Z 5)).drew 25 25 3 5 ⟨w.heap.size, 0, none⟩ n cap2 Try.underlying25 (by rw [hi]; rfl)
  go_enter_defers Try.func47, Try.ntmps47
  go_wp2_with (at_builtin; refine Lib.wpList_append_run _ rfl _ _ _ _ rfl _ _ rfl rfl _ _ happ ?_)
  refine leaves_cons (f := 48) (args := #[]) (by simp) (entersB Try.func48 (by kernel_rfl) rfl _ _) ?_
  refine (catch_idle _).mono ?_
  rintro e u' w'' ⟨rfl, rfl, rfl⟩
  refine ⟨_, results_tmp rfl _ _ _, ?_⟩
  exact ⟨cap2, Z, rfl, _root_.Go.heap_alloc_new w _, hZs, by simp, by omega, hcaple, ⟨rfl, rfl, rfl, by simp, fun k hk => Below.heap_alloc w _ k hk⟩⟩

theorem two_res {fn : Func} {t u : Tmp} (h : fn.results = #[.tmp t, .tmp u]) (tmps : Array Value) (P : Program) (w : World) :
    (results fn tmps).run P w = .ok (.tuple #[tmps.getD t undef, tmps.getD u undef]) w := by simp [results, h]
set_option maxRecDepth 100000 in
theorem tryGrow_room (b : Nat) (A : Option Addr) (l cap n : Nat) (w : World) (c0 : w.cell? ⟨b, 0, none⟩ = some (.slice A l cap)) (f0 : w.frozen? ⟨b, 0, none⟩ = false) (hlc : l ≤ cap) (hcap : cap ≤ maxLen) (hn : n ≤ cap - l) :
    Calls Try.prog 44 #[.pointer (some ⟨b, 0, none⟩), .int .i64 n] w fun e w' => e = .returned (.tuple #[.int .i64 l, .bool true]) ∧ w' = w.setCell ⟨b, 0, none⟩ (.slice A (l + n) cap) := by
  unfold maxLen at hcap
  have e1 : decide ((n : Int) ≤ (cap : Int) - (l : Int)) = true := decide_eq_true (by omega)
  go_enter Try.func44, Try.ntmps44
  go_wp2
  refine bodyPost_ret (two_res rfl _ _ _) rfl ?_
  exact ⟨rfl, rfl⟩
set_option maxRecDepth 100000 in
theorem tryGrow_no (b : Nat) (A : Option Addr) (l cap n : Nat) (w : World) (c0 : w.cell? ⟨b, 0, none⟩ = some (.slice A l cap)) (hlc : l ≤ cap) (hcap : cap ≤ maxLen) (hn : cap - l < n) :
    Calls Try.prog 44 #[.pointer (some ⟨b, 0, none⟩), .int .i64 n] w fun e w' => e = .returned (.tuple #[.int .i64 0, .bool false]) ∧ w' = w := by
  unfold maxLen at hcap
  have e1 : decide ((n : Int) ≤ (cap : Int) - (l : Int)) = false := decide_eq_false (by omega)
  go_enter Try.func44, Try.ntmps44
  go_wp2
  refine bodyPost_ret (two_res rfl _ _ _) rfl ?_
  exact ⟨rfl, rfl⟩

end Go.Proofs.Ythhbcnjbnfjiiaa

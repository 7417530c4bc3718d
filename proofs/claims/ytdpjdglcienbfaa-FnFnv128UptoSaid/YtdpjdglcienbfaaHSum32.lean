/-
  The walks of the methods of hash/fnv.sum32: written by hashgen.py. Conditions: those of 'Good'.
-/
import Derived.Test.YtdpjdglcienbfaaHashAid
namespace Go.Proofs.Ytdpjdglcienbfaa
open Go.RowKit
open PlainHash (be4 be8 f1 f1a)

def kSum32 : Kind where
  dyn := 77
  elem := 76
  cells s := #[.int .u32 (s : Int)]
  init := 2166136261
  size := 4
  block := 1
  ok s := s < 4294967296
  step := f1 4294967296 16777619
  bytes := be4
  magic := [102, 110, 118, 1]
  val s := s
  fWrite := 79
  fSum := 76
  fReset := 74
  fSize := 75
  fBlock := 71
  fClone := 72
  fMarshal := 73
  fUnmarshal := 78

namespace Sum32
def WRel (l : List Nat) (s : Nat) (i h : Value) : Prop := ∃ k x : Nat, k ≤ l.length ∧ (l.take k).foldl (f1 4294967296 16777619) s = x ∧ x < 4294967296 ∧ i = .int .i64 (k : Int) ∧ h = .int .u32 (x : Int)
theorem step_lt (s c : Nat) (_ : s < 4294967296) (hc : c < 256) : f1 4294967296 16777619 s c < 4294967296 := PlainHash.f1_lt32 _ _ _ hc

set_option maxRecDepth 100000 in
set_option maxHeartbeats 400000 in
theorem write (w : World) (b s : Nat) (A : Option Addr) (n c : Nat) (l : List Nat) (B : Nat) (hr : Rep kSum32 w b s) (hl : BS w B A n l) (hnc : n ≤ c) (hm : c ≤ maxLen) :
    Calls Try.prog 79 #[hp b, .slice A n c] w fun e w' => RetWrite kSum32 w b s n l e w' := by
  obtain rfl : l.length = n := hl.len
  unfold maxLen at hm
  obtain ⟨hr, hs⟩ := hr
  have hs' : s < 4294967296 := hs
  have hc : w.cell? ⟨b, 0, none⟩ = some (.int .u32 (s : Int)) := cell_of_one hr
  have hf := free_of_one hr
  have HR := Lib.hid hr
  clear hr hs
  unfold hp
  go_enter Try.func79, Try.ntmps79
  go_wp2
  go_loop [14, 6] (fun i h => WRel l s i h) (fun i _ => l.length - (intOf i).toNat)
  case atStart => exact ⟨0, s, Nat.zero_le _, rfl, hs', rfl, rfl⟩
  case round =>
    obtain ⟨k, x, hk, hx, hx2, rfl, rfl⟩ := hrel
    have HX := Lib.hid hx
    clear hx
    by_cases hkl : k < l.length
    · have HS := Lib.hid (foldl_take (f1 4294967296 16777619) s l k hkl)
      obtain ⟨b1, o1, rfl, hb1, hl⟩ := hl.open_ (by omega)
      have cK := hl.cell hkl
      have gK := getD_lt hl.lt k
      generalize l.getD k 0 = zk at *
      have hx1 := u32_xor_nat (x * 16777619 % 4294967296) zk (Nat.mod_lt _ (by decide)) (by omega)
      rw [show ((x * 16777619 % 4294967296 : Nat) : Int) = (x : Int) * 16777619 % 4294967296 by omega] at hx1
      have HX1 := Lib.hid hx1
      clear hx1
      go_wp2
      have hs1 := HX1.out
      exact ⟨⟨k + 1, f1 4294967296 16777619 x zk, by omega, by rw [HS.out, HX.out], step_lt x zk hx2 gK, by simp, val_u32 (by rw [hs1]; rfl)⟩, by simp [intOf]; omega⟩
    · obtain rfl : k = l.length := by omega
      rw [List.take_of_length_le (Nat.le_refl _)] at HX
      go_wp2
      refine bodyPost_ret (results_two rfl _ _ _) rfl ⟨rfl, only_store (Only.refl _ _) _, ?_⟩
      show Rep kSum32 _ b (l.foldl (f1 4294967296 16777619) s)
      rw [HX.out]
      exact ⟨one_setCell HR.out, hx2⟩

theorem sum (w : World) (b s base : Nat) (sv : Value) (l : List Nat) (hr : Rep kSum32 w b s) (ho : Own w base sv l) (hB : base ≤ w.heap.size) (hn : l.length ≤ 70368744177664) :
    Calls Try.prog 76 #[hp b, sv] w fun e w' => RetApp w base (l ++ be4 s) e w' := by
  obtain ⟨hr, hs⟩ := hr
  have hs' : s < 4294967296 := hs
  have hc : w.cell? ⟨b, 0, none⟩ = some (.int .u32 (s : Int)) := cell_of_one hr
  clear hr hs
  have HO := Lib.hid ho
  clear ho
  unfold hp
  go_enter Try.func76, Try.ntmps76
  go_wp2_with fail
  refine (beAppend32 s hs' w base sv l HO.out hB (by omega)).mono ?_
  rintro e w' ⟨v', rfl, ho', hb'⟩
  go_wp2
  go_ret
  exact ⟨v', rfl, ho', hb'⟩

theorem reset (w : World) (b s : Nat) (hr : Rep kSum32 w b s) : Calls Try.prog 74 #[hp b] w fun e w' => RetReset kSum32 w b e w' := by
  obtain ⟨hr, hs⟩ := hr
  have hc : w.cell? ⟨b, 0, none⟩ = some (.int .u32 (s : Int)) := cell_of_one hr
  have hf := free_of_one hr
  have HR := Lib.hid hr
  clear hr hs
  unfold hp
  go_enter Try.func74, Try.ntmps74
  go_wp2
  go_end0
  exact ⟨rfl, only_store (Only.refl _ _) _, one_setCell HR.out, by show 2166136261 < 4294967296; decide⟩

theorem size_ (w : World) (b : Nat) : Calls Try.prog 75 #[hp b] w fun e w' => e = .returned (.int .i64 ((kSum32.size : Nat) : Int)) ∧ w = w' := by
  unfold hp
  go_enter Try.func75, Try.ntmps75
  go_wp2
  go_ret
  exact ⟨rfl, rfl⟩
theorem block_ (w : World) (b : Nat) : Calls Try.prog 71 #[hp b] w fun e w' => e = .returned (.int .i64 ((kSum32.block : Nat) : Int)) ∧ w = w' := by
  unfold hp
  go_enter Try.func71, Try.ntmps71
  go_wp2
  go_ret
  exact ⟨rfl, rfl⟩
theorem clone (w : World) (b s : Nat) (hr : Rep kSum32 w b s) : Calls Try.prog 72 #[hp b] w fun e w' => RetClone kSum32 w s e w' := by
  obtain ⟨hr, hs⟩ := hr
  have hc : w.cell? ⟨b, 0, none⟩ = some (.int .u32 (s : Int)) := cell_of_one hr
  clear hr hs
  unfold hp
  go_enter Try.func72, Try.ntmps72
  go_wp2
  exact bodyPost_ret (results_two rfl _ _ _) rfl ⟨rfl, rfl⟩

set_option maxRecDepth 100000 in
theorem appendBinary (w : World) (b s base : Nat) (sv : Value) (l : List Nat) (hr : Rep kSum32 w b s) (ho : Own w base sv l) (hb : b < base) (hB : base ≤ w.heap.size) (hn : l.length ≤ 1000) :
    Calls Try.prog 80 #[hp b, sv] w fun e w' => ∃ v, e = .returned (.tuple #[v, .nilIface]) ∧ Own w' base v ((l ++ [102, 110, 118, 1]) ++ be4 s) ∧ Below base w w' := by
  have hs' : s < 4294967296 := hr.2
  obtain ⟨i, hi, hzz⟩ := Option.map_eq_some_iff.1 Try.infoByte
  simp only [Prod.mk.injEq] at hzz
  obtain ⟨hz, hsz, hby⟩ := hzz
  have HO := Lib.hid ho
  have HR := Lib.hid hr
  clear ho hr
  unfold hp
  go_enter Try.func80, Try.ntmps80
  go_wp2_with (at_builtin; refine Lib.wpList_append_own_string _ (o := ⟨some 7, _, _, _, _, _⟩) rfl _ _ 22 9 rfl base 5 i Try.underlying22 Try.underlying9 hi hz hsz hby sv l.length (bv l) rfl HO.out.1 ⟨#[102, 110, 118, 1]⟩ rfl (by unfold maxLen; have : (⟨#[102, 110, 118, 1]⟩ : ByteArray).size = 4 := rfl; omega) (by have : (⟨#[102, 110, 118, 1]⟩ : ByteArray).size = 4 := rfl; omega) hB ?_)
  intro v1 w1 hown1 hg1 _
  have ho1 : Own w1 base v1 (l ++ [102, 110, 118, 1]) := own_magic HO.out.2 (by decide) rfl rfl hown1
  have hb1 : Below base w w1 := (Below.refl _ _).grown hg1 hB HO.out.block
  have hr1 := HR.out.below hb1 hb
  have hc : w1.cell? ⟨b, 0, none⟩ = some (.int .u32 (s : Int)) := cell_of_one hr1.1
  have hsz1 := hb1.size
  have HO1 := Lib.hid ho1
  clear hown1 hg1 ho1 hr1
  go_wp2_with fail
  refine (beAppend32 s hs' w1 base v1 (l ++ [102, 110, 118, 1]) HO1.out (by omega) (by rw [List.length_append]; simp only [List.length_cons, List.length_nil]; omega)).mono ?_
  rintro e w2 ⟨v2, rfl, ho2, hb2⟩
  go_wp2
  exact bodyPost_ret (results_two rfl _ _ _) rfl ⟨v2, rfl, ho2, hb1.trans hb2⟩

theorem marshal (w : World) (b s : Nat) (hr : Rep kSum32 w b s) : Calls Try.prog 73 #[hp b] w fun e w' => RetMarshal kSum32 w s e w' := by
  have hmk : ∀ w : World, (Instr.makeSlice 22 (.int .i64 0) (.int .i64 8)).run Try.prog w = .ok (.slice (some ⟨w.heap.size, 0, none⟩) 0 8) (w.alloc (.cells #[.int .u8 0, .int .u8 0, .int .u8 0, .int .u8 0, .int .u8 0, .int .u8 0, .int .u8 0, .int .u8 0] 5)) := fun _ => by kernel_rfl
  have hlt := hr.lt
  have hb : Below w.heap.size w (w.alloc (.cells #[.int .u8 0, .int .u8 0, .int .u8 0, .int .u8 0, .int .u8 0, .int .u8 0, .int .u8 0, .int .u8 0] 5)) := (Below.refl _ _).alloc (Nat.le_refl _) _
  have hr1 := hr.below hb hlt
  have ho : Own (w.alloc (.cells #[.int .u8 0, .int .u8 0, .int .u8 0, .int .u8 0, .int .u8 0, .int .u8 0, .int .u8 0, .int .u8 0] 5)) w.heap.size (.slice (some ⟨w.heap.size, 0, none⟩) 0 8) [] := ⟨World.ownsRow_made w #[.int .u8 0, .int .u8 0, .int .u8 0, .int .u8 0, .int .u8 0, .int .u8 0, .int .u8 0, .int .u8 0] 8 (Nat.le_refl _) (by unfold maxLen; omega) rfl, by simp⟩
  have HO := Lib.hid ho
  have HR := Lib.hid hr1
  clear ho hr1 hr
  unfold hp
  go_enter Try.func73, Try.ntmps73
  go_wp2_with fail
  refine (appendBinary _ b s w.heap.size _ [] HR.out HO.out hlt (by simp) (by simp)).mono ?_
  rintro e w1 ⟨v1, rfl, ho1, hb1⟩
  go_wp2
  exact bodyPost_ret (results_two rfl _ _ _) rfl ⟨v1, rfl, ho1, hb.trans hb1⟩

set_option maxRecDepth 100000 in
theorem unmarshal (w : World) (b s s' : Nat) (A : Option Addr) (n c : Nat) (B : Nat) (hr : Rep kSum32 w b s) (hl : BS w B A n ([102, 110, 118, 1] ++ be4 s')) (hnc : n ≤ c) (hs' : s' < 4294967296) :
    Calls Try.prog 78 #[hp b, .slice A n c] w fun e w' => RetUnmarshal kSum32 w b s' e w' := by
  obtain rfl : 8 = n := hl.len
  obtain ⟨b1, o1, rfl, hb1, hl⟩ := hl.open_ (by omega)
  have hconv := Aid.run_str (P := Try.prog) (hl.take (k := 4) (by omega)) 22 9 5 c Try.underlying22 Try.underlying5 Try.underlying9
  have hm : Aid.strOf (List.take 4 (([102, 110, 118, 1] : List Nat) ++ be4 s')) = (⟨#[102, 110, 118, 1]⟩ : ByteArray) := rfl
  rw [hm] at hconv
  have hd := hl.drop (k := 4) (by omega)
  have hm2 : List.drop 4 (([102, 110, 118, 1] : List Nat) ++ be4 s') = be4 s' ++ [] := rfl
  rw [hm2] at hd
  clear hm hm2
  have hc := cell_of_one hr.1
  have hf := free_of_one hr.1
  have HR := Lib.hid hr
  have HD := Lib.hid hd
  have hne : decide (c = 4) = false := decide_eq_false (by omega)
  clear hr hl hd
  unfold hp
  go_enter Try.func78, Try.ntmps78
  go_wp2_with fail
  refine (beUint32 s' hs' [] w B b1 (o1 + 4) 4 (c - 4) (by omega) HD.out).mono ?_
  rintro e w1 ⟨rfl, k, rfl⟩
  go_wp2
  go_ret
  exact ⟨rfl, only_store ((Only.refl _ _).drewN k) _, one_setCell (w := w.drewN k) HR.out.1, hs'⟩
end Sum32

theorem goodSum32 : Good Try.prog kSum32 where
  init_ok := by show 2166136261 < 4294967296; decide
  step_ok := Sum32.step_lt
  bytes_len _ := rfl
  bytes_lt := PlainHash.be4_lt
  bytes_inj := PlainHash.be4_inj
  magic_len := rfl
  magic_lt := by decide
  size_le := by decide
  block_le := by decide
  write w b s A n c l B hr hl _ hn hm := Sum32.write w b s A n c l B hr hl hn hm
  sum w b s base sv l hr ho _ hB hn := Sum32.sum w b s base sv l hr ho hB hn
  reset := Sum32.reset
  size_ := Sum32.size_
  block_ := Sum32.block_
  clone := Sum32.clone
  marshal := Sum32.marshal
  unmarshal w b s s' A n c B hr hl hnc _ hs := Sum32.unmarshal w b s s' A n c B hr hl hnc hs

end Go.Proofs.Ytdpjdglcienbfaa

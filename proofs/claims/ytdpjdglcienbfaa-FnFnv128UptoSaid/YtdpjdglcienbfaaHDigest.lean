/-
  The walks of the methods of hash/adler32.digest: written by hashgen.py. Conditions: those of 'Good'.
-/
import Derived.Test.YtdpjdglcienbfaaHashAid
import Derived.Test.YtdpjdglcienbfaaAdUpd
namespace Go.Proofs.Ytdpjdglcienbfaa
open Go.RowKit
open PlainHash (be4 be8 f1 f1a)

namespace Digest
def dstep (s c : Nat) : Nat := PlainAd.word (PlainAd.step (s % 65536, s / 65536) c)
end Digest

def kDigest : Kind where
  dyn := 89
  elem := 60
  cells s := #[.int .u32 (s : Int)]
  init := 1
  size := 4
  block := 4
  ok s := s % 65536 < 65521 ∧ s / 65536 < 65521
  step := Digest.dstep
  bytes := be4
  magic := [97, 100, 108, 1]
  val s := s
  fWrite := 142
  fSum := 139
  fReset := 51
  fSize := 138
  fBlock := 135
  fClone := 136
  fMarshal := 137
  fUnmarshal := 141

namespace Digest
theorem word_parts (p : Nat × Nat) (h : p.1 < 65521) : PlainAd.word p % 65536 = p.1 ∧ PlainAd.word p / 65536 = p.2 := by
  unfold PlainAd.word; omega
theorem step_ok (s c : Nat) (_ : kDigest.ok s) (_ : c < 256) : kDigest.ok (dstep s c) := by
  have h1 : (PlainAd.step (s % 65536, s / 65536) c).1 < 65521 := Nat.mod_lt _ (by decide)
  have h2 : (PlainAd.step (s % 65536, s / 65536) c).2 < 65521 := Nat.mod_lt _ (by decide)
  obtain ⟨e1, e2⟩ := word_parts _ h1
  exact ⟨by unfold dstep; rw [e1]; exact h1, by unfold dstep; rw [e2]; exact h2⟩
theorem dstep_word (p : Nat × Nat) (h : p.1 < 65521) (x : Nat) : dstep (PlainAd.word p) x = PlainAd.word (PlainAd.step p x) := by
  obtain ⟨e1, e2⟩ := word_parts p h
  unfold dstep
  rw [e1, e2]
theorem sums_fold (l : List Nat) : ∀ p : Nat × Nat, p.1 < 65521 → PlainAd.word (PlainAd.sums p l) = l.foldl dstep (PlainAd.word p) := by
  induction l with
  | nil => intro p _; rfl
  | cons x r ih =>
    intro p h1
    have := ih (PlainAd.step p x) (Nat.mod_lt _ (by decide))
    rw [List.foldl_cons, dstep_word p h1, ← this]
    rfl

set_option maxRecDepth 100000 in
theorem write (w : World) (b s : Nat) (A : Option Addr) (n c : Nat) (l : List Nat) (B : Nat) (hr : Rep kDigest w b s) (hl : BS w B A n l) (hnc : n ≤ c) (hm : c ≤ maxLen) :
    Calls Try.prog 142 #[hp b, .slice A n c] w fun e w' => RetWrite kDigest w b s n l e w' := by
  obtain ⟨hr, hok⟩ := hr
  have h1 : s % 65536 < 65521 := hok.1
  have h2 : s / 65536 < 65521 := hok.2
  have hc : w.cell? ⟨b, 0, none⟩ = some (.int .u32 (s : Int)) := cell_of_one hr
  have hf := free_of_one hr
  have HR := Lib.hid hr
  have hfold := sums_fold l (s % 65536, s / 65536) h1
  rw [show PlainAd.word (s % 65536, s / 65536) = s by simp only [PlainAd.word]; omega] at hfold
  have HF := Lib.hid hfold
  have HOK := Lib.hid (PlainAd.sums_lt (s % 65536, s / 65536) l h1 h2)
  clear hr hok hfold
  unfold hp
  go_enter Try.func142, Try.ntmps142
  go_wp2_with fail
  refine (update_any s A n c l w B h1 h2 hnc hm hl).mono ?_
  rintro e w1 ⟨rfl, k, rfl⟩
  rw [HF.out]
  go_wp2
  refine bodyPost_ret (results_two rfl _ _ _) rfl ⟨rfl, only_store ((Only.refl _ _).drewN k) _, one_setCell (w := w.drewN k) HR.out, ?_⟩
  show (l.foldl dstep s) % 65536 < 65521 ∧ (l.foldl dstep s) / 65536 < 65521
  rw [← HF.out]
  have := HOK.out
  simp only [PlainAd.word]
  omega

set_option maxRecDepth 100000 in
theorem sum (w : World) (b s base : Nat) (sv : Value) (l : List Nat) (hr : Rep kDigest w b s) (ho : Own w base sv l) (hB : base ≤ w.heap.size) (hn : l.length ≤ 70368744177664) :
    Calls Try.prog 139 #[hp b, sv] w fun e w' => RetApp w base (l ++ be4 s) e w' := by
  have hs' : s < 4294967296 := by have := hr.2.1; have := hr.2.2; omega
  have hc : w.cell? ⟨b, 0, none⟩ = some (.int .u32 (s : Int)) := cell_of_one hr.1
  have HO := Lib.hid ho
  clear ho hr
  unfold hp
  go_enter Try.func139, Try.ntmps139
  go_wp2_with (at_builtin; refine wpList_append_bytes _ (o := ⟨some 22, _, _, _, _, _⟩) rfl _ _ rfl base _ l rfl (HO.out.alloc _) (w.heap.size + 1) (some ⟨w.heap.size, 0, none⟩) 4 4 (be4 s) rfl ?h (by omega) (by simp; omega) ?_)
  case h => exact lit4 w (be4 s) _ _ _ _ (PlainHash.be4_lt s hs') rfl
  intro v1 w1 hown1 hg1 _
  have hb2 : Below base w w1 := ((Below.refl _ _).alloc hB _).grown hg1 (by simp; omega) HO.out.block
  clear hg1
  go_wp2
  go_ret
  exact ⟨_, rfl, hown1, hb2⟩

theorem reset (w : World) (b s : Nat) (hr : Rep kDigest w b s) : Calls Try.prog 51 #[hp b] w fun e w' => RetReset kDigest w b e w' := by
  obtain ⟨hr, hs⟩ := hr
  have hc : w.cell? ⟨b, 0, none⟩ = some (.int .u32 (s : Int)) := cell_of_one hr
  have hf := free_of_one hr
  have HR := Lib.hid hr
  clear hr hs
  unfold hp
  go_enter Try.func51, Try.ntmps51
  go_wp2
  go_end0
  exact ⟨rfl, only_store (Only.refl _ _) _, one_setCell HR.out, ⟨by decide, by decide⟩⟩

theorem size_ (w : World) (b : Nat) : Calls Try.prog 138 #[hp b] w fun e w' => e = .returned (.int .i64 ((kDigest.size : Nat) : Int)) ∧ w = w' := by
  unfold hp
  go_enter Try.func138, Try.ntmps138
  go_wp2
  go_ret
  exact ⟨rfl, rfl⟩
theorem block_ (w : World) (b : Nat) : Calls Try.prog 135 #[hp b] w fun e w' => e = .returned (.int .i64 ((kDigest.block : Nat) : Int)) ∧ w = w' := by
  unfold hp
  go_enter Try.func135, Try.ntmps135
  go_wp2
  go_ret
  exact ⟨rfl, rfl⟩
theorem clone (w : World) (b s : Nat) (hr : Rep kDigest w b s) : Calls Try.prog 136 #[hp b] w fun e w' => RetClone kDigest w s e w' := by
  obtain ⟨hr, hs⟩ := hr
  have hc : w.cell? ⟨b, 0, none⟩ = some (.int .u32 (s : Int)) := cell_of_one hr
  clear hr hs
  unfold hp
  go_enter Try.func136, Try.ntmps136
  go_wp2
  exact bodyPost_ret (results_two rfl _ _ _) rfl ⟨rfl, rfl⟩

set_option maxRecDepth 100000 in
theorem appendBinary (w : World) (b s base : Nat) (sv : Value) (l : List Nat) (hr : Rep kDigest w b s) (ho : Own w base sv l) (hb : b < base) (hB : base ≤ w.heap.size) (hn : l.length ≤ 1000) :
    Calls Try.prog 143 #[hp b, sv] w fun e w' => ∃ v, e = .returned (.tuple #[v, .nilIface]) ∧ Own w' base v ((l ++ [97, 100, 108, 1]) ++ be4 s) ∧ Below base w w' := by
  have hs' : s < 4294967296 := by have := hr.2.1; have := hr.2.2; omega
  obtain ⟨i, hi, hzz⟩ := Option.map_eq_some_iff.1 Try.infoByte
  simp only [Prod.mk.injEq] at hzz
  obtain ⟨hz, hsz, hby⟩ := hzz
  have HO := Lib.hid ho
  have HR := Lib.hid hr
  clear ho hr
  unfold hp
  go_enter Try.func143, Try.ntmps143
  go_wp2_with (at_builtin; refine Lib.wpList_append_own_string _ (o := ⟨some 7, _, _, _, _, _⟩) rfl _ _ 22 9 rfl base 5 i Try.underlying22 Try.underlying9 hi hz hsz hby sv l.length (bv l) rfl HO.out.1 ⟨#[97, 100, 108, 1]⟩ rfl (by unfold maxLen; have : (⟨#[97, 100, 108, 1]⟩ : ByteArray).size = 4 := rfl; omega) (by have : (⟨#[97, 100, 108, 1]⟩ : ByteArray).size = 4 := rfl; omega) hB ?_)
  intro v1 w1 hown1 hg1 _
  have ho1 : Own w1 base v1 (l ++ [97, 100, 108, 1]) := own_magic HO.out.2 (by decide) rfl rfl hown1
  have hb1 : Below base w w1 := (Below.refl _ _).grown hg1 hB HO.out.block
  have hr1 := HR.out.below hb1 hb
  have hc : w1.cell? ⟨b, 0, none⟩ = some (.int .u32 (s : Int)) := cell_of_one hr1.1
  have hsz1 := hb1.size
  have HO1 := Lib.hid ho1
  clear hown1 hg1 ho1 hr1
  go_wp2_with fail
  refine (beAppend32 s hs' w1 base v1 (l ++ [97, 100, 108, 1]) HO1.out (by omega) (by rw [List.length_append]; simp only [List.length_cons, List.length_nil]; omega)).mono ?_
  rintro e w2 ⟨v2, rfl, ho2, hb2⟩
  go_wp2
  exact bodyPost_ret (results_two rfl _ _ _) rfl ⟨v2, rfl, ho2, hb1.trans hb2⟩

theorem marshal (w : World) (b s : Nat) (hr : Rep kDigest w b s) : Calls Try.prog 137 #[hp b] w fun e w' => RetMarshal kDigest w s e w' := by
  have hmk : ∀ w : World, (Instr.makeSlice 22 (.int .i64 0) (.int .i64 8)).run Try.prog w = .ok (.slice (some ⟨w.heap.size, 0, none⟩) 0 8) (w.alloc (.cells #[.int .u8 0, .int .u8 0, .int .u8 0, .int .u8 0, .int .u8 0, .int .u8 0, .int .u8 0, .int .u8 0] 5)) := fun _ => by kernel_rfl
  have hlt := hr.lt
  have hb : Below w.heap.size w (w.alloc (.cells #[.int .u8 0, .int .u8 0, .int .u8 0, .int .u8 0, .int .u8 0, .int .u8 0, .int .u8 0, .int .u8 0] 5)) := (Below.refl _ _).alloc (Nat.le_refl _) _
  have hr1 := hr.below hb hlt
  have ho : Own (w.alloc (.cells #[.int .u8 0, .int .u8 0, .int .u8 0, .int .u8 0, .int .u8 0, .int .u8 0, .int .u8 0, .int .u8 0] 5)) w.heap.size (.slice (some ⟨w.heap.size, 0, none⟩) 0 8) [] := ⟨World.ownsRow_made w #[.int .u8 0, .int .u8 0, .int .u8 0, .int .u8 0, .int .u8 0, .int .u8 0, .int .u8 0, .int .u8 0] 8 (Nat.le_refl _) (by unfold maxLen; omega) rfl, by simp⟩
  have HO := Lib.hid ho
  have HR := Lib.hid hr1
  clear ho hr1 hr
  unfold hp
  go_enter Try.func137, Try.ntmps137
  go_wp2_with fail
  refine (appendBinary _ b s w.heap.size _ [] HR.out HO.out hlt (by simp) (by simp)).mono ?_
  rintro e w1 ⟨v1, rfl, ho1, hb1⟩
  go_wp2
  exact bodyPost_ret (results_two rfl _ _ _) rfl ⟨v1, rfl, ho1, hb.trans hb1⟩

set_option maxRecDepth 100000 in
theorem unmarshal (w : World) (b s s' : Nat) (A : Option Addr) (n c : Nat) (B : Nat) (hr : Rep kDigest w b s) (hl : BS w B A n ([97, 100, 108, 1] ++ be4 s')) (hnc : n ≤ c) (hok : kDigest.ok s') :
    Calls Try.prog 141 #[hp b, .slice A n c] w fun e w' => RetUnmarshal kDigest w b s' e w' := by
  have hs' : s' < 4294967296 := by have := hok.1; have := hok.2; omega
  obtain rfl : 8 = n := hl.len
  obtain ⟨b1, o1, rfl, hb1, hl⟩ := hl.open_ (by omega)
  have hconv := Aid.run_str (P := Try.prog) (hl.take (k := 4) (by omega)) 22 9 5 c Try.underlying22 Try.underlying5 Try.underlying9
  have hm : Aid.strOf (List.take 4 (([97, 100, 108, 1] : List Nat) ++ be4 s')) = (⟨#[97, 100, 108, 1]⟩ : ByteArray) := rfl
  rw [hm] at hconv
  have hd := hl.drop (k := 4) (by omega)
  have hm2 : List.drop 4 (([97, 100, 108, 1] : List Nat) ++ be4 s') = be4 s' ++ [] := rfl
  rw [hm2] at hd
  clear hm hm2
  have hc := cell_of_one hr.1
  have hf := free_of_one hr.1
  have HR := Lib.hid hr
  have HD := Lib.hid hd
  have hne : decide (c = 4) = false := decide_eq_false (by omega)
  clear hr hl hd
  unfold hp
  go_enter Try.func141, Try.ntmps141
  go_wp2_with fail
  refine (beUint32 s' hs' [] w B b1 (o1 + 4) 4 (c - 4) (by omega) HD.out).mono ?_
  rintro e w1 ⟨rfl, k, rfl⟩
  go_wp2
  go_ret
  exact ⟨rfl, only_store ((Only.refl _ _).drewN k) _, one_setCell (w := w.drewN k) HR.out.1, hok⟩
end Digest

theorem goodDigest : Good Try.prog kDigest where
  init_ok := ⟨by decide, by decide⟩
  step_ok := Digest.step_ok
  bytes_len _ := rfl
  bytes_lt s h := PlainHash.be4_lt s (by have := h.1; have := h.2; omega)
  bytes_inj s t h h' := PlainHash.be4_inj s t (by have := h.1; have := h.2; omega) (by have := h'.1; have := h'.2; omega)
  magic_len := rfl
  magic_lt := by decide
  size_le := by decide
  block_le := by decide
  write w b s A n c l B hr hl _ hn hm := Digest.write w b s A n c l B hr hl hn hm
  sum w b s base sv l hr ho _ hB hn := Digest.sum w b s base sv l hr ho hB hn
  reset := Digest.reset
  size_ := Digest.size_
  block_ := Digest.block_
  clone := Digest.clone
  marshal := Digest.marshal
  unmarshal w b s s' A n c B hr hl hnc _ hs := Digest.unmarshal w b s s' A n c B hr hl hnc hs

end Go.Proofs.Ytdpjdglcienbfaa

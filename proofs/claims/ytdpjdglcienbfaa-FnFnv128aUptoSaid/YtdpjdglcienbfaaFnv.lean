/-
  The walk of spec.Fnv at the six kinds of FNV: the bytes of the plain hash. Conditions: the data read as a list.
-/
import Derived.Test.YtdpjdglcienbfaaFnvPlain
import Derived.Test.YtdpjdglcienbfaaImplHash
import Derived.Test.YtdpjdglcienbfaaBoth
namespace Go.Proofs.Ytdpjdglcienbfaa
open Go.RowKit
open PlainTimes (lev)
open PlainHash (be4 be8 be16 f1 f1a)

/-- A kind whose state is a number of n bytes. -/
structure FK (K : Kind) (n : Nat) : Prop where
  pos : 0 < n
  le : n ≤ 16
  len : ∀ s, (K.bytes s).length = n
  lt : ∀ s, s < 256 ^ n → ∀ x ∈ K.bytes s, x < 256
  num : ∀ s, s < 256 ^ n → lev n (fl (K.bytes s)) n = s

theorem FK.of_lev {K : Kind} {n : Nat} (F : FK K n) {l : List Nat} {X : Nat} (hl : l.length = n) (hb : ∀ x ∈ l, x < 256) (h : lev n (fl l) n = X % 256 ^ n) : l = K.bytes (X % 256 ^ n) := by
  have hX : X % 256 ^ n < 256 ^ n := Nat.mod_lt _ (Nat.pow_pos (by decide))
  exact list_of_lev hl (F.len _) hb (F.lt _ hX) (by rw [h, F.num _ hX])
theorem xor_split (a b c : Nat) (hb : b < 256) (hc : c < 256) : (a * 256 + b) ^^^ c = a * 256 + (b ^^^ c) := by
  have hx : b ^^^ c < 2 ^ 8 := Nat.xor_lt_two_pow hb hc
  have h1 : ((a * 256 + b) ^^^ c) / 2 ^ 8 = a := by
    rw [Nat.xor_div_two_pow]
    have e1 : (a * 256 + b) / 2 ^ 8 = a := by omega
    have e2 : c / 2 ^ 8 = 0 := by omega
    rw [e1, e2, Nat.xor_zero]
  have h2 : ((a * 256 + b) ^^^ c) % 2 ^ 8 = b ^^^ c := by
    rw [Nat.xor_mod_two_pow]
    have e1 : (a * 256 + b) % 2 ^ 8 = b := by omega
    have e2 : c % 2 ^ 8 = c := by omega
    rw [e1, e2]
  omega
theorem lev_one (n : Nat) (f : Nat → Nat) (hf : ∀ p, f p < 256) : ∀ m, 0 < m → lev n f m % 256 = f (n - 1) := by
  intro m
  induction m with
  | zero => intro h; omega
  | succ m ih =>
    intro _
    simp only [lev]
    by_cases e : m = 0
    · subst e
      have := hf (n - 1)
      simp only [lev, Nat.pow_zero, Nat.sub_zero]
      omega
    · obtain ⟨k, rfl⟩ : ∃ k, m = k + 1 := ⟨m - 1, by omega⟩
      rw [Nat.pow_succ, ← Nat.mul_assoc, Nat.add_mul_mod_self_right]
      exact ih (by omega)
/-- A byte joined to the lowest one. -/
theorem FK.xor {K : Kind} {n : Nat} (F : FK K n) {s c : Nat} (hs : s < 256 ^ n) (hc : c < 256) (hx : s ^^^ c < 256 ^ n) : (K.bytes s).set (n - 1) ((K.bytes s).getD (n - 1) 0 ^^^ c) = K.bytes (s ^^^ c) := by
  have hpos := F.pos
  have hlen := F.len s
  have hlt := F.lt s hs
  have hlast : (K.bytes s).getD (n - 1) 0 = s % 256 := by
    have := lev_one n (fl (K.bytes s)) (fun p => getD_lt hlt p) n hpos
    rw [F.num s hs] at this
    exact this.symm
  have hxb : s % 256 ^^^ c < 256 := Nat.xor_lt_two_pow (n := 8) (by omega) hc
  refine list_of_lev (n := n) (by simpa using hlen) (F.len _) (fun x hx' => ?_) (F.lt _ hx) ?_
  · rcases List.mem_or_eq_of_mem_set hx' with h | h
    · exact hlt x h
    · rw [h, hlast]; exact hxb
  · rw [F.num _ hx, hlast]
    have hset := PlainTimes.lev_set n (fl (K.bytes s)) (fl ((K.bytes s).set (n - 1) (s % 256 ^^^ c))) 0 (s % 256 ^^^ c)
      (by unfold fl; rw [List.getD_eq_getElem?_getD, Nat.sub_zero, List.getElem?_set_self (by omega)]; rfl)
      (fun p hp => by unfold fl; rw [List.getD_eq_getElem?_getD, List.getD_eq_getElem?_getD, List.getElem?_set_ne (by omega)]) n hpos (Nat.le_refl _)
    rw [F.num s hs, Nat.pow_zero, Nat.mul_one, Nat.mul_one, Nat.sub_zero] at hset
    have hl2 : fl (K.bytes s) (n - 1) = s % 256 := hlast
    rw [hl2] at hset
    have hsp := xor_split (s / 256) (s % 256) c (by omega) hc
    rw [show s / 256 * 256 + s % 256 = s by omega] at hsp
    omega

theorem own_lit (w : World) (l : List Nat) (h : ∀ x ∈ l, x < 256) (hn : l.length ≤ 1000) : Own (w.alloc (.cells (bv l).toArray 5)) w.heap.size (.slice (some ⟨w.heap.size, 0, none⟩) l.length l.length) l := by
  have := row_lit w (bv l).toArray 5 w.heap.size l.length 1 (by simp [bv_length]) (Nat.le_refl _) (by unfold maxLen; omega)
  exact ⟨by simpa using this, h⟩
set_option maxRecDepth 100000 in
theorem basis32 (w : World) : Calls Try.prog 52 #[.int .i64 32] w fun e w' => RetOwn w [129, 28, 157, 197] e w' := by
  go_enter Try.func52, Try.ntmps52
  go_wp2
  go_ret
  exact ⟨_, rfl, own_lit w [129, 28, 157, 197] (by decide) (by decide), (Below.refl _ _).alloc (Nat.le_refl _) _⟩
set_option maxRecDepth 100000 in
theorem basis64 (w : World) : Calls Try.prog 52 #[.int .i64 64] w fun e w' => RetOwn w [203, 242, 156, 228, 132, 34, 35, 37] e w' := by
  go_enter Try.func52, Try.ntmps52
  go_wp2
  go_ret
  exact ⟨_, rfl, own_lit w [203, 242, 156, 228, 132, 34, 35, 37] (by decide) (by decide), (Below.refl _ _).alloc (Nat.le_refl _) _⟩
set_option maxRecDepth 100000 in
theorem basis128 (w : World) : Calls Try.prog 52 #[.int .i64 128] w fun e w' => RetOwn w [108, 98, 39, 46, 7, 187, 1, 66, 98, 184, 33, 117, 98, 149, 197, 141] e w' := by
  go_enter Try.func52, Try.ntmps52
  go_wp2
  go_ret
  exact ⟨_, rfl, own_lit w [108, 98, 39, 46, 7, 187, 1, 66, 98, 184, 33, 117, 98, 149, 197, 141] (by decide) (by decide), (Below.refl _ _).alloc (Nat.le_refl _) _⟩
set_option maxRecDepth 100000 in
theorem prime32 (w : World) : Calls Try.prog 54 #[.int .i64 32] w fun e w' => RetOwn w [1, 0, 1, 147] e w' := by
  go_enter Try.func54, Try.ntmps54
  go_wp2
  go_ret
  exact ⟨_, rfl, own_lit w [1, 0, 1, 147] (by decide) (by decide), (Below.refl _ _).alloc (Nat.le_refl _) _⟩
set_option maxRecDepth 100000 in
theorem prime64 (w : World) : Calls Try.prog 54 #[.int .i64 64] w fun e w' => RetOwn w [0, 0, 1, 0, 0, 0, 1, 179] e w' := by
  go_enter Try.func54, Try.ntmps54
  go_wp2
  go_ret
  exact ⟨_, rfl, own_lit w [0, 0, 1, 0, 0, 0, 1, 179] (by decide) (by decide), (Below.refl _ _).alloc (Nat.le_refl _) _⟩
set_option maxRecDepth 100000 in
theorem prime128 (w : World) : Calls Try.prog 54 #[.int .i64 128] w fun e w' => RetOwn w [0, 0, 0, 0, 1, 0, 0, 0, 0, 0, 0, 0, 0, 0, 1, 59] e w' := by
  go_enter Try.func54, Try.ntmps54
  go_wp2
  go_ret
  exact ⟨_, rfl, own_lit w [0, 0, 0, 0, 1, 0, 0, 0, 0, 0, 0, 0, 0, 0, 1, 59] (by decide) (by decide), (Below.refl _ _).alloc (Nat.le_refl _) _⟩

theorem heap_set {w : World} {b : Nat} {cs : Array Value} {t : TypeId} (h : w.heap[b]? = some (.cells cs t (0, 0))) (i : Nat) (v : Value) : (w.setCell ⟨b, i, none⟩ v).heap[b]? = some (.cells (cs.setIfInBounds i v) t (0, 0)) := by
  have hlt := lt_of_block h
  have h' : w.heap[b] = .cells cs t (0, 0) := by simpa [Array.getElem?_eq_getElem hlt] using h
  show (w.heap.modify b _)[b]? = _
  rw [Array.getElem?_eq_getElem (by simpa using hlt), Array.getElem_modify_self, h']
  rfl
/-- A byte stored into a row of the call's own. -/
theorem Own.store {w : World} {base g n c : Nat} {l : List Nat} (h : Own w base (.slice (some ⟨g, 0, none⟩) n c) l) {i x : Nat} (hx : x < 256) : Own (w.setCell ⟨g, i, none⟩ (.int .u8 (x : Int))) base (.slice (some ⟨g, 0, none⟩) n c) (l.set i x) := by
  obtain ⟨⟨h1, h2⟩, h3⟩ := h
  rcases h2 with ⟨e, _⟩ | ⟨g', cap, cur, e, hb, hg, hnc, hcm, hcs, htake⟩
  · cases e
  · injection e with e1 e2 e3
    injection e1 with e1
    injection e1 with e1
    subst e1
    subst e3
    refine ⟨⟨by simp [bv], .inr ⟨g, c, cur.setIfInBounds i (.int .u8 (x : Int)), ?_, hb, heap_set hg _ _, by simpa using hnc, hcm, by simpa using hcs, ?_⟩⟩, fun y hy => ?_⟩
    · rw [e2, List.length_set]
    · rw [List.length_set, Array.toList_setIfInBounds, List.take_set, htake]
      simp [bv]
    · rcases List.mem_or_eq_of_mem_set hy with hy | hy
      · exact h3 y hy
      · omega


theorem Own.openPos {w : World} {base n : Nat} {v : Value} {l : List Nat} (h : Own w base v l) (hl : l.length = n) (hn : 0 < n) : ∃ g c, v = .slice (some ⟨g, 0, none⟩) n c ∧ n ≤ c ∧ c ≤ maxLen ∧ base ≤ g ∧ g < w.heap.size ∧ (∀ i, i < n → w.cell? ⟨g, i, none⟩ = some (.int .u8 ((l.getD i 0 : Nat) : Int))) ∧ ∀ i, w.frozen? ⟨g, i, none⟩ = false := by
  subst hl
  rcases h.1.2 with ⟨_, hn0⟩ | ⟨g, cap, cur, rfl, hb, hg, hnc, hcm, hcs, htake⟩
  · omega
  · refine ⟨g, cap, rfl, hnc, hcm, hb, lt_of_block hg, fun i hi => ?_, fun i => by simp [World.frozen?, hg]⟩
    have := h.1.cells (g := g) rfl i _ (bv_at l i hi)
    rw [addr_add] at this
    simpa using this

structure FR (K : Kind) (n : Nat) (w : World) (data : List Nat) (wr : World) (k s : Nat) (v : Value) : Prop where
  kl : k ≤ data.length
  fold : (data.take k).foldl K.step K.init = s
  lt : s < 256 ^ n
  own : Own wr w.heap.size v (K.bytes s)
  bel : Below w.heap.size w wr
def FRel (K : Kind) (n : Nat) (w : World) (data : List Nat) (i h : Value) (wr : World) : Prop := ∃ k s, FR K n w data wr k s h ∧ i = .int .i64 (k : Int)

set_option maxRecDepth 100000 in
set_option maxHeartbeats 1000000 in
theorem fnv1_any (K : Kind) (n p : Nat) (sz : Int) (lp : List Nat) (F : FK K n) (hstep : ∀ s c, K.step s c = (s * p % 256 ^ n) ^^^ c) (hxor : ∀ s c, s < 256 ^ n → c < 256 → s ^^^ c < 256 ^ n) (hinit : K.init < 256 ^ n)
    (hbasis : ∀ w, Calls Try.prog 52 #[.int .i64 sz] w fun e w' => RetOwn w (K.bytes K.init) e w') (hprime : ∀ w, Calls Try.prog 54 #[.int .i64 sz] w fun e w' => RetOwn w lp e w')
    (hlp : lp.length = n) (hpv : lev n (fl lp) n = p) (A : Option Addr) (m c : Nat) (data : List Nat) (w : World) (B : Nat) (hB : B ≤ w.heap.size) (hm : m ≤ 9223372036854775807) (hd : BS w B A m data) :
    Calls Try.prog 46 #[.int .i64 sz, .bool false, .slice A m c] w fun e w' => RetOwn w (K.bytes (data.foldl K.step K.init)) e w' := by
  obtain rfl : data.length = m := hd.len
  have HF := Lib.hid F
  have HST := Lib.hid hstep
  have HX := Lib.hid hxor
  have HBA := Lib.hid hbasis
  have HPR := Lib.hid hprime
  have HLP := Lib.hid hlp
  have HPV := Lib.hid hpv
  have HI := Lib.hid hinit
  have hn0 := F.pos
  have hn16 := F.le
  clear F hstep hxor hbasis hprime hlp hpv hinit
  go_enter Try.func46, Try.ntmps46
  go_wp2_with fail
  refine (HBA.out w).mono ?_
  rintro e w1 ⟨v1, rfl, ho1, hb1⟩
  have HO1 := Lib.hid ho1
  clear ho1
  go_wp2
  go_loopw [14, 7] (fun i h wr => FRel K n w data i h wr) (fun i _ _ => data.length - (intOf i).toNat)
  case atStart => exact ⟨0, K.init, ⟨Nat.zero_le _, rfl, HI.out, HO1.out, hb1⟩, rfl⟩
  case round =>
    obtain ⟨k, s, ⟨hkl, hfold, hslt, hown, hbel⟩, rfl⟩ := hrel
    have HFO := Lib.hid hfold
    have HOW := Lib.hid hown
    have HSL := Lib.hid hslt
    have hsz := hbel.size
    clear hfold hslt
    by_cases hlt : k < data.length
    · obtain ⟨b1, o1, rfl, hb1', hd'⟩ := (hd.below (hbel.mono hB)).open_ (by omega)
      have cK := hd'.cell hlt
      have gK := getD_lt hd.lt k
      have HS := Lib.hid (foldl_take K.step K.init data k hlt)
      generalize data.getD k 0 = zk at *
      obtain ⟨Ah, ch, rfl, hch, hmh, hbsh⟩ := hown.at_ (HF.out.len s)
      have HBH := Lib.hid hbsh
      clear hown hbsh
      go_wp2_with fail
      refine (HPR.out wr).mono ?_
      rintro e w2 ⟨v2, rfl, ho2, hb2⟩
      obtain ⟨Ap, cp, rfl, hcp, hmp, hbsp⟩ := ho2.at_ HLP.out
      have hsz2 := hb2.size
      have HBP := Lib.hid hbsp
      clear ho2 hbsp
      go_wp2_with fail
      refine (times_any Ah n ch (K.bytes s) Ap cp lp w2 w2.heap.size (Nat.le_refl _) hn0 (by omega) ((HBH.out.below hb2).mono hsz2) HBP.out).mono ?_
      rintro e w3 ⟨v3, rfl, ⟨l3, ho3, hl3, hv3⟩, hb3⟩
      rw [HF.out.num s HSL.out, HPV.out] at hv3
      obtain rfl := HF.out.of_lev hl3 ho3.2 hv3
      have hXlt : s * p % 256 ^ n < 256 ^ n := Nat.mod_lt _ (Nat.pow_pos (by decide))
      obtain ⟨g3, c3, rfl, hc3, hm3, hg3, hg3s, hcl3, hfr3⟩ := ho3.openPos hl3 hn0
      have q1 := hcl3 (n - 1) (by omega)
      have q2 := hfr3 (n - 1)
      have glast := getD_lt ho3.2 (n - 1)
      have hxx := HF.out.xor hXlt gK (HX.out _ _ hXlt gK)
      have hx8 := u8_xor_nat ((K.bytes (s * p % 256 ^ n)).getD (n - 1) 0) zk glast gK
      have hxlt : (K.bytes (s * p % 256 ^ n)).getD (n - 1) 0 ^^^ zk < 256 := Nat.xor_lt_two_pow (n := 8) glast gK
      have hnext : (data.take (k + 1)).foldl K.step K.init = (s * p % 256 ^ n) ^^^ zk := by rw [HS.out, HFO.out, HST.out]
      have hb03 : Below w.heap.size w w3 := (hbel.trans (hb2.mono hsz)).trans (hb3.mono (by omega))
      have HB03 := Lib.hid hb03
      have HNX := Lib.hid hnext
      have HXL := Lib.hid (HX.out _ _ hXlt gK)
      have HXX := Lib.hid hxx
      have HX8 := Lib.hid hx8
      have HXT := Lib.hid hxlt
      have HO3 := Lib.hid ho3
      clear hcl3 hfr3 hxx hx8 hnext hv3 hl3 ho3 hb03 hXlt hxlt
      generalize (K.bytes (s * p % 256 ^ n)).getD (n - 1) 0 = lb at *
      go_wp2
      rw [HX8.out]
      refine ⟨⟨k + 1, _, ⟨by omega, HNX.out, HXL.out, ?_, (HB03.out.setCell (show w.heap.size ≤ g3 by omega) _)⟩, by simp⟩, by simp [intOf]; omega⟩
      rw [← HXX.out]
      exact (HO3.out.mono (by omega)).store HXT.out
    · obtain rfl : k = data.length := by omega
      have hfo := HFO.out
      rw [List.take_of_length_le (Nat.le_refl _)] at hfo
      have HFF := Lib.hid hfo
      clear hfo
      go_wp2
      go_ret
      rw [HFF.out]
      exact ⟨_, rfl, hown, hbel⟩

set_option maxRecDepth 100000 in
set_option maxHeartbeats 1000000 in
theorem fnv1a_any (K : Kind) (n p : Nat) (sz : Int) (lp : List Nat) (F : FK K n) (hstep : ∀ s c, K.step s c = (s ^^^ c) * p % 256 ^ n) (hxor : ∀ s c, s < 256 ^ n → c < 256 → s ^^^ c < 256 ^ n) (hinit : K.init < 256 ^ n)
    (hbasis : ∀ w, Calls Try.prog 52 #[.int .i64 sz] w fun e w' => RetOwn w (K.bytes K.init) e w') (hprime : ∀ w, Calls Try.prog 54 #[.int .i64 sz] w fun e w' => RetOwn w lp e w')
    (hlp : lp.length = n) (hpv : lev n (fl lp) n = p) (A : Option Addr) (m c : Nat) (data : List Nat) (w : World) (B : Nat) (hB : B ≤ w.heap.size) (hm : m ≤ 9223372036854775807) (hd : BS w B A m data) :
    Calls Try.prog 46 #[.int .i64 sz, .bool true, .slice A m c] w fun e w' => RetOwn w (K.bytes (data.foldl K.step K.init)) e w' := by
  obtain rfl : data.length = m := hd.len
  have HF := Lib.hid F
  have HST := Lib.hid hstep
  have HX := Lib.hid hxor
  have HBA := Lib.hid hbasis
  have HPR := Lib.hid hprime
  have HLP := Lib.hid hlp
  have HPV := Lib.hid hpv
  have HI := Lib.hid hinit
  have hn0 := F.pos
  have hn16 := F.le
  clear F hstep hxor hbasis hprime hlp hpv hinit
  go_enter Try.func46, Try.ntmps46
  go_wp2_with fail
  refine (HBA.out w).mono ?_
  rintro e w1 ⟨v1, rfl, ho1, hb1⟩
  have HO1 := Lib.hid ho1
  clear ho1
  go_wp2
  go_loopw [14, 7] (fun i h wr => FRel K n w data i h wr) (fun i _ _ => data.length - (intOf i).toNat)
  case atStart => exact ⟨0, K.init, ⟨Nat.zero_le _, rfl, HI.out, HO1.out, hb1⟩, rfl⟩
  case round =>
    obtain ⟨k, s, ⟨hkl, hfold, hslt, hown, hbel⟩, rfl⟩ := hrel
    have HFO := Lib.hid hfold
    have HOW := Lib.hid hown
    have HSL := Lib.hid hslt
    have hsz := hbel.size
    clear hfold hslt
    by_cases hlt : k < data.length
    · obtain ⟨b1, o1, rfl, hb1', hd'⟩ := (hd.below (hbel.mono hB)).open_ (by omega)
      have cK := hd'.cell hlt
      have gK := getD_lt hd.lt k
      have HS := Lib.hid (foldl_take K.step K.init data k hlt)
      generalize data.getD k 0 = zk at *
      obtain ⟨gh, ch, rfl, hch, hmh, hgh, hghs, hclh, hfrh⟩ := hown.openPos (HF.out.len s) hn0
      have q1 := hclh (n - 1) (by omega)
      have q2 := hfrh (n - 1)
      have glast := getD_lt hown.2 (n - 1)
      have hxlt0 := HX.out s zk HSL.out gK
      have hxx := HF.out.xor HSL.out gK hxlt0
      have hx8 := u8_xor_nat ((K.bytes s).getD (n - 1) 0) zk glast gK
      have hxlt : (K.bytes s).getD (n - 1) 0 ^^^ zk < 256 := Nat.xor_lt_two_pow (n := 8) glast gK
      have hnext : (data.take (k + 1)).foldl K.step K.init = (s ^^^ zk) * p % 256 ^ n := by rw [HS.out, HFO.out, HST.out]
      have HNX := Lib.hid hnext
      have HXX := Lib.hid hxx
      have HX8 := Lib.hid hx8
      have HXT := Lib.hid hxlt
      have HX0 := Lib.hid hxlt0
      clear hclh hfrh hxx hx8 hnext hxlt hxlt0 hown
      generalize (K.bytes s).getD (n - 1) 0 = lb at *
      go_wp2_with fail
      rw [HX8.out]
      have hoS := HOW.out.store (i := n - 1) HXT.out
      rw [HXX.out] at hoS
      have hbS : Below w.heap.size w (wr.setCell ⟨gh, n - 1, none⟩ (.int .u8 (((lb ^^^ zk : Nat)) : Int))) := hbel.setCell (show w.heap.size ≤ gh by omega) _
      have hsS : (wr.setCell ⟨gh, n - 1, none⟩ (.int .u8 (((lb ^^^ zk : Nat)) : Int))).heap.size = wr.heap.size := by simp [World.setCell]
      generalize wr.setCell ⟨gh, n - 1, none⟩ (.int .u8 (((lb ^^^ zk : Nat)) : Int)) = wS at *
      obtain ⟨Ah, ch2, eAh, _, _, hbsh⟩ := hoS.at_ (HF.out.len _)
      injection eAh with eAh1 eAh2 eAh3
      subst eAh1
      have HBH := Lib.hid hbsh
      have hszS := hbS.size
      clear hoS hbsh hsS
      refine (HPR.out wS).mono ?_
      rintro e w2 ⟨v2, rfl, ho2, hb2⟩
      obtain ⟨Ap, cp, rfl, hcp, hmp, hbsp⟩ := ho2.at_ HLP.out
      have hsz2 := hb2.size
      have HBP := Lib.hid hbsp
      clear ho2 hbsp
      go_wp2_with fail
      refine (times_any _ n _ (K.bytes (s ^^^ zk)) Ap cp lp w2 w2.heap.size (Nat.le_refl _) hn0 (by omega) ((HBH.out.below hb2).mono hsz2) HBP.out).mono ?_
      rintro e w3 ⟨v3, rfl, ⟨l3, ho3, hl3, hv3⟩, hb3⟩
      rw [HF.out.num _ HX0.out, HPV.out] at hv3
      obtain rfl := HF.out.of_lev hl3 ho3.2 hv3
      have hXlt : (s ^^^ zk) * p % 256 ^ n < 256 ^ n := Nat.mod_lt _ (Nat.pow_pos (by decide))
      have hb03 : Below w.heap.size w w3 := (hbS.trans (hb2.mono hszS)).trans (hb3.mono (by omega))
      have HB03 := Lib.hid hb03
      have HXL := Lib.hid hXlt
      have HO3 := Lib.hid (ho3.mono (base' := w.heap.size) (by omega))
      clear hv3 hl3 ho3 hb03 hXlt
      go_wp2
      exact ⟨⟨k + 1, _, ⟨by omega, HNX.out, HXL.out, HO3.out, HB03.out⟩, by simp⟩, by simp [intOf]; omega⟩
    · obtain rfl : k = data.length := by omega
      have hfo := HFO.out
      rw [List.take_of_length_le (Nat.le_refl _)] at hfo
      have HFF := Lib.hid hfo
      clear hfo
      go_wp2
      go_ret
      rw [HFF.out]
      exact ⟨_, rfl, hown, hbel⟩


end Go.Proofs.Ytdpjdglcienbfaa

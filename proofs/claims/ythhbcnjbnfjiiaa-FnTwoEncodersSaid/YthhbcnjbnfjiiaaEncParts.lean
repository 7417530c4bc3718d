/-
  The walk of impl.EncodeParts: the text of all parts behind each other. Conditions: the argument reads as a list of at most 2^30 lists with at most 2^40 bytes in all.
-/
import Derived.Test.YthhbcnjbnfjiiaaEncAll
import Derived.Test.YthhbcnjbnfjiiaaEncNew
import Derived.Test.YthhbcnjbnfjiiaaBufBytes
import Derived.Test.YthhbcnjbnfjiiaaParts
import Derived.Test.YthhbcnjbnfjiiaaStepApp
namespace Go.Proofs.Ythhbcnjbnfjiiaa
open Go.RowKit
open Plain85 (enc)

theorem ew_find (a : Addr) (w : World) : (Go.method 181 52 (.pointer (some a)) "Write").run Try.prog w = .ok (50, .pointer (some a)) w := by kernel_rfl
theorem ew_ahead (a : Addr) (w : World) : (Go.nilAhead 181 52 (.pointer (some a)) "Write").run Try.prog w = .ok (some false) w := by kernel_rfl
theorem ew_enter (args : Array Value) (w : World) : (callFunc 50 args).run Try.prog w = .ok (.enter 50 args) w := entersB Try.func50 (by kernel_rfl) rfl args w
theorem ec_find (a : Addr) (w : World) : (Go.method 181 52 (.pointer (some a)) "Close").run Try.prog w = .ok (49, .pointer (some a)) w := by kernel_rfl
theorem ec_ahead (a : Addr) (w : World) : (Go.nilAhead 181 52 (.pointer (some a)) "Close").run Try.prog w = .ok (some false) w := by kernel_rfl
theorem ec_enter (args : Array Value) (w : World) : (callFunc 49 args).run Try.prog w = .ok (.enter 49 args) w := entersB Try.func49 (by kernel_rfl) rfl args w

structure PtR (w : World) (L : List (List Nat)) (n : Nat) (wr : World) (k : Nat) : Prop where
  kn : k ≤ n
  str : Str wr w.heap.size (w.heap.size + 1) w.heap.size (L.take k).flatten
  bel : Below w.heap.size w wr
def PtRel (w : World) (L : List (List Nat)) (n : Nat) (i : Value) (wr : World) : Prop := ∃ k, PtR w L n wr k ∧ i = .int .i64 (k : Int)
set_option maxHeartbeats 4000000 in
set_option maxRecDepth 100000 in
theorem encodeParts_any (A : Option Addr) (n c : Nat) (L : List (List Nat)) (w : World) (hL : RS2 w w.heap.size A n L) (hn : n ≤ 1073741824) (hs : L.flatten.length ≤ 1099511627776) :
    Calls Try.prog 14 #[.slice A n c] w fun e w' => RetOwn w (enc L.flatten) e w' := by
  have hLn := hL.len
  have hst : Str ((w.alloc (.cells #[.slice none 0 0, .int .i64 0, .int .i8 0] 37)).alloc (.cells (encZ.setIfInBounds 1 (.iface 33 (.pointer (some ⟨w.heap.size, 0, none⟩)))) 56)) w.heap.size (w.heap.size + 1) w.heap.size ([] : List (List Nat)).flatten := by
    obtain ⟨f, hE⟩ := enc_new w.heap.size (w.alloc (.cells #[.slice none 0 0, .int .i64 0, .int .i8 0] 37))
    have hsz : (w.alloc (.cells #[.slice none 0 0, .int .i64 0, .int .i8 0] 37)).heap.size = w.heap.size + 1 := by simp
    rw [hsz] at hE
    have hb : Buf (w.alloc (.cells #[.slice none 0 0, .int .i64 0, .int .i8 0] 37)) w.heap.size w.heap.size none 0 0 0 [] := ⟨rfl, _root_.Go.heap_alloc_new w _, Own.nil _ _, by simp [Value.ownBlock], Nat.le_refl _⟩
    exact ⟨0, f, none, 0, 0, 0, by simpa using hE, by simp, by simp, ⟨0, by simp⟩, by simpa [Plain85.enc_nil] using hb.below ((Below.refl _ _).alloc (Nat.le_refl _) _)⟩
  have hbel : Below w.heap.size w ((w.alloc (.cells #[.slice none 0 0, .int .i64 0, .int .i8 0] 37)).alloc (.cells (encZ.setIfInBounds 1 (.iface 33 (.pointer (some ⟨w.heap.size, 0, none⟩)))) 56)) := ((Below.refl _ _).alloc (Nat.le_refl _) _).alloc (by simp) _
  have HST0 := Lib.hid hst
  have HBEL0 := Lib.hid hbel
  have HL := Lib.hid hL
  clear hst hbel hL
  go_enter Try.func14, Try.ntmps14
  go_wp2_with fail
  refine (newEnc w.heap.size _).mono ?_
  rintro e w1 ⟨rfl, hw1⟩
  rw [← hw1] at HST0 HBEL0
  have hsz : (w.alloc (.cells #[.slice none 0 0, .int .i64 0, .int .i8 0] 37)).heap.size = w.heap.size + 1 := by simp
  rw [hsz]
  clear hw1 hsz
  go_wp2
  go_loopw [14] (fun i wr => PtRel w L n i wr) (fun i _ => n - (intOf i).toNat)
  case atStart => exact ⟨0, ⟨Nat.zero_le _, HST0.out, HBEL0.out⟩, rfl⟩
  case round =>
    obtain ⟨k, hR, rfl⟩ := hrel
    have hkn := hR.kn
    have hBr := hR.bel.size
    have HBEL := Lib.hid hR.bel
    have HST := Lib.hid hR.str
    clear hR
    by_cases hlt : k < n
    · obtain ⟨g, o, rfl, hg, hsp⟩ := (HL.out.below HBEL.out).spot (by omega)
      obtain ⟨Ai, ni, ci, cK, hbk, hnc, hcm⟩ := hsp k hlt
      obtain ⟨lk, hlk⟩ : ∃ lk, L.getD k [] = lk := ⟨_, rfl⟩
      rw [hlk] at hbk
      have hfl : (L.take k).flatten.length + lk.length ≤ 1099511627776 := by
        have := flat_take_le L k (by omega)
        rw [hlk] at this
        omega
      have hni : ni ≤ 1099511627776 := by have := hbk.len; omega
      have HBK := Lib.hid hbk
      have HLK := Lib.hid hbk.len
      have HFL := Lib.hid (show (L.take (k + 1)).flatten = (L.take k).flatten ++ lk by rw [flat_take L k (by omega), hlk])
      have m1 := ew_find ⟨w.heap.size + 1, 0, none⟩
      have m2 := ew_enter
      have m3 := ew_ahead ⟨w.heap.size + 1, 0, none⟩
      clear hsp hbk hlk
      go_wp2_with fail
      refine wp_region_held_drew (S := fun _ => True) (by kernel_rfl) trivial (fun hHeld => ?_)
      refine wpAnyH_take (i := 0) (oi := ⟨some 18, _, _, _, _, _⟩) (v := ?_) rfl (by kernel_rfl) (by kernel_rfl) (by kernel_rfl) (fun _ _ _ h => h) (Or.inl ⟨by rfl, ?_⟩) hHeld ?_
      rotate_left
      · intro W hW; go_simp <;> with_reducible rfl
      simp only [Act.put, List.setIfInBounds_toArray, List.set_cons_zero, List.set_cons_succ]
      refine wpAnyH_take (i := 2) (oi := ⟨some 20, _, _, _, _, _⟩) (v := ?_) rfl (by kernel_rfl) (by kernel_rfl) (by kernel_rfl) (fun _ _ _ h => h) (Or.inl ⟨by rfl, ?_⟩) hHeld ?_
      rotate_left
      · intro W hW; go_simp <;> with_reducible rfl
      simp only [Act.put, List.setIfInBounds_toArray, List.set_cons_zero, List.set_cons_succ]
      refine wpAnyH_take (i := 4) (oi := ⟨some 22, _, _, _, _, _⟩) (v := ?_) rfl (by kernel_rfl) (by kernel_rfl) (by kernel_rfl) (fun _ _ _ h => h) (Or.inl ⟨by rfl, ?_⟩) hHeld ?_
      rotate_left
      · intro W hW; go_simp <;> with_reducible rfl
      simp only [Act.put, List.setIfInBounds_toArray, List.set_cons_zero, List.set_cons_succ]
      refine wpAnyH_take (i := 5) (oi := ⟨some 23, _, _, _, _, _⟩) (v := ?_) rfl (by kernel_rfl) (by kernel_rfl) (by kernel_rfl) (fun _ _ _ h => h) (Or.inl ⟨by rfl, ?_⟩) hHeld ?_
      rotate_left
      · intro W hW; go_simp <;> with_reducible rfl
      simp only [Act.put, List.setIfInBounds_toArray, List.set_cons_zero, List.set_cons_succ]
      refine wpAnyH_take (i := 6) (oi := ⟨some 24, _, _, _, _, _⟩) (v := ?_) rfl (by kernel_rfl) (by kernel_rfl) (by kernel_rfl) (fun _ _ _ h => h) (Or.inl ⟨by rfl, ?_⟩) hHeld ?_
      rotate_left
      · intro W hW; go_simp <;> with_reducible rfl
      simp only [Act.put, List.setIfInBounds_toArray, List.set_cons_zero, List.set_cons_succ]
      refine wpAnyH_ready (rs := [1]) (by kernel_rfl) (by simp) (AllReadyH.cons rfl (fun K1 hK1 => ?_) AllReadyH.nil)
      go_simp
      refine hK1.out _ _ trivial (fun hHeld => ?_)
      clear hK1 K1
      have HO := Lib.hid (Own.empty wr.drew)
      have HSR := Lib.hid ((HBK.out.drew).alloc (show w.heap.size ≤ wr.drew.heap.size from hBr) (.cells #[] 5))
      refine wpAnyH_ready (rs := [3]) (by kernel_rfl) (by simp) (AllReadyH.cons rfl (fun K1 hK1 => ?_) AllReadyH.nil)
      refine step_append_bytes rfl _ _ rfl wr.heap.size (.slice (some ⟨wr.heap.size, 0, none⟩) 0 0) [] rfl HO.out w.heap.size Ai ni ci lk rfl HSR.out (by simp; omega) (by simp) ?_
      intro v2 w2 ho2 hg2 _
      obtain ⟨A2, c2, rfl, hc2, hm2, hbs2⟩ := ho2.at_ (n := ni) (by simpa using HLK.out)
      have hdr : wr.drew.heap.size = wr.heap.size := rfl
      have hb2 : Below wr.heap.size wr w2 := ((((Below.refl _ _).drew).alloc (Nat.le_refl _) _)).grown hg2 (by simp) (fun k hk => by simp [Value.ownBlock] at hk; omega)
      have ha2 : 0 < ni → ∃ bp off, A2 = some ⟨bp, off, none⟩ ∧ wr.heap.size ≤ bp := by
        intro h0
        obtain ⟨bp, off, e, _, _⟩ := hbs2.spot h0
        subst e
        exact ⟨bp, off, rfl, ho2.block bp rfl⟩
      have HA2 := Lib.hid ha2
      have HB2 := Lib.hid hb2
      have HBS2 := Lib.hid hbs2
      refine hK1.out _ _ trivial (fun hHeld => ?_)
      clear hK1 K1 hg2 ha2 hb2 hbs2 ho2 hdr
      refine wpAnyH_ready (rs := [7]) (by kernel_rfl) (by simp) (AllReadyH.cons rfl (fun K1 hK1 => ?_) AllReadyH.nil)
      go_simp
      refine (write_any wr w2 w.heap.size (w.heap.size + 1) w.heap.size (L.take k).flatten lk A2 ni c2 HST.out HB2.out HBS2.out HA2.out hc2 hm2 (by omega) (by omega) hBr (by omega)).mono ?_
      rintro e w3 ⟨zz, rfl, hS3, hb3⟩
      have HS3 := Lib.hid hS3
      have HB3 := Lib.hid hb3
      refine hK1.out _ _ trivial (fun hHeld => ?_)
      clear hK1 K1 hS3 hb3
      refine wpAnyH_done (by kernel_rfl) ?_ _
      go_wp2
      have hb3 : Below w.heap.size w w3 := HBEL.out.trans ((HB2.out.mono hBr).trans HB3.out)
      exact ⟨⟨k + 1, ⟨hlt, by rw [HFL.out]; exact HS3.out, hb3⟩, by simp⟩, by simp [intOf]; omega⟩
    · obtain rfl : k = n := by omega
      have m1 := ec_find ⟨w.heap.size + 1, 0, none⟩
      have m2 := ec_enter
      have m3 := ec_ahead ⟨w.heap.size + 1, 0, none⟩
      have hfl : (L.take k).flatten = L.flatten := by rw [List.take_of_length_le (by omega)]
      have hst := HST.out
      rw [hfl] at hst
      have HST2 := Lib.hid hst
      clear hst hfl
      go_wp2_with fail
      refine (close_any wr w.heap.size (w.heap.size + 1) w.heap.size L.flatten HST2.out (by omega) (by omega) hBr hs).mono ?_
      rintro e w4 ⟨rfl, A4, m4, cap4, lr4, hbuf4, hbel4⟩
      have HBUF4 := Lib.hid (hbuf4.below ((Below.refl w4.heap.size w4).alloc (Nat.le_refl _) (.cells #[] 5)))
      have HBEL4 := Lib.hid hbel4
      clear hbuf4 hbel4
      go_wp2_with fail
      refine (bufBytes w.heap.size w.heap.size A4 m4 cap4 lr4 (enc L.flatten) _ HBUF4.out).mono ?_
      rintro e w5 ⟨rfl, kd, rfl⟩
      obtain ⟨A5, c5, e5, _, _, hbs5⟩ := HBUF4.out.own.at_ HBUF4.out.len
      injection e5 with e51 _ e53
      subst e51 e53
      have hsm : m4 ≤ 3298534883328 := by
        have h1 := Plain85.enc_le L.flatten
        have h2 := HBUF4.out.len
        omega
      have hsz5 := HBEL4.out.size
      have HO5 := Lib.hid (show Own ((w4.alloc (.cells #[] 5)).drewN kd) w4.heap.size (.slice (some ⟨w4.heap.size, 0, none⟩) 0 0) [] from Own.empty w4)
      have HBS5 := Lib.hid (hbs5.drewN kd)
      clear hbs5
      go_wp2_with (at_builtin; refine wpList_append_bytes _ (o := ⟨some 32, _, _, _, _, _⟩) rfl _ _ rfl w4.heap.size _ [] rfl HO5.out _ A4 m4 cap4 (enc L.flatten) rfl HBS5.out (by simp; omega) (by simp) ?_)
      intro v6 w6 hown6 hg6 _
      have hb6 : Below w4.heap.size w4 w6 := (show Below w4.heap.size w4 ((w4.alloc (.cells #[] 5)).drewN kd) from ⟨rfl, rfl, rfl, by simp, ((Below.refl w4.heap.size w4).alloc (Nat.le_refl _) (.cells #[] 5)).block⟩).grown hg6 (by simp) (fun k hk => by simp [Value.ownBlock] at hk; omega)
      have HOWN6 := Lib.hid (hown6.mono (base' := w.heap.size) (Nat.le_trans hBr hsz5))
      have HB6 := Lib.hid (HBEL.out.trans (HBEL4.out.trans (hb6.mono (Nat.le_trans hBr hsz5))))
      clear hown6 hg6 hb6
      go_wp2
      go_ret
      exact ⟨v6, rfl, by simpa using HOWN6.out, HB6.out⟩

end Go.Proofs.Ythhbcnjbnfjiiaa

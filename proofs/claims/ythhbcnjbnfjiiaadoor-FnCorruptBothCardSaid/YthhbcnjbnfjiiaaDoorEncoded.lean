/-
  The walk of spec.Encoded: the text of the bytes. Conditions: the argument reads as a list of at most 2^47 - 4096 bytes.
-/
import Derived.Test.YthhbcnjbnfjiiaaDoorSpec85
namespace Go.Proofs.YthhbcnjbnfjiiaaDoor
open Go.RowKit
open Plain85 (enc grp digits num4)

def EcdRel (w : World) (B : Nat) (l : List Nat) (src out : Value) (wr : World) : Prop :=
  ∃ (pre r : List Nat) (A' : Option Addr) (c' k : Nat), pre ++ r = l ∧ pre.length = 4 * k ∧ r.length ≤ c' ∧ c' ≤ 9223372036854775807 ∧ BS w B A' r.length r ∧ src = .slice A' r.length c' ∧
    Own wr w.heap.size out (enc pre) ∧ Below w.heap.size w wr

theorem enc_rest_eq (r : List Nat) (h0 : 0 < r.length) (h4 : r.length < 4) : enc r = (digits (num ((r ++ [0, 0, 0]).take 4))).take (r.length + 1) := by
  match r, h0, h4 with
  | [a], _, _ => show _ = (digits (num [a, 0, 0, 0])).take 2; rw [num_num4]; rfl
  | [a, b], _, _ => show _ = (digits (num [a, b, 0, 0])).take 3; rw [num_num4]; rfl
  | [a, b, c], _, _ => show _ = (digits (num [a, b, c, 0])).take 4; rw [num_num4]; rfl

set_option maxRecDepth 100000 in
set_option maxHeartbeats 1000000 in
theorem encoded_any (A : Option Addr) (n c : Nat) (l : List Nat) (w : World) (B : Nat) (hB : B ≤ w.heap.size) (hc : n ≤ c) (hm : c ≤ maxLen) (hn : n ≤ 140737488351232) (hl : BS w B A n l) :
    Calls Tryd.prog 17 #[.slice A n c] w fun e w' => RetOwn w (enc l) e w' := by
  unfold maxLen at hm
  obtain rfl : l.length = n := hl.len
  go_enter Tryd.func17, Tryd.ntmps17
  go_wp2_with fail
  go_loopw [0, 3] (fun src out wr => EcdRel w B l src out wr) (fun src _ _ => slenE src)
  case atStart => exact ⟨[], l, A, c, 0, rfl, rfl, hc, hm, hl, rfl, Own.empty w, (Below.refl _ _).alloc (Nat.le_refl _) _⟩
  case round =>
    obtain ⟨pre, r, A', c', k, hsp, hpk, hrc, hcm, hbs, rfl, hown, hbel⟩ := hrel
    have hle := Plain85.enc_le pre
    have hlen := congrArg List.length hsp
    rw [List.length_append] at hlen
    have hL : (enc pre).length + 5 ≤ 175921860444160 := by omega
    have HSP := Lib.hid hsp
    have HPK := Lib.hid hpk
    have HLEN := Lib.hid hlen
    have hsz := hbel.size
    have HBL := Lib.hid hown.block
    have hbs' := hbs.below (hbel.mono hB)
    clear hsp hpk hlen hle
    by_cases h4 : 4 ≤ r.length
    · obtain ⟨x0, x1, x2, x3, r2, rfl⟩ := Plain85.four_of r h4
      obtain ⟨b, o, rfl, hbB, hbs⟩ := hbs.open_ (by omega)
      have hb4 := hbs'.take (k := 4) (by simp)
      simp only [List.take_succ_cons, List.take_zero] at hb4
      have henc : enc (pre ++ [x0, x1, x2, x3]) = enc pre ++ grp (num4 x0 x1 x2 x3) := by rw [Plain85.enc_append k _ _ HPK.out, Plain85.enc_four]; simp [enc]
      have hsplit : (pre ++ [x0, x1, x2, x3]) ++ r2 = l := by rw [← HSP.out]; simp
      have HENC := Lib.hid henc
      have HSPLIT := Lib.hid hsplit
      clear henc hsplit
      simp only [List.length_cons] at hrc
      go_wp2_with fail
      refine (number_any _ 4 c' [x0, x1, x2, x3] wr B (by omega) hb4).mono ?_
      rintro e w' ⟨rfl, rfl⟩
      rw [num_num4]
      by_cases hz : num4 x0 x1 x2 x3 = 0
      · rw [hz] at HENC ⊢
        go_wp2_with (at_builtin; refine wpList_append_bytes _ (o := ⟨some 16, _, _, _, _, _⟩) rfl _ _ rfl w.heap.size _ (enc pre) rfl (hown.alloc _) (wr.heap.size + 1) (some ⟨wr.heap.size, 0, none⟩) 1 1 [122] rfl (BS.lit wr [122] (by decide)) (by omega) (by simp; omega) ?_)
        intro v1 w1 hown1 hg1 _
        have hb1 : Below w.heap.size w w1 := (hbel.alloc hsz _).grown hg1 (by simp; omega) HBL.out
        clear hg1 hbs'
        go_wp2
        exact ⟨⟨_, r2, _, c' - 4, k + 1, HSPLIT.out, by rw [List.length_append, HPK.out]; simp; omega, by omega, by omega, hbs.dropIf (k := 4) (by simp) (by simp; omega), rfl, by rw [HENC.out]; exact hown1, hb1⟩, by simp [slenE]; omega⟩
      · have hz' : (((num4 x0 x1 x2 x3 : Nat) : Int) == 0) = false := beq_eq_false_iff_ne.2 (by omega)
        go_wp2_with fail
        refine (digits85_any _ c' [x0, x1, x2, x3] wr B hb4).mono ?_
        rintro e w2 ⟨v2, rfl, hv2, hb2⟩
        rw [num_num4] at hv2
        obtain ⟨A2, c2, rfl, hc2, hm2, hbs2, -⟩ := hv2.bs
        rw [Plain85.digits_length] at hbs2 ⊢
        have hown2 := hown.below hb2
        have hbel2 : Below w.heap.size w w2 := hbel.trans (hb2.mono hsz)
        have hsz2 := hbel2.size
        clear hv2 hb2 hc2 hm2 hbs' hown hbel
        go_wp2_with (at_builtin; refine wpList_append_bytes _ (o := ⟨some 21, _, _, _, _, _⟩) rfl _ _ rfl w.heap.size _ (enc pre) rfl hown2 w2.heap.size A2 5 c2 (digits (num4 x0 x1 x2 x3)) rfl hbs2 (by omega) hsz2 ?_)
        intro v1 w1 hown1 hg1 _
        have hb1 : Below w.heap.size w w1 := hbel2.grown hg1 hsz2 HBL.out
        clear hg1
        go_wp2
        exact ⟨⟨_, r2, _, c' - 4, k + 1, HSPLIT.out, by rw [List.length_append, HPK.out]; simp; omega, by omega, by omega, hbs.dropIf (k := 4) (by simp) (by simp; omega), rfl, by rw [HENC.out, grp, if_neg hz]; exact hown1, hb1⟩, by simp [slenE]; omega⟩
    · by_cases h0 : r.length = 0
      · obtain rfl : r = [] := List.eq_nil_of_length_eq_zero h0
        go_wp2
        go_ret
        exact ⟨_, rfl, by rw [← HSP.out, List.append_nil]; exact hown, hbel⟩
      · have h0' : 0 < r.length := by omega
        go_wp2_with (at_builtin; refine wpList_append_bytes _ (o := ⟨some 30, _, _, _, _, _⟩) rfl _ _ rfl wr.heap.size _ [] rfl (Own.empty wr) B A' r.length c' r rfl (hbs'.alloc (by omega) _) (by simp; omega) (by simp) ?_)
        intro v1 w1 hown1 hg1 _
        have hb1 : Below wr.heap.size wr w1 := ((Below.refl _ _).alloc (Nat.le_refl _) _).grown hg1 (by simp) (fun k hk => by simp [Value.ownBlock] at hk; omega)
        have HB1 := Lib.hid hown1.block
        have hsz1 := hb1.size
        clear hg1 hbs'
        go_wp2_with (at_builtin; refine wpList_append_bytes _ (o := ⟨some 32, _, _, _, _, _⟩) rfl _ _ rfl wr.heap.size _ r rfl (hown1.alloc _) (w1.heap.size + 1) (some ⟨w1.heap.size, 0, none⟩) 3 3 [0, 0, 0] rfl (BS.lit w1 [0, 0, 0] (by decide)) (by omega) (by simp; omega) ?_)
        intro v2 w2 hown2 hg2 _
        have hb2 : Below wr.heap.size wr w2 := (hb1.alloc hsz1 _).grown hg2 (by simp; omega) HB1.out
        obtain ⟨A3, c3, rfl, hc3, hm3, hbs3, -⟩ := hown2.bs
        have hl3 : (r ++ [0, 0, 0]).length = r.length + 3 := by simp
        rw [hl3] at hc3 hbs3 ⊢
        have hb4 := hbs3.take (k := 4) (by omega)
        have HREST := Lib.hid (enc_rest_eq r h0' (by omega))
        have hown3 := hown.below hb2
        have hbel2 : Below w.heap.size w w2 := hbel.trans (hb2.mono hsz)
        unfold maxLen at hm3
        generalize (r ++ [0, 0, 0]).take 4 = g4 at *
        have hsz2 := hb2.size
        clear hg2 hown1 hb1 hown2 hbs3 hl3 hown hbel hb2
        go_wp2_with fail
        refine (digits85_any _ c3 g4 w2 w2.heap.size hb4).mono ?_
        rintro e w3 ⟨v4, rfl, hv4, hb5⟩
        obtain ⟨A4, c4, rfl, hc4, hm4, hbs4, -⟩ := hv4.bs
        rw [Plain85.digits_length] at hc4 hbs4 ⊢
        have hbs5 := hbs4.take (k := r.length + 1) (by omega)
        have hown4 := hown3.below hb5
        have hbel3 : Below w.heap.size w w3 := hbel2.trans (hb5.mono (by omega))
        have hsz3 := hbel3.size
        unfold maxLen at hm4
        clear hv4 hb5 hbs4 hown3 hbel2 hb4
        go_wp2_with (at_builtin; refine wpList_append_bytes _ (o := ⟨some 40, _, _, _, _, _⟩) rfl _ _ rfl w.heap.size _ (enc pre) rfl hown4 w3.heap.size A4 (r.length + 1) c4 _ rfl hbs5 (by omega) hsz3 ?_)
        intro v5 w5 hown5 hg5 _
        have hb6 : Below w.heap.size w w5 := hbel3.grown hg5 hsz3 HBL.out
        clear hg5
        go_wp2
        go_ret
        exact ⟨_, rfl, by rw [← HSP.out, Plain85.enc_append k _ _ HPK.out, HREST.out]; exact hown5, hb6⟩

end Go.Proofs.YthhbcnjbnfjiiaaDoor

/-
  The stream encoder over a bytes.Buffer as a whole: what has been written to it is S; Write lays its bytes behind S; Close leaves the text of S in the buffer. Conditions: those that each fact names.
-/
import Derived.Test.YthhbcnjbnfjiiaaEncEven
import Derived.Test.YthhbcnjbnfjiiaaEncMore
namespace Go.Proofs.Ythhbcnjbnfjiiaa
open Go.RowKit
open Plain85 (enc)

/-- The encoder in block eb over the buffer in block b has been given S. -/
def Str (w : World) (B eb b : Nat) (S : List Nat) : Prop := ∃ k f A m cap lr, EncS w eb b f (S.drop k) ∧ (S.drop k).length < 4 ∧ k ≤ S.length ∧ (∃ j, (S.take k).length = 4 * j) ∧ Buf w B b A m cap lr (enc (S.take k))
def RetS (w : World) (B eb b : Nat) (S : List Nat) (e : Ending) (w' : World) : Prop := ∃ zz, e = .returned (.tuple #[.int .i64 zz, .nilIface]) ∧ Str w' B eb b S ∧ Below B w w'
theorem EncS.below {w w' : World} {eb b : Nat} {f : Nat → Value} {r : List Nat} (h : EncS w eb b f r) (hb : Below w.heap.size w w') : EncS w' eb b f r := ⟨h.row.of_block (hb.block eb h.row.lt), h.f0, h.f1, h.f6, h.fr, h.lt, h.r4⟩
theorem Buf.below {w w' : World} {B b m cap : Nat} {A : Option Addr} {lr : Int} {l : List Nat} (h : Buf w B b A m cap lr l) (hb : Below w.heap.size w w') : Buf w' B b A m cap lr l := ⟨h.len, (hb.block b (lt_of_block' h.blk)).trans h.blk, h.own.below hb, h.ne, h.base⟩
theorem ret_str {w w' : World} {B eb b j : Nat} {P lp : List Nat} {e : Ending} (hP : P.length = 4 * j) (h : RetWr w B eb b (enc P) lp e w') : RetS w B eb b (P ++ lp) e w' := by
  obtain ⟨zz, he, k, f, A, m, cap, lr, h1, h2, h3, ⟨i, h4⟩, h5, h6⟩ := h
  have ed : (P ++ lp).drop (P.length + k) = lp.drop k := by rw [List.drop_append, List.drop_of_length_le (by omega), List.nil_append, show P.length + k - P.length = k by omega]
  have et : (P ++ lp).take (P.length + k) = P ++ lp.take k := by rw [List.take_append, List.take_of_length_le (by omega), show P.length + k - P.length = k by omega]
  refine ⟨zz, he, ⟨P.length + k, f, A, m, cap, lr, by rw [ed]; exact h1, by rw [ed]; exact h2, by rw [List.length_append]; omega, ⟨j + i, by rw [et, List.length_append]; omega⟩, ?_⟩, h6⟩
  rw [et, Plain85.enc_append j P _ hP]
  exact h5
theorem write_any (w0 w : World) (B eb b : Nat) (S lp : List Nat) (A : Option Addr) (n c : Nat) (hS : Str w0 B eb b S) (hb : Below w0.heap.size w0 w) (hp : BS w w.heap.size A n lp) (ha : 0 < n → ∃ bp off, A = some ⟨bp, off, none⟩ ∧ w0.heap.size ≤ bp) (hnc : n ≤ c) (hcm : c ≤ maxLen) (hne : eb ≠ b) (hBe : B ≤ eb) (hBw : B ≤ w0.heap.size) (hlim : S.length + lp.length ≤ 1099511627776) :
    Calls Try.prog 50 #[.pointer (some ⟨eb, 0, none⟩), .slice A n c] w fun e w' => RetS w B eb b (S ++ lp) e w' := by
  obtain ⟨k, f, A', m, cap, lr, hE, hr4, hk, ⟨j, hj⟩, hBf⟩ := hS
  have heb : eb < w0.heap.size := hE.row.lt
  have hbb : b < w0.heap.size := lt_of_block' hBf.blk
  have hown : ∀ g, (Value.slice A' m cap).ownBlock = some g → g < w0.heap.size := fun g e => (hBf.own.1.lt g e).2
  have hE1 := hE.below hb
  have hBf1 := hBf.below hb
  have hBw1 : B ≤ w.heap.size := Nat.le_trans hBw hb.size
  have hol : (enc (S.take k)).length ≤ 5 * ((S.length + 3) / 4) := by
    have h1 := Plain85.enc_le (S.take k)
    have h2 : (S.take k).length ≤ S.length := by rw [List.length_take]; omega
    omega
  have hn := hp.len
  by_cases h0 : (S.drop k).length = 0
  · have hr0 : S.drop k = [] := List.eq_nil_of_length_eq_zero h0
    have hSk : S.take k = S := by rw [List.length_drop] at h0; exact List.take_of_length_le (by omega)
    rw [hr0] at hE1
    rw [hSk] at hBf1 hj hol
    have key : ∀ bp, bp ≠ eb → bp ≠ b → (Value.slice A' m cap).ownBlock ≠ some bp → (0 < n → ∃ off, A = some ⟨bp, off, none⟩) → LpR w B eb b bp (enc S) lp A n c w 0 f A' m cap lr := fun bp n1 n2 n3 ha' =>
      ⟨by rw [List.drop_zero]; exact hp, hnc, hcm, ha', ⟨0, by simp⟩, Nat.zero_le _, hE1, by rw [List.take_zero, Plain85.enc_nil, List.append_nil]; exact hBf1, Below.refl _ _, n1, n2, n3⟩
    have key2 : ∃ bp, LpR w B eb b bp (enc S) lp A n c w 0 f A' m cap lr := by
      by_cases hn0 : 0 < n
      · obtain ⟨bp, off, e, hbp⟩ := ha hn0
        exact ⟨bp, key bp (by omega) (by omega) (fun e' => by have := hown bp e'; omega) (fun _ => ⟨off, e⟩)⟩
      · exact ⟨w0.heap.size, key _ (by omega) (by omega) (fun e' => by have := hown _ e'; omega) (fun h => absurd h hn0)⟩
    obtain ⟨bp, hL⟩ := key2
    exact (write_zero B eb b bp f A' m cap lr (enc S) lp A n c w hL hne hBe hBw1 (by omega)).mono fun e w' h => ret_str hj h
  · by_cases h3 : (S.drop k).length + n ≤ 3
    · have hfew : ∀ bp, bp ≠ eb → (0 < n → ∃ off, A = some ⟨bp, off, none⟩) → Calls Try.prog 50 #[.pointer (some ⟨eb, 0, none⟩), .slice A n c] w fun e w' => RetS w B eb b (S ++ lp) e w' := fun bp n1 ha' =>
        (write_few B eb b bp f A' m cap lr (enc (S.take k)) (S.drop k) lp A n c w hE1 hBf1 hp ha' hnc hcm n1 hne hBe (by omega) h3).mono fun e w' h => by
          obtain ⟨zz, he, f', q1, q2, q3⟩ := h
          have ed : (S ++ lp).drop k = S.drop k ++ lp := by rw [List.drop_append, show k - S.length = 0 by omega, List.drop_zero]
          have et : (S ++ lp).take k = S.take k := by rw [List.take_append, show k - S.length = 0 by omega, List.take_zero, List.append_nil]
          exact ⟨zz, he, ⟨k, f', A', m, cap, lr, by rw [ed]; exact q1, by rw [ed, List.length_append]; omega, by rw [List.length_append]; omega, ⟨j, by rw [et]; exact hj⟩, by rw [et]; exact q2⟩, q3⟩
      by_cases hn0 : 0 < n
      · obtain ⟨bp, off, e, hbp⟩ := ha hn0
        exact hfew bp (by omega) (fun _ => ⟨off, e⟩)
      · exact hfew w0.heap.size (by omega) (fun h => absurd h hn0)
    · obtain ⟨bp, off, rfl, hbp⟩ := ha (by omega)
      have hn3 : (Value.slice A' m cap).ownBlock ≠ some bp := fun e' => by have := hown bp e'; omega
      have hret : Calls Try.prog 50 #[.pointer (some ⟨eb, 0, none⟩), .slice (some ⟨bp, off, none⟩) n c] w fun e w' => RetWr w B eb b (enc (S.take k) ++ enc (S.drop k ++ lp.take (4 - (S.drop k).length))) (lp.drop (4 - (S.drop k).length)) e w' := by
        by_cases h4 : (S.drop k).length + n = 4
        · exact write_even B eb b bp off f A' m cap lr (enc (S.take k)) (S.drop k) lp n c w hE1 hBf1 hp hnc hcm (by omega) (by omega) hn3 hne hBe hBw1 (by omega) (by omega) h4 (by omega)
        · exact write_more B eb b bp off f A' m cap lr (enc (S.take k)) (S.drop k) lp n c w hE1 hBf1 hp hnc hcm (by omega) (by omega) hn3 hne hBe hBw1 (by omega) (by omega) (by omega) (by omega)
      refine hret.mono fun e w' h => ?_
      rw [← Plain85.enc_append j _ _ hj, ← List.append_assoc, List.take_append_drop] at h
      have hlen : (S ++ lp.take (4 - (S.drop k).length)).length = 4 * (j + 1) := by
        clear h hret hown hn3 hb hBf hBf1 hE hE1 hp ha
        rw [List.length_take] at hj
        rw [List.length_drop] at h3 hr4 h0
        rw [List.length_append, List.length_take, List.length_drop]
        obtain ⟨q, hq⟩ : ∃ q, S.length - k = q := ⟨_, rfl⟩
        rw [hq] at h3 hr4 h0 ⊢
        omega
      have := ret_str hlen h
      rwa [List.append_assoc, List.take_append_drop] at this
theorem close_any (w : World) (B eb b : Nat) (S : List Nat) (hS : Str w B eb b S) (hne : eb ≠ b) (hBe : B ≤ eb) (hBw : B ≤ w.heap.size) (hlim : S.length ≤ 1099511627776) :
    Calls Try.prog 49 #[.pointer (some ⟨eb, 0, none⟩)] w fun e w' => RetClose w B b (enc S) e w' := by
  obtain ⟨k, f, A', m, cap, lr, hE, hr4, hk, ⟨j, hj⟩, hBf⟩ := hS
  by_cases h0 : (S.drop k).length = 0
  · have hr0 : S.drop k = [] := List.eq_nil_of_length_eq_zero h0
    have hSk : S.take k = S := by rw [List.length_drop] at h0; exact List.take_of_length_le (by omega)
    rw [hr0] at hE
    rw [hSk] at hBf
    exact close_none B eb b f A' m cap lr (enc S) w hE hBf
  · have h1 := Plain85.enc_le (S.take k)
    have h2 : (S.take k).length ≤ S.length := by rw [List.length_take]; omega
    have h3 := hBf.len
    have := close_some B eb b f (S.drop k) A' m cap lr (enc (S.take k)) (S.drop k).length w hE hBf hne hBe hBw rfl (by omega) (by omega) (by omega)
    rwa [← Plain85.enc_append j _ _ hj, List.take_append_drop] at this

end Go.Proofs.Ythhbcnjbnfjiiaa

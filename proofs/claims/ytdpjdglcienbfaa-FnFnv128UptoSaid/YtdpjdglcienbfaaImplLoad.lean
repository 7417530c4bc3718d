/-
  The walk of impl.load, for whatever kind of hash. Conditions: the kind's methods do what 'Good' says and are found as 'Linked' says.
-/
import Derived.Test.YtdpjdglcienbfaaRunWords
import Derived.Deep.RegionHeld3
namespace Go.Proofs.Ytdpjdglcienbfaa
open Go.RowKit

def RetLd (K : Kind) (w : World) (b : Nat) (s' : Nat) (e : Ending) (w' : World) : Prop :=
  e = .returned (.agg #[.slice none 0 0, .int .u64 0, .int .i64 0, .bool false]) ∧ Rep K w' b s' ∧ w.grownBy w' (some b)

set_option maxRecDepth 100000 in
set_option maxHeartbeats 400000 in
theorem load_hit (K : Kind) (G : Good Try.prog K) (L : Linked K) (w : World) (b s s' : Nat) (hr : Rep K w b s) (g o n c ga m ca f : Nat) (Ad : Option Addr) (nd cd : Nat)
    (hfn : f < n) (hfm : f < m) (hop : w.cell? ⟨g, o + f * 4, none⟩ = some (.int .i64 6)) (hfl : w.cell? ⟨ga, f * 4 + 3, none⟩ = some (.bool false)) (hda : w.cell? ⟨ga, f * 4, none⟩ = some (.slice Ad nd cd))
    (hgab : ga ≠ b) (hbs : BS w w.heap.size Ad nd (K.magic ++ K.bytes s')) (hs' : K.ok s') :
    Calls Try.prog 49 #[.iface K.dyn (hp b), .slice (some ⟨g, o, none⟩) n c, .slice (some ⟨ga, 0, none⟩) m ca, .int .i64 (f : Int)] w fun e w' => RetLd K w b s' e w' := by
  have h1 := L.saver (hp b)
  have h2 := L.unmarshal.find ⟨b, 0, none⟩
  have h3 := L.unmarshal.enter
  have h4 := L.unmarshal.ahead ⟨b, 0, none⟩
  have hg := World.block_lt_of_cell? w _ hop
  have hga := World.block_lt_of_cell? w _ hfl
  simp only at hg hga
  have hlen := hbs.len
  rw [List.length_append, G.magic_len, G.bytes_len] at hlen
  have e1 : decide ((f : Int) < 0) = false := decide_eq_false (by omega)
  have e2 : decide (m ≤ f) = false := decide_eq_false (by omega)
  have e3 : ((nd : Int) == 0) = false := beq_eq_false_iff_ne.2 (by omega)
  have hge : 4 ≤ nd := by omega
  have hle : nd ≤ 20 := by have := G.size_le; omega
  have HR := Lib.hid hr
  have HG := Lib.hid G
  have HBS := Lib.hid hbs
  clear hr L G hbs hlen
  unfold hp at h1 ⊢
  go_enter Try.func49, Try.ntmps49
  go_wp2_with fail
  have hda' : (w.alloc (.cells #[.slice none 0 0, .int .u64 0, .int .i64 0, .bool false] 40)).cell? ⟨ga, f * 4, none⟩ = some (.slice Ad nd cd) := (World.cell?_alloc_lt w _ ⟨ga, f * 4, none⟩ hga).trans hda
  have HAL := Lib.hid (HBS.out.alloc (Nat.le_refl _) (.cells #[.slice none 0 0, .int .u64 0, .int .i64 0, .bool false] 40))
  have HRA := Lib.hid (HR.out.below ((Below.refl _ _).alloc (Nat.le_refl _) (.cells #[.slice none 0 0, .int .u64 0, .int .i64 0, .bool false] 40)) HR.out.lt)
  have HBK := Lib.hid (_root_.Go.heap_alloc_new w (.cells #[.slice none 0 0, .int .u64 0, .int .i64 0, .bool false] 40))
  have hw1s : w.heap.size ≤ (w.alloc (.cells #[.slice none 0 0, .int .u64 0, .int .i64 0, .bool false] 40)).heap.size := by simp
  have hw1t : w.heap.size + 1 ≤ (w.alloc (.cells #[.slice none 0 0, .int .u64 0, .int .i64 0, .bool false] 40)).heap.size := by simp
  generalize hw1 : w.alloc (.cells #[.slice none 0 0, .int .u64 0, .int .i64 0, .bool false] 40) = w1 at *
  refine wp_region_held_drew (S := fun W => W.cell? ⟨ga, f * 4, none⟩ = some (.slice Ad nd cd)) (by kernel_rfl) hda' (fun hHeld => ?_)
  refine wpAnyH_take (i := 0) (v := ?_) rfl (by kernel_rfl) (by kernel_rfl) (by kernel_rfl) (fun _ _ _ h => h) (Or.inl ⟨by rfl, ?_⟩) hHeld ?_
  rotate_left
  · intro W hW; go_simp <;> with_reducible rfl
  refine wpAnyH_take (i := 8) (v := ?_) rfl (by kernel_rfl) (by kernel_rfl) (by kernel_rfl) (fun _ _ _ h => h) (Or.inl ⟨by rfl, ?_⟩) hHeld ?_
  rotate_left
  · intro W hW; go_simp <;> with_reducible rfl
  refine wpAnyH_take (i := 9) (v := ?_) rfl (by kernel_rfl) (by kernel_rfl) (by kernel_rfl) (fun _ _ _ h => h) (Or.inl ⟨by rfl, ?_⟩) hHeld ?_
  rotate_left
  · intro W hW; go_simp <;> with_reducible rfl
  refine wpAnyH_take (i := 2) (v := ?_) rfl (by kernel_rfl) (by kernel_rfl) (by kernel_rfl) (fun _ _ _ h => h) (Or.inl ⟨by rfl, ?_⟩) hHeld ?_
  rotate_left
  · intro W hW; go_simp <;> with_reducible rfl
  refine wpAnyH_take (i := 3) (v := ?_) rfl (by kernel_rfl) (by kernel_rfl) (by kernel_rfl) (fun _ _ _ h => h) (Or.inl ⟨by rfl, ?_⟩) hHeld ?_
  rotate_left
  · intro W hW; go_simp <;> with_reducible rfl
  refine wpAnyH_take (i := 4) (v := ?_) rfl (by kernel_rfl) (by kernel_rfl) (by kernel_rfl) (fun _ _ _ h => h) (Or.inl ⟨by rfl, ?_⟩) hHeld ?_
  rotate_left
  · intro W hW; go_simp <;> with_reducible rfl
  refine wpAnyH_take (i := 5) (v := ?_) rfl (by kernel_rfl) (by kernel_rfl) (by kernel_rfl) (fun _ _ _ h => h) (Or.inl ⟨by rfl, ?_⟩) hHeld ?_
  rotate_left
  · intro W hW; go_simp <;> with_reducible rfl
  refine wpAnyH_take (i := 6) (v := ?_) rfl (by kernel_rfl) (by kernel_rfl) (by kernel_rfl) (fun _ _ _ h => h) (Or.inl ⟨by rfl, ?_⟩) hHeld ?_
  rotate_left
  · intro W hW; go_simp <;> with_reducible rfl
  refine wpAnyH_take (i := 10) (v := ?_) rfl (by kernel_rfl) (by kernel_rfl) (by kernel_rfl) (fun _ _ _ h => h) (Or.inl ⟨by rfl, ?_⟩) hHeld ?_
  rotate_left
  · intro W hW; go_simp <;> with_reducible rfl
  simp only [Act.put, List.setIfInBounds_toArray]
  refine wpAnyH_ready (rs := [1]) (by kernel_rfl) (by simp) (AllReadyH.cons rfl (fun K1 hK1 => ?_) AllReadyH.nil)
  go_simp
  refine hK1.out _ _ ((World.cell?_alloc_lt w1 _ ⟨ga, f * 4, none⟩ (Nat.lt_of_lt_of_le hga hw1s)).trans hda') (fun hHeld => ?_)
  clear hK1 K1
  have HO := Lib.hid ((Own.empty w1).mono (base' := w.heap.size + 1) hw1t)
  have HS := Lib.hid ((HAL.out.alloc hw1s (.cells #[] 5)).drew)
  refine wpAnyH_ready (rs := [7]) (by kernel_rfl) (by simp) (AllReadyH.cons rfl (fun K1 hK1 => ?_) AllReadyH.nil)
  refine step_append_bytes rfl _ _ rfl (w.heap.size + 1) (.slice (some ⟨w1.heap.size, 0, none⟩) 0 0) [] rfl HO.out w.heap.size Ad nd cd (K.magic ++ K.bytes s') rfl HS.out (by simp; omega) (by simp; omega) ?_
  intro v2 w2 ho2 hg2 _
  obtain ⟨A2, c2, rfl, hc2, hm2, hbs2⟩ := ho2.at_ (n := nd) (by simpa using HBS.out.len)
  have hb2 : Below w1.heap.size w1 w2 := ((((Below.refl _ _).alloc (Nat.le_refl _) _).drew).grown hg2 (by simp) (fun k hk => by simp [Value.ownBlock] at hk; omega))
  have hne2 : ∀ a, A2 = some a → 0 < nd → a.block ≠ b := by
    intro a ha _ hab
    subst ha
    have h := ho2.block a.block rfl
    have := HR.out.lt
    omega
  have HN2 := Lib.hid hne2
  have HR2 := Lib.hid (HRA.out.below hb2 (Nat.lt_of_lt_of_le HR.out.lt hw1s))
  have HB2 := Lib.hid hbs2
  have HBE2 := Lib.hid hb2
  have hS2 : w2.cell? ⟨ga, f * 4, none⟩ = some (.slice Ad nd cd) := (hb2.cell (p := ⟨ga, f * 4, none⟩) (Nat.lt_of_lt_of_le hga hw1s)).trans hda'
  refine hK1.out _ _ hS2 (fun hHeld => ?_)
  clear hK1 K1 hg2 hne2 hbs2 hb2 ho2
  refine wpAnyH_ready (rs := [11]) (by kernel_rfl) (by simp) (AllReadyH.cons rfl (fun K1 hK1 => ?_) AllReadyH.nil)
  go_simp
  refine (HG.out.unmarshal w2 b s s' A2 nd c2 _ HR2.out HB2.out hc2 HN2.out hs').mono ?_
  rintro e w3 ⟨rfl, hon3, hrep3⟩
  have hS3 : w3.cell? ⟨ga, f * 4, none⟩ = some (.slice Ad nd cd) := (hon3.cell hgab).trans hS2
  have hbk : w3.heap[w.heap.size]? = some (.cells #[.slice none 0 0, .int .u64 0, .int .i64 0, .bool false] 40 (0, 0)) :=
    (hon3.block w.heap.size (by have := HR.out.lt; omega)).trans ((HBE2.out.block w.heap.size hw1t).trans HBK.out)
  obtain ⟨c20, c21, c22, c23, f20, f21, f22, f23⟩ := four_cells hbk
  have hg3 : w.grownBy w3 (some b) := grow_only (grow_below (by rw [← hw1]; exact World.grownBy_alloc w _ _) HBE2.out hw1s) hon3
  have HGR := Lib.hid hg3
  have HRP := Lib.hid hrep3
  refine hK1.out _ _ hS3 (fun hHeld => ?_)
  clear hK1 K1 hbk hg3 hrep3 hon3
  refine wpAnyH_take (i := 12) (v := ?_) rfl (by kernel_rfl) (by kernel_rfl) (by kernel_rfl) (fun _ _ _ h => h) (Or.inl ⟨by rfl, ?_⟩) hHeld ?_
  rotate_left
  · intro W hW; go_simp <;> with_reducible rfl
  refine wpAnyH_take (i := 13) (v := ?_) rfl (by kernel_rfl) (by kernel_rfl) (by kernel_rfl) (fun _ _ _ h => h) (Or.inl ⟨by rfl, ?_⟩) hHeld ?_
  rotate_left
  · intro W hW; go_simp <;> with_reducible rfl
  refine wpAnyH_ready (rs := [14]) (by kernel_rfl) (by simp) (AllReadyH.cons rfl (fun K1 hK1 => ?_) AllReadyH.nil)
  go_simp
  have hS4 : ∀ i v W, W.cell? ⟨ga, f * 4, none⟩ = some (.slice Ad nd cd) → (World.setCell W ⟨w.heap.size, i, none⟩ v).cell? ⟨ga, f * 4, none⟩ = some (.slice Ad nd cd) := fun i v W h => (World.cell?_setCell_far W ⟨w.heap.size, i, none⟩ ⟨ga, f * 4, none⟩ v (by simp; omega)).trans h
  have HRF := Lib.hid ((((HRP.out.set w.heap.size 0 (.slice none 0 0) (by have := HR.out.lt; omega)).set w.heap.size 1 (.int .u64 0) (by have := HR.out.lt; omega)).set w.heap.size 2 (.int .i64 0) (by have := HR.out.lt; omega)).set w.heap.size 3 (.bool false) (by have := HR.out.lt; omega))
  have HGF := Lib.hid (grow_set (grow_set (grow_set (grow_set HGR.out w.heap.size 0 (.slice none 0 0) (Nat.le_refl _)) w.heap.size 1 (.int .u64 0) (Nat.le_refl _)) w.heap.size 2 (.int .i64 0) (Nat.le_refl _)) w.heap.size 3 (.bool false) (Nat.le_refl _))
  refine hK1.out _ _ (hS4 _ _ _ (hS4 _ _ _ (hS4 _ _ _ (hS4 _ _ _ hS3)))) (fun hHeld => ?_)
  refine wpAnyH_done (by kernel_rfl) ?_ _
  clear hK1 K1 hS4 h1 h2 h3 h4 hHeld hS2 hS3 hda' hw1
  go_wp2
  exact bodyPost_ret (v := .agg #[.slice none 0 0, .int .u64 0, .int .i64 0, .bool false]) (by simp [results, Try.results49, go_sem, c20, c21, c22, c23]) rfl ⟨rfl, HRF.out, HGF.out⟩

def RetMiss (w : World) (e : Ending) (w' : World) : Prop := e = .returned (.agg #[.slice none 0 0, .int .u64 0, .int .i64 0, .bool true]) ∧ Below w.heap.size w w'

set_option maxRecDepth 100000 in
set_option maxHeartbeats 400000 in
theorem load_neg (K : Kind) (L : Linked K) (w : World) (b : Nat) (A : Option Addr) (n c : Nat) (A' : Option Addr) (m ca : Nat) (f : Int) (hf : f < 0) :
    Calls Try.prog 49 #[.iface K.dyn (hp b), .slice A n c, .slice A' m ca, .int .i64 f] w fun e w' => RetMiss w e w' := by
  have h1 := L.saver (hp b)
  have e1 : decide (f < 0) = true := decide_eq_true hf
  clear L
  unfold hp at h1 ⊢
  go_enter Try.func49, Try.ntmps49
  go_wp2
  exact bodyPost_ret (v := .agg #[.slice none 0 0, .int .u64 0, .int .i64 0, .bool true]) (by simp [results, Try.results49, go_sem]) rfl ⟨rfl, (Below.refl _ _).alloc (Nat.le_refl _) _⟩

set_option maxRecDepth 100000 in
set_option maxHeartbeats 400000 in
theorem load_far (K : Kind) (L : Linked K) (w : World) (b : Nat) (A : Option Addr) (n c : Nat) (A' : Option Addr) (m ca : Nat) (f : Int) (h0 : 0 ≤ f) (hf : (m : Int) ≤ f) :
    Calls Try.prog 49 #[.iface K.dyn (hp b), .slice A n c, .slice A' m ca, .int .i64 f] w fun e w' => RetMiss w e w' := by
  have h1 := L.saver (hp b)
  have e1 : decide (f < 0) = false := decide_eq_false (by omega)
  have e2 : decide ((m : Int) ≤ f) = true := decide_eq_true hf
  clear L
  unfold hp at h1 ⊢
  go_enter Try.func49, Try.ntmps49
  go_wp2
  exact bodyPost_ret (v := .agg #[.slice none 0 0, .int .u64 0, .int .i64 0, .bool true]) (by simp [results, Try.results49, go_sem]) rfl ⟨rfl, (Below.refl _ _).alloc (Nat.le_refl _) _⟩

set_option maxRecDepth 100000 in
set_option maxHeartbeats 400000 in
theorem load_op (K : Kind) (L : Linked K) (w : World) (b : Nat) (g o n c : Nat) (A' : Option Addr) (m ca f : Nat) (op : Int) (hfn : f < n) (hfm : f < m) (hop : w.cell? ⟨g, o + f * 4, none⟩ = some (.int .i64 op)) (hne : op ≠ 6) :
    Calls Try.prog 49 #[.iface K.dyn (hp b), .slice (some ⟨g, o, none⟩) n c, .slice A' m ca, .int .i64 (f : Int)] w fun e w' => RetMiss w e w' := by
  have h1 := L.saver (hp b)
  have hg := World.block_lt_of_cell? w _ hop
  simp only at hg
  have e1 : decide ((f : Int) < 0) = false := decide_eq_false (by omega)
  have e2 : decide (m ≤ f) = false := decide_eq_false (by omega)
  have e3 : (op != 6) = true := by simpa using hne
  clear L
  unfold hp at h1 ⊢
  go_enter Try.func49, Try.ntmps49
  go_wp2
  exact bodyPost_ret (v := .agg #[.slice none 0 0, .int .u64 0, .int .i64 0, .bool true]) (by simp [results, Try.results49, go_sem]) rfl ⟨rfl, (Below.refl _ _).alloc (Nat.le_refl _) _⟩

set_option maxRecDepth 100000 in
set_option maxHeartbeats 400000 in
theorem load_empty (K : Kind) (L : Linked K) (w : World) (b : Nat) (g o n c ga m ca f : Nat) (Ad : Option Addr) (cd : Nat) (hfn : f < n) (hfm : f < m) (hop : w.cell? ⟨g, o + f * 4, none⟩ = some (.int .i64 6)) (hfl : w.cell? ⟨ga, f * 4 + 3, none⟩ = some (.bool false)) (hda : w.cell? ⟨ga, f * 4, none⟩ = some (.slice Ad 0 cd)) :
    Calls Try.prog 49 #[.iface K.dyn (hp b), .slice (some ⟨g, o, none⟩) n c, .slice (some ⟨ga, 0, none⟩) m ca, .int .i64 (f : Int)] w fun e w' => RetMiss w e w' := by
  have h1 := L.saver (hp b)
  have hg := World.block_lt_of_cell? w _ hop
  have hga := World.block_lt_of_cell? w _ hfl
  simp only at hg hga
  have e1 : decide ((f : Int) < 0) = false := decide_eq_false (by omega)
  have e2 : decide (m ≤ f) = false := decide_eq_false (by omega)
  clear L
  unfold hp at h1 ⊢
  go_enter Try.func49, Try.ntmps49
  go_wp2
  exact bodyPost_ret (v := .agg #[.slice none 0 0, .int .u64 0, .int .i64 0, .bool true]) (by simp [results, Try.results49, go_sem]) rfl ⟨rfl, (Below.refl _ _).alloc (Nat.le_refl _) _⟩

end Go.Proofs.Ytdpjdglcienbfaa

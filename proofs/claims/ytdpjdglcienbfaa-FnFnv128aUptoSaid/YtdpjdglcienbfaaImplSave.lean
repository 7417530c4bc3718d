/-
  The walk of impl.save, for whatever kind of hash. Conditions: the kind's methods do what 'Good' says and are found as 'Linked' says.
-/
import Derived.Test.YtdpjdglcienbfaaHashLink
namespace Go.Proofs.Ytdpjdglcienbfaa
open Go.RowKit
def RetSave (K : Kind) (w : World) (s : Nat) (e : Ending) (w' : World) : Prop :=
  ∃ v, e = .returned (.agg #[v, .int .u64 0, .int .i64 0, .bool false]) ∧ Own w' w.heap.size v (K.magic ++ K.bytes s) ∧ Below w.heap.size w w'
theorem Own.setCell {w : World} {base : Nat} {v : Value} {l : List Nat} (h : Own w base v l) (i b : Nat) (u : Value) (hb : b < base) : Own (w.setCell ⟨b, i, none⟩ u) base v l :=
  ⟨ownsRow_setCell_other h.1 (fun e => by have := h.block _ e; simp at this; omega) u, h.2⟩
theorem four_cells {w : World} {b : Nat} {x y z u : Value} {t : TypeId} (h : w.heap[b]? = some (.cells #[x, y, z, u] t (0, 0))) :
    w.cell? ⟨b, 0, none⟩ = some x ∧ w.cell? ⟨b, 1, none⟩ = some y ∧ w.cell? ⟨b, 2, none⟩ = some z ∧ w.cell? ⟨b, 3, none⟩ = some u ∧ w.frozen? ⟨b, 0, none⟩ = false ∧ w.frozen? ⟨b, 1, none⟩ = false ∧ w.frozen? ⟨b, 2, none⟩ = false ∧ w.frozen? ⟨b, 3, none⟩ = false := by
  simp [World.cell?, World.frozen?, h]
set_option maxRecDepth 100000 in
theorem save_any (K : Kind) (G : Good Try.prog K) (L : Linked K) (w : World) (b s : Nat) (hr : Rep K w b s) : Calls Try.prog 48 #[.iface K.dyn (hp b)] w fun e w' => RetSave K w s e w' := by
  have h1 := L.saver (hp b)
  have h2 := L.marshal.find ⟨b, 0, none⟩
  have h3 := L.marshal.enter
  have hsz : (K.magic ++ K.bytes s).length ≤ 20 := by rw [List.length_append, G.magic_len, G.bytes_len]; have := G.size_le; omega
  have HR := Lib.hid hr
  have HG := Lib.hid G
  clear hr L G
  unfold hp at h1 ⊢
  go_enter Try.func48, Try.ntmps48
  go_wp2_with fail
  refine (HG.out.marshal _ b s (HR.out.below ((Below.refl _ _).alloc (Nat.le_refl _) _) HR.out.lt)).mono ?_
  rintro e w1 ⟨v1, rfl, ho1, hb1⟩
  obtain ⟨n, hn⟩ : ∃ n, (K.magic ++ K.bytes s).length = n := ⟨_, rfl⟩
  obtain ⟨A, c, rfl, hnc, hcm, hbs⟩ := ho1.at_ hn
  rw [hn] at hsz
  have HN := Lib.hid hn
  have HBS := Lib.hid hbs
  clear h1 h2 h3 hn hbs ho1
  go_wp2_with fail
  have hsz1 := hb1.size
  simp at hsz1
  have hO : Own (w1.alloc (.cells #[] 5)).drew (w.heap.size + 1) (.slice (some ⟨w1.heap.size, 0, none⟩) 0 0) [] := (Own.empty w1).mono (by omega)
  have hS : BS (w1.alloc (.cells #[] 5)).drew w1.heap.size A n (K.magic ++ K.bytes s) := (HBS.out.alloc (Nat.le_refl _) _).drew
  have HO := Lib.hid hO
  have HS := Lib.hid hS
  clear hO hS
  have hblk : w1.heap[w.heap.size]? = some (.cells #[.slice none 0 0, .int .u64 0, .int .i64 0, .bool false] 40 (0, 0)) := (hb1.block w.heap.size (by simp)).trans (_root_.Go.heap_alloc_new w _)
  have HBK := Lib.hid hblk
  clear hblk
  go_region_law (refine step_append_bytes rfl _ _ rfl (w.heap.size + 1) (.slice (some ⟨w1.heap.size, 0, none⟩) 0 0) [] rfl HO.out _ A n c (K.magic ++ K.bytes s) rfl HS.out (by simp; omega) (by simp; omega) ?_; intro v2 w2 ho2 hg2 _; have HO2 := Lib.hid ho2; obtain ⟨A2, c2, rfl, hc2, hm2, _⟩ := ho2.at_ (n := n) (by simpa using HN.out); have hk := (hg2.block w.heap.size (by simp; omega) (fun e => by simp [Value.ownBlock] at e; omega)).trans ((Below.heap_alloc w1 _ w.heap.size (by omega)).trans HBK.out); obtain ⟨c20, c21, c22, c23, f20, f21, f22, f23⟩ := four_cells hk; have HG2 := Lib.hid hg2; have HK := Lib.hid hk; clear ho2 hg2 hk)
  have hb2 : Below w.heap.size w w2 := (((((Below.refl _ _).alloc (Nat.le_refl _) _).trans (hb1.mono (by simp))).alloc (by omega) _).drew).grown HG2.out (by simp; omega) (fun k hk => by simp [Value.ownBlock] at hk; omega)
  have HF := Lib.hid (((HO2.out.setCell 0 w.heap.size (.slice A2 n c2) (Nat.lt_succ_self _)).setCell 1 w.heap.size (.int .u64 0) (Nat.lt_succ_self _)).setCell 2 w.heap.size (.int .i64 0) (Nat.lt_succ_self _) |>.setCell 3 w.heap.size (.bool false) (Nat.lt_succ_self _))
  go_wp2
  exact bodyPost_ret (v := .agg #[.slice A2 n c2, .int .u64 0, .int .i64 0, .bool false]) (by simp [results, Try.results48, go_sem, c20, c21, c22, c23]) rfl
    ⟨_, rfl, HF.out.mono (Nat.le_succ _), (((hb2.setCell (Nat.le_refl _) _).setCell (Nat.le_refl _) _).setCell (Nat.le_refl _) _).setCell (Nat.le_refl _) _⟩
end Go.Proofs.Ytdpjdglcienbfaa

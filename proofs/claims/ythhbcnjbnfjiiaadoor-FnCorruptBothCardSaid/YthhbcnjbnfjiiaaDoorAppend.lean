/-
  Laws for 'append' and 'make' on rows of the call's own: the source may be nil, the new length may be up to 2^47 and a half of it again (what Go's own growth bears). Conditions: those that each law names.
-/
import Derived.Test.YthhbcnjbnfjiiaaDoorProg
import Derived.Test.YthhbcnjbnfjiiaaDoorWords
import Derived.Maps.AppendAt
import Derived.OwnWalk
import Derived.Deep.AppendLies
namespace Go.Proofs.YthhbcnjbnfjiiaaDoor
open Go.RowKit

theorem nextcap_le {need old : Nat} (h : old < need) : Builtin.nextslicecap need old ≤ need + need / 4 + 512 := by
  unfold Builtin.nextslicecap
  split
  · omega
  · split
    · omega
    · rw [growBy_four]
      repeat' split
      all_goals omega

/-- What an append reads: nothing, or cells from an address on. -/
def Src (w : World) (size : Nat) (A : Option Addr) (m : Nat) (news : List Value) : Prop :=
  news.length = m * size ∧ (0 < m → ∃ ad, A = some ad ∧ ∀ j u, news[j]? = some u → w.cell? (ad.add j) = some u)

section
variable {P : Program} (w : World)

/-- append(v, x...) where v is a row of the call's own. -/
theorem run_append_src (base : Nat) (t ty e : TypeId) (i : TypeInfo) (z : Value) (size : Nat) (ht : P.underlying t = some (.slice e)) (hi : P.info? e = some i) (hz : i.zero = some z)
    (hsize : i.size = size) (hzs : z.cells.size = size) (hsz : 0 < size)
    (v : Value) (n : Nat) (xs : List Value) (hown : w.ownsRow base e size v n xs)
    (A : Option Addr) (m c : Nat) (news : List Value) (hsrc : Src w size A m news) (h1 : ∀ u ∈ news, u.oneCell' = true)
    (h63 : n + m ≤ maxLen) (hfit : ((n + m) + (n + m) / 4 + 512) * i.bytes ≤ 281474976710656) (hbase : base ≤ w.heap.size) :
    ∃ v' w', (Builtin.append_ #[t, t] ty #[v, .slice A m c]).run P w = .ok v' w' ∧ w'.ownsRow base e size v' (n + m) (xs ++ news) ∧ w.grownBy w' v.ownBlock ∧
      (v'.ownBlock = v.ownBlock ∨ v'.ownBlock = some w.heap.size) := by
  subst hsize
  obtain ⟨hl, hat⟩ := hsrc
  by_cases hm : m = 0
  · subst hm
    have hn : news = [] := List.eq_nil_of_length_eq_zero (by simpa using hl)
    subst hn
    refine ⟨v, w, ?_, by simpa using hown, World.grownBy.refl w _, .inl rfl⟩
    have hfc : ∀ W : World, (Builtin.firstCells i.size 0 (.slice A 0 c)).run P W = .ok #[] W := by
      intro W; cases A <;> simp [Builtin.firstCells, loadCells, loadCellsFrom]
    rcases hown.2 with ⟨rfl, rfl⟩ | ⟨g, cap, cur, rfl, _, _, hnc, _⟩
    · simp [Builtin.append_, run_underlying ht, sizeOf, typeInfo, hi, Builtin.lenOf, hfc]
    · simp [Builtin.append_, run_underlying ht, sizeOf, typeInfo, hi, Builtin.lenOf, hfc, hnc, storeCells]
  · obtain ⟨a, rfl, hnews⟩ := hat (by omega)
    have hsmall : n + m ≤ 9223372036854775807 := by simp only [maxLen] at h63; omega
    have hlen : (xs ++ news).length = (n + m) * i.size := by rw [List.length_append, hown.1, hl, Nat.add_mul]
    have hcapfit : ∀ old, old < n + m → Builtin.nextslicecap (n + m) old * i.bytes ≤ 281474976710656 := fun old ho =>
      Nat.le_trans (Nat.mul_le_mul_right _ (nextcap_le ho)) hfit
    have grown : ∀ (old : Nat) (row : Option Nat),
        (w.drew.alloc (.cells (xs.toArray ++ news.toArray ++ Builtin.zeroCells z.cells (grownCap w (n + m) old e - (n + m))) e)).ownsRow base e i.size
          (.slice (some ⟨w.heap.size, 0, none⟩) (n + m) (grownCap w (n + m) old e)) (n + m) (xs ++ news) ∧
        w.grownBy (w.drew.alloc (.cells (xs.toArray ++ news.toArray ++ Builtin.zeroCells z.cells (grownCap w (n + m) old e - (n + m))) e)) row := by
      intro old row
      have hge := grownCap_ge w (n + m) old e
      have hcm : grownCap w (n + m) old e ≤ maxLen := grownCap_le_maxLen w (n + m) old e h63
      refine ⟨⟨hlen, .inr ⟨w.heap.size, _, _, rfl, hbase, _root_.Go.heap_alloc_new w.drew _, hge, hcm, ?_, ?_⟩⟩, ⟨rfl, rfl, rfl, by simp, fun k hk _ => Below.heap_alloc w.drew _ k hk⟩⟩
      · simp only [Array.size_append, List.size_toArray, size_zeroCells, hzs, hown.1, hl, ← Nat.add_mul]
        congr 1
        omega
      · simp only [Array.toList_append, List.append_assoc]
        rw [← List.append_assoc, ← hlen]
        exact List.take_left
    rcases hown.2 with ⟨rfl, rfl⟩ | ⟨g, cap, cur, rfl, hbg, hg, hnc, hcm, hcs, htake⟩
    · have hx : xs = [] := List.eq_nil_of_length_eq_zero (by simpa using hown.1)
      subst hx
      have hr := run_append_nil (P := P) w t ty e i z ht hi hz a m c news hl hnews (by omega) (by omega) (by have := hcapfit 0 (by omega); rw [nextslicecap_zero (by omega)] at this; simpa using this)
      have hgr := grown 0 (Value.ownBlock (.slice none 0 0))
      simp only [Nat.zero_add, List.nil_append, Array.empty_append] at hgr ⊢
      exact ⟨_, _, hr, hgr.1, hgr.2, .inr rfl⟩
    · by_cases hroom : n + m ≤ cap
      · have hft : n * i.size + news.length ≤ cur.size := by rw [hl, hcs, ← Nat.add_mul]; exact Nat.mul_le_mul_right _ hroom
        have hr := run_append_room (P := P) w t ty e i ht hi g n cap cur hg a m c news hl hnews h1 hroom hft
        refine ⟨_, _, hr, ⟨hlen, .inr ⟨g, cap, _, rfl, hbg, setRow_heap w g cur _ e _ hg, hroom, hcm, ?_, ?_⟩⟩, ⟨rfl, rfl, rfl, by simp, fun k _ hk => setRow_other w g k _ (fun e => hk (by simp [Value.ownBlock, e]))⟩, .inl rfl⟩
        · simp only [List.size_toArray, List.length_append, List.length_take, List.length_drop, Array.length_toList]
          omega
        · rw [htake, ← hlen]
          exact List.take_left
      · have holds : ∀ j u, xs[j]? = some u → w.cell? ((⟨g, 0, none⟩ : Addr).add j) = some u := hown.cells (g := g) rfl
        have hr := run_append_grow (P := P) w t ty e i z ht hi hz ⟨g, 0, none⟩ n cap xs hown.1 holds a m c news hl hnews (by omega) (by omega) (hcapfit cap (by omega))
        have hgr := grown cap (Value.ownBlock (.slice (some ⟨g, 0, none⟩) n cap))
        exact ⟨_, _, hr, hgr.1, hgr.2, .inr rfl⟩

theorem wpList_append_src {ops : Array Oper} {rest : List Oper} {o : Oper} {a : Act} {Q : Exit → Act → World → Prop} (hgd : o.guard = none) (s x : Operand) (t : TypeId)
    (ho : o.op = .call { callee := .builtin .append, args := #[s, x], argTypes := #[t, t] })
    (base : Nat) (e : TypeId) (i : TypeInfo) (z : Value) (size : Nat) (ht : P.underlying t = some (.slice e)) (hi : P.info? e = some i) (hz : i.zero = some z)
    (hsize : i.size = size) (hzs : z.cells.size = size) (hsz : 0 < size)
    (v : Value) (n : Nat) (xs : List Value) (hs : a.eval s = v) (hown : w.ownsRow base e size v n xs)
    (A : Option Addr) (m c : Nat) (news : List Value) (hx : a.eval x = .slice A m c) (hsrc : Src w size A m news) (h1 : ∀ u ∈ news, u.oneCell' = true)
    (h63 : n + m ≤ maxLen) (hfit : ((n + m) + (n + m) / 4 + 512) * i.bytes ≤ 281474976710656) (hbase : base ≤ w.heap.size)
    (h : ∀ v' w', w'.ownsRow base e size v' (n + m) (xs ++ news) → w.grownBy w' v.ownBlock → (v'.ownBlock = v.ownBlock ∨ v'.ownBlock = some w.heap.size) → wpList P ops Q rest (a.put o.dst v') w') :
    wpList P ops Q (o :: rest) a w := by
  refine wpList_plain hgd fun K hK => ?_
  obtain ⟨v', w', hrun, h2, h3, h4⟩ := run_append_src (P := P) w base t o.type e i z size ht hi hz hsize hzs hsz v n xs hown A m c news hsrc h1 h63 hfit hbase
  unfold Oper.wp execOp
  simp only [ho, resolve, invoke, builtin, Sem.run_bind, Sem.run_pure, Result.andThen_ok, List.map_toArray, List.map_cons, List.map_nil, hs, hx, hrun]
  exact hK _ _ (h v' w' h2 h3 h4)
end

/-! ### Bytes -/
/-- Numbers as byte values. -/
def bv (l : List Nat) : List Value := l.map fun x => .int .u8 ((x : Nat) : Int)
theorem bv_length (l : List Nat) : (bv l).length = l.length := by simp [bv]
theorem bv_append (a b : List Nat) : bv (a ++ b) = bv a ++ bv b := by simp [bv]
theorem bv_at (l : List Nat) (i : Nat) (h : i < l.length) : (bv l)[i]? = some (.int .u8 ((l.getD i 0 : Nat) : Int)) := by
  simp [bv, h, List.getD_eq_getElem?_getD]
theorem bv_one (l : List Nat) : ∀ u ∈ bv l, u.oneCell' = true := by
  intro u hu
  obtain ⟨x, _, rfl⟩ := List.mem_map.1 hu
  rfl

/-- v is a slice of the call's own, in a block from base on, that reads as l. -/
def Own (w : World) (base : Nat) (v : Value) (l : List Nat) : Prop := w.ownsRow base 5 1 v l.length (bv l) ∧ ∀ x ∈ l, x < 256

theorem addr_add (b o i : Nat) : (⟨b, o, none⟩ : Addr).add i = ⟨b, o + i, none⟩ := by unfold Addr.add; split <;> simp_all

section
variable {w w' : World} {base B : Nat} {v : Value} {l : List Nat}
theorem Own.bs (h : Own w base v l) : ∃ A c, v = .slice A l.length c ∧ l.length ≤ c ∧ c ≤ maxLen ∧ BS w w.heap.size A l.length l ∧ (A = none ∨ ∃ g, A = some ⟨g, 0, none⟩ ∧ base ≤ g ∧ g < w.heap.size) := by
  rcases h.1.2 with ⟨rfl, hn⟩ | ⟨g, cap, cur, rfl, hb, hg, hnc, hcm, hcs, htake⟩
  · have hl : l = [] := List.eq_nil_of_length_eq_zero hn
    subst hl
    exact ⟨none, 0, rfl, Nat.le_refl _, Nat.zero_le _, BS.nil _ _ _, .inl rfl⟩
  · have hlt : g < w.heap.size := (Array.getElem?_eq_some_iff.1 hg).1
    refine ⟨_, cap, rfl, hnc, hcm, ⟨rfl, h.2, fun hn => ⟨g, 0, rfl, hlt, fun i hi => ?_⟩⟩, .inr ⟨g, rfl, hb, hlt⟩⟩
    have := h.1.cells (g := g) rfl i _ (bv_at l i hi)
    rwa [addr_add] at this
/-- The same, the length under a name. -/
theorem Own.at_ (h : Own w base v l) {n : Nat} (hn : l.length = n) : ∃ A c, v = .slice A n c ∧ n ≤ c ∧ c ≤ maxLen ∧ BS w w.heap.size A n l := by
  subst hn
  obtain ⟨A, c, e, h1, h2, h3, _⟩ := h.bs
  exact ⟨A, c, e, h1, h2, h3⟩
theorem Own.nil (w : World) (base : Nat) : Own w base (.slice none 0 0) [] := ⟨World.ownsRow_nil _ _ _ _, by simp⟩
/-- '[]byte{}' -/
theorem Own.empty (w : World) : Own (w.alloc (.cells #[] 5)) w.heap.size (.slice (some ⟨w.heap.size, 0, none⟩) 0 0) [] :=
  ⟨World.ownsRow_made w #[] 0 (Nat.le_refl _) (Nat.zero_le _) rfl, by simp⟩
theorem Own.block (h : Own w base v l) : ∀ k, v.ownBlock = some k → base ≤ k := fun k hk => (h.1.lt k hk).1
theorem Own.grown {row : Option Nat} (h : Own w base v l) (hg : w.grownBy w' row) (hne : v.ownBlock = none ∨ v.ownBlock ≠ row) : Own w' base v l := ⟨h.1.kept hg hne, h.2⟩
theorem Own.below (h : Own w base v l) (hb : Below w.heap.size w w') : Own w' base v l :=
  h.grown (row := none) ⟨hb.os, hb.tape, hb.output, hb.size, fun k hk _ => hb.block k hk⟩ (by cases hv : v.ownBlock <;> simp)
theorem Own.alloc (h : Own w base v l) (o : Obj) : Own (w.alloc o) base v l := ⟨h.1.alloc o, h.2⟩
/-- A literal of bytes that has just been laid. -/
theorem BS.lit (w : World) (l : List Nat) (h : ∀ x ∈ l, x < 256) : BS (w.alloc (.cells (bv l).toArray 5)) (w.heap.size + 1) (some ⟨w.heap.size, 0, none⟩) l.length l :=
  ⟨rfl, h, fun _ => ⟨w.heap.size, 0, rfl, by omega, fun i hi => by
    rw [cell_of_row _ w.heap.size (0 + i) (bv l).toArray 5 (0, 0) (_root_.Go.heap_alloc_new w _), Nat.zero_add]
    simpa using bv_at l i hi⟩⟩
theorem Own.mono {base' : Nat} (h : Own w base v l) (hb : base' ≤ base) : Own w base' v l := by
  refine ⟨⟨h.1.1, ?_⟩, h.2⟩
  rcases h.1.2 with h0 | ⟨g, cap, cur, hv, hbg, hr⟩
  · exact .inl h0
  · exact .inr ⟨g, cap, cur, hv, by omega, hr⟩
theorem BS.src {A : Option Addr} {n : Nat} (h : BS w B A n l) : Src w 1 A n (bv l) := by
  refine ⟨by rw [bv_length, h.len]; omega, fun hn => ?_⟩
  obtain ⟨b, o, rfl, _, hc⟩ := h.spot hn
  refine ⟨_, rfl, fun j u hu => ?_⟩
  have hj : j < l.length := by
    rcases Nat.lt_or_ge j l.length with h' | h'
    · exact h'
    · rw [List.getElem?_eq_none (by rw [bv_length]; exact h')] at hu; cases hu
  rw [bv_at l j hj] at hu
  injection hu with hu
  rw [addr_add, hc j (by rw [← h.len]; exact hj), hu]
end

theorem Tryd.infoByte : (Tryd.prog.info? 5).map (fun i => (i.zero, i.size, i.bytes)) = some (some (.int .u8 0), 1, 1) := by kernel_rfl

/-- 'append(v, x...)' on bytes: v of the call's own, x nil or not. -/
theorem wpList_append_bytes (w : World) {ops : Array Oper} {rest : List Oper} {o : Oper} {a : Act} {Q : Exit → Act → World → Prop} (hgd : o.guard = none) (s x : Operand)
    (ho : o.op = .call { callee := .builtin .append, args := #[s, x], argTypes := #[22, 22] })
    (base : Nat) (v : Value) (l : List Nat) (hs : a.eval s = v) (hown : Own w base v l)
    (B : Nat) (A : Option Addr) (m c : Nat) (l2 : List Nat) (hx : a.eval x = .slice A m c) (hsrc : BS w B A m l2)
    (hfit : l.length + m ≤ 211106232532992) (hbase : base ≤ w.heap.size)
    (h : ∀ v' w', Own w' base v' (l ++ l2) → w.grownBy w' v.ownBlock → (v'.ownBlock = v.ownBlock ∨ v'.ownBlock = some w.heap.size) → wpList Tryd.prog ops Q rest (a.put o.dst v') w') :
    wpList Tryd.prog ops Q (o :: rest) a w := by
  obtain ⟨i, hi, hzz⟩ := Option.map_eq_some_iff.1 Tryd.infoByte
  simp only [Prod.mk.injEq] at hzz
  obtain ⟨hz, hsz, hb⟩ := hzz
  refine wpList_append_src (P := Tryd.prog) w hgd s x 22 ho base 5 i (.int .u8 0) 1 Tryd.underlying22 hi hz hsz rfl (by omega) v l.length (bv l) hs hown.1 A m c (bv l2) hx hsrc.src (bv_one l2)
    (by unfold maxLen; omega) (by rw [hb]; omega) hbase ?_
  intro v' w' h2 h3 h4
  refine h v' w' ⟨?_, ?_⟩ h3 h4
  · rw [List.length_append, bv_append, hsrc.len]; exact h2
  · intro y hy
    rcases List.mem_append.1 hy with hy | hy
    · exact hown.2 y hy
    · exact hsrc.lt y hy

end Go.Proofs.YthhbcnjbnfjiiaaDoor

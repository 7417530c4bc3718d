/-
  The state of the stream decoder over impl.source over a bytes.Reader, and how it goes on. Conditions: those that each fact names.
-/
import Derived.Test.YthhbcnjbnfjiiaaDoorRdSrc
import Derived.Test.YthhbcnjbnfjiiaaDoorPlainStream
namespace Go.Proofs.YthhbcnjbnfjiiaaDoor
open Go.RowKit
open PlainDec (DR dgo Grps dig)

/-- What stays: the source in block sb, the text T in block tb, the blocks apart. -/
structure Stat (w : World) (db sb rb tb ot N ct pc : Nat) (T : List Nat) : Prop where
  src : w.heap[sb]? = some (.cells #[.pointer (some ⟨rb, 0, none⟩), .int .i64 (pc : Int)] 56 (0, 0))
  tx : BS w w.heap.size (some ⟨tb, ot, none⟩) N T
  nc : N ≤ ct
  cm : ct ≤ maxLen
  rd : rb ≠ db
  sd : sb ≠ db
  td : tb ≠ db
  tr : tb ≠ rb
  sr : sb ≠ rb
  pc1 : 1 ≤ pc
  pc2 : pc ≤ 256
theorem Stat.few {bs : List Nat} {w w' : World} {db sb rb tb ot N ct pc : Nat} {T : List Nat} (h : Stat w db sb rb tb ot N ct pc T) (hf : Few bs w w') (h1 : sb ∉ bs) (h2 : tb ∉ bs) : Stat w' db sb rb tb ot N ct pc T :=
  ⟨(hf.block sb h1).trans h.src, by rw [hf.size]; exact hf.bs h2 h.tx, h.nc, h.cm, h.rd, h.sd, h.td, h.tr, h.sr, h.pc1, h.pc2⟩
/-- The decoder in block db: bl stands in its buffer, out is decoded and not yet handed out, p bytes of the text are read. -/
structure DSt (w : World) (db sb rb tb ot N ct : Nat) (f : Nat → Value) (bl out : List Nat) (Ao : Option Addr) (co p : Nat) (pv : Int) : Prop where
  row : w.rowIs db 69 2053 f
  f0 : f 0 = .nilIface
  f1 : f 1 = .nilIface
  f2 : f 2 = .iface 52 (.pointer (some ⟨sb, 0, none⟩))
  fn : f 1027 = .int .i64 ((bl.length : Nat) : Int)
  fb : ∀ i, i < bl.length → f (3 + i) = .int .u8 ((bl.getD i 0 : Nat) : Int)
  bl4 : bl.length ≤ 260
  blt : ∀ x ∈ bl, x < 256
  fo : f 1028 = .slice Ao out.length co
  oo : 0 < out.length → ∃ q, Ao = some ⟨db, 1029 + q, none⟩ ∧ q + out.length ≤ 1024 ∧ ∀ i, i < out.length → f (1029 + q + i) = .int .u8 ((out.getD i 0 : Nat) : Int)
  oc : out.length ≤ co
  ol : co ≤ 1024
  olt : ∀ x ∈ out, x < 256
  rd : w.heap[rb]? = some (.cells #[.slice (some ⟨tb, ot, none⟩) N ct, .int .i64 (p : Int), .int .i64 pv] 71 (0, 0))
  pN : p ≤ N
theorem DSt.drew {w : World} {db sb rb tb ot N ct : Nat} {f : Nat → Value} {bl out : List Nat} {Ao : Option Addr} {co p : Nat} {pv : Int} (h : DSt w db sb rb tb ot N ct f bl out Ao co p pv) : DSt w.drew db sb rb tb ot N ct f bl out Ao co p pv :=
  ⟨h.row.drew, h.f0, h.f1, h.f2, h.fn, h.fb, h.bl4, h.blt, h.fo, h.oo, h.oc, h.ol, h.olt, h.rd, h.pN⟩
theorem DSt.bs {w : World} {db sb rb tb ot N ct : Nat} {f : Nat → Value} {bl out : List Nat} {Ao : Option Addr} {co p : Nat} {pv : Int} (h : DSt w db sb rb tb ot N ct f bl out Ao co p pv) {n : Nat} (hn : bl.length = n) : BS w w.heap.size (some ⟨db, 3, none⟩) n bl :=
  ⟨hn, h.blt, fun _ => ⟨db, 3, rfl, h.row.lt, fun i hi => by rw [h.row.cell (by have := h.bl4; omega), h.fb i (by omega)]⟩⟩
theorem getD_app_l (a b : List Nat) (i : Nat) (h : i < a.length) : (a ++ b).getD i 0 = a.getD i 0 := by
  rw [List.getD_eq_getElem?_getD, List.getD_eq_getElem?_getD, List.getElem?_append_left h]
theorem getD_app_r (a b : List Nat) (i : Nat) (h : a.length ≤ i) : (a ++ b).getD i 0 = b.getD (i - a.length) 0 := by
  rw [List.getD_eq_getElem?_getD, List.getD_eq_getElem?_getD, List.getElem?_append_right h]
theorem getD_take (l : List Nat) (m j : Nat) (hj : j < m) : (l.take m).getD j 0 = l.getD j 0 := by
  rw [List.getD_eq_getElem?_getD, List.getElem?_take, if_pos hj, ← List.getD_eq_getElem?_getD]
theorem getD_drop (l : List Nat) (m j : Nat) : (l.drop m).getD j 0 = l.getD (m + j) 0 := by
  rw [List.getD_eq_getElem?_getD, List.getElem?_drop, ← List.getD_eq_getElem?_getD]
/-- More of the text has been read into the buffer. -/
theorem DSt.more {w w1 : World} {db sb rb tb ot N ct pc nb m : Nat} {T : List Nat} {f f' : Nat → Value} {bl : List Nat} {Ao : Option Addr} {co p : Nat} {pv : Int} (hs : Stat w db sb rb tb ot N ct pc T) (h : DSt w db sb rb tb ot N ct f bl [] Ao co p pv) (hbl : bl.length = nb) (hnb : nb ≤ 4)
    (hm : m = Nat.min (N - p) (Nat.min pc (1024 - nb))) (hrb : w1.heap[rb]? = some (.cells #[.slice (some ⟨tb, ot, none⟩) N ct, .int .i64 ((p + m : Nat) : Int), .int .i64 (-1)] 71 (0, 0))) (hrow : w1.rowIs db 69 2053 f')
    (hlow : ∀ j, j < 3 + nb ∨ 3 + nb + m ≤ j → f' j = f j) (htxt : ∀ j, j < m → f' (3 + nb + j) = .int .u8 ((T.getD (p + j) 0 : Nat) : Int)) :
    ∃ f2, DSt ((w1.setCell ⟨db, 1, none⟩ .nilIface).setCell ⟨db, 1027, none⟩ (.int .i64 ((nb : Int) + (m : Int)))) db sb rb tb ot N ct f2 (bl ++ (T.drop p).take m) [] Ao co (p + m) (-1) := by
  have hm1 : m ≤ N - p := by rw [hm]; exact Nat.min_le_left _ _
  have hm2 : m ≤ Nat.min pc (1024 - nb) := by rw [hm]; exact Nat.min_le_right _ _
  have hm3 : m ≤ pc := Nat.le_trans hm2 (Nat.min_le_left _ _)
  have hm4 : m ≤ 1024 - nb := Nat.le_trans hm2 (Nat.min_le_right _ _)
  have hpc := hs.pc2
  have hpN := h.pN
  have hlen : ((T.drop p).take m).length = m := by rw [List.length_take, List.length_drop, hs.tx.len]; omega
  have hne := hs.rd
  refine ⟨_, (hrow.set 1 .nilIface).set 1027 _, ?_, ?_, ?_, ?_, fun i hi => ?_, ?_, ?_, ?_, fun h0 => absurd h0 (by simp), by simp, h.ol, by simp, ?_, by omega⟩
  · rw [if_neg (by omega), if_neg (by omega), hlow 0 (by omega), h.f0]
  · rw [if_neg (by omega), if_pos rfl]
  · rw [if_neg (by omega), if_neg (by omega), hlow 2 (by omega), h.f2]
  · rw [if_pos rfl, List.length_append, hlen, hbl, Int.natCast_add]
  · rw [List.length_append, hlen, hbl] at hi
    rw [if_neg (by omega), if_neg (by omega)]
    by_cases h1 : i < nb
    · rw [hlow (3 + i) (by omega), h.fb i (by omega), getD_app_l _ _ _ (by omega)]
    · rw [show 3 + i = 3 + nb + (i - nb) by omega, htxt (i - nb) (by omega), getD_app_r _ _ _ (by omega), hbl, getD_take _ _ _ (by omega), getD_drop]
  · rw [List.length_append, hlen, hbl]; omega
  · intro x hx
    rcases List.mem_append.1 hx with hx | hx
    · exact h.blt x hx
    · exact hs.tx.lt x (List.mem_of_mem_drop (List.mem_of_mem_take hx))
  · rw [if_neg (by omega), if_neg (by omega), hlow 1028 (by omega), h.fo]
  · exact (set_other hne).trans ((set_other hne).trans hrb)
/-- Some of what is decoded has been handed out. -/
theorem DSt.hand {w w1 : World} {db sb rb tb ot N ct pb m c' : Nat} {f : Nat → Value} {bl out : List Nat} {Ao PA : Option Addr} {co p : Nat} {pv : Int} (h : DSt w db sb rb tb ot N ct f bl out Ao co p pv) (ho : Only pb w w1) (h1 : db ≠ pb) (h2 : rb ≠ pb) (h3 : rb ≠ db) (hm : m ≤ out.length) (hc : c' = co - m)
    (hPA : m < out.length → ∀ q, Ao = some ⟨db, 1029 + q, none⟩ → PA = some ⟨db, 1029 + q + m, none⟩) :
    ∃ f2, DSt (w1.setCell ⟨db, 1028, none⟩ (.slice PA (out.length - m) c')) db sb rb tb ot N ct f2 bl (out.drop m) PA c' p pv := by
  have hrow := h.row.of_block (ho.block db h1)
  have hbl := h.bl4
  have hoc := h.oc
  have hol := h.ol
  refine ⟨_, hrow.set 1028 _, ?_, ?_, ?_, ?_, fun i hi => ?_, h.bl4, h.blt, ?_, fun h0 => ?_, ?_, ?_, ?_, ?_, h.pN⟩
  · rw [if_neg (by omega), h.f0]
  · rw [if_neg (by omega), h.f1]
  · rw [if_neg (by omega), h.f2]
  · rw [if_neg (by omega), h.fn]
  · rw [if_neg (by omega), h.fb i hi]
  · rw [if_pos rfl, List.length_drop]
  · rw [List.length_drop] at h0
    obtain ⟨q, e, hq, ht⟩ := h.oo (by omega)
    refine ⟨q + m, by rw [hPA (by omega) q e, Nat.add_assoc], by rw [List.length_drop]; omega, fun i hi => ?_⟩
    rw [List.length_drop] at hi
    rw [if_neg (by omega), show 1029 + (q + m) + i = 1029 + q + (m + i) by omega, ht (m + i) (by omega), getD_drop]
  · rw [List.length_drop]; omega
  · omega
  · intro x hx; exact h.olt x (List.mem_of_mem_drop hx)
  · exact (set_other h3).trans ((ho.block rb h2).trans h.rd)
/-- Something has been decoded. -/
theorem DSt.fill {w w1 w2 : World} {db sb rb tb ot N ct u no m : Nat} {f f1 f2 : Nat → Value} {bl o : List Nat} {Ao : Option Addr} {co p : Nat} {pv : Int} (h : DSt w db sb rb tb ot N ct f bl [] Ao co p pv) (hne : rb ≠ db) (h1 : Only db w w1) (hlow : ∀ j, j < 1029 ∨ 1029 + 1024 ≤ j → f1 j = f j)
    (hno : o.length = no) (hno2 : no ≤ 1024) (hlt : ∀ x ∈ o, x < 256) (htxt : ∀ j, j < no → f1 (1029 + j) = .int .u8 ((o.getD j 0 : Nat) : Int)) (hu : u ≤ bl.length) (hm : bl.length - u = m)
    (h2 : Only db ((w1.setCell ⟨db, 0, none⟩ .nilIface).setCell ⟨db, 1028, none⟩ (.slice (some ⟨db, 1029, none⟩) no 1024)) w2) (hrow2 : w2.rowIs db 69 2053 f2)
    (hlow2 : ∀ j, j < 3 ∨ 3 + m ≤ j → f2 j = (if j = 1028 then .slice (some ⟨db, 1029, none⟩) no 1024 else if j = 0 then .nilIface else f1 j)) (htxt2 : ∀ j, j < m → f2 (3 + j) = .int .u8 (((bl.drop u).getD j 0 : Nat) : Int)) :
    ∃ f3, DSt (w2.setCell ⟨db, 1027, none⟩ (.int .i64 (m : Int))) db sb rb tb ot N ct f3 (bl.drop u) o (some ⟨db, 1029, none⟩) 1024 p pv := by
  have hbl := h.bl4
  have hl : (bl.drop u).length = m := by rw [List.length_drop]; exact hm
  refine ⟨_, hrow2.set 1027 _, ?_, ?_, ?_, ?_, fun i hi => ?_, by rw [hl]; omega, fun x hx => h.blt x (List.mem_of_mem_drop hx), ?_, fun _ => ⟨0, rfl, by omega, fun i hi => ?_⟩, by omega, Nat.le_refl _, hlt, ?_, h.pN⟩
  · rw [if_neg (by omega), hlow2 0 (by omega), if_neg (by omega), if_pos rfl]
  · rw [if_neg (by omega), hlow2 1 (by omega), if_neg (by omega), if_neg (by omega), hlow 1 (by omega), h.f1]
  · rw [if_neg (by omega), hlow2 2 (by omega), if_neg (by omega), if_neg (by omega), hlow 2 (by omega), h.f2]
  · rw [if_pos rfl, hl]
  · rw [hl] at hi
    rw [if_neg (by omega), htxt2 i hi]
  · rw [if_neg (by omega), hlow2 1028 (by omega), if_pos rfl, hno]
  · rw [if_neg (by omega), hlow2 (1029 + 0 + i) (by omega), if_neg (by omega), if_neg (by omega), Nat.add_zero, htxt i (by omega)]
  · exact (set_other hne).trans ((h2.block rb hne).trans ((set_other hne).trans ((set_other hne).trans ((h1.block rb hne).trans h.rd))))
/-- The buffer has been sieved, and nothing fell through. -/
theorem DSt.sieve {w w1 : World} {db sb rb tb ot N ct nb : Nat} {f f1 f2 : Nat → Value} {bl : List Nat} {Ao : Option Addr} {co p : Nat} {pv : Int} (h : DSt w db sb rb tb ot N ct f bl [] Ao co p pv) (hne : rb ≠ db) (hlow : ∀ j, j < 1029 ∨ 1029 + 1024 ≤ j → f1 j = f j)
    (h2 : w1.heap[rb]? = w.heap[rb]?) (hrow2 : w1.rowIs db 69 2053 f2) (hbl : bl.length = nb) (heq : ∀ j, f2 j = (if j = 0 then .nilIface else f1 j)) :
    DSt (w1.setCell ⟨db, 1027, none⟩ (.int .i64 (nb : Int))) db sb rb tb ot N ct (fun j => if j = 1027 then .int .i64 (nb : Int) else f2 j) bl [] Ao co p pv := by
  have hb := h.bl4
  refine ⟨hrow2.set 1027 _, ?_, ?_, ?_, ?_, fun i hi => ?_, hb, h.blt, ?_, fun h0 => absurd h0 (by simp), by simp, h.ol, by simp, ?_, h.pN⟩
  · rw [if_neg (by omega), heq 0, if_pos rfl]
  · rw [if_neg (by omega), heq 1, if_neg (by omega), hlow 1 (by omega), h.f1]
  · rw [if_neg (by omega), heq 2, if_neg (by omega), hlow 2 (by omega), h.f2]
  · rw [if_pos rfl, hbl]
  · rw [if_neg (by omega), heq (3 + i), if_neg (by omega), hlow (3 + i) (by omega), h.fb i hi]
  · rw [if_neg (by omega), heq 1028, if_neg (by omega), hlow 1028 (by omega), h.fo]
  · exact (set_other hne).trans (h2.trans h.rd)

/-- What has been handed out, is decoded, stands in the buffer and is not yet read. -/
def SI (T del out bl : List Nat) (p : Nat) : Prop := ∃ C, T = C ++ (bl ++ T.drop p) ∧ Grps C (del ++ out)
theorem SI.hand {T del out bl : List Nat} {p m : Nat} (h : SI T del out bl p) : SI T (del ++ out.take m) (out.drop m) bl p := by
  obtain ⟨C, h1, h2⟩ := h
  exact ⟨C, h1, by rw [List.append_assoc, List.take_append_drop]; exact h2⟩
theorem SI.fill {T del bl o : List Nat} {p u n : Nat} (h : SI T del [] bl p) (hg : ∀ x ∈ T, 32 < x) (hd : dgo 1024 false n bl 0 PlainDec.init = .ok o u) : u ≤ bl.length ∧ SI T del o (bl.drop u) p := by
  obtain ⟨C, h1, h2⟩ := h
  have hb : ∀ x ∈ bl, 32 < x := fun x hx => hg x (by rw [h1]; simp [hx])
  obtain ⟨k1, k2, _⟩ := PlainDec.dgo_part hb hd
  rw [List.append_nil] at h2
  refine ⟨k1, C ++ bl.take u, ?_, h2.app k2⟩
  rw [List.append_assoc, ← List.append_assoc (bl.take u), List.take_append_drop]
  exact h1
theorem SI.more {T del bl : List Nat} {p m : Nat} (h : SI T del [] bl p) : SI T del [] (bl ++ (T.drop p).take m) (p + m) := by
  obtain ⟨C, h1, h2⟩ := h
  refine ⟨C, ?_, h2⟩
  rw [List.append_assoc, ← List.drop_drop, List.take_append_drop]
  exact h1
/-- Where nothing can be decoded, something is left to read. -/
theorem SI.left {T del bl : List Nat} {p c : Nat} (h : SI T del [] bl p) (hc : c ∈ T) (h1 : 117 < c) (h2 : c ≠ 122) (hb : ∀ x ∈ bl, dig x) : p < T.length := by
  obtain ⟨C, e, hg⟩ := h
  rw [e] at hc
  rcases List.mem_append.1 hc with hc | hc
  · rcases hg.good c hc with h | h
    · unfold dig at h; omega
    · exact absurd h h2
  · rcases List.mem_append.1 hc with hc | hc
    · have := hb c hc
      unfold dig at this; omega
    · rcases Nat.lt_or_ge p T.length with h | h
      · exact h
      · rw [List.drop_of_length_le h] at hc; cases hc
/-- What has been decoded is a beginning of the data. -/
theorem SI.data {T del out bl pre post l : List Nat} {p c : Nat} (h : SI T del out bl p) (hT : T = pre ++ c :: post) (h1 : 117 < c) (h2 : c ≠ 122) (hl : ∀ x ∈ l, x < 256) (hpre : ∃ X, pre ++ X = Plain85.enc l) : ∃ Y, l = del ++ out ++ Y := by
  obtain ⟨C, e, hg⟩ := h
  have hcC : c ∉ C := fun hc => by
    rcases hg.good c hc with h | h
    · unfold dig at h; omega
    · exact h2 h
  have he : C ++ (bl ++ T.drop p) = pre ++ c :: post := by rw [← e, hT]
  obtain ⟨_, Y, hY⟩ := PlainDec.ahead_of hcC he
  obtain ⟨X, hX⟩ := hpre
  rw [hY, List.append_assoc] at hX
  exact hg.data l _ hl hX
/-- How much is left to do. -/
noncomputable def lenS : Value → Nat
  | .slice _ n _ => n
  | _ => 0
noncomputable def toDo (db rb N : Nat) (w : World) : Nat := 2 * (N - (intOf ((w.cell? ⟨rb, 1, none⟩).getD undef)).toNat) + (if lenS ((w.cell? ⟨db, 1028, none⟩).getD undef) = 0 then 1 else 0)
theorem DSt.toDo {w : World} {db sb rb tb ot N ct : Nat} {f : Nat → Value} {bl out : List Nat} {Ao : Option Addr} {co p : Nat} {pv : Int} (h : DSt w db sb rb tb ot N ct f bl out Ao co p pv) : toDo db rb N w = 2 * (N - p) + (if out.length = 0 then 1 else 0) := by
  obtain ⟨_, c1, _⟩ := three_cells h.rd
  unfold Proofs.YthhbcnjbnfjiiaaDoor.toDo
  rw [c1, h.row.cell (by omega), h.fo]
  simp [intOf, lenS]

end Go.Proofs.YthhbcnjbnfjiiaaDoor

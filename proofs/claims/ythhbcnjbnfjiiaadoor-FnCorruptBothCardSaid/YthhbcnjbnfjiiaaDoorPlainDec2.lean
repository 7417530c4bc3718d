/-
  Plain facts: what is encoded is decoded again by the plain model of ascii85.Decode. Conditions: bytes below 256; room enough.
-/
import Derived.Test.YthhbcnjbnfjiiaaDoorPlainDec
import Derived.Test.YthhbcnjbnfjiiaaDoorPlainEnc
namespace Go.Proofs.YthhbcnjbnfjiiaaDoor.PlainDec
open Plain85 (enc grp digits num4)

theorem dgo_cons {room n k b : Nat} {flush : Bool} {r : List Nat} {s s' : DS} (hr : s.out.length + 4 ≤ room) (hs : dstep k b s = some s') :
    dgo room flush n (b :: r) k s = dgo room flush n r (k + 1) s' := by
  simp only [dgo]
  rw [if_neg (by omega), hs]

theorem nx1 (v : Nat) (h : v < 4294967296) : next 0 (33 + v / 52200625 % 85) = v / 52200625 := by unfold next; omega
theorem nx2 (v : Nat) (h : v < 4294967296) : next (v / 52200625) (33 + v / 614125 % 85) = v / 614125 := by unfold next; omega
theorem nx3 (v : Nat) (h : v < 4294967296) : next (v / 614125) (33 + v / 7225 % 85) = v / 7225 := by unfold next; omega
theorem nx4 (v : Nat) (h : v < 4294967296) : next (v / 7225) (33 + v / 85 % 85) = v / 85 := by unfold next; omega
theorem nx5 (v : Nat) (h : v < 4294967296) : next (v / 85) (33 + v % 85) = v := by unfold next; omega

theorem dg1 {room n k : Nat} {flush : Bool} {r out : List Nat} {used v : Nat} (hr : out.length + 4 ≤ room) (h : v < 4294967296) :
    dgo room flush n ((33 + v / 52200625 % 85) :: r) k ⟨out, used, 0, 0⟩ = dgo room flush n r (k + 1) ⟨out, used, v / 52200625, 1⟩ := by
  rw [dgo_cons hr (dstep_digit _ (by omega) (by omega) (by simp)), nx1 v h]
theorem dg2 {room n k : Nat} {flush : Bool} {r out : List Nat} {used v : Nat} (hr : out.length + 4 ≤ room) (h : v < 4294967296) :
    dgo room flush n ((33 + v / 614125 % 85) :: r) k ⟨out, used, v / 52200625, 1⟩ = dgo room flush n r (k + 1) ⟨out, used, v / 614125, 2⟩ := by
  rw [dgo_cons hr (dstep_digit _ (by omega) (by omega) (by simp)), nx2 v h]
theorem dg3 {room n k : Nat} {flush : Bool} {r out : List Nat} {used v : Nat} (hr : out.length + 4 ≤ room) (h : v < 4294967296) :
    dgo room flush n ((33 + v / 7225 % 85) :: r) k ⟨out, used, v / 614125, 2⟩ = dgo room flush n r (k + 1) ⟨out, used, v / 7225, 3⟩ := by
  rw [dgo_cons hr (dstep_digit _ (by omega) (by omega) (by simp)), nx3 v h]
theorem dg4 {room n k : Nat} {flush : Bool} {r out : List Nat} {used v : Nat} (hr : out.length + 4 ≤ room) (h : v < 4294967296) :
    dgo room flush n ((33 + v / 85 % 85) :: r) k ⟨out, used, v / 7225, 3⟩ = dgo room flush n r (k + 1) ⟨out, used, v / 85, 4⟩ := by
  rw [dgo_cons hr (dstep_digit _ (by omega) (by omega) (by simp)), nx4 v h]
theorem dg5 {room n k : Nat} {flush : Bool} {r out : List Nat} {used v : Nat} (hr : out.length + 4 ≤ room) (h : v < 4294967296) :
    dgo room flush n ((33 + v % 85) :: r) k ⟨out, used, v / 85, 4⟩ = dgo room flush n r (k + 1) ⟨out ++ be4 v, k + 1, 0, 0⟩ := by
  rw [dgo_cons hr (dstep_four _ (by omega) (by omega) rfl), nx5 v h]

theorem dgo_digits {room n k : Nat} {flush : Bool} {r out : List Nat} {used v : Nat} (hr : out.length + 4 ≤ room) (h : v < 4294967296) :
    dgo room flush n (digits v ++ r) k ⟨out, used, 0, 0⟩ = dgo room flush n r (k + 5) ⟨out ++ be4 v, k + 5, 0, 0⟩ := by
  show dgo room flush n ((33 + v / 52200625 % 85) :: (33 + v / 614125 % 85) :: (33 + v / 7225 % 85) :: (33 + v / 85 % 85) :: (33 + v % 85) :: r) k ⟨out, used, 0, 0⟩ = _
  rw [dg1 hr h, dg2 hr h, dg3 hr h, dg4 hr h, dg5 hr h]
theorem be4_num4 {a b c d : Nat} (hb : b < 256) (hc : c < 256) (hd : d < 256) : be4 (num4 a b c d) = [a, b, c, d] := by
  simp only [be4, num4, List.cons.injEq, and_true]
  omega
theorem dgo_grp {room n k : Nat} {flush : Bool} {r out : List Nat} {used a b c d : Nat} (ha : a < 256) (hb : b < 256) (hc : c < 256) (hd : d < 256) (hr : out.length + 4 ≤ room) :
    dgo room flush n (grp (num4 a b c d) ++ r) k ⟨out, used, 0, 0⟩ = dgo room flush n r (k + (grp (num4 a b c d)).length) ⟨out ++ [a, b, c, d], k + (grp (num4 a b c d)).length, 0, 0⟩ := by
  by_cases hz : num4 a b c d = 0
  · have h0 : a = 0 ∧ b = 0 ∧ c = 0 ∧ d = 0 := by unfold num4 at hz; omega
    obtain ⟨rfl, rfl, rfl, rfl⟩ := h0
    rw [grp, if_pos hz]
    exact dgo_cons hr (dstep_z _ rfl)
  · rw [grp, if_neg hz, dgo_digits hr (Plain85.num4_lt ha hb hc hd), be4_num4 hb hc hd, Plain85.digits_length]

theorem dgo_groups (m : Nat) {room n : Nat} {flush : Bool} {t : List Nat} : ∀ (l out : List Nat) (k : Nat), l.length = 4 * m → (∀ x ∈ l, x < 256) → out.length + l.length + 4 ≤ room →
    dgo room flush n (enc l ++ t) k ⟨out, k, 0, 0⟩ = dgo room flush n t (k + (enc l).length) ⟨out ++ l, k + (enc l).length, 0, 0⟩ := by
  induction m with
  | zero =>
    intro l out k hl _ _
    obtain rfl : l = [] := List.eq_nil_of_length_eq_zero (by omega)
    simp [enc]
  | succ m ih =>
    intro l out k hl hb hr
    obtain ⟨a, b, c, d, r, rfl⟩ := Plain85.four_of l (by omega)
    simp only [List.length_cons] at hl hr
    rw [Plain85.enc_four, List.append_assoc, dgo_grp (hb a (by simp)) (hb b (by simp)) (hb c (by simp)) (hb d (by simp)) (by omega),
      ih r _ _ (by omega) (fun x hx => hb x (by simp [hx])) (by simp; omega)]
    simp [Nat.add_assoc]

theorem pad_three (q : Nat) (h : q * 614125 + 614124 < 4294967296) : padv q 3 = q * 614125 + 614124 := by
  show ((((q * 85 + 84) % 4294967296) * 85 + 84) % 4294967296 * 85 + 84) % 4294967296 = _
  rw [Nat.mod_eq_of_lt (show q * 85 + 84 < 4294967296 by omega), Nat.mod_eq_of_lt (show (q * 85 + 84) * 85 + 84 < 4294967296 by omega), Nat.mod_eq_of_lt (by omega)]
  omega
theorem pad_two (q : Nat) (h : q * 7225 + 7224 < 4294967296) : padv q 2 = q * 7225 + 7224 := by
  show (((q * 85 + 84) % 4294967296) * 85 + 84) % 4294967296 = _
  rw [Nat.mod_eq_of_lt (show q * 85 + 84 < 4294967296 by omega), Nat.mod_eq_of_lt (by omega)]
  omega
theorem pad_one (q : Nat) (h : q * 85 + 84 < 4294967296) : padv q 1 = q * 85 + 84 := by
  show ((q * 85 + 84) % 4294967296) = _
  rw [Nat.mod_eq_of_lt h]
theorem tail1 (a : Nat) (ha : a < 256) : (be4 (padv (num4 a 0 0 0 / 614125) 3)).take 1 = [a] := by
  have hq : num4 a 0 0 0 / 614125 * 614125 + 614124 < 4294967296 := by unfold num4; omega
  rw [pad_three _ hq]
  have h1 : (num4 a 0 0 0 / 614125 * 614125 + 614124) / 16777216 = a := by unfold num4; omega
  show [(num4 a 0 0 0 / 614125 * 614125 + 614124) / 16777216] = [a]
  rw [h1]
theorem tail2 (a b : Nat) (ha : a < 256) (hb : b < 256) : (be4 (padv (num4 a b 0 0 / 7225) 2)).take 2 = [a, b] := by
  have hq : num4 a b 0 0 / 7225 * 7225 + 7224 < 4294967296 := by unfold num4; omega
  rw [pad_two _ hq]
  have h1 : (num4 a b 0 0 / 7225 * 7225 + 7224) / 65536 = a * 256 + b := by unfold num4; omega
  obtain ⟨p, hp⟩ : ∃ p, num4 a b 0 0 / 7225 * 7225 + 7224 = p := ⟨_, rfl⟩
  rw [hp] at h1 ⊢
  show [p / 16777216, p / 65536 % 256] = [a, b]
  rw [h1, show p / 16777216 = a by omega, show (a * 256 + b) % 256 = b by omega]
theorem tail3 (a b c : Nat) (ha : a < 256) (hb : b < 256) (hc : c < 256) : (be4 (padv (num4 a b c 0 / 85) 1)).take 3 = [a, b, c] := by
  have hq : num4 a b c 0 / 85 * 85 + 84 < 4294967296 := by unfold num4; omega
  rw [pad_one _ hq]
  have h1 : (num4 a b c 0 / 85 * 85 + 84) / 256 = (a * 256 + b) * 256 + c := by unfold num4; omega
  obtain ⟨p, hp⟩ : ∃ p, num4 a b c 0 / 85 * 85 + 84 = p := ⟨_, rfl⟩
  rw [hp] at h1 ⊢
  have h2 : p / 65536 = a * 256 + b := by rw [show 65536 = 256 * 256 from rfl, ← Nat.div_div_eq_div_mul, h1]; omega
  have h3 : p / 16777216 = a := by rw [show 16777216 = 256 * 65536 from rfl, ← Nat.div_div_eq_div_mul, h1]; omega
  clear hp
  show [p / 16777216, p / 65536 % 256, p / 256 % 256] = [a, b, c]
  rw [h1, h2, h3, show (a * 256 + b) % 256 = b by omega, show ((a * 256 + b) * 256 + c) % 256 = c by omega]

/-- The rest of one to three bytes, flushed. -/
theorem dgo_rest {room n k : Nat} {r out : List Nat} {used : Nat} (h0 : 0 < r.length) (h4 : r.length < 4) (hb : ∀ x ∈ r, x < 256) (hr : out.length + 4 ≤ room) :
    dgo room true n (enc r) k ⟨out, used, 0, 0⟩ = .ok (out ++ r) n := by
  match r, h0, h4, hb with
  | [a], _, _, hb =>
    have ha := hb a (by simp)
    have h := Plain85.num4_lt ha (show 0 < 256 by decide) (show 0 < 256 by decide) (show 0 < 256 by decide)
    show dgo room true n [33 + num4 a 0 0 0 / 52200625 % 85, 33 + num4 a 0 0 0 / 614125 % 85] k ⟨out, used, 0, 0⟩ = _
    rw [dg1 hr h, dg2 hr h]
    have hv := tail1 a ha
    show DR.ok (out ++ (be4 (padv (num4 a 0 0 0 / 614125) 3)).take 1) n = _
    rw [hv]
  | [a, b], _, _, hb =>
    have ha := hb a (by simp)
    have hb' := hb b (by simp)
    have h := Plain85.num4_lt ha hb' (show 0 < 256 by decide) (show 0 < 256 by decide)
    show dgo room true n [33 + num4 a b 0 0 / 52200625 % 85, 33 + num4 a b 0 0 / 614125 % 85, 33 + num4 a b 0 0 / 7225 % 85] k ⟨out, used, 0, 0⟩ = _
    rw [dg1 hr h, dg2 hr h, dg3 hr h]
    have hv := tail2 a b ha hb'
    show DR.ok (out ++ (be4 (padv (num4 a b 0 0 / 7225) 2)).take 2) n = _
    rw [hv]
  | [a, b, c], _, _, hb =>
    have ha := hb a (by simp)
    have hb' := hb b (by simp)
    have hc := hb c (by simp)
    have h := Plain85.num4_lt ha hb' hc (show 0 < 256 by decide)
    show dgo room true n [33 + num4 a b c 0 / 52200625 % 85, 33 + num4 a b c 0 / 614125 % 85, 33 + num4 a b c 0 / 7225 % 85, 33 + num4 a b c 0 / 85 % 85] k ⟨out, used, 0, 0⟩ = _
    rw [dg1 hr h, dg2 hr h, dg3 hr h, dg4 hr h]
    have hv := tail3 a b c ha hb' hc
    show DR.ok (out ++ (be4 (padv (num4 a b c 0 / 85) 1)).take 3) n = _
    rw [hv]

/-- The rest, not flushed. -/
theorem dgo_rest_more {room n k : Nat} {r out : List Nat} {used : Nat} (h4 : r.length < 4) (hb : ∀ x ∈ r, x < 256) (hr : out.length + 4 ≤ room) :
    dgo room false n (enc r) k ⟨out, used, 0, 0⟩ = .ok out used := by
  match r, h4, hb with
  | [], _, _ => rfl
  | [a], _, hb =>
    have h := Plain85.num4_lt (hb a (by simp)) (show 0 < 256 by decide) (show 0 < 256 by decide) (show 0 < 256 by decide)
    show dgo room false n [33 + num4 a 0 0 0 / 52200625 % 85, 33 + num4 a 0 0 0 / 614125 % 85] k ⟨out, used, 0, 0⟩ = _
    rw [dg1 hr h, dg2 hr h]; rfl
  | [a, b], _, hb =>
    have h := Plain85.num4_lt (hb a (by simp)) (hb b (by simp)) (show 0 < 256 by decide) (show 0 < 256 by decide)
    show dgo room false n [33 + num4 a b 0 0 / 52200625 % 85, 33 + num4 a b 0 0 / 614125 % 85, 33 + num4 a b 0 0 / 7225 % 85] k ⟨out, used, 0, 0⟩ = _
    rw [dg1 hr h, dg2 hr h, dg3 hr h]; rfl
  | [a, b, c], _, hb =>
    have h := Plain85.num4_lt (hb a (by simp)) (hb b (by simp)) (hb c (by simp)) (show 0 < 256 by decide)
    show dgo room false n [33 + num4 a b c 0 / 52200625 % 85, 33 + num4 a b c 0 / 614125 % 85, 33 + num4 a b c 0 / 7225 % 85, 33 + num4 a b c 0 / 85 % 85] k ⟨out, used, 0, 0⟩ = _
    rw [dg1 hr h, dg2 hr h, dg3 hr h, dg4 hr h]; rfl

/-- Split into whole groups and a rest. -/
theorem split4 (l : List Nat) : ∃ m a r, l = a ++ r ∧ a.length = 4 * m ∧ r.length < 4 :=
  ⟨l.length / 4, l.take (4 * (l.length / 4)), l.drop (4 * (l.length / 4)), (List.take_append_drop _ _).symm, by rw [List.length_take]; omega, by rw [List.length_drop]; omega⟩

/-- What is encoded is decoded again. -/
theorem dgo_enc (l : List Nat) (hb : ∀ x ∈ l, x < 256) {room n : Nat} (hr : l.length + 4 ≤ room) : dgo room true n (enc l) 0 init = .ok l n := by
  obtain ⟨m, a, r, rfl, ha, hr4⟩ := split4 l
  rw [List.length_append] at hr
  rw [Plain85.enc_append m a r ha]
  have hg := dgo_groups m (room := room) (n := n) (flush := true) (t := enc r) a [] 0 ha (fun x hx => hb x (List.mem_append_left _ hx)) (by simp; omega)
  show dgo room true n (enc a ++ enc r) 0 ⟨[], 0, 0, 0⟩ = _
  rw [hg]
  by_cases h0 : r.length = 0
  · obtain rfl : r = [] := List.eq_nil_of_length_eq_zero h0
    simp [enc, dgo, dend]
  · rw [dgo_rest (by omega) hr4 (fun x hx => hb x (List.mem_append_right _ hx)) (by simp; omega)]
    simp

theorem enc_len_ge (l : List Nat) : l.length ≤ 4 * (enc l).length := by
  induction hn : l.length using Nat.strongRecOn generalizing l with
  | _ n ih =>
    by_cases h4 : 4 ≤ l.length
    · obtain ⟨x, y, z, u, r, rfl⟩ := Plain85.four_of l h4
      have := ih r.length (by simp only [List.length_cons] at hn; omega) r rfl
      have hg := (Plain85.grp_le (num4 x y z u)).1
      rw [Plain85.enc_four, List.length_append]
      simp only [List.length_cons] at hn
      omega
    · by_cases h0 : l.length = 0
      · omega
      · rw [Plain85.enc_rest l (by omega) (by omega)]; omega

end Go.Proofs.YthhbcnjbnfjiiaaDoor.PlainDec

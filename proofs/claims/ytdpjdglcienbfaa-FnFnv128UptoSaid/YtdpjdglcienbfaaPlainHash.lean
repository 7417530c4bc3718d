/-
  Plain facts on the hashes: big-endian bytes, the steps of FNV and of Adler-32. Conditions: those that each fact names.
-/
namespace Go.Proofs.Ytdpjdglcienbfaa.PlainHash

def be4 (v : Nat) : List Nat := [v / 16777216, v / 65536 % 256, v / 256 % 256, v % 256]
def be8 (v : Nat) : List Nat := [v / 72057594037927936, v / 281474976710656 % 256, v / 1099511627776 % 256, v / 4294967296 % 256, v / 16777216 % 256, v / 65536 % 256, v / 256 % 256, v % 256]
def be16 (v : Nat) : List Nat := be8 (v / 18446744073709551616) ++ be8 (v % 18446744073709551616)
theorem be4_length (v : Nat) : (be4 v).length = 4 := rfl
theorem be8_length (v : Nat) : (be8 v).length = 8 := rfl
theorem be16_length (v : Nat) : (be16 v).length = 16 := rfl
theorem be4_lt (v : Nat) (h : v < 4294967296) : ∀ x ∈ be4 v, x < 256 := by
  intro x hx
  simp only [be4, List.mem_cons, List.not_mem_nil, or_false] at hx
  omega
theorem be8_lt (v : Nat) (h : v < 18446744073709551616) : ∀ x ∈ be8 v, x < 256 := by
  intro x hx
  simp only [be8, List.mem_cons, List.not_mem_nil, or_false] at hx
  omega
theorem be16_lt (v : Nat) (h : v < 340282366920938463463374607431768211456) : ∀ x ∈ be16 v, x < 256 := by
  intro x hx
  rcases List.mem_append.1 hx with hx | hx
  · exact be8_lt _ (by omega) x hx
  · exact be8_lt _ (by omega) x hx

theorem be4_inj (s t : Nat) (_ : s < 4294967296) (_ : t < 4294967296) (h : be4 s = be4 t) : s = t := by
  simp only [be4, List.cons.injEq, and_true] at h
  omega
theorem be8_inj (s t : Nat) (_ : s < 18446744073709551616) (_ : t < 18446744073709551616) (h : be8 s = be8 t) : s = t := by
  simp only [be8, List.cons.injEq, and_true] at h
  omega
theorem be16_inj (s t : Nat) (_ : s < 340282366920938463463374607431768211456) (_ : t < 340282366920938463463374607431768211456) (h : be16 s = be16 t) : s = t := by
  have h1 : be8 (s / 18446744073709551616) = be8 (t / 18446744073709551616) := by
    have := congrArg (List.take 8) h
    exact this
  have h2 : be8 (s % 18446744073709551616) = be8 (t % 18446744073709551616) := by
    have := congrArg (List.drop 8) h
    exact this
  have := be8_inj _ _ (by omega) (by omega) h1
  have := be8_inj _ _ (by omega) (by omega) h2
  omega

/-- FNV-1: the hash times the prime, then the byte. -/
def f1 (m p s c : Nat) : Nat := (s * p % m) ^^^ c
/-- FNV-1a: the byte, then the hash times the prime. -/
def f1a (m p s c : Nat) : Nat := (s ^^^ c) * p % m

theorem xor_lt {n s c : Nat} (hs : s < 2 ^ n) (hc : c < 2 ^ n) : s ^^^ c < 2 ^ n := Nat.xor_lt_two_pow hs hc
theorem f1_lt32 (p s c : Nat) (hc : c < 256) : f1 4294967296 p s c < 4294967296 := xor_lt (n := 32) (Nat.mod_lt _ (by decide)) (by omega)
theorem f1_lt64 (p s c : Nat) (hc : c < 256) : f1 18446744073709551616 p s c < 18446744073709551616 := xor_lt (n := 64) (Nat.mod_lt _ (by decide)) (by omega)
theorem f1_lt128 (p s c : Nat) (hc : c < 256) : f1 340282366920938463463374607431768211456 p s c < 340282366920938463463374607431768211456 := xor_lt (n := 128) (Nat.mod_lt _ (by decide)) (by omega)
theorem f1a_lt (m p s c : Nat) (hm : 0 < m) : f1a m p s c < m := Nat.mod_lt _ hm

end Go.Proofs.Ytdpjdglcienbfaa.PlainHash

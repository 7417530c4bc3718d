/-
  spec.Fnv at the six kinds of FNV: the bytes of the plain hash. Written by fnvgen.py. Conditions: the data read as a list.
-/
import Derived.Test.YtdpjdglcienbfaaFnv
namespace Go.Proofs.Ytdpjdglcienbfaa
open Go.RowKit
open PlainTimes (lev)

theorem hx32 (s c : Nat) (hs : s < 256 ^ 4) (hc : c < 256) : s ^^^ c < 256 ^ 4 := PlainHash.xor_lt (n := 32) hs (Nat.lt_of_lt_of_le hc (by decide))
theorem fkSum32 : FK kSum32 4 := ⟨by decide, by decide, fun _ => rfl, fun s h => PlainHash.be4_lt s h, fun s h => lev_be4 s h⟩
set_option maxRecDepth 100000 in
theorem fnvSum32 (A : Option Addr) (m c : Nat) (data : List Nat) (w : World) (B : Nat) (hB : B ≤ w.heap.size) (hm : m ≤ 9223372036854775807) (hd : BS w B A m data) :
    Calls Try.prog 46 #[.int .i64 32, .bool false, .slice A m c] w fun e w' => RetOwn w (kSum32.bytes (data.foldl kSum32.step kSum32.init)) e w' :=
  fnv1_any kSum32 4 16777619 32 [1, 0, 1, 147] fkSum32 (fun _ _ => rfl) hx32 (by decide) (fun w => basis32 w) (fun w => prime32 w) rfl (by decide) A m c data w B hB hm hd
theorem fkSum32a : FK kSum32a 4 := ⟨by decide, by decide, fun _ => rfl, fun s h => PlainHash.be4_lt s h, fun s h => lev_be4 s h⟩
set_option maxRecDepth 100000 in
theorem fnvSum32a (A : Option Addr) (m c : Nat) (data : List Nat) (w : World) (B : Nat) (hB : B ≤ w.heap.size) (hm : m ≤ 9223372036854775807) (hd : BS w B A m data) :
    Calls Try.prog 46 #[.int .i64 32, .bool true, .slice A m c] w fun e w' => RetOwn w (kSum32a.bytes (data.foldl kSum32a.step kSum32a.init)) e w' :=
  fnv1a_any kSum32a 4 16777619 32 [1, 0, 1, 147] fkSum32a (fun _ _ => rfl) hx32 (by decide) (fun w => basis32 w) (fun w => prime32 w) rfl (by decide) A m c data w B hB hm hd
theorem hx64 (s c : Nat) (hs : s < 256 ^ 8) (hc : c < 256) : s ^^^ c < 256 ^ 8 := PlainHash.xor_lt (n := 64) hs (Nat.lt_of_lt_of_le hc (by decide))
theorem fkSum64 : FK kSum64 8 := ⟨by decide, by decide, fun _ => rfl, fun s h => PlainHash.be8_lt s h, fun s h => lev_be8 s h⟩
set_option maxRecDepth 100000 in
theorem fnvSum64 (A : Option Addr) (m c : Nat) (data : List Nat) (w : World) (B : Nat) (hB : B ≤ w.heap.size) (hm : m ≤ 9223372036854775807) (hd : BS w B A m data) :
    Calls Try.prog 46 #[.int .i64 64, .bool false, .slice A m c] w fun e w' => RetOwn w (kSum64.bytes (data.foldl kSum64.step kSum64.init)) e w' :=
  fnv1_any kSum64 8 1099511628211 64 [0, 0, 1, 0, 0, 0, 1, 179] fkSum64 (fun _ _ => rfl) hx64 (by decide) (fun w => basis64 w) (fun w => prime64 w) rfl (by decide) A m c data w B hB hm hd
theorem fkSum64a : FK kSum64a 8 := ⟨by decide, by decide, fun _ => rfl, fun s h => PlainHash.be8_lt s h, fun s h => lev_be8 s h⟩
set_option maxRecDepth 100000 in
theorem fnvSum64a (A : Option Addr) (m c : Nat) (data : List Nat) (w : World) (B : Nat) (hB : B ≤ w.heap.size) (hm : m ≤ 9223372036854775807) (hd : BS w B A m data) :
    Calls Try.prog 46 #[.int .i64 64, .bool true, .slice A m c] w fun e w' => RetOwn w (kSum64a.bytes (data.foldl kSum64a.step kSum64a.init)) e w' :=
  fnv1a_any kSum64a 8 1099511628211 64 [0, 0, 1, 0, 0, 0, 1, 179] fkSum64a (fun _ _ => rfl) hx64 (by decide) (fun w => basis64 w) (fun w => prime64 w) rfl (by decide) A m c data w B hB hm hd
theorem hx128 (s c : Nat) (hs : s < 256 ^ 16) (hc : c < 256) : s ^^^ c < 256 ^ 16 := PlainHash.xor_lt (n := 128) hs (Nat.lt_of_lt_of_le hc (by decide))
theorem fkSum128 : FK kSum128 16 := ⟨by decide, by decide, fun _ => rfl, fun s h => PlainHash.be16_lt s h, fun s h => lev_be16 s h⟩
set_option maxRecDepth 100000 in
theorem fnvSum128 (A : Option Addr) (m c : Nat) (data : List Nat) (w : World) (B : Nat) (hB : B ≤ w.heap.size) (hm : m ≤ 9223372036854775807) (hd : BS w B A m data) :
    Calls Try.prog 46 #[.int .i64 128, .bool false, .slice A m c] w fun e w' => RetOwn w (kSum128.bytes (data.foldl kSum128.step kSum128.init)) e w' :=
  fnv1_any kSum128 16 309485009821345068724781371 128 [0, 0, 0, 0, 1, 0, 0, 0, 0, 0, 0, 0, 0, 0, 1, 59] fkSum128 (fun _ _ => rfl) hx128 (by decide) (fun w => basis128 w) (fun w => prime128 w) rfl (by decide) A m c data w B hB hm hd
theorem fkSum128a : FK kSum128a 16 := ⟨by decide, by decide, fun _ => rfl, fun s h => PlainHash.be16_lt s h, fun s h => lev_be16 s h⟩
set_option maxRecDepth 100000 in
theorem fnvSum128a (A : Option Addr) (m c : Nat) (data : List Nat) (w : World) (B : Nat) (hB : B ≤ w.heap.size) (hm : m ≤ 9223372036854775807) (hd : BS w B A m data) :
    Calls Try.prog 46 #[.int .i64 128, .bool true, .slice A m c] w fun e w' => RetOwn w (kSum128a.bytes (data.foldl kSum128a.step kSum128a.init)) e w' :=
  fnv1a_any kSum128a 16 309485009821345068724781371 128 [0, 0, 0, 0, 1, 0, 0, 0, 0, 0, 0, 0, 0, 0, 1, 59] fkSum128a (fun _ _ => rfl) hx128 (by decide) (fun w => basis128 w) (fun w => prime128 w) rfl (by decide) A m c data w B hB hm hd

end Go.Proofs.Ytdpjdglcienbfaa

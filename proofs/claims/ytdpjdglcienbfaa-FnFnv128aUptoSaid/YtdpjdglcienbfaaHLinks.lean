/-
  The methods of the seven kinds of hashes are found and entered; impl.value at each. Written by linkgen.py. Conditions: none.
-/
import Derived.Test.YtdpjdglcienbfaaHashLink
import Derived.Test.YtdpjdglcienbfaaHSum32
import Derived.Test.YtdpjdglcienbfaaHSum32a
import Derived.Test.YtdpjdglcienbfaaHSum64
import Derived.Test.YtdpjdglcienbfaaHSum64a
import Derived.Test.YtdpjdglcienbfaaHDigest
import Derived.Test.YtdpjdglcienbfaaHSum128
import Derived.Test.YtdpjdglcienbfaaHSum128a
namespace Go.Proofs.Ytdpjdglcienbfaa
open Go.RowKit
set_option linter.unusedVariables false

theorem Sum32.isSaver (v : Value) (w : World) : (Instr.typeAssert (.iface 77 v) 58 98 true).run Try.prog w = .ok (.tuple #[.iface 77 v, .bool true]) w := run_typeAssert_hasB Try.underlying98 (by kernel_rfl) v _ w
theorem Sum32.isCloner (v : Value) (w : World) : (Instr.typeAssert (.iface 77 v) 58 93 true).run Try.prog w = .ok (.tuple #[.iface 77 v, .bool true]) w := run_typeAssert_hasB Try.underlying93 (by kernel_rfl) v _ w
theorem Sum32.is32 (v : Value) (w : World) : (Instr.typeAssert (.iface 77 v) 58 52 true).run Try.prog w = .ok (.tuple #[.iface 77 v, .bool true]) w := run_typeAssert_hasB Try.underlying52 (by kernel_rfl) v _ w
theorem Sum32.mWrite : Meth Try.prog 77 "Write" 79 := ⟨fun _ _ => by kernel_rfl, fun _ _ => by kernel_rfl, entered Try.func79 (by kernel_rfl) rfl⟩
theorem Sum32.mSum : Meth Try.prog 77 "Sum" 76 := ⟨fun _ _ => by kernel_rfl, fun _ _ => by kernel_rfl, entered Try.func76 (by kernel_rfl) rfl⟩
theorem Sum32.mReset : Meth Try.prog 77 "Reset" 74 := ⟨fun _ _ => by kernel_rfl, fun _ _ => by kernel_rfl, entered Try.func74 (by kernel_rfl) rfl⟩
theorem Sum32.mSize : Meth Try.prog 77 "Size" 75 := ⟨fun _ _ => by kernel_rfl, fun _ _ => by kernel_rfl, entered Try.func75 (by kernel_rfl) rfl⟩
theorem Sum32.mBlock : Meth Try.prog 77 "BlockSize" 71 := ⟨fun _ _ => by kernel_rfl, fun _ _ => by kernel_rfl, entered Try.func71 (by kernel_rfl) rfl⟩
theorem Sum32.mClone : Meth Try.prog 77 "Clone" 72 := ⟨fun _ _ => by kernel_rfl, fun _ _ => by kernel_rfl, entered Try.func72 (by kernel_rfl) rfl⟩
theorem Sum32.mMarshal : Meth Try.prog 77 "MarshalBinary" 73 := ⟨fun _ _ => by kernel_rfl, fun _ _ => by kernel_rfl, entered Try.func73 (by kernel_rfl) rfl⟩
theorem Sum32.mUnmarshal : Meth Try.prog 77 "UnmarshalBinary" 78 := ⟨fun _ _ => by kernel_rfl, fun _ _ => by kernel_rfl, entered Try.func78 (by kernel_rfl) rfl⟩
theorem Sum32.mSum32 : Meth Try.prog 77 "Sum32" 77 := ⟨fun _ _ => by kernel_rfl, fun _ _ => by kernel_rfl, entered Try.func77 (by kernel_rfl) rfl⟩
theorem Sum32.sum32 (w : World) (b s : Nat) (hr : Rep kSum32 w b s) : Calls Try.prog 77 #[hp b] w fun e w' => e = .returned (.int .u32 (s : Int)) ∧ w = w' := by
  have hc : w.cell? ⟨b, 0, none⟩ = some (.int .u32 (s : Int)) := cell_of_one hr.1
  clear hr
  unfold hp
  go_enter Try.func77, Try.ntmps77
  go_wp2
  go_ret
  exact ⟨rfl, rfl⟩
set_option maxRecDepth 100000 in
theorem Sum32.value (w : World) (b s : Nat) (hr : Rep kSum32 w b s) : Calls Try.prog 50 #[.iface 77 (hp b)] w fun e w' => e = .returned (.int .u64 ((kSum32.val s : Nat) : Int)) ∧ w = w' := by
  have h1 := Sum32.is32 (hp b)
  have h2 := Sum32.mSum32.find ⟨b, 0, none⟩
  have h3 := Sum32.mSum32.enter
  have hlt : s < 4294967296 := by have := hr.2; exact this
  have HR := Lib.hid hr
  clear hr
  unfold hp at h1 ⊢
  go_enter Try.func50, Try.ntmps50
  go_wp2_with fail
  refine (Sum32.sum32 w b s HR.out).mono ?_
  rintro e w1 ⟨rfl, rfl⟩
  go_wp2
  go_ret
  exact ⟨rfl, rfl⟩
theorem linkedSum32 : Linked kSum32 where
  saver := Sum32.isSaver
  cloner := Sum32.isCloner
  write := Sum32.mWrite
  sum := Sum32.mSum
  reset := Sum32.mReset
  size := Sum32.mSize
  block := Sum32.mBlock
  clone := Sum32.mClone
  marshal := Sum32.mMarshal
  unmarshal := Sum32.mUnmarshal
  value := Sum32.value

theorem Sum32a.isSaver (v : Value) (w : World) : (Instr.typeAssert (.iface 79 v) 58 98 true).run Try.prog w = .ok (.tuple #[.iface 79 v, .bool true]) w := run_typeAssert_hasB Try.underlying98 (by kernel_rfl) v _ w
theorem Sum32a.isCloner (v : Value) (w : World) : (Instr.typeAssert (.iface 79 v) 58 93 true).run Try.prog w = .ok (.tuple #[.iface 79 v, .bool true]) w := run_typeAssert_hasB Try.underlying93 (by kernel_rfl) v _ w
theorem Sum32a.is32 (v : Value) (w : World) : (Instr.typeAssert (.iface 79 v) 58 52 true).run Try.prog w = .ok (.tuple #[.iface 79 v, .bool true]) w := run_typeAssert_hasB Try.underlying52 (by kernel_rfl) v _ w
theorem Sum32a.mWrite : Meth Try.prog 79 "Write" 92 := ⟨fun _ _ => by kernel_rfl, fun _ _ => by kernel_rfl, entered Try.func92 (by kernel_rfl) rfl⟩
theorem Sum32a.mSum : Meth Try.prog 79 "Sum" 89 := ⟨fun _ _ => by kernel_rfl, fun _ _ => by kernel_rfl, entered Try.func89 (by kernel_rfl) rfl⟩
theorem Sum32a.mReset : Meth Try.prog 79 "Reset" 87 := ⟨fun _ _ => by kernel_rfl, fun _ _ => by kernel_rfl, entered Try.func87 (by kernel_rfl) rfl⟩
theorem Sum32a.mSize : Meth Try.prog 79 "Size" 88 := ⟨fun _ _ => by kernel_rfl, fun _ _ => by kernel_rfl, entered Try.func88 (by kernel_rfl) rfl⟩
theorem Sum32a.mBlock : Meth Try.prog 79 "BlockSize" 84 := ⟨fun _ _ => by kernel_rfl, fun _ _ => by kernel_rfl, entered Try.func84 (by kernel_rfl) rfl⟩
theorem Sum32a.mClone : Meth Try.prog 79 "Clone" 85 := ⟨fun _ _ => by kernel_rfl, fun _ _ => by kernel_rfl, entered Try.func85 (by kernel_rfl) rfl⟩
theorem Sum32a.mMarshal : Meth Try.prog 79 "MarshalBinary" 86 := ⟨fun _ _ => by kernel_rfl, fun _ _ => by kernel_rfl, entered Try.func86 (by kernel_rfl) rfl⟩
theorem Sum32a.mUnmarshal : Meth Try.prog 79 "UnmarshalBinary" 91 := ⟨fun _ _ => by kernel_rfl, fun _ _ => by kernel_rfl, entered Try.func91 (by kernel_rfl) rfl⟩
theorem Sum32a.mSum32 : Meth Try.prog 79 "Sum32" 90 := ⟨fun _ _ => by kernel_rfl, fun _ _ => by kernel_rfl, entered Try.func90 (by kernel_rfl) rfl⟩
theorem Sum32a.sum32 (w : World) (b s : Nat) (hr : Rep kSum32a w b s) : Calls Try.prog 90 #[hp b] w fun e w' => e = .returned (.int .u32 (s : Int)) ∧ w = w' := by
  have hc : w.cell? ⟨b, 0, none⟩ = some (.int .u32 (s : Int)) := cell_of_one hr.1
  clear hr
  unfold hp
  go_enter Try.func90, Try.ntmps90
  go_wp2
  go_ret
  exact ⟨rfl, rfl⟩
set_option maxRecDepth 100000 in
theorem Sum32a.value (w : World) (b s : Nat) (hr : Rep kSum32a w b s) : Calls Try.prog 50 #[.iface 79 (hp b)] w fun e w' => e = .returned (.int .u64 ((kSum32a.val s : Nat) : Int)) ∧ w = w' := by
  have h1 := Sum32a.is32 (hp b)
  have h2 := Sum32a.mSum32.find ⟨b, 0, none⟩
  have h3 := Sum32a.mSum32.enter
  have hlt : s < 4294967296 := by have := hr.2; exact this
  have HR := Lib.hid hr
  clear hr
  unfold hp at h1 ⊢
  go_enter Try.func50, Try.ntmps50
  go_wp2_with fail
  refine (Sum32a.sum32 w b s HR.out).mono ?_
  rintro e w1 ⟨rfl, rfl⟩
  go_wp2
  go_ret
  exact ⟨rfl, rfl⟩
theorem linkedSum32a : Linked kSum32a where
  saver := Sum32a.isSaver
  cloner := Sum32a.isCloner
  write := Sum32a.mWrite
  sum := Sum32a.mSum
  reset := Sum32a.mReset
  size := Sum32a.mSize
  block := Sum32a.mBlock
  clone := Sum32a.mClone
  marshal := Sum32a.mMarshal
  unmarshal := Sum32a.mUnmarshal
  value := Sum32a.value

theorem Sum64.isSaver (v : Value) (w : World) : (Instr.typeAssert (.iface 81 v) 58 98 true).run Try.prog w = .ok (.tuple #[.iface 81 v, .bool true]) w := run_typeAssert_hasB Try.underlying98 (by kernel_rfl) v _ w
theorem Sum64.isCloner (v : Value) (w : World) : (Instr.typeAssert (.iface 81 v) 58 93 true).run Try.prog w = .ok (.tuple #[.iface 81 v, .bool true]) w := run_typeAssert_hasB Try.underlying93 (by kernel_rfl) v _ w
theorem Sum64.is32 (v : Value) (w : World) : (Instr.typeAssert (.iface 81 v) 58 52 true).run Try.prog w = .ok (.tuple #[.nilIface, .bool false]) w := run_typeAssert_lacksB Try.underlying52 (by kernel_rfl) (by kernel_rfl) v _ w
theorem Sum64.is64 (v : Value) (w : World) : (Instr.typeAssert (.iface 81 v) 58 55 true).run Try.prog w = .ok (.tuple #[.iface 81 v, .bool true]) w := run_typeAssert_hasB Try.underlying55 (by kernel_rfl) v _ w
theorem Sum64.mWrite : Meth Try.prog 81 "Write" 102 := ⟨fun _ _ => by kernel_rfl, fun _ _ => by kernel_rfl, entered Try.func102 (by kernel_rfl) rfl⟩
theorem Sum64.mSum : Meth Try.prog 81 "Sum" 99 := ⟨fun _ _ => by kernel_rfl, fun _ _ => by kernel_rfl, entered Try.func99 (by kernel_rfl) rfl⟩
theorem Sum64.mReset : Meth Try.prog 81 "Reset" 97 := ⟨fun _ _ => by kernel_rfl, fun _ _ => by kernel_rfl, entered Try.func97 (by kernel_rfl) rfl⟩
theorem Sum64.mSize : Meth Try.prog 81 "Size" 98 := ⟨fun _ _ => by kernel_rfl, fun _ _ => by kernel_rfl, entered Try.func98 (by kernel_rfl) rfl⟩
theorem Sum64.mBlock : Meth Try.prog 81 "BlockSize" 94 := ⟨fun _ _ => by kernel_rfl, fun _ _ => by kernel_rfl, entered Try.func94 (by kernel_rfl) rfl⟩
theorem Sum64.mClone : Meth Try.prog 81 "Clone" 95 := ⟨fun _ _ => by kernel_rfl, fun _ _ => by kernel_rfl, entered Try.func95 (by kernel_rfl) rfl⟩
theorem Sum64.mMarshal : Meth Try.prog 81 "MarshalBinary" 96 := ⟨fun _ _ => by kernel_rfl, fun _ _ => by kernel_rfl, entered Try.func96 (by kernel_rfl) rfl⟩
theorem Sum64.mUnmarshal : Meth Try.prog 81 "UnmarshalBinary" 101 := ⟨fun _ _ => by kernel_rfl, fun _ _ => by kernel_rfl, entered Try.func101 (by kernel_rfl) rfl⟩
theorem Sum64.mSum64 : Meth Try.prog 81 "Sum64" 100 := ⟨fun _ _ => by kernel_rfl, fun _ _ => by kernel_rfl, entered Try.func100 (by kernel_rfl) rfl⟩
theorem Sum64.sum64 (w : World) (b s : Nat) (hr : Rep kSum64 w b s) : Calls Try.prog 100 #[hp b] w fun e w' => e = .returned (.int .u64 (s : Int)) ∧ w = w' := by
  have hc : w.cell? ⟨b, 0, none⟩ = some (.int .u64 (s : Int)) := cell_of_one hr.1
  clear hr
  unfold hp
  go_enter Try.func100, Try.ntmps100
  go_wp2
  go_ret
  exact ⟨rfl, rfl⟩
set_option maxRecDepth 100000 in
theorem Sum64.value (w : World) (b s : Nat) (hr : Rep kSum64 w b s) : Calls Try.prog 50 #[.iface 81 (hp b)] w fun e w' => e = .returned (.int .u64 ((kSum64.val s : Nat) : Int)) ∧ w = w' := by
  have h1 := Sum64.is32 (hp b)
  have h4 := Sum64.is64 (hp b)
  have h2 := Sum64.mSum64.find ⟨b, 0, none⟩
  have h3 := Sum64.mSum64.enter
  have HR := Lib.hid hr
  clear hr
  unfold hp at h1 h4 ⊢
  go_enter Try.func50, Try.ntmps50
  go_wp2_with fail
  refine (Sum64.sum64 w b s HR.out).mono ?_
  rintro e w1 ⟨rfl, rfl⟩
  go_wp2
  go_ret
  exact ⟨rfl, rfl⟩
theorem linkedSum64 : Linked kSum64 where
  saver := Sum64.isSaver
  cloner := Sum64.isCloner
  write := Sum64.mWrite
  sum := Sum64.mSum
  reset := Sum64.mReset
  size := Sum64.mSize
  block := Sum64.mBlock
  clone := Sum64.mClone
  marshal := Sum64.mMarshal
  unmarshal := Sum64.mUnmarshal
  value := Sum64.value

theorem Sum64a.isSaver (v : Value) (w : World) : (Instr.typeAssert (.iface 83 v) 58 98 true).run Try.prog w = .ok (.tuple #[.iface 83 v, .bool true]) w := run_typeAssert_hasB Try.underlying98 (by kernel_rfl) v _ w
theorem Sum64a.isCloner (v : Value) (w : World) : (Instr.typeAssert (.iface 83 v) 58 93 true).run Try.prog w = .ok (.tuple #[.iface 83 v, .bool true]) w := run_typeAssert_hasB Try.underlying93 (by kernel_rfl) v _ w
theorem Sum64a.is32 (v : Value) (w : World) : (Instr.typeAssert (.iface 83 v) 58 52 true).run Try.prog w = .ok (.tuple #[.nilIface, .bool false]) w := run_typeAssert_lacksB Try.underlying52 (by kernel_rfl) (by kernel_rfl) v _ w
theorem Sum64a.is64 (v : Value) (w : World) : (Instr.typeAssert (.iface 83 v) 58 55 true).run Try.prog w = .ok (.tuple #[.iface 83 v, .bool true]) w := run_typeAssert_hasB Try.underlying55 (by kernel_rfl) v _ w
theorem Sum64a.mWrite : Meth Try.prog 83 "Write" 114 := ⟨fun _ _ => by kernel_rfl, fun _ _ => by kernel_rfl, entered Try.func114 (by kernel_rfl) rfl⟩
theorem Sum64a.mSum : Meth Try.prog 83 "Sum" 111 := ⟨fun _ _ => by kernel_rfl, fun _ _ => by kernel_rfl, entered Try.func111 (by kernel_rfl) rfl⟩
theorem Sum64a.mReset : Meth Try.prog 83 "Reset" 109 := ⟨fun _ _ => by kernel_rfl, fun _ _ => by kernel_rfl, entered Try.func109 (by kernel_rfl) rfl⟩
theorem Sum64a.mSize : Meth Try.prog 83 "Size" 110 := ⟨fun _ _ => by kernel_rfl, fun _ _ => by kernel_rfl, entered Try.func110 (by kernel_rfl) rfl⟩
theorem Sum64a.mBlock : Meth Try.prog 83 "BlockSize" 106 := ⟨fun _ _ => by kernel_rfl, fun _ _ => by kernel_rfl, entered Try.func106 (by kernel_rfl) rfl⟩
theorem Sum64a.mClone : Meth Try.prog 83 "Clone" 107 := ⟨fun _ _ => by kernel_rfl, fun _ _ => by kernel_rfl, entered Try.func107 (by kernel_rfl) rfl⟩
theorem Sum64a.mMarshal : Meth Try.prog 83 "MarshalBinary" 108 := ⟨fun _ _ => by kernel_rfl, fun _ _ => by kernel_rfl, entered Try.func108 (by kernel_rfl) rfl⟩
theorem Sum64a.mUnmarshal : Meth Try.prog 83 "UnmarshalBinary" 113 := ⟨fun _ _ => by kernel_rfl, fun _ _ => by kernel_rfl, entered Try.func113 (by kernel_rfl) rfl⟩
theorem Sum64a.mSum64 : Meth Try.prog 83 "Sum64" 112 := ⟨fun _ _ => by kernel_rfl, fun _ _ => by kernel_rfl, entered Try.func112 (by kernel_rfl) rfl⟩
theorem Sum64a.sum64 (w : World) (b s : Nat) (hr : Rep kSum64a w b s) : Calls Try.prog 112 #[hp b] w fun e w' => e = .returned (.int .u64 (s : Int)) ∧ w = w' := by
  have hc : w.cell? ⟨b, 0, none⟩ = some (.int .u64 (s : Int)) := cell_of_one hr.1
  clear hr
  unfold hp
  go_enter Try.func112, Try.ntmps112
  go_wp2
  go_ret
  exact ⟨rfl, rfl⟩
set_option maxRecDepth 100000 in
theorem Sum64a.value (w : World) (b s : Nat) (hr : Rep kSum64a w b s) : Calls Try.prog 50 #[.iface 83 (hp b)] w fun e w' => e = .returned (.int .u64 ((kSum64a.val s : Nat) : Int)) ∧ w = w' := by
  have h1 := Sum64a.is32 (hp b)
  have h4 := Sum64a.is64 (hp b)
  have h2 := Sum64a.mSum64.find ⟨b, 0, none⟩
  have h3 := Sum64a.mSum64.enter
  have HR := Lib.hid hr
  clear hr
  unfold hp at h1 h4 ⊢
  go_enter Try.func50, Try.ntmps50
  go_wp2_with fail
  refine (Sum64a.sum64 w b s HR.out).mono ?_
  rintro e w1 ⟨rfl, rfl⟩
  go_wp2
  go_ret
  exact ⟨rfl, rfl⟩
theorem linkedSum64a : Linked kSum64a where
  saver := Sum64a.isSaver
  cloner := Sum64a.isCloner
  write := Sum64a.mWrite
  sum := Sum64a.mSum
  reset := Sum64a.mReset
  size := Sum64a.mSize
  block := Sum64a.mBlock
  clone := Sum64a.mClone
  marshal := Sum64a.mMarshal
  unmarshal := Sum64a.mUnmarshal
  value := Sum64a.value

theorem Digest.isSaver (v : Value) (w : World) : (Instr.typeAssert (.iface 89 v) 58 98 true).run Try.prog w = .ok (.tuple #[.iface 89 v, .bool true]) w := run_typeAssert_hasB Try.underlying98 (by kernel_rfl) v _ w
theorem Digest.isCloner (v : Value) (w : World) : (Instr.typeAssert (.iface 89 v) 58 93 true).run Try.prog w = .ok (.tuple #[.iface 89 v, .bool true]) w := run_typeAssert_hasB Try.underlying93 (by kernel_rfl) v _ w
theorem Digest.is32 (v : Value) (w : World) : (Instr.typeAssert (.iface 89 v) 58 52 true).run Try.prog w = .ok (.tuple #[.iface 89 v, .bool true]) w := run_typeAssert_hasB Try.underlying52 (by kernel_rfl) v _ w
theorem Digest.mWrite : Meth Try.prog 89 "Write" 142 := ⟨fun _ _ => by kernel_rfl, fun _ _ => by kernel_rfl, entered Try.func142 (by kernel_rfl) rfl⟩
theorem Digest.mSum : Meth Try.prog 89 "Sum" 139 := ⟨fun _ _ => by kernel_rfl, fun _ _ => by kernel_rfl, entered Try.func139 (by kernel_rfl) rfl⟩
theorem Digest.mReset : Meth Try.prog 89 "Reset" 51 := ⟨fun _ _ => by kernel_rfl, fun _ _ => by kernel_rfl, entered Try.func51 (by kernel_rfl) rfl⟩
theorem Digest.mSize : Meth Try.prog 89 "Size" 138 := ⟨fun _ _ => by kernel_rfl, fun _ _ => by kernel_rfl, entered Try.func138 (by kernel_rfl) rfl⟩
theorem Digest.mBlock : Meth Try.prog 89 "BlockSize" 135 := ⟨fun _ _ => by kernel_rfl, fun _ _ => by kernel_rfl, entered Try.func135 (by kernel_rfl) rfl⟩
theorem Digest.mClone : Meth Try.prog 89 "Clone" 136 := ⟨fun _ _ => by kernel_rfl, fun _ _ => by kernel_rfl, entered Try.func136 (by kernel_rfl) rfl⟩
theorem Digest.mMarshal : Meth Try.prog 89 "MarshalBinary" 137 := ⟨fun _ _ => by kernel_rfl, fun _ _ => by kernel_rfl, entered Try.func137 (by kernel_rfl) rfl⟩
theorem Digest.mUnmarshal : Meth Try.prog 89 "UnmarshalBinary" 141 := ⟨fun _ _ => by kernel_rfl, fun _ _ => by kernel_rfl, entered Try.func141 (by kernel_rfl) rfl⟩
theorem Digest.mSum32 : Meth Try.prog 89 "Sum32" 140 := ⟨fun _ _ => by kernel_rfl, fun _ _ => by kernel_rfl, entered Try.func140 (by kernel_rfl) rfl⟩
theorem Digest.sum32 (w : World) (b s : Nat) (hr : Rep kDigest w b s) : Calls Try.prog 140 #[hp b] w fun e w' => e = .returned (.int .u32 (s : Int)) ∧ w = w' := by
  have hc : w.cell? ⟨b, 0, none⟩ = some (.int .u32 (s : Int)) := cell_of_one hr.1
  clear hr
  unfold hp
  go_enter Try.func140, Try.ntmps140
  go_wp2
  go_ret
  exact ⟨rfl, rfl⟩
set_option maxRecDepth 100000 in
theorem Digest.value (w : World) (b s : Nat) (hr : Rep kDigest w b s) : Calls Try.prog 50 #[.iface 89 (hp b)] w fun e w' => e = .returned (.int .u64 ((kDigest.val s : Nat) : Int)) ∧ w = w' := by
  have h1 := Digest.is32 (hp b)
  have h2 := Digest.mSum32.find ⟨b, 0, none⟩
  have h3 := Digest.mSum32.enter
  have hlt : s < 4294967296 := by have := hr.2.1; have := hr.2.2; omega
  have HR := Lib.hid hr
  clear hr
  unfold hp at h1 ⊢
  go_enter Try.func50, Try.ntmps50
  go_wp2_with fail
  refine (Digest.sum32 w b s HR.out).mono ?_
  rintro e w1 ⟨rfl, rfl⟩
  go_wp2
  go_ret
  exact ⟨rfl, rfl⟩
theorem linkedDigest : Linked kDigest where
  saver := Digest.isSaver
  cloner := Digest.isCloner
  write := Digest.mWrite
  sum := Digest.mSum
  reset := Digest.mReset
  size := Digest.mSize
  block := Digest.mBlock
  clone := Digest.mClone
  marshal := Digest.mMarshal
  unmarshal := Digest.mUnmarshal
  value := Digest.value

theorem Sum128.isSaver (v : Value) (w : World) : (Instr.typeAssert (.iface 86 v) 58 98 true).run Try.prog w = .ok (.tuple #[.iface 86 v, .bool true]) w := run_typeAssert_hasB Try.underlying98 (by kernel_rfl) v _ w
theorem Sum128.isCloner (v : Value) (w : World) : (Instr.typeAssert (.iface 86 v) 58 93 true).run Try.prog w = .ok (.tuple #[.iface 86 v, .bool true]) w := run_typeAssert_hasB Try.underlying93 (by kernel_rfl) v _ w
theorem Sum128.is32 (v : Value) (w : World) : (Instr.typeAssert (.iface 86 v) 58 52 true).run Try.prog w = .ok (.tuple #[.nilIface, .bool false]) w := run_typeAssert_lacksB Try.underlying52 (by kernel_rfl) (by kernel_rfl) v _ w
theorem Sum128.is64 (v : Value) (w : World) : (Instr.typeAssert (.iface 86 v) 58 55 true).run Try.prog w = .ok (.tuple #[.nilIface, .bool false]) w := run_typeAssert_lacksB Try.underlying55 (by kernel_rfl) (by kernel_rfl) v _ w
theorem Sum128.mWrite : Meth Try.prog 86 "Write" 123 := ⟨fun _ _ => by kernel_rfl, fun _ _ => by kernel_rfl, entered Try.func123 (by kernel_rfl) rfl⟩
theorem Sum128.mSum : Meth Try.prog 86 "Sum" 121 := ⟨fun _ _ => by kernel_rfl, fun _ _ => by kernel_rfl, entered Try.func121 (by kernel_rfl) rfl⟩
theorem Sum128.mReset : Meth Try.prog 86 "Reset" 119 := ⟨fun _ _ => by kernel_rfl, fun _ _ => by kernel_rfl, entered Try.func119 (by kernel_rfl) rfl⟩
theorem Sum128.mSize : Meth Try.prog 86 "Size" 120 := ⟨fun _ _ => by kernel_rfl, fun _ _ => by kernel_rfl, entered Try.func120 (by kernel_rfl) rfl⟩
theorem Sum128.mBlock : Meth Try.prog 86 "BlockSize" 116 := ⟨fun _ _ => by kernel_rfl, fun _ _ => by kernel_rfl, entered Try.func116 (by kernel_rfl) rfl⟩
theorem Sum128.mClone : Meth Try.prog 86 "Clone" 117 := ⟨fun _ _ => by kernel_rfl, fun _ _ => by kernel_rfl, entered Try.func117 (by kernel_rfl) rfl⟩
theorem Sum128.mMarshal : Meth Try.prog 86 "MarshalBinary" 118 := ⟨fun _ _ => by kernel_rfl, fun _ _ => by kernel_rfl, entered Try.func118 (by kernel_rfl) rfl⟩
theorem Sum128.mUnmarshal : Meth Try.prog 86 "UnmarshalBinary" 122 := ⟨fun _ _ => by kernel_rfl, fun _ _ => by kernel_rfl, entered Try.func122 (by kernel_rfl) rfl⟩
set_option maxRecDepth 100000 in
theorem Sum128.value (w : World) (b s : Nat) (hr : Rep kSum128 w b s) : Calls Try.prog 50 #[.iface 86 (hp b)] w fun e w' => e = .returned (.int .u64 ((kSum128.val s : Nat) : Int)) ∧ w = w' := by
  have h1 := Sum128.is32 (hp b)
  have h4 := Sum128.is64 (hp b)
  unfold hp at h1 h4 ⊢
  go_enter Try.func50, Try.ntmps50
  go_wp2
  go_ret
  exact ⟨rfl, rfl⟩
theorem linkedSum128 : Linked kSum128 where
  saver := Sum128.isSaver
  cloner := Sum128.isCloner
  write := Sum128.mWrite
  sum := Sum128.mSum
  reset := Sum128.mReset
  size := Sum128.mSize
  block := Sum128.mBlock
  clone := Sum128.mClone
  marshal := Sum128.mMarshal
  unmarshal := Sum128.mUnmarshal
  value := Sum128.value

theorem Sum128a.isSaver (v : Value) (w : World) : (Instr.typeAssert (.iface 88 v) 58 98 true).run Try.prog w = .ok (.tuple #[.iface 88 v, .bool true]) w := run_typeAssert_hasB Try.underlying98 (by kernel_rfl) v _ w
theorem Sum128a.isCloner (v : Value) (w : World) : (Instr.typeAssert (.iface 88 v) 58 93 true).run Try.prog w = .ok (.tuple #[.iface 88 v, .bool true]) w := run_typeAssert_hasB Try.underlying93 (by kernel_rfl) v _ w
theorem Sum128a.is32 (v : Value) (w : World) : (Instr.typeAssert (.iface 88 v) 58 52 true).run Try.prog w = .ok (.tuple #[.nilIface, .bool false]) w := run_typeAssert_lacksB Try.underlying52 (by kernel_rfl) (by kernel_rfl) v _ w
theorem Sum128a.is64 (v : Value) (w : World) : (Instr.typeAssert (.iface 88 v) 58 55 true).run Try.prog w = .ok (.tuple #[.nilIface, .bool false]) w := run_typeAssert_lacksB Try.underlying55 (by kernel_rfl) (by kernel_rfl) v _ w
theorem Sum128a.mWrite : Meth Try.prog 88 "Write" 133 := ⟨fun _ _ => by kernel_rfl, fun _ _ => by kernel_rfl, entered Try.func133 (by kernel_rfl) rfl⟩
theorem Sum128a.mSum : Meth Try.prog 88 "Sum" 131 := ⟨fun _ _ => by kernel_rfl, fun _ _ => by kernel_rfl, entered Try.func131 (by kernel_rfl) rfl⟩
theorem Sum128a.mReset : Meth Try.prog 88 "Reset" 129 := ⟨fun _ _ => by kernel_rfl, fun _ _ => by kernel_rfl, entered Try.func129 (by kernel_rfl) rfl⟩
theorem Sum128a.mSize : Meth Try.prog 88 "Size" 130 := ⟨fun _ _ => by kernel_rfl, fun _ _ => by kernel_rfl, entered Try.func130 (by kernel_rfl) rfl⟩
theorem Sum128a.mBlock : Meth Try.prog 88 "BlockSize" 126 := ⟨fun _ _ => by kernel_rfl, fun _ _ => by kernel_rfl, entered Try.func126 (by kernel_rfl) rfl⟩
theorem Sum128a.mClone : Meth Try.prog 88 "Clone" 127 := ⟨fun _ _ => by kernel_rfl, fun _ _ => by kernel_rfl, entered Try.func127 (by kernel_rfl) rfl⟩
theorem Sum128a.mMarshal : Meth Try.prog 88 "MarshalBinary" 128 := ⟨fun _ _ => by kernel_rfl, fun _ _ => by kernel_rfl, entered Try.func128 (by kernel_rfl) rfl⟩
theorem Sum128a.mUnmarshal : Meth Try.prog 88 "UnmarshalBinary" 132 := ⟨fun _ _ => by kernel_rfl, fun _ _ => by kernel_rfl, entered Try.func132 (by kernel_rfl) rfl⟩
set_option maxRecDepth 100000 in
theorem Sum128a.value (w : World) (b s : Nat) (hr : Rep kSum128a w b s) : Calls Try.prog 50 #[.iface 88 (hp b)] w fun e w' => e = .returned (.int .u64 ((kSum128a.val s : Nat) : Int)) ∧ w = w' := by
  have h1 := Sum128a.is32 (hp b)
  have h4 := Sum128a.is64 (hp b)
  unfold hp at h1 h4 ⊢
  go_enter Try.func50, Try.ntmps50
  go_wp2
  go_ret
  exact ⟨rfl, rfl⟩
theorem linkedSum128a : Linked kSum128a where
  saver := Sum128a.isSaver
  cloner := Sum128a.isCloner
  write := Sum128a.mWrite
  sum := Sum128a.mSum
  reset := Sum128a.mReset
  size := Sum128a.mSize
  block := Sum128a.mBlock
  clone := Sum128a.mClone
  marshal := Sum128a.mMarshal
  unmarshal := Sum128a.mUnmarshal
  value := Sum128a.value

end Go.Proofs.Ytdpjdglcienbfaa

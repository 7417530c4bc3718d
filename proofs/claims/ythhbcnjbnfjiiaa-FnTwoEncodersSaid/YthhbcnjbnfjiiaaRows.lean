/-
  No cell of these rows narrows 'for every input' (looked for: loops, veiled, ifaces, maps, wideKeys, modest, calm, conditions, laid).
  DERIVED. THE GIVEN ROWS OF THIS SEAT. 8 by the template 'for every input the law returns true; each argument reads behind the call as it read before'; 0 by the template 'total and deterministic' (their statements: YthhbcnjbnfjiiaaTotals.lean).
  GIVEN WITH THE SEED: the statements are not yours to turn. If you find one false, say at which input.
  Laid BY PROGRAM, IN A SANDBOX (cutbox-rows.mjs): the forced cells as the released guide's own fill.sh prints them over the translation f7f774527195d1a6… (all of the seat's roots in one cut). By AI agents, Wed Nov 11 2026. No macro, syntax, notation, axiom, sorry.
-/
import Derived.Test.YthhbcnjbnfjiiaaChecked
import GoSem.Claim
import GoSem.ClaimJoined
import GoSem.ClaimMapViews
import Derived.JoinedTies
import Derived.KernelRfl
namespace Go.Proofs.Ythhbcnjbnfjiiaa
/- THE CELL 'sum', in the pinned program and in every row, IS THE sha256 OF THE DUMP (.gsa) THAT YthhbcnjbnfjiiaaProg.lean LOADS. Nothing in Lean hashes anything: it is a label: what it is worth is what the hold of that sum in a sandbox is worth. -/
noncomputable def Try.pinned : Pinned := { name := "ythhbcnjbnfjiiaa", sum := "f7f774527195d1a65231ed0a479a596c0b6537f1a4c97fb175411391d7e7281a", checked := Try.checked }
namespace Rows
def none {H : Type} : Left H := { results := [], args := [] }

/-- 'laws.FnMaxEncoded': WHATEVER THE INPUT: true; the input reads as it did. -/
def fnMaxEncodedSpec : ChangeSpec := { name := "fnMaxEncoded", fn := fun _ => fun
  | [d] => { results := [.lit (.bool true)], args := [d] }
  | _ => none }
def fnMaxEncodedRow : OpenClaim := { program := "ythhbcnjbnfjiiaa", sum := "f7f774527195d1a65231ed0a479a596c0b6537f1a4c97fb175411391d7e7281a", func := "loop.example/lib-g03213/laws.FnMaxEncoded", spec := "fnMaxEncoded", apart := false }
def FnMaxEncodedSaid : Prop := fnMaxEncodedRow.holds Try.pinned (OpenSpec.ofChange fnMaxEncodedSpec)

/-- ITS FALSE NEIGHBOUR: 'it returns false'. Refute it at one input. -/
def fnMaxEncodedWrong : ChangeSpec := { name := "fnMaxEncoded", fn := fun _ => fun
  | [d] => { results := [.lit (.bool false)], args := [d] }
  | _ => none }
def FnMaxEncodedWrongFalsely : Prop := fnMaxEncodedRow.holds Try.pinned (OpenSpec.ofChange fnMaxEncodedWrong)

/-- 'laws.FnEncodeParts': WHATEVER THE INPUT: true; the input reads as it did. -/
def fnEncodePartsSpec : ChangeSpec := { name := "fnEncodeParts", fn := fun _ => fun
  | [d] => { results := [.lit (.bool true)], args := [d] }
  | _ => none }
def fnEncodePartsRow : OpenClaim := { program := "ythhbcnjbnfjiiaa", sum := "f7f774527195d1a65231ed0a479a596c0b6537f1a4c97fb175411391d7e7281a", func := "loop.example/lib-g03213/laws.FnEncodeParts", spec := "fnEncodeParts", unfollowed := true, recurses := true, apart := false }
def FnEncodePartsSaid : Prop := fnEncodePartsRow.holds Try.pinned (OpenSpec.ofChange fnEncodePartsSpec)

/-- ITS FALSE NEIGHBOUR: 'it returns false'. Refute it at one input. -/
def fnEncodePartsWrong : ChangeSpec := { name := "fnEncodeParts", fn := fun _ => fun
  | [d] => { results := [.lit (.bool false)], args := [d] }
  | _ => none }
def FnEncodePartsWrongFalsely : Prop := fnEncodePartsRow.holds Try.pinned (OpenSpec.ofChange fnEncodePartsWrong)

/-- 'laws.FnEncode': WHATEVER THE INPUT: true; the input reads as it did. -/
def fnEncodeSpec : ChangeSpec := { name := "fnEncode", fn := fun _ => fun
  | [d] => { results := [.lit (.bool true)], args := [d] }
  | _ => none }
def fnEncodeRow : OpenClaim := { program := "ythhbcnjbnfjiiaa", sum := "f7f774527195d1a65231ed0a479a596c0b6537f1a4c97fb175411391d7e7281a", func := "loop.example/lib-g03213/laws.FnEncode", spec := "fnEncode", apart := false }
def FnEncodeSaid : Prop := fnEncodeRow.holds Try.pinned (OpenSpec.ofChange fnEncodeSpec)

/-- ITS FALSE NEIGHBOUR: 'it returns false'. Refute it at one input. -/
def fnEncodeWrong : ChangeSpec := { name := "fnEncode", fn := fun _ => fun
  | [d] => { results := [.lit (.bool false)], args := [d] }
  | _ => none }
def FnEncodeWrongFalsely : Prop := fnEncodeRow.holds Try.pinned (OpenSpec.ofChange fnEncodeWrong)

/-- 'laws.FnGroups': WHATEVER THE INPUT: true; the input reads as it did. -/
def fnGroupsSpec : ChangeSpec := { name := "fnGroups", fn := fun _ => fun
  | [d1, d2] => { results := [.lit (.bool true)], args := [d1, d2] }
  | _ => none }
def fnGroupsRow : OpenClaim := { program := "ythhbcnjbnfjiiaa", sum := "f7f774527195d1a65231ed0a479a596c0b6537f1a4c97fb175411391d7e7281a", func := "loop.example/lib-g03213/laws.FnGroups", spec := "fnGroups", apart := false }
def FnGroupsSaid : Prop := fnGroupsRow.holds Try.pinned (OpenSpec.ofChange fnGroupsSpec)

/-- ITS FALSE NEIGHBOUR: 'it returns false'. Refute it at one input. -/
def fnGroupsWrong : ChangeSpec := { name := "fnGroups", fn := fun _ => fun
  | [d1, d2] => { results := [.lit (.bool false)], args := [d1, d2] }
  | _ => none }
def FnGroupsWrongFalsely : Prop := fnGroupsRow.holds Try.pinned (OpenSpec.ofChange fnGroupsWrong)

/-- 'laws.FnOrder': WHATEVER THE INPUT: true; the input reads as it did. -/
def fnOrderSpec : ChangeSpec := { name := "fnOrder", fn := fun _ => fun
  | [d1, d2] => { results := [.lit (.bool true)], args := [d1, d2] }
  | _ => none }
def fnOrderRow : OpenClaim := { program := "ythhbcnjbnfjiiaa", sum := "f7f774527195d1a65231ed0a479a596c0b6537f1a4c97fb175411391d7e7281a", func := "loop.example/lib-g03213/laws.FnOrder", spec := "fnOrder", apart := false }
def FnOrderSaid : Prop := fnOrderRow.holds Try.pinned (OpenSpec.ofChange fnOrderSpec)

/-- ITS FALSE NEIGHBOUR: 'it returns false'. Refute it at one input. -/
def fnOrderWrong : ChangeSpec := { name := "fnOrder", fn := fun _ => fun
  | [d1, d2] => { results := [.lit (.bool false)], args := [d1, d2] }
  | _ => none }
def FnOrderWrongFalsely : Prop := fnOrderRow.holds Try.pinned (OpenSpec.ofChange fnOrderWrong)

/-- 'laws.FnPartial': WHATEVER THE INPUT: true; the input reads as it did. -/
def fnPartialSpec : ChangeSpec := { name := "fnPartial", fn := fun _ => fun
  | [d] => { results := [.lit (.bool true)], args := [d] }
  | _ => none }
def fnPartialRow : OpenClaim := { program := "ythhbcnjbnfjiiaa", sum := "f7f774527195d1a65231ed0a479a596c0b6537f1a4c97fb175411391d7e7281a", func := "loop.example/lib-g03213/laws.FnPartial", spec := "fnPartial", apart := false }
def FnPartialSaid : Prop := fnPartialRow.holds Try.pinned (OpenSpec.ofChange fnPartialSpec)

/-- ITS FALSE NEIGHBOUR: 'it returns false'. Refute it at one input. -/
def fnPartialWrong : ChangeSpec := { name := "fnPartial", fn := fun _ => fun
  | [d] => { results := [.lit (.bool false)], args := [d] }
  | _ => none }
def FnPartialWrongFalsely : Prop := fnPartialRow.holds Try.pinned (OpenSpec.ofChange fnPartialWrong)

/-- 'laws.FnLengths': WHATEVER THE INPUT: true; the input reads as it did. -/
def fnLengthsSpec : ChangeSpec := { name := "fnLengths", fn := fun _ => fun
  | [d] => { results := [.lit (.bool true)], args := [d] }
  | _ => none }
def fnLengthsRow : OpenClaim := { program := "ythhbcnjbnfjiiaa", sum := "f7f774527195d1a65231ed0a479a596c0b6537f1a4c97fb175411391d7e7281a", func := "loop.example/lib-g03213/laws.FnLengths", spec := "fnLengths", apart := false }
def FnLengthsSaid : Prop := fnLengthsRow.holds Try.pinned (OpenSpec.ofChange fnLengthsSpec)

/-- ITS FALSE NEIGHBOUR: 'it returns false'. Refute it at one input. -/
def fnLengthsWrong : ChangeSpec := { name := "fnLengths", fn := fun _ => fun
  | [d] => { results := [.lit (.bool false)], args := [d] }
  | _ => none }
def FnLengthsWrongFalsely : Prop := fnLengthsRow.holds Try.pinned (OpenSpec.ofChange fnLengthsWrong)

/-- 'laws.FnTwoEncoders': WHATEVER THE INPUT: true; the input reads as it did. -/
def fnTwoEncodersSpec : ChangeSpec := { name := "fnTwoEncoders", fn := fun _ => fun
  | [d1, d2] => { results := [.lit (.bool true)], args := [d1, d2] }
  | _ => none }
def fnTwoEncodersRow : OpenClaim := { program := "ythhbcnjbnfjiiaa", sum := "f7f774527195d1a65231ed0a479a596c0b6537f1a4c97fb175411391d7e7281a", func := "loop.example/lib-g03213/laws.FnTwoEncoders", spec := "fnTwoEncoders", unfollowed := true, recurses := true, apart := false }
def FnTwoEncodersSaid : Prop := fnTwoEncodersRow.holds Try.pinned (OpenSpec.ofChange fnTwoEncodersSpec)

/-- ITS FALSE NEIGHBOUR: 'it returns false'. Refute it at one input. -/
def fnTwoEncodersWrong : ChangeSpec := { name := "fnTwoEncoders", fn := fun _ => fun
  | [d1, d2] => { results := [.lit (.bool false)], args := [d1, d2] }
  | _ => none }
def FnTwoEncodersWrongFalsely : Prop := fnTwoEncodersRow.holds Try.pinned (OpenSpec.ofChange fnTwoEncodersWrong)

/- THE SECOND FORM. 'bulk': how many values and letters a reading holds, each counted each time it is reached (what is shared counts as often as it is met; a slice's spare places count too). A statement '..UptoSaid' is the law's where the arguments, and the package variables that the reading takes, are together of bulk at most 1048576: NARROWER than '..Said'. Prove '..Said' where nothing that the law and all that it calls make is longer than what came in: it says more and counts as full. Else prove '..UptoSaid'. A law counts once. -/
mutual
def uptoBulk {H : Type} : DataW H → Nat
  | .lit (.string bytes) => bytes.length + 1
  | .lit _ => 1
  | .nil => 1
  | .ptr d => uptoBulk d + 1
  | .slice elems spare => uptoBulkAll elems + uptoBulkAll spare + 1
  | .agg parts => uptoBulkAll parts + 1
  | .iface _ d => uptoBulk d + 1
  | .map entries => uptoBulkEntries entries + 1
  | .held _ => 1
def uptoBulkAll {H : Type} : List (DataW H) → Nat
  | [] => 0
  | d :: r => uptoBulk d + uptoBulkAll r
def uptoBulkEntries {H : Type} : List (Lit × DataW H) → Nat
  | [] => 0
  | x :: r => uptoBulkEntry x + uptoBulkEntries r
def uptoBulkEntry {H : Type} : Lit × DataW H → Nat
  | (.string bytes, d) => bytes.length + uptoBulk d + 1
  | (_, d) => uptoBulk d + 1
 end
def uptoSmall : (H : Type) → List (DataW H) → Bool := fun _ ds => decide (uptoBulkAll ds ≤ 1048576)
def OpenSpec.upto (s : _root_.Go.ChangeSpec) : _root_.Go.OpenSpec := { _root_.Go.OpenSpec.ofChange s with cond := some uptoSmall }

/-- 'laws.FnMaxEncoded', WHERE WHAT IT READS IS OF BULK AT MOST 1048576: true; the input reads as it did. -/
def fnMaxEncodedUptoRow : OpenClaim := { program := "ythhbcnjbnfjiiaa", sum := "f7f774527195d1a65231ed0a479a596c0b6537f1a4c97fb175411391d7e7281a", func := "loop.example/lib-g03213/laws.FnMaxEncoded", spec := "fnMaxEncoded", apart := false, narrowed := true }
def FnMaxEncodedUptoSaid : Prop := fnMaxEncodedUptoRow.holds Try.pinned (OpenSpec.upto fnMaxEncodedSpec)

/-- 'laws.FnEncodeParts', WHERE WHAT IT READS IS OF BULK AT MOST 1048576: true; the input reads as it did. -/
def fnEncodePartsUptoRow : OpenClaim := { program := "ythhbcnjbnfjiiaa", sum := "f7f774527195d1a65231ed0a479a596c0b6537f1a4c97fb175411391d7e7281a", func := "loop.example/lib-g03213/laws.FnEncodeParts", spec := "fnEncodeParts", unfollowed := true, recurses := true, apart := false, narrowed := true }
def FnEncodePartsUptoSaid : Prop := fnEncodePartsUptoRow.holds Try.pinned (OpenSpec.upto fnEncodePartsSpec)

/-- 'laws.FnEncode', WHERE WHAT IT READS IS OF BULK AT MOST 1048576: true; the input reads as it did. -/
def fnEncodeUptoRow : OpenClaim := { program := "ythhbcnjbnfjiiaa", sum := "f7f774527195d1a65231ed0a479a596c0b6537f1a4c97fb175411391d7e7281a", func := "loop.example/lib-g03213/laws.FnEncode", spec := "fnEncode", apart := false, narrowed := true }
def FnEncodeUptoSaid : Prop := fnEncodeUptoRow.holds Try.pinned (OpenSpec.upto fnEncodeSpec)

/-- 'laws.FnGroups', WHERE WHAT IT READS IS OF BULK AT MOST 1048576: true; the input reads as it did. -/
def fnGroupsUptoRow : OpenClaim := { program := "ythhbcnjbnfjiiaa", sum := "f7f774527195d1a65231ed0a479a596c0b6537f1a4c97fb175411391d7e7281a", func := "loop.example/lib-g03213/laws.FnGroups", spec := "fnGroups", apart := false, narrowed := true }
def FnGroupsUptoSaid : Prop := fnGroupsUptoRow.holds Try.pinned (OpenSpec.upto fnGroupsSpec)

/-- 'laws.FnOrder', WHERE WHAT IT READS IS OF BULK AT MOST 1048576: true; the input reads as it did. -/
def fnOrderUptoRow : OpenClaim := { program := "ythhbcnjbnfjiiaa", sum := "f7f774527195d1a65231ed0a479a596c0b6537f1a4c97fb175411391d7e7281a", func := "loop.example/lib-g03213/laws.FnOrder", spec := "fnOrder", apart := false, narrowed := true }
def FnOrderUptoSaid : Prop := fnOrderUptoRow.holds Try.pinned (OpenSpec.upto fnOrderSpec)

/-- 'laws.FnPartial', WHERE WHAT IT READS IS OF BULK AT MOST 1048576: true; the input reads as it did. -/
def fnPartialUptoRow : OpenClaim := { program := "ythhbcnjbnfjiiaa", sum := "f7f774527195d1a65231ed0a479a596c0b6537f1a4c97fb175411391d7e7281a", func := "loop.example/lib-g03213/laws.FnPartial", spec := "fnPartial", apart := false, narrowed := true }
def FnPartialUptoSaid : Prop := fnPartialUptoRow.holds Try.pinned (OpenSpec.upto fnPartialSpec)

/-- 'laws.FnLengths', WHERE WHAT IT READS IS OF BULK AT MOST 1048576: true; the input reads as it did. -/
def fnLengthsUptoRow : OpenClaim := { program := "ythhbcnjbnfjiiaa", sum := "f7f774527195d1a65231ed0a479a596c0b6537f1a4c97fb175411391d7e7281a", func := "loop.example/lib-g03213/laws.FnLengths", spec := "fnLengths", apart := false, narrowed := true }
def FnLengthsUptoSaid : Prop := fnLengthsUptoRow.holds Try.pinned (OpenSpec.upto fnLengthsSpec)

/-- 'laws.FnTwoEncoders', WHERE WHAT IT READS IS OF BULK AT MOST 1048576: true; the input reads as it did. -/
def fnTwoEncodersUptoRow : OpenClaim := { program := "ythhbcnjbnfjiiaa", sum := "f7f774527195d1a65231ed0a479a596c0b6537f1a4c97fb175411391d7e7281a", func := "loop.example/lib-g03213/laws.FnTwoEncoders", spec := "fnTwoEncoders", unfollowed := true, recurses := true, apart := false, narrowed := true }
def FnTwoEncodersUptoSaid : Prop := fnTwoEncodersUptoRow.holds Try.pinned (OpenSpec.upto fnTwoEncodersSpec)

end Rows
end Go.Proofs.Ythhbcnjbnfjiiaa

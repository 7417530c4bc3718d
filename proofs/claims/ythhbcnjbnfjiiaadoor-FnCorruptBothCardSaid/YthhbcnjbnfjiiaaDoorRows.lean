/-
  NARROWER THAN 'FOR EVERY INPUT', by the rows' own cells (each row's printed sentence says how): FnSpaces: laid · FnTail: laid · FnCorruptBoth: laid · FnDecodeParts: laid · FnCorrupt: laid · FnCorruptPlace: laid · FnDecode: laid · FnDecodeMore: laid · FnTwoDecoders: laid · FnEncodeDecode: laid.
  DERIVED. THE GIVEN ROWS OF THIS SEAT. 10 by the template 'for every input the law returns true; each argument reads behind the call as it read before'; 0 by the template 'total and deterministic' (their statements: YthhbcnjbnfjiiaaDoorTotals.lean).
  GIVEN WITH THE SEED: the statements are not yours to turn. If you find one false, say at which input.
  Laid BY PROGRAM, IN A SANDBOX (cutbox-rows.mjs): the forced cells as the released guide's own fill.sh prints them over the translation 774047d4eaad7f6b… (all of the seat's roots in one cut). By AI agents, Wed Nov 11 2026. No macro, syntax, notation, axiom, sorry.
-/
import Derived.Test.YthhbcnjbnfjiiaaDoorChecked
import GoSem.Claim
import GoSem.ClaimJoined
import GoSem.ClaimMapViews
import Derived.JoinedTies
import Derived.KernelRfl
namespace Go.Proofs.YthhbcnjbnfjiiaaDoor
/- THE CELL 'sum', in the pinned program and in every row, IS THE sha256 OF THE DUMP (.gsa) THAT YthhbcnjbnfjiiaaDoorProg.lean LOADS. Nothing in Lean hashes anything: it is a label: what it is worth is what the hold of that sum in a sandbox is worth. -/
noncomputable def Tryd.pinned : Pinned := { name := "ythhbcnjbnfjiiaadoor", sum := "774047d4eaad7f6bae772753f3e604c57f506a72ceec7de140b0fd79af9cd4d7", checked := Tryd.checked }
namespace Rows
def none {H : Type} : Left H := { results := [], args := [] }

/- WHAT THE LISTED PACKAGE-LEVEL VARIABLES READ AS WHEN THE CALL BEGINS. Each datum BY PROGRAM (the guide's laid-datum.mjs) off the statement by which the dump's own 'gosem.cut.vars' lays the variable. In a bare row this is a premise. The card (YthhbcnjbnfjiiaaDoorCards.lean) ties it to the program's text. -/
def laid_errors_errorType {H : Type} : DataW H := .iface "internal/reflectlite.rtype" (.agg [.ptr (.lit (.string [101, 114, 114, 111, 114]))])

/-- 'laws.FnSpaces': WHATEVER THE INPUT: true; the input reads as it did. -/
def fnSpacesSpec : ChangeSpec := { name := "fnSpaces", fn := fun _ => fun
  | [d1, d2, d3] => { results := [.lit (.bool true)], args := [d1, d2, d3] }
  | _ => none }
def fnSpacesRow : OpenClaim := { program := "ythhbcnjbnfjiiaadoor", sum := "774047d4eaad7f6bae772753f3e604c57f506a72ceec7de140b0fd79af9cd4d7", func := "loop.example/lib-g03213/laws.FnSpaces", spec := "fnSpaces", inPlace := ["internal/reflectlite.ValueOf", "(internal/reflectlite.Value).Type", "(internal/reflectlite.Value).IsNil", "internal/reflectlite.TypeOf", "(internal/reflectlite.Value).Elem", "(internal/reflectlite.Value).Set"], unfollowed := true, recurses := true, named := ["errors.errorType"], apart := false, laid := [("errors.errorType", laid_errors_errorType)] }
def FnSpacesSaid : Prop := fnSpacesRow.holds Tryd.pinned (OpenSpec.ofChange fnSpacesSpec)

/-- ITS FALSE NEIGHBOUR: 'it returns false'. Refute it at one input. -/
def fnSpacesWrong : ChangeSpec := { name := "fnSpaces", fn := fun _ => fun
  | [d1, d2, d3] => { results := [.lit (.bool false)], args := [d1, d2, d3] }
  | _ => none }
def FnSpacesWrongFalsely : Prop := fnSpacesRow.holds Tryd.pinned (OpenSpec.ofChange fnSpacesWrong)

/-- 'laws.FnTail': WHATEVER THE INPUT: true; the input reads as it did. -/
def fnTailSpec : ChangeSpec := { name := "fnTail", fn := fun _ => fun
  | [d1, d2] => { results := [.lit (.bool true)], args := [d1, d2] }
  | _ => none }
def fnTailRow : OpenClaim := { program := "ythhbcnjbnfjiiaadoor", sum := "774047d4eaad7f6bae772753f3e604c57f506a72ceec7de140b0fd79af9cd4d7", func := "loop.example/lib-g03213/laws.FnTail", spec := "fnTail", inPlace := ["internal/reflectlite.ValueOf", "(internal/reflectlite.Value).Type", "(internal/reflectlite.Value).IsNil", "internal/reflectlite.TypeOf", "(internal/reflectlite.Value).Elem", "(internal/reflectlite.Value).Set"], unfollowed := true, recurses := true, named := ["errors.errorType"], apart := false, laid := [("errors.errorType", laid_errors_errorType)] }
def FnTailSaid : Prop := fnTailRow.holds Tryd.pinned (OpenSpec.ofChange fnTailSpec)

/-- ITS FALSE NEIGHBOUR: 'it returns false'. Refute it at one input. -/
def fnTailWrong : ChangeSpec := { name := "fnTail", fn := fun _ => fun
  | [d1, d2] => { results := [.lit (.bool false)], args := [d1, d2] }
  | _ => none }
def FnTailWrongFalsely : Prop := fnTailRow.holds Tryd.pinned (OpenSpec.ofChange fnTailWrong)

/-- 'laws.FnCorruptBoth': WHATEVER THE INPUT: true; the input reads as it did. -/
def fnCorruptBothSpec : ChangeSpec := { name := "fnCorruptBoth", fn := fun _ => fun
  | [d1, d2, d3, d4] => { results := [.lit (.bool true)], args := [d1, d2, d3, d4] }
  | _ => none }
def fnCorruptBothRow : OpenClaim := { program := "ythhbcnjbnfjiiaadoor", sum := "774047d4eaad7f6bae772753f3e604c57f506a72ceec7de140b0fd79af9cd4d7", func := "loop.example/lib-g03213/laws.FnCorruptBoth", spec := "fnCorruptBoth", inPlace := ["internal/reflectlite.ValueOf", "(internal/reflectlite.Value).Type", "(internal/reflectlite.Value).IsNil", "internal/reflectlite.TypeOf", "(internal/reflectlite.Value).Elem", "(internal/reflectlite.Value).Set"], unfollowed := true, recurses := true, named := ["errors.errorType"], apart := false, laid := [("errors.errorType", laid_errors_errorType)] }
def FnCorruptBothSaid : Prop := fnCorruptBothRow.holds Tryd.pinned (OpenSpec.ofChange fnCorruptBothSpec)

/-- ITS FALSE NEIGHBOUR: 'it returns false'. Refute it at one input. -/
def fnCorruptBothWrong : ChangeSpec := { name := "fnCorruptBoth", fn := fun _ => fun
  | [d1, d2, d3, d4] => { results := [.lit (.bool false)], args := [d1, d2, d3, d4] }
  | _ => none }
def FnCorruptBothWrongFalsely : Prop := fnCorruptBothRow.holds Tryd.pinned (OpenSpec.ofChange fnCorruptBothWrong)

/-- 'laws.FnDecodeParts': WHATEVER THE INPUT: true; the input reads as it did. -/
def fnDecodePartsSpec : ChangeSpec := { name := "fnDecodeParts", fn := fun _ => fun
  | [d1, d2, d3] => { results := [.lit (.bool true)], args := [d1, d2, d3] }
  | _ => none }
def fnDecodePartsRow : OpenClaim := { program := "ythhbcnjbnfjiiaadoor", sum := "774047d4eaad7f6bae772753f3e604c57f506a72ceec7de140b0fd79af9cd4d7", func := "loop.example/lib-g03213/laws.FnDecodeParts", spec := "fnDecodeParts", inPlace := ["internal/reflectlite.ValueOf", "(internal/reflectlite.Value).Type", "(internal/reflectlite.Value).IsNil", "internal/reflectlite.TypeOf", "(internal/reflectlite.Value).Elem", "(internal/reflectlite.Value).Set"], unfollowed := true, recurses := true, named := ["errors.errorType"], apart := false, laid := [("errors.errorType", laid_errors_errorType)] }
def FnDecodePartsSaid : Prop := fnDecodePartsRow.holds Tryd.pinned (OpenSpec.ofChange fnDecodePartsSpec)

/-- ITS FALSE NEIGHBOUR: 'it returns false'. Refute it at one input. -/
def fnDecodePartsWrong : ChangeSpec := { name := "fnDecodeParts", fn := fun _ => fun
  | [d1, d2, d3] => { results := [.lit (.bool false)], args := [d1, d2, d3] }
  | _ => none }
def FnDecodePartsWrongFalsely : Prop := fnDecodePartsRow.holds Tryd.pinned (OpenSpec.ofChange fnDecodePartsWrong)

/-- 'laws.FnCorrupt': WHATEVER THE INPUT: true; the input reads as it did. -/
def fnCorruptSpec : ChangeSpec := { name := "fnCorrupt", fn := fun _ => fun
  | [d1, d2] => { results := [.lit (.bool true)], args := [d1, d2] }
  | _ => none }
def fnCorruptRow : OpenClaim := { program := "ythhbcnjbnfjiiaadoor", sum := "774047d4eaad7f6bae772753f3e604c57f506a72ceec7de140b0fd79af9cd4d7", func := "loop.example/lib-g03213/laws.FnCorrupt", spec := "fnCorrupt", inPlace := ["internal/reflectlite.ValueOf", "(internal/reflectlite.Value).Type", "(internal/reflectlite.Value).IsNil", "internal/reflectlite.TypeOf", "(internal/reflectlite.Value).Elem", "(internal/reflectlite.Value).Set"], unfollowed := true, recurses := true, named := ["errors.errorType"], apart := false, laid := [("errors.errorType", laid_errors_errorType)] }
def FnCorruptSaid : Prop := fnCorruptRow.holds Tryd.pinned (OpenSpec.ofChange fnCorruptSpec)

/-- ITS FALSE NEIGHBOUR: 'it returns false'. Refute it at one input. -/
def fnCorruptWrong : ChangeSpec := { name := "fnCorrupt", fn := fun _ => fun
  | [d1, d2] => { results := [.lit (.bool false)], args := [d1, d2] }
  | _ => none }
def FnCorruptWrongFalsely : Prop := fnCorruptRow.holds Tryd.pinned (OpenSpec.ofChange fnCorruptWrong)

/-- 'laws.FnCorruptPlace': WHATEVER THE INPUT: true; the input reads as it did. -/
def fnCorruptPlaceSpec : ChangeSpec := { name := "fnCorruptPlace", fn := fun _ => fun
  | [d1, d2] => { results := [.lit (.bool true)], args := [d1, d2] }
  | _ => none }
def fnCorruptPlaceRow : OpenClaim := { program := "ythhbcnjbnfjiiaadoor", sum := "774047d4eaad7f6bae772753f3e604c57f506a72ceec7de140b0fd79af9cd4d7", func := "loop.example/lib-g03213/laws.FnCorruptPlace", spec := "fnCorruptPlace", inPlace := ["internal/reflectlite.ValueOf", "(internal/reflectlite.Value).Type", "(internal/reflectlite.Value).IsNil", "internal/reflectlite.TypeOf", "(internal/reflectlite.Value).Elem", "(internal/reflectlite.Value).Set"], unfollowed := true, recurses := true, named := ["errors.errorType"], apart := false, laid := [("errors.errorType", laid_errors_errorType)] }
def FnCorruptPlaceSaid : Prop := fnCorruptPlaceRow.holds Tryd.pinned (OpenSpec.ofChange fnCorruptPlaceSpec)

/-- ITS FALSE NEIGHBOUR: 'it returns false'. Refute it at one input. -/
def fnCorruptPlaceWrong : ChangeSpec := { name := "fnCorruptPlace", fn := fun _ => fun
  | [d1, d2] => { results := [.lit (.bool false)], args := [d1, d2] }
  | _ => none }
def FnCorruptPlaceWrongFalsely : Prop := fnCorruptPlaceRow.holds Tryd.pinned (OpenSpec.ofChange fnCorruptPlaceWrong)

/-- 'laws.FnDecode': WHATEVER THE INPUT: true; the input reads as it did. -/
def fnDecodeSpec : ChangeSpec := { name := "fnDecode", fn := fun _ => fun
  | [d] => { results := [.lit (.bool true)], args := [d] }
  | _ => none }
def fnDecodeRow : OpenClaim := { program := "ythhbcnjbnfjiiaadoor", sum := "774047d4eaad7f6bae772753f3e604c57f506a72ceec7de140b0fd79af9cd4d7", func := "loop.example/lib-g03213/laws.FnDecode", spec := "fnDecode", inPlace := ["internal/reflectlite.ValueOf", "(internal/reflectlite.Value).Type", "(internal/reflectlite.Value).IsNil", "internal/reflectlite.TypeOf", "(internal/reflectlite.Value).Elem", "(internal/reflectlite.Value).Set"], unfollowed := true, recurses := true, named := ["errors.errorType"], apart := false, laid := [("errors.errorType", laid_errors_errorType)] }
def FnDecodeSaid : Prop := fnDecodeRow.holds Tryd.pinned (OpenSpec.ofChange fnDecodeSpec)

/-- ITS FALSE NEIGHBOUR: 'it returns false'. Refute it at one input. -/
def fnDecodeWrong : ChangeSpec := { name := "fnDecode", fn := fun _ => fun
  | [d] => { results := [.lit (.bool false)], args := [d] }
  | _ => none }
def FnDecodeWrongFalsely : Prop := fnDecodeRow.holds Tryd.pinned (OpenSpec.ofChange fnDecodeWrong)

/-- 'laws.FnDecodeMore': WHATEVER THE INPUT: true; the input reads as it did. -/
def fnDecodeMoreSpec : ChangeSpec := { name := "fnDecodeMore", fn := fun _ => fun
  | [d] => { results := [.lit (.bool true)], args := [d] }
  | _ => none }
def fnDecodeMoreRow : OpenClaim := { program := "ythhbcnjbnfjiiaadoor", sum := "774047d4eaad7f6bae772753f3e604c57f506a72ceec7de140b0fd79af9cd4d7", func := "loop.example/lib-g03213/laws.FnDecodeMore", spec := "fnDecodeMore", inPlace := ["internal/reflectlite.ValueOf", "(internal/reflectlite.Value).Type", "(internal/reflectlite.Value).IsNil", "internal/reflectlite.TypeOf", "(internal/reflectlite.Value).Elem", "(internal/reflectlite.Value).Set"], unfollowed := true, recurses := true, named := ["errors.errorType"], apart := false, laid := [("errors.errorType", laid_errors_errorType)] }
def FnDecodeMoreSaid : Prop := fnDecodeMoreRow.holds Tryd.pinned (OpenSpec.ofChange fnDecodeMoreSpec)

/-- ITS FALSE NEIGHBOUR: 'it returns false'. Refute it at one input. -/
def fnDecodeMoreWrong : ChangeSpec := { name := "fnDecodeMore", fn := fun _ => fun
  | [d] => { results := [.lit (.bool false)], args := [d] }
  | _ => none }
def FnDecodeMoreWrongFalsely : Prop := fnDecodeMoreRow.holds Tryd.pinned (OpenSpec.ofChange fnDecodeMoreWrong)

/-- 'laws.FnTwoDecoders': WHATEVER THE INPUT: true; the input reads as it did. -/
def fnTwoDecodersSpec : ChangeSpec := { name := "fnTwoDecoders", fn := fun _ => fun
  | [d1, d2, d3, d4] => { results := [.lit (.bool true)], args := [d1, d2, d3, d4] }
  | _ => none }
def fnTwoDecodersRow : OpenClaim := { program := "ythhbcnjbnfjiiaadoor", sum := "774047d4eaad7f6bae772753f3e604c57f506a72ceec7de140b0fd79af9cd4d7", func := "loop.example/lib-g03213/laws.FnTwoDecoders", spec := "fnTwoDecoders", inPlace := ["internal/reflectlite.ValueOf", "(internal/reflectlite.Value).Type", "(internal/reflectlite.Value).IsNil", "internal/reflectlite.TypeOf", "(internal/reflectlite.Value).Elem", "(internal/reflectlite.Value).Set"], unfollowed := true, recurses := true, named := ["errors.errorType"], apart := false, laid := [("errors.errorType", laid_errors_errorType)] }
def FnTwoDecodersSaid : Prop := fnTwoDecodersRow.holds Tryd.pinned (OpenSpec.ofChange fnTwoDecodersSpec)

/-- ITS FALSE NEIGHBOUR: 'it returns false'. Refute it at one input. -/
def fnTwoDecodersWrong : ChangeSpec := { name := "fnTwoDecoders", fn := fun _ => fun
  | [d1, d2, d3, d4] => { results := [.lit (.bool false)], args := [d1, d2, d3, d4] }
  | _ => none }
def FnTwoDecodersWrongFalsely : Prop := fnTwoDecodersRow.holds Tryd.pinned (OpenSpec.ofChange fnTwoDecodersWrong)

/-- 'laws.FnEncodeDecode': WHATEVER THE INPUT: true; the input reads as it did. -/
def fnEncodeDecodeSpec : ChangeSpec := { name := "fnEncodeDecode", fn := fun _ => fun
  | [d] => { results := [.lit (.bool true)], args := [d] }
  | _ => none }
def fnEncodeDecodeRow : OpenClaim := { program := "ythhbcnjbnfjiiaadoor", sum := "774047d4eaad7f6bae772753f3e604c57f506a72ceec7de140b0fd79af9cd4d7", func := "loop.example/lib-g03213/laws.FnEncodeDecode", spec := "fnEncodeDecode", inPlace := ["internal/reflectlite.ValueOf", "(internal/reflectlite.Value).Type", "(internal/reflectlite.Value).IsNil", "internal/reflectlite.TypeOf", "(internal/reflectlite.Value).Elem", "(internal/reflectlite.Value).Set"], unfollowed := true, recurses := true, named := ["errors.errorType"], apart := false, laid := [("errors.errorType", laid_errors_errorType)] }
def FnEncodeDecodeSaid : Prop := fnEncodeDecodeRow.holds Tryd.pinned (OpenSpec.ofChange fnEncodeDecodeSpec)

/-- ITS FALSE NEIGHBOUR: 'it returns false'. Refute it at one input. -/
def fnEncodeDecodeWrong : ChangeSpec := { name := "fnEncodeDecode", fn := fun _ => fun
  | [d] => { results := [.lit (.bool false)], args := [d] }
  | _ => none }
def FnEncodeDecodeWrongFalsely : Prop := fnEncodeDecodeRow.holds Tryd.pinned (OpenSpec.ofChange fnEncodeDecodeWrong)

/- THE SECOND FORM. 'bulk': how many values and letters a reading holds, each counted each time it is reached (what is shared counts as often as it is met; a slice's spare places count too). A statement '..UptoSaid' is the law's where the arguments, and the package variables that the reading takes, are together of bulk at most 1048576: NARROWER than '..Said'. Prove '..Said' where nothing that the law and all that it calls make is longer than what came in: it says more and counts as full. Else prove '..UptoSaid'. A law counts once. -/
mutual
def uptoBulk {H : Type} : DataW H → Nat
  | .lit (.string bytes) => bytes.length + 1
  | .lit _ => 1
  | .nil => 1
  | .ptr d => uptoBulk d + 1
  | .slice elems spare => uptoBulkAll elems + uptoBulkAll spare + 1
  | .agg parts => uptoBulkAll parts + 1
  | .iface _ d => uptoBulk d + 1
  | .map entries => uptoBulkEntries entries + 1
  | .held _ => 1
def uptoBulkAll {H : Type} : List (DataW H) → Nat
  | [] => 0
  | d :: r => uptoBulk d + uptoBulkAll r
def uptoBulkEntries {H : Type} : List (Lit × DataW H) → Nat
  | [] => 0
  | x :: r => uptoBulkEntry x + uptoBulkEntries r
def uptoBulkEntry {H : Type} : Lit × DataW H → Nat
  | (.string bytes, d) => bytes.length + uptoBulk d + 1
  | (_, d) => uptoBulk d + 1
 end
def uptoSmall : (H : Type) → List (DataW H) → Bool := fun _ ds => decide (uptoBulkAll ds ≤ 1048576)
def OpenSpec.upto (s : _root_.Go.ChangeSpec) : _root_.Go.OpenSpec := { _root_.Go.OpenSpec.ofChange s with cond := some uptoSmall }

/-- 'laws.FnSpaces', WHERE WHAT IT READS IS OF BULK AT MOST 1048576: true; the input reads as it did. -/
def fnSpacesUptoRow : OpenClaim := { program := "ythhbcnjbnfjiiaadoor", sum := "774047d4eaad7f6bae772753f3e604c57f506a72ceec7de140b0fd79af9cd4d7", func := "loop.example/lib-g03213/laws.FnSpaces", spec := "fnSpaces", inPlace := ["internal/reflectlite.ValueOf", "(internal/reflectlite.Value).Type", "(internal/reflectlite.Value).IsNil", "internal/reflectlite.TypeOf", "(internal/reflectlite.Value).Elem", "(internal/reflectlite.Value).Set"], unfollowed := true, recurses := true, named := ["errors.errorType"], apart := false, laid := [("errors.errorType", laid_errors_errorType)], narrowed := true }
def FnSpacesUptoSaid : Prop := fnSpacesUptoRow.holds Tryd.pinned (OpenSpec.upto fnSpacesSpec)

/-- 'laws.FnTail', WHERE WHAT IT READS IS OF BULK AT MOST 1048576: true; the input reads as it did. -/
def fnTailUptoRow : OpenClaim := { program := "ythhbcnjbnfjiiaadoor", sum := "774047d4eaad7f6bae772753f3e604c57f506a72ceec7de140b0fd79af9cd4d7", func := "loop.example/lib-g03213/laws.FnTail", spec := "fnTail", inPlace := ["internal/reflectlite.ValueOf", "(internal/reflectlite.Value).Type", "(internal/reflectlite.Value).IsNil", "internal/reflectlite.TypeOf", "(internal/reflectlite.Value).Elem", "(internal/reflectlite.Value).Set"], unfollowed := true, recurses := true, named := ["errors.errorType"], apart := false, laid := [("errors.errorType", laid_errors_errorType)], narrowed := true }
def FnTailUptoSaid : Prop := fnTailUptoRow.holds Tryd.pinned (OpenSpec.upto fnTailSpec)

/-- 'laws.FnCorruptBoth', WHERE WHAT IT READS IS OF BULK AT MOST 1048576: true; the input reads as it did. -/
def fnCorruptBothUptoRow : OpenClaim := { program := "ythhbcnjbnfjiiaadoor", sum := "774047d4eaad7f6bae772753f3e604c57f506a72ceec7de140b0fd79af9cd4d7", func := "loop.example/lib-g03213/laws.FnCorruptBoth", spec := "fnCorruptBoth", inPlace := ["internal/reflectlite.ValueOf", "(internal/reflectlite.Value).Type", "(internal/reflectlite.Value).IsNil", "internal/reflectlite.TypeOf", "(internal/reflectlite.Value).Elem", "(internal/reflectlite.Value).Set"], unfollowed := true, recurses := true, named := ["errors.errorType"], apart := false, laid := [("errors.errorType", laid_errors_errorType)], narrowed := true }
def FnCorruptBothUptoSaid : Prop := fnCorruptBothUptoRow.holds Tryd.pinned (OpenSpec.upto fnCorruptBothSpec)

/-- 'laws.FnDecodeParts', WHERE WHAT IT READS IS OF BULK AT MOST 1048576: true; the input reads as it did. -/
def fnDecodePartsUptoRow : OpenClaim := { program := "ythhbcnjbnfjiiaadoor", sum := "774047d4eaad7f6bae772753f3e604c57f506a72ceec7de140b0fd79af9cd4d7", func := "loop.example/lib-g03213/laws.FnDecodeParts", spec := "fnDecodeParts", inPlace := ["internal/reflectlite.ValueOf", "(internal/reflectlite.Value).Type", "(internal/reflectlite.Value).IsNil", "internal/reflectlite.TypeOf", "(internal/reflectlite.Value).Elem", "(internal/reflectlite.Value).Set"], unfollowed := true, recurses := true, named := ["errors.errorType"], apart := false, laid := [("errors.errorType", laid_errors_errorType)], narrowed := true }
def FnDecodePartsUptoSaid : Prop := fnDecodePartsUptoRow.holds Tryd.pinned (OpenSpec.upto fnDecodePartsSpec)

/-- 'laws.FnCorrupt', WHERE WHAT IT READS IS OF BULK AT MOST 1048576: true; the input reads as it did. -/
def fnCorruptUptoRow : OpenClaim := { program := "ythhbcnjbnfjiiaadoor", sum := "774047d4eaad7f6bae772753f3e604c57f506a72ceec7de140b0fd79af9cd4d7", func := "loop.example/lib-g03213/laws.FnCorrupt", spec := "fnCorrupt", inPlace := ["internal/reflectlite.ValueOf", "(internal/reflectlite.Value).Type", "(internal/reflectlite.Value).IsNil", "internal/reflectlite.TypeOf", "(internal/reflectlite.Value).Elem", "(internal/reflectlite.Value).Set"], unfollowed := true, recurses := true, named := ["errors.errorType"], apart := false, laid := [("errors.errorType", laid_errors_errorType)], narrowed := true }
def FnCorruptUptoSaid : Prop := fnCorruptUptoRow.holds Tryd.pinned (OpenSpec.upto fnCorruptSpec)

/-- 'laws.FnCorruptPlace', WHERE WHAT IT READS IS OF BULK AT MOST 1048576: true; the input reads as it did. -/
def fnCorruptPlaceUptoRow : OpenClaim := { program := "ythhbcnjbnfjiiaadoor", sum := "774047d4eaad7f6bae772753f3e604c57f506a72ceec7de140b0fd79af9cd4d7", func := "loop.example/lib-g03213/laws.FnCorruptPlace", spec := "fnCorruptPlace", inPlace := ["internal/reflectlite.ValueOf", "(internal/reflectlite.Value).Type", "(internal/reflectlite.Value).IsNil", "internal/reflectlite.TypeOf", "(internal/reflectlite.Value).Elem", "(internal/reflectlite.Value).Set"], unfollowed := true, recurses := true, named := ["errors.errorType"], apart := false, laid := [("errors.errorType", laid_errors_errorType)], narrowed := true }
def FnCorruptPlaceUptoSaid : Prop := fnCorruptPlaceUptoRow.holds Tryd.pinned (OpenSpec.upto fnCorruptPlaceSpec)

/-- 'laws.FnDecode', WHERE WHAT IT READS IS OF BULK AT MOST 1048576: true; the input reads as it did. -/
def fnDecodeUptoRow : OpenClaim := { program := "ythhbcnjbnfjiiaadoor", sum := "774047d4eaad7f6bae772753f3e604c57f506a72ceec7de140b0fd79af9cd4d7", func := "loop.example/lib-g03213/laws.FnDecode", spec := "fnDecode", inPlace := ["internal/reflectlite.ValueOf", "(internal/reflectlite.Value).Type", "(internal/reflectlite.Value).IsNil", "internal/reflectlite.TypeOf", "(internal/reflectlite.Value).Elem", "(internal/reflectlite.Value).Set"], unfollowed := true, recurses := true, named := ["errors.errorType"], apart := false, laid := [("errors.errorType", laid_errors_errorType)], narrowed := true }
def FnDecodeUptoSaid : Prop := fnDecodeUptoRow.holds Tryd.pinned (OpenSpec.upto fnDecodeSpec)

/-- 'laws.FnDecodeMore', WHERE WHAT IT READS IS OF BULK AT MOST 1048576: true; the input reads as it did. -/
def fnDecodeMoreUptoRow : OpenClaim := { program := "ythhbcnjbnfjiiaadoor", sum := "774047d4eaad7f6bae772753f3e604c57f506a72ceec7de140b0fd79af9cd4d7", func := "loop.example/lib-g03213/laws.FnDecodeMore", spec := "fnDecodeMore", inPlace := ["internal/reflectlite.ValueOf", "(internal/reflectlite.Value).Type", "(internal/reflectlite.Value).IsNil", "internal/reflectlite.TypeOf", "(internal/reflectlite.Value).Elem", "(internal/reflectlite.Value).Set"], unfollowed := true, recurses := true, named := ["errors.errorType"], apart := false, laid := [("errors.errorType", laid_errors_errorType)], narrowed := true }
def FnDecodeMoreUptoSaid : Prop := fnDecodeMoreUptoRow.holds Tryd.pinned (OpenSpec.upto fnDecodeMoreSpec)

/-- 'laws.FnTwoDecoders', WHERE WHAT IT READS IS OF BULK AT MOST 1048576: true; the input reads as it did. -/
def fnTwoDecodersUptoRow : OpenClaim := { program := "ythhbcnjbnfjiiaadoor", sum := "774047d4eaad7f6bae772753f3e604c57f506a72ceec7de140b0fd79af9cd4d7", func := "loop.example/lib-g03213/laws.FnTwoDecoders", spec := "fnTwoDecoders", inPlace := ["internal/reflectlite.ValueOf", "(internal/reflectlite.Value).Type", "(internal/reflectlite.Value).IsNil", "internal/reflectlite.TypeOf", "(internal/reflectlite.Value).Elem", "(internal/reflectlite.Value).Set"], unfollowed := true, recurses := true, named := ["errors.errorType"], apart := false, laid := [("errors.errorType", laid_errors_errorType)], narrowed := true }
def FnTwoDecodersUptoSaid : Prop := fnTwoDecodersUptoRow.holds Tryd.pinned (OpenSpec.upto fnTwoDecodersSpec)

/-- 'laws.FnEncodeDecode', WHERE WHAT IT READS IS OF BULK AT MOST 1048576: true; the input reads as it did. -/
def fnEncodeDecodeUptoRow : OpenClaim := { program := "ythhbcnjbnfjiiaadoor", sum := "774047d4eaad7f6bae772753f3e604c57f506a72ceec7de140b0fd79af9cd4d7", func := "loop.example/lib-g03213/laws.FnEncodeDecode", spec := "fnEncodeDecode", inPlace := ["internal/reflectlite.ValueOf", "(internal/reflectlite.Value).Type", "(internal/reflectlite.Value).IsNil", "internal/reflectlite.TypeOf", "(internal/reflectlite.Value).Elem", "(internal/reflectlite.Value).Set"], unfollowed := true, recurses := true, named := ["errors.errorType"], apart := false, laid := [("errors.errorType", laid_errors_errorType)], narrowed := true }
def FnEncodeDecodeUptoSaid : Prop := fnEncodeDecodeUptoRow.holds Tryd.pinned (OpenSpec.upto fnEncodeDecodeSpec)

end Rows
end Go.Proofs.YthhbcnjbnfjiiaaDoor

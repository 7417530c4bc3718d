/-
  No cell of these rows narrows 'for every input' (looked for: loops, veiled, ifaces, maps, wideKeys, modest, calm, conditions, laid).
  DERIVED. THE GIVEN ROWS OF THIS SEAT. 9 by the template 'for every input the law returns true; each argument reads behind the call as it read before'; 0 by the template 'total and deterministic' (their statements: YtdpjdglcienbfaaGreatTotals.lean).
  GIVEN WITH THE SEED: the statements are not yours to turn. If you find one false, say at which input.
  Laid BY PROGRAM, IN A SANDBOX (cutbox-rows.mjs): the forced cells as the released guide's own fill.sh prints them over the translation a3bbfa75d212d019… (all of the seat's roots in one cut). By AI agents, Wed Nov 11 2026. No macro, syntax, notation, axiom, sorry.
-/
import Derived.Test.YtdpjdglcienbfaaGreatChecked
import GoSem.Claim
import GoSem.ClaimJoined
import GoSem.ClaimMapViews
import Derived.JoinedTies
import Derived.KernelRfl
namespace Go.Proofs.YtdpjdglcienbfaaGreat
/- THE CELL 'sum', in the pinned program and in every row, IS THE sha256 OF THE DUMP (.gsa) THAT YtdpjdglcienbfaaGreatProg.lean LOADS. Nothing in Lean hashes anything: it is a label: what it is worth is what the hold of that sum in a sandbox is worth. -/
noncomputable def Tryz.pinned : Pinned := { name := "ytdpjdglcienbfaagreat", sum := "a3bbfa75d212d019361919c04331ec25ebaafac29c2278347477844e8ab6c476", checked := Tryz.checked }
namespace Rows
def none {H : Type} : Left H := { results := [], args := [] }

/-- 'laws.FnBlocks': WHATEVER THE INPUT: true; the input reads as it did. -/
def fnBlocksSpec : ChangeSpec := { name := "fnBlocks", fn := fun _ => fun
  | [d] => { results := [.lit (.bool true)], args := [d] }
  | _ => none }
def fnBlocksRow : OpenClaim := { program := "ytdpjdglcienbfaagreat", sum := "a3bbfa75d212d019361919c04331ec25ebaafac29c2278347477844e8ab6c476", func := "loop.example/lib-g03213/laws.FnBlocks", spec := "fnBlocks", unfollowed := true, recurses := true, apart := false }
def FnBlocksSaid : Prop := fnBlocksRow.holds Tryz.pinned (OpenSpec.ofChange fnBlocksSpec)

/-- ITS FALSE NEIGHBOUR: 'it returns false'. Refute it at one input. -/
def fnBlocksWrong : ChangeSpec := { name := "fnBlocks", fn := fun _ => fun
  | [d] => { results := [.lit (.bool false)], args := [d] }
  | _ => none }
def FnBlocksWrongFalsely : Prop := fnBlocksRow.holds Tryz.pinned (OpenSpec.ofChange fnBlocksWrong)

/-- 'laws.FnClones': WHATEVER THE INPUT: true; the input reads as it did. -/
def fnClonesSpec : ChangeSpec := { name := "fnClones", fn := fun _ => fun
  | [d1, d2, d3, d4] => { results := [.lit (.bool true)], args := [d1, d2, d3, d4] }
  | _ => none }
def fnClonesRow : OpenClaim := { program := "ytdpjdglcienbfaagreat", sum := "a3bbfa75d212d019361919c04331ec25ebaafac29c2278347477844e8ab6c476", func := "loop.example/lib-g03213/laws.FnClones", spec := "fnClones", unfollowed := true, recurses := true, apart := false }
def FnClonesSaid : Prop := fnClonesRow.holds Tryz.pinned (OpenSpec.ofChange fnClonesSpec)

/-- ITS FALSE NEIGHBOUR: 'it returns false'. Refute it at one input. -/
def fnClonesWrong : ChangeSpec := { name := "fnClones", fn := fun _ => fun
  | [d1, d2, d3, d4] => { results := [.lit (.bool false)], args := [d1, d2, d3, d4] }
  | _ => none }
def FnClonesWrongFalsely : Prop := fnClonesRow.holds Tryz.pinned (OpenSpec.ofChange fnClonesWrong)

/-- 'laws.FnOneByte': WHATEVER THE INPUT: true; the input reads as it did. -/
def fnOneByteSpec : ChangeSpec := { name := "fnOneByte", fn := fun _ => fun
  | [d1, d2, d3, d4] => { results := [.lit (.bool true)], args := [d1, d2, d3, d4] }
  | _ => none }
def fnOneByteRow : OpenClaim := { program := "ytdpjdglcienbfaagreat", sum := "a3bbfa75d212d019361919c04331ec25ebaafac29c2278347477844e8ab6c476", func := "loop.example/lib-g03213/laws.FnOneByte", spec := "fnOneByte", unfollowed := true, recurses := true, apart := false }
def FnOneByteSaid : Prop := fnOneByteRow.holds Tryz.pinned (OpenSpec.ofChange fnOneByteSpec)

/-- ITS FALSE NEIGHBOUR: 'it returns false'. Refute it at one input. -/
def fnOneByteWrong : ChangeSpec := { name := "fnOneByte", fn := fun _ => fun
  | [d1, d2, d3, d4] => { results := [.lit (.bool false)], args := [d1, d2, d3, d4] }
  | _ => none }
def FnOneByteWrongFalsely : Prop := fnOneByteRow.holds Tryz.pinned (OpenSpec.ofChange fnOneByteWrong)

/-- 'laws.FnPieces': WHATEVER THE INPUT: true; the input reads as it did. -/
def fnPiecesSpec : ChangeSpec := { name := "fnPieces", fn := fun _ => fun
  | [d1, d2, d3] => { results := [.lit (.bool true)], args := [d1, d2, d3] }
  | _ => none }
def fnPiecesRow : OpenClaim := { program := "ytdpjdglcienbfaagreat", sum := "a3bbfa75d212d019361919c04331ec25ebaafac29c2278347477844e8ab6c476", func := "loop.example/lib-g03213/laws.FnPieces", spec := "fnPieces", unfollowed := true, recurses := true, apart := false }
def FnPiecesSaid : Prop := fnPiecesRow.holds Tryz.pinned (OpenSpec.ofChange fnPiecesSpec)

/-- ITS FALSE NEIGHBOUR: 'it returns false'. Refute it at one input. -/
def fnPiecesWrong : ChangeSpec := { name := "fnPieces", fn := fun _ => fun
  | [d1, d2, d3] => { results := [.lit (.bool false)], args := [d1, d2, d3] }
  | _ => none }
def FnPiecesWrongFalsely : Prop := fnPiecesRow.holds Tryz.pinned (OpenSpec.ofChange fnPiecesWrong)

/-- 'laws.FnReset': WHATEVER THE INPUT: true; the input reads as it did. -/
def fnResetSpec : ChangeSpec := { name := "fnReset", fn := fun _ => fun
  | [d1, d2, d3] => { results := [.lit (.bool true)], args := [d1, d2, d3] }
  | _ => none }
def fnResetRow : OpenClaim := { program := "ytdpjdglcienbfaagreat", sum := "a3bbfa75d212d019361919c04331ec25ebaafac29c2278347477844e8ab6c476", func := "loop.example/lib-g03213/laws.FnReset", spec := "fnReset", unfollowed := true, recurses := true, apart := false }
def FnResetSaid : Prop := fnResetRow.holds Tryz.pinned (OpenSpec.ofChange fnResetSpec)

/-- ITS FALSE NEIGHBOUR: 'it returns false'. Refute it at one input. -/
def fnResetWrong : ChangeSpec := { name := "fnReset", fn := fun _ => fun
  | [d1, d2, d3] => { results := [.lit (.bool false)], args := [d1, d2, d3] }
  | _ => none }
def FnResetWrongFalsely : Prop := fnResetRow.holds Tryz.pinned (OpenSpec.ofChange fnResetWrong)

/-- 'laws.FnSameStart': WHATEVER THE INPUT: true; the input reads as it did. -/
def fnSameStartSpec : ChangeSpec := { name := "fnSameStart", fn := fun _ => fun
  | [d1, d2, d3] => { results := [.lit (.bool true)], args := [d1, d2, d3] }
  | _ => none }
def fnSameStartRow : OpenClaim := { program := "ytdpjdglcienbfaagreat", sum := "a3bbfa75d212d019361919c04331ec25ebaafac29c2278347477844e8ab6c476", func := "loop.example/lib-g03213/laws.FnSameStart", spec := "fnSameStart", unfollowed := true, recurses := true, apart := false }
def FnSameStartSaid : Prop := fnSameStartRow.holds Tryz.pinned (OpenSpec.ofChange fnSameStartSpec)

/-- ITS FALSE NEIGHBOUR: 'it returns false'. Refute it at one input. -/
def fnSameStartWrong : ChangeSpec := { name := "fnSameStart", fn := fun _ => fun
  | [d1, d2, d3] => { results := [.lit (.bool false)], args := [d1, d2, d3] }
  | _ => none }
def FnSameStartWrongFalsely : Prop := fnSameStartRow.holds Tryz.pinned (OpenSpec.ofChange fnSameStartWrong)

/-- 'laws.FnSaved': WHATEVER THE INPUT: true; the input reads as it did. -/
def fnSavedSpec : ChangeSpec := { name := "fnSaved", fn := fun _ => fun
  | [d1, d2, d3, d4] => { results := [.lit (.bool true)], args := [d1, d2, d3, d4] }
  | _ => none }
def fnSavedRow : OpenClaim := { program := "ytdpjdglcienbfaagreat", sum := "a3bbfa75d212d019361919c04331ec25ebaafac29c2278347477844e8ab6c476", func := "loop.example/lib-g03213/laws.FnSaved", spec := "fnSaved", unfollowed := true, recurses := true, apart := false }
def FnSavedSaid : Prop := fnSavedRow.holds Tryz.pinned (OpenSpec.ofChange fnSavedSpec)

/-- ITS FALSE NEIGHBOUR: 'it returns false'. Refute it at one input. -/
def fnSavedWrong : ChangeSpec := { name := "fnSaved", fn := fun _ => fun
  | [d1, d2, d3, d4] => { results := [.lit (.bool false)], args := [d1, d2, d3, d4] }
  | _ => none }
def FnSavedWrongFalsely : Prop := fnSavedRow.holds Tryz.pinned (OpenSpec.ofChange fnSavedWrong)

/-- 'laws.FnSumKeeps': WHATEVER THE INPUT: true; the input reads as it did. -/
def fnSumKeepsSpec : ChangeSpec := { name := "fnSumKeeps", fn := fun _ => fun
  | [d1, d2, d3, d4] => { results := [.lit (.bool true)], args := [d1, d2, d3, d4] }
  | _ => none }
def fnSumKeepsRow : OpenClaim := { program := "ytdpjdglcienbfaagreat", sum := "a3bbfa75d212d019361919c04331ec25ebaafac29c2278347477844e8ab6c476", func := "loop.example/lib-g03213/laws.FnSumKeeps", spec := "fnSumKeeps", unfollowed := true, recurses := true, apart := false }
def FnSumKeepsSaid : Prop := fnSumKeepsRow.holds Tryz.pinned (OpenSpec.ofChange fnSumKeepsSpec)

/-- ITS FALSE NEIGHBOUR: 'it returns false'. Refute it at one input. -/
def fnSumKeepsWrong : ChangeSpec := { name := "fnSumKeeps", fn := fun _ => fun
  | [d1, d2, d3, d4] => { results := [.lit (.bool false)], args := [d1, d2, d3, d4] }
  | _ => none }
def FnSumKeepsWrongFalsely : Prop := fnSumKeepsRow.holds Tryz.pinned (OpenSpec.ofChange fnSumKeepsWrong)

/-- 'laws.FnValues': WHATEVER THE INPUT: true; the input reads as it did. -/
def fnValuesSpec : ChangeSpec := { name := "fnValues", fn := fun _ => fun
  | [d1, d2] => { results := [.lit (.bool true)], args := [d1, d2] }
  | _ => none }
def fnValuesRow : OpenClaim := { program := "ytdpjdglcienbfaagreat", sum := "a3bbfa75d212d019361919c04331ec25ebaafac29c2278347477844e8ab6c476", func := "loop.example/lib-g03213/laws.FnValues", spec := "fnValues", unfollowed := true, recurses := true, apart := false }
def FnValuesSaid : Prop := fnValuesRow.holds Tryz.pinned (OpenSpec.ofChange fnValuesSpec)

/-- ITS FALSE NEIGHBOUR: 'it returns false'. Refute it at one input. -/
def fnValuesWrong : ChangeSpec := { name := "fnValues", fn := fun _ => fun
  | [d1, d2] => { results := [.lit (.bool false)], args := [d1, d2] }
  | _ => none }
def FnValuesWrongFalsely : Prop := fnValuesRow.holds Tryz.pinned (OpenSpec.ofChange fnValuesWrong)

/- THE SECOND FORM. 'bulk': how many values and letters a reading holds, each counted each time it is reached (what is shared counts as often as it is met; a slice's spare places count too). A statement '..UptoSaid' is the law's where the arguments, and the package variables that the reading takes, are together of bulk at most 1048576: NARROWER than '..Said'. Prove '..Said' where nothing that the law and all that it calls make is longer than what came in: it says more and counts as full. Else prove '..UptoSaid'. A law counts once. -/
mutual
def uptoBulk {H : Type} : DataW H → Nat
  | .lit (.string bytes) => bytes.length + 1
  | .lit _ => 1
  | .nil => 1
  | .ptr d => uptoBulk d + 1
  | .slice elems spare => uptoBulkAll elems + uptoBulkAll spare + 1
  | .agg parts => uptoBulkAll parts + 1
  | .iface _ d => uptoBulk d + 1
  | .map entries => uptoBulkEntries entries + 1
  | .held _ => 1
def uptoBulkAll {H : Type} : List (DataW H) → Nat
  | [] => 0
  | d :: r => uptoBulk d + uptoBulkAll r
def uptoBulkEntries {H : Type} : List (Lit × DataW H) → Nat
  | [] => 0
  | x :: r => uptoBulkEntry x + uptoBulkEntries r
def uptoBulkEntry {H : Type} : Lit × DataW H → Nat
  | (.string bytes, d) => bytes.length + uptoBulk d + 1
  | (_, d) => uptoBulk d + 1
 end
def uptoSmall : (H : Type) → List (DataW H) → Bool := fun _ ds => decide (uptoBulkAll ds ≤ 1048576)
def OpenSpec.upto (s : _root_.Go.ChangeSpec) : _root_.Go.OpenSpec := { _root_.Go.OpenSpec.ofChange s with cond := some uptoSmall }

/-- 'laws.FnBlocks', WHERE WHAT IT READS IS OF BULK AT MOST 1048576: true; the input reads as it did. -/
def fnBlocksUptoRow : OpenClaim := { program := "ytdpjdglcienbfaagreat", sum := "a3bbfa75d212d019361919c04331ec25ebaafac29c2278347477844e8ab6c476", func := "loop.example/lib-g03213/laws.FnBlocks", spec := "fnBlocks", unfollowed := true, recurses := true, apart := false, narrowed := true }
def FnBlocksUptoSaid : Prop := fnBlocksUptoRow.holds Tryz.pinned (OpenSpec.upto fnBlocksSpec)

/-- 'laws.FnClones', WHERE WHAT IT READS IS OF BULK AT MOST 1048576: true; the input reads as it did. -/
def fnClonesUptoRow : OpenClaim := { program := "ytdpjdglcienbfaagreat", sum := "a3bbfa75d212d019361919c04331ec25ebaafac29c2278347477844e8ab6c476", func := "loop.example/lib-g03213/laws.FnClones", spec := "fnClones", unfollowed := true, recurses := true, apart := false, narrowed := true }
def FnClonesUptoSaid : Prop := fnClonesUptoRow.holds Tryz.pinned (OpenSpec.upto fnClonesSpec)

/-- 'laws.FnOneByte', WHERE WHAT IT READS IS OF BULK AT MOST 1048576: true; the input reads as it did. -/
def fnOneByteUptoRow : OpenClaim := { program := "ytdpjdglcienbfaagreat", sum := "a3bbfa75d212d019361919c04331ec25ebaafac29c2278347477844e8ab6c476", func := "loop.example/lib-g03213/laws.FnOneByte", spec := "fnOneByte", unfollowed := true, recurses := true, apart := false, narrowed := true }
def FnOneByteUptoSaid : Prop := fnOneByteUptoRow.holds Tryz.pinned (OpenSpec.upto fnOneByteSpec)

/-- 'laws.FnPieces', WHERE WHAT IT READS IS OF BULK AT MOST 1048576: true; the input reads as it did. -/
def fnPiecesUptoRow : OpenClaim := { program := "ytdpjdglcienbfaagreat", sum := "a3bbfa75d212d019361919c04331ec25ebaafac29c2278347477844e8ab6c476", func := "loop.example/lib-g03213/laws.FnPieces", spec := "fnPieces", unfollowed := true, recurses := true, apart := false, narrowed := true }
def FnPiecesUptoSaid : Prop := fnPiecesUptoRow.holds Tryz.pinned (OpenSpec.upto fnPiecesSpec)

/-- 'laws.FnReset', WHERE WHAT IT READS IS OF BULK AT MOST 1048576: true; the input reads as it did. -/
def fnResetUptoRow : OpenClaim := { program := "ytdpjdglcienbfaagreat", sum := "a3bbfa75d212d019361919c04331ec25ebaafac29c2278347477844e8ab6c476", func := "loop.example/lib-g03213/laws.FnReset", spec := "fnReset", unfollowed := true, recurses := true, apart := false, narrowed := true }
def FnResetUptoSaid : Prop := fnResetUptoRow.holds Tryz.pinned (OpenSpec.upto fnResetSpec)

/-- 'laws.FnSameStart', WHERE WHAT IT READS IS OF BULK AT MOST 1048576: true; the input reads as it did. -/
def fnSameStartUptoRow : OpenClaim := { program := "ytdpjdglcienbfaagreat", sum := "a3bbfa75d212d019361919c04331ec25ebaafac29c2278347477844e8ab6c476", func := "loop.example/lib-g03213/laws.FnSameStart", spec := "fnSameStart", unfollowed := true, recurses := true, apart := false, narrowed := true }
def FnSameStartUptoSaid : Prop := fnSameStartUptoRow.holds Tryz.pinned (OpenSpec.upto fnSameStartSpec)

/-- 'laws.FnSaved', WHERE WHAT IT READS IS OF BULK AT MOST 1048576: true; the input reads as it did. -/
def fnSavedUptoRow : OpenClaim := { program := "ytdpjdglcienbfaagreat", sum := "a3bbfa75d212d019361919c04331ec25ebaafac29c2278347477844e8ab6c476", func := "loop.example/lib-g03213/laws.FnSaved", spec := "fnSaved", unfollowed := true, recurses := true, apart := false, narrowed := true }
def FnSavedUptoSaid : Prop := fnSavedUptoRow.holds Tryz.pinned (OpenSpec.upto fnSavedSpec)

/-- 'laws.FnSumKeeps', WHERE WHAT IT READS IS OF BULK AT MOST 1048576: true; the input reads as it did. -/
def fnSumKeepsUptoRow : OpenClaim := { program := "ytdpjdglcienbfaagreat", sum := "a3bbfa75d212d019361919c04331ec25ebaafac29c2278347477844e8ab6c476", func := "loop.example/lib-g03213/laws.FnSumKeeps", spec := "fnSumKeeps", unfollowed := true, recurses := true, apart := false, narrowed := true }
def FnSumKeepsUptoSaid : Prop := fnSumKeepsUptoRow.holds Tryz.pinned (OpenSpec.upto fnSumKeepsSpec)

/-- 'laws.FnValues', WHERE WHAT IT READS IS OF BULK AT MOST 1048576: true; the input reads as it did. -/
def fnValuesUptoRow : OpenClaim := { program := "ytdpjdglcienbfaagreat", sum := "a3bbfa75d212d019361919c04331ec25ebaafac29c2278347477844e8ab6c476", func := "loop.example/lib-g03213/laws.FnValues", spec := "fnValues", unfollowed := true, recurses := true, apart := false, narrowed := true }
def FnValuesUptoSaid : Prop := fnValuesUptoRow.holds Tryz.pinned (OpenSpec.upto fnValuesSpec)

end Rows
end Go.Proofs.YtdpjdglcienbfaaGreat

/-
  No cell of these rows narrows 'for every input' (looked for: loops, veiled, ifaces, maps, wideKeys, modest, calm, conditions, laid).
  DERIVED. THE GIVEN ROWS OF THIS SEAT. 11 by the template 'for every input the law returns true; each argument reads behind the call as it read before'; 0 by the template 'total and deterministic' (their statements: YtdpjdglcienbfaaTotals.lean).
  GIVEN WITH THE SEED: the statements are not yours to turn. If you find one false, say at which input.
  Laid BY PROGRAM, IN A SANDBOX (cutbox-rows.mjs): the forced cells as the released guide's own fill.sh prints them over the translation 36689eabc0fd9eda… (all of the seat's roots in one cut). By AI agents, Wed Nov 11 2026. No macro, syntax, notation, axiom, sorry.
-/
import Derived.Test.YtdpjdglcienbfaaChecked
import GoSem.Claim
import GoSem.ClaimJoined
import GoSem.ClaimMapViews
import Derived.JoinedTies
import Derived.KernelRfl
namespace Go.Proofs.Ytdpjdglcienbfaa
/- THE CELL 'sum', in the pinned program and in every row, IS THE sha256 OF THE DUMP (.gsa) THAT YtdpjdglcienbfaaProg.lean LOADS. Nothing in Lean hashes anything: it is a label: what it is worth is what the hold of that sum in a sandbox is worth. -/
noncomputable def Try.pinned : Pinned := { name := "ytdpjdglcienbfaa", sum := "36689eabc0fd9eda7fc4ba1d62ff6a8442c0b19c5cf712ef72b752f7d539fd5a", checked := Try.checked }
namespace Rows
def none {H : Type} : Left H := { results := [], args := [] }

/-- 'laws.FnAdlerJoined': WHATEVER THE INPUT: true; the input reads as it did. -/
def fnAdlerJoinedSpec : ChangeSpec := { name := "fnAdlerJoined", fn := fun _ => fun
  | [d1, d2] => { results := [.lit (.bool true)], args := [d1, d2] }
  | _ => none }
def fnAdlerJoinedRow : OpenClaim := { program := "ytdpjdglcienbfaa", sum := "36689eabc0fd9eda7fc4ba1d62ff6a8442c0b19c5cf712ef72b752f7d539fd5a", func := "loop.example/lib-g03213/laws.FnAdlerJoined", spec := "fnAdlerJoined", apart := false }
def FnAdlerJoinedSaid : Prop := fnAdlerJoinedRow.holds Try.pinned (OpenSpec.ofChange fnAdlerJoinedSpec)

/-- ITS FALSE NEIGHBOUR: 'it returns false'. Refute it at one input. -/
def fnAdlerJoinedWrong : ChangeSpec := { name := "fnAdlerJoined", fn := fun _ => fun
  | [d1, d2] => { results := [.lit (.bool false)], args := [d1, d2] }
  | _ => none }
def FnAdlerJoinedWrongFalsely : Prop := fnAdlerJoinedRow.holds Try.pinned (OpenSpec.ofChange fnAdlerJoinedWrong)

/-- 'laws.FnChecksum': WHATEVER THE INPUT: true; the input reads as it did. -/
def fnChecksumSpec : ChangeSpec := { name := "fnChecksum", fn := fun _ => fun
  | [d] => { results := [.lit (.bool true)], args := [d] }
  | _ => none }
def fnChecksumRow : OpenClaim := { program := "ytdpjdglcienbfaa", sum := "36689eabc0fd9eda7fc4ba1d62ff6a8442c0b19c5cf712ef72b752f7d539fd5a", func := "loop.example/lib-g03213/laws.FnChecksum", spec := "fnChecksum", apart := false }
def FnChecksumSaid : Prop := fnChecksumRow.holds Try.pinned (OpenSpec.ofChange fnChecksumSpec)

/-- ITS FALSE NEIGHBOUR: 'it returns false'. Refute it at one input. -/
def fnChecksumWrong : ChangeSpec := { name := "fnChecksum", fn := fun _ => fun
  | [d] => { results := [.lit (.bool false)], args := [d] }
  | _ => none }
def FnChecksumWrongFalsely : Prop := fnChecksumRow.holds Try.pinned (OpenSpec.ofChange fnChecksumWrong)

/-- 'laws.FnFnv32': WHATEVER THE INPUT: true; the input reads as it did. -/
def fnFnv32Spec : ChangeSpec := { name := "fnFnv32", fn := fun _ => fun
  | [d] => { results := [.lit (.bool true)], args := [d] }
  | _ => none }
def fnFnv32Row : OpenClaim := { program := "ytdpjdglcienbfaa", sum := "36689eabc0fd9eda7fc4ba1d62ff6a8442c0b19c5cf712ef72b752f7d539fd5a", func := "loop.example/lib-g03213/laws.FnFnv32", spec := "fnFnv32", unfollowed := true, recurses := true, apart := false }
def FnFnv32Said : Prop := fnFnv32Row.holds Try.pinned (OpenSpec.ofChange fnFnv32Spec)

/-- ITS FALSE NEIGHBOUR: 'it returns false'. Refute it at one input. -/
def fnFnv32Wrong : ChangeSpec := { name := "fnFnv32", fn := fun _ => fun
  | [d] => { results := [.lit (.bool false)], args := [d] }
  | _ => none }
def FnFnv32WrongFalsely : Prop := fnFnv32Row.holds Try.pinned (OpenSpec.ofChange fnFnv32Wrong)

/-- 'laws.FnFnv32a': WHATEVER THE INPUT: true; the input reads as it did. -/
def fnFnv32aSpec : ChangeSpec := { name := "fnFnv32a", fn := fun _ => fun
  | [d] => { results := [.lit (.bool true)], args := [d] }
  | _ => none }
def fnFnv32aRow : OpenClaim := { program := "ytdpjdglcienbfaa", sum := "36689eabc0fd9eda7fc4ba1d62ff6a8442c0b19c5cf712ef72b752f7d539fd5a", func := "loop.example/lib-g03213/laws.FnFnv32a", spec := "fnFnv32a", unfollowed := true, recurses := true, apart := false }
def FnFnv32aSaid : Prop := fnFnv32aRow.holds Try.pinned (OpenSpec.ofChange fnFnv32aSpec)

/-- ITS FALSE NEIGHBOUR: 'it returns false'. Refute it at one input. -/
def fnFnv32aWrong : ChangeSpec := { name := "fnFnv32a", fn := fun _ => fun
  | [d] => { results := [.lit (.bool false)], args := [d] }
  | _ => none }
def FnFnv32aWrongFalsely : Prop := fnFnv32aRow.holds Try.pinned (OpenSpec.ofChange fnFnv32aWrong)

/-- 'laws.FnFnv64': WHATEVER THE INPUT: true; the input reads as it did. -/
def fnFnv64Spec : ChangeSpec := { name := "fnFnv64", fn := fun _ => fun
  | [d] => { results := [.lit (.bool true)], args := [d] }
  | _ => none }
def fnFnv64Row : OpenClaim := { program := "ytdpjdglcienbfaa", sum := "36689eabc0fd9eda7fc4ba1d62ff6a8442c0b19c5cf712ef72b752f7d539fd5a", func := "loop.example/lib-g03213/laws.FnFnv64", spec := "fnFnv64", unfollowed := true, recurses := true, apart := false }
def FnFnv64Said : Prop := fnFnv64Row.holds Try.pinned (OpenSpec.ofChange fnFnv64Spec)

/-- ITS FALSE NEIGHBOUR: 'it returns false'. Refute it at one input. -/
def fnFnv64Wrong : ChangeSpec := { name := "fnFnv64", fn := fun _ => fun
  | [d] => { results := [.lit (.bool false)], args := [d] }
  | _ => none }
def FnFnv64WrongFalsely : Prop := fnFnv64Row.holds Try.pinned (OpenSpec.ofChange fnFnv64Wrong)

/-- 'laws.FnFnv64a': WHATEVER THE INPUT: true; the input reads as it did. -/
def fnFnv64aSpec : ChangeSpec := { name := "fnFnv64a", fn := fun _ => fun
  | [d] => { results := [.lit (.bool true)], args := [d] }
  | _ => none }
def fnFnv64aRow : OpenClaim := { program := "ytdpjdglcienbfaa", sum := "36689eabc0fd9eda7fc4ba1d62ff6a8442c0b19c5cf712ef72b752f7d539fd5a", func := "loop.example/lib-g03213/laws.FnFnv64a", spec := "fnFnv64a", unfollowed := true, recurses := true, apart := false }
def FnFnv64aSaid : Prop := fnFnv64aRow.holds Try.pinned (OpenSpec.ofChange fnFnv64aSpec)

/-- ITS FALSE NEIGHBOUR: 'it returns false'. Refute it at one input. -/
def fnFnv64aWrong : ChangeSpec := { name := "fnFnv64a", fn := fun _ => fun
  | [d] => { results := [.lit (.bool false)], args := [d] }
  | _ => none }
def FnFnv64aWrongFalsely : Prop := fnFnv64aRow.holds Try.pinned (OpenSpec.ofChange fnFnv64aWrong)

/-- 'laws.FnFnv128': WHATEVER THE INPUT: true; the input reads as it did. -/
def fnFnv128Spec : ChangeSpec := { name := "fnFnv128", fn := fun _ => fun
  | [d] => { results := [.lit (.bool true)], args := [d] }
  | _ => none }
def fnFnv128Row : OpenClaim := { program := "ytdpjdglcienbfaa", sum := "36689eabc0fd9eda7fc4ba1d62ff6a8442c0b19c5cf712ef72b752f7d539fd5a", func := "loop.example/lib-g03213/laws.FnFnv128", spec := "fnFnv128", unfollowed := true, recurses := true, apart := false }
def FnFnv128Said : Prop := fnFnv128Row.holds Try.pinned (OpenSpec.ofChange fnFnv128Spec)

/-- ITS FALSE NEIGHBOUR: 'it returns false'. Refute it at one input. -/
def fnFnv128Wrong : ChangeSpec := { name := "fnFnv128", fn := fun _ => fun
  | [d] => { results := [.lit (.bool false)], args := [d] }
  | _ => none }
def FnFnv128WrongFalsely : Prop := fnFnv128Row.holds Try.pinned (OpenSpec.ofChange fnFnv128Wrong)

/-- 'laws.FnFnv128a': WHATEVER THE INPUT: true; the input reads as it did. -/
def fnFnv128aSpec : ChangeSpec := { name := "fnFnv128a", fn := fun _ => fun
  | [d] => { results := [.lit (.bool true)], args := [d] }
  | _ => none }
def fnFnv128aRow : OpenClaim := { program := "ytdpjdglcienbfaa", sum := "36689eabc0fd9eda7fc4ba1d62ff6a8442c0b19c5cf712ef72b752f7d539fd5a", func := "loop.example/lib-g03213/laws.FnFnv128a", spec := "fnFnv128a", unfollowed := true, recurses := true, apart := false }
def FnFnv128aSaid : Prop := fnFnv128aRow.holds Try.pinned (OpenSpec.ofChange fnFnv128aSpec)

/-- ITS FALSE NEIGHBOUR: 'it returns false'. Refute it at one input. -/
def fnFnv128aWrong : ChangeSpec := { name := "fnFnv128a", fn := fun _ => fun
  | [d] => { results := [.lit (.bool false)], args := [d] }
  | _ => none }
def FnFnv128aWrongFalsely : Prop := fnFnv128aRow.holds Try.pinned (OpenSpec.ofChange fnFnv128aWrong)

/-- 'laws.FnAdler': WHATEVER THE INPUT: true; the input reads as it did. -/
def fnAdlerSpec : ChangeSpec := { name := "fnAdler", fn := fun _ => fun
  | [d] => { results := [.lit (.bool true)], args := [d] }
  | _ => none }
def fnAdlerRow : OpenClaim := { program := "ytdpjdglcienbfaa", sum := "36689eabc0fd9eda7fc4ba1d62ff6a8442c0b19c5cf712ef72b752f7d539fd5a", func := "loop.example/lib-g03213/laws.FnAdler", spec := "fnAdler", unfollowed := true, recurses := true, apart := false }
def FnAdlerSaid : Prop := fnAdlerRow.holds Try.pinned (OpenSpec.ofChange fnAdlerSpec)

/-- ITS FALSE NEIGHBOUR: 'it returns false'. Refute it at one input. -/
def fnAdlerWrong : ChangeSpec := { name := "fnAdler", fn := fun _ => fun
  | [d] => { results := [.lit (.bool false)], args := [d] }
  | _ => none }
def FnAdlerWrongFalsely : Prop := fnAdlerRow.holds Try.pinned (OpenSpec.ofChange fnAdlerWrong)

/-- 'laws.FnAdlerRoads': WHATEVER THE INPUT: true; the input reads as it did. -/
def fnAdlerRoadsSpec : ChangeSpec := { name := "fnAdlerRoads", fn := fun _ => fun
  | [d1, d2] => { results := [.lit (.bool true)], args := [d1, d2] }
  | _ => none }
def fnAdlerRoadsRow : OpenClaim := { program := "ytdpjdglcienbfaa", sum := "36689eabc0fd9eda7fc4ba1d62ff6a8442c0b19c5cf712ef72b752f7d539fd5a", func := "loop.example/lib-g03213/laws.FnAdlerRoads", spec := "fnAdlerRoads", unfollowed := true, recurses := true, apart := false }
def FnAdlerRoadsSaid : Prop := fnAdlerRoadsRow.holds Try.pinned (OpenSpec.ofChange fnAdlerRoadsSpec)

/-- ITS FALSE NEIGHBOUR: 'it returns false'. Refute it at one input. -/
def fnAdlerRoadsWrong : ChangeSpec := { name := "fnAdlerRoads", fn := fun _ => fun
  | [d1, d2] => { results := [.lit (.bool false)], args := [d1, d2] }
  | _ => none }
def FnAdlerRoadsWrongFalsely : Prop := fnAdlerRoadsRow.holds Try.pinned (OpenSpec.ofChange fnAdlerRoadsWrong)

/-- 'laws.FnSizes': WHATEVER THE INPUT: true; the input reads as it did. -/
def fnSizesSpec : ChangeSpec := { name := "fnSizes", fn := fun _ => fun
  | [d1, d2] => { results := [.lit (.bool true)], args := [d1, d2] }
  | _ => none }
def fnSizesRow : OpenClaim := { program := "ytdpjdglcienbfaa", sum := "36689eabc0fd9eda7fc4ba1d62ff6a8442c0b19c5cf712ef72b752f7d539fd5a", func := "loop.example/lib-g03213/laws.FnSizes", spec := "fnSizes", unfollowed := true, recurses := true, apart := false }
def FnSizesSaid : Prop := fnSizesRow.holds Try.pinned (OpenSpec.ofChange fnSizesSpec)

/-- ITS FALSE NEIGHBOUR: 'it returns false'. Refute it at one input. -/
def fnSizesWrong : ChangeSpec := { name := "fnSizes", fn := fun _ => fun
  | [d1, d2] => { results := [.lit (.bool false)], args := [d1, d2] }
  | _ => none }
def FnSizesWrongFalsely : Prop := fnSizesRow.holds Try.pinned (OpenSpec.ofChange fnSizesWrong)

/- THE SECOND FORM. 'bulk': how many values and letters a reading holds, each counted each time it is reached (what is shared counts as often as it is met; a slice's spare places count too). A statement '..UptoSaid' is the law's where the arguments, and the package variables that the reading takes, are together of bulk at most 1048576: NARROWER than '..Said'. Prove '..Said' where nothing that the law and all that it calls make is longer than what came in: it says more and counts as full. Else prove '..UptoSaid'. A law counts once. -/
mutual
def uptoBulk {H : Type} : DataW H → Nat
  | .lit (.string bytes) => bytes.length + 1
  | .lit _ => 1
  | .nil => 1
  | .ptr d => uptoBulk d + 1
  | .slice elems spare => uptoBulkAll elems + uptoBulkAll spare + 1
  | .agg parts => uptoBulkAll parts + 1
  | .iface _ d => uptoBulk d + 1
  | .map entries => uptoBulkEntries entries + 1
  | .held _ => 1
def uptoBulkAll {H : Type} : List (DataW H) → Nat
  | [] => 0
  | d :: r => uptoBulk d + uptoBulkAll r
def uptoBulkEntries {H : Type} : List (Lit × DataW H) → Nat
  | [] => 0
  | x :: r => uptoBulkEntry x + uptoBulkEntries r
def uptoBulkEntry {H : Type} : Lit × DataW H → Nat
  | (.string bytes, d) => bytes.length + uptoBulk d + 1
  | (_, d) => uptoBulk d + 1
 end
def uptoSmall : (H : Type) → List (DataW H) → Bool := fun _ ds => decide (uptoBulkAll ds ≤ 1048576)
def OpenSpec.upto (s : _root_.Go.ChangeSpec) : _root_.Go.OpenSpec := { _root_.Go.OpenSpec.ofChange s with cond := some uptoSmall }

/-- 'laws.FnAdlerJoined', WHERE WHAT IT READS IS OF BULK AT MOST 1048576: true; the input reads as it did. -/
def fnAdlerJoinedUptoRow : OpenClaim := { program := "ytdpjdglcienbfaa", sum := "36689eabc0fd9eda7fc4ba1d62ff6a8442c0b19c5cf712ef72b752f7d539fd5a", func := "loop.example/lib-g03213/laws.FnAdlerJoined", spec := "fnAdlerJoined", apart := false, narrowed := true }
def FnAdlerJoinedUptoSaid : Prop := fnAdlerJoinedUptoRow.holds Try.pinned (OpenSpec.upto fnAdlerJoinedSpec)

/-- 'laws.FnChecksum', WHERE WHAT IT READS IS OF BULK AT MOST 1048576: true; the input reads as it did. -/
def fnChecksumUptoRow : OpenClaim := { program := "ytdpjdglcienbfaa", sum := "36689eabc0fd9eda7fc4ba1d62ff6a8442c0b19c5cf712ef72b752f7d539fd5a", func := "loop.example/lib-g03213/laws.FnChecksum", spec := "fnChecksum", apart := false, narrowed := true }
def FnChecksumUptoSaid : Prop := fnChecksumUptoRow.holds Try.pinned (OpenSpec.upto fnChecksumSpec)

/-- 'laws.FnFnv32', WHERE WHAT IT READS IS OF BULK AT MOST 1048576: true; the input reads as it did. -/
def fnFnv32UptoRow : OpenClaim := { program := "ytdpjdglcienbfaa", sum := "36689eabc0fd9eda7fc4ba1d62ff6a8442c0b19c5cf712ef72b752f7d539fd5a", func := "loop.example/lib-g03213/laws.FnFnv32", spec := "fnFnv32", unfollowed := true, recurses := true, apart := false, narrowed := true }
def FnFnv32UptoSaid : Prop := fnFnv32UptoRow.holds Try.pinned (OpenSpec.upto fnFnv32Spec)

/-- 'laws.FnFnv32a', WHERE WHAT IT READS IS OF BULK AT MOST 1048576: true; the input reads as it did. -/
def fnFnv32aUptoRow : OpenClaim := { program := "ytdpjdglcienbfaa", sum := "36689eabc0fd9eda7fc4ba1d62ff6a8442c0b19c5cf712ef72b752f7d539fd5a", func := "loop.example/lib-g03213/laws.FnFnv32a", spec := "fnFnv32a", unfollowed := true, recurses := true, apart := false, narrowed := true }
def FnFnv32aUptoSaid : Prop := fnFnv32aUptoRow.holds Try.pinned (OpenSpec.upto fnFnv32aSpec)

/-- 'laws.FnFnv64', WHERE WHAT IT READS IS OF BULK AT MOST 1048576: true; the input reads as it did. -/
def fnFnv64UptoRow : OpenClaim := { program := "ytdpjdglcienbfaa", sum := "36689eabc0fd9eda7fc4ba1d62ff6a8442c0b19c5cf712ef72b752f7d539fd5a", func := "loop.example/lib-g03213/laws.FnFnv64", spec := "fnFnv64", unfollowed := true, recurses := true, apart := false, narrowed := true }
def FnFnv64UptoSaid : Prop := fnFnv64UptoRow.holds Try.pinned (OpenSpec.upto fnFnv64Spec)

/-- 'laws.FnFnv64a', WHERE WHAT IT READS IS OF BULK AT MOST 1048576: true; the input reads as it did. -/
def fnFnv64aUptoRow : OpenClaim := { program := "ytdpjdglcienbfaa", sum := "36689eabc0fd9eda7fc4ba1d62ff6a8442c0b19c5cf712ef72b752f7d539fd5a", func := "loop.example/lib-g03213/laws.FnFnv64a", spec := "fnFnv64a", unfollowed := true, recurses := true, apart := false, narrowed := true }
def FnFnv64aUptoSaid : Prop := fnFnv64aUptoRow.holds Try.pinned (OpenSpec.upto fnFnv64aSpec)

/-- 'laws.FnFnv128', WHERE WHAT IT READS IS OF BULK AT MOST 1048576: true; the input reads as it did. -/
def fnFnv128UptoRow : OpenClaim := { program := "ytdpjdglcienbfaa", sum := "36689eabc0fd9eda7fc4ba1d62ff6a8442c0b19c5cf712ef72b752f7d539fd5a", func := "loop.example/lib-g03213/laws.FnFnv128", spec := "fnFnv128", unfollowed := true, recurses := true, apart := false, narrowed := true }
def FnFnv128UptoSaid : Prop := fnFnv128UptoRow.holds Try.pinned (OpenSpec.upto fnFnv128Spec)

/-- 'laws.FnFnv128a', WHERE WHAT IT READS IS OF BULK AT MOST 1048576: true; the input reads as it did. -/
def fnFnv128aUptoRow : OpenClaim := { program := "ytdpjdglcienbfaa", sum := "36689eabc0fd9eda7fc4ba1d62ff6a8442c0b19c5cf712ef72b752f7d539fd5a", func := "loop.example/lib-g03213/laws.FnFnv128a", spec := "fnFnv128a", unfollowed := true, recurses := true, apart := false, narrowed := true }
def FnFnv128aUptoSaid : Prop := fnFnv128aUptoRow.holds Try.pinned (OpenSpec.upto fnFnv128aSpec)

/-- 'laws.FnAdler', WHERE WHAT IT READS IS OF BULK AT MOST 1048576: true; the input reads as it did. -/
def fnAdlerUptoRow : OpenClaim := { program := "ytdpjdglcienbfaa", sum := "36689eabc0fd9eda7fc4ba1d62ff6a8442c0b19c5cf712ef72b752f7d539fd5a", func := "loop.example/lib-g03213/laws.FnAdler", spec := "fnAdler", unfollowed := true, recurses := true, apart := false, narrowed := true }
def FnAdlerUptoSaid : Prop := fnAdlerUptoRow.holds Try.pinned (OpenSpec.upto fnAdlerSpec)

/-- 'laws.FnAdlerRoads', WHERE WHAT IT READS IS OF BULK AT MOST 1048576: true; the input reads as it did. -/
def fnAdlerRoadsUptoRow : OpenClaim := { program := "ytdpjdglcienbfaa", sum := "36689eabc0fd9eda7fc4ba1d62ff6a8442c0b19c5cf712ef72b752f7d539fd5a", func := "loop.example/lib-g03213/laws.FnAdlerRoads", spec := "fnAdlerRoads", unfollowed := true, recurses := true, apart := false, narrowed := true }
def FnAdlerRoadsUptoSaid : Prop := fnAdlerRoadsUptoRow.holds Try.pinned (OpenSpec.upto fnAdlerRoadsSpec)

/-- 'laws.FnSizes', WHERE WHAT IT READS IS OF BULK AT MOST 1048576: true; the input reads as it did. -/
def fnSizesUptoRow : OpenClaim := { program := "ytdpjdglcienbfaa", sum := "36689eabc0fd9eda7fc4ba1d62ff6a8442c0b19c5cf712ef72b752f7d539fd5a", func := "loop.example/lib-g03213/laws.FnSizes", spec := "fnSizes", unfollowed := true, recurses := true, apart := false, narrowed := true }
def FnSizesUptoSaid : Prop := fnSizesUptoRow.holds Try.pinned (OpenSpec.upto fnSizesSpec)

end Rows
end Go.Proofs.Ytdpjdglcienbfaa

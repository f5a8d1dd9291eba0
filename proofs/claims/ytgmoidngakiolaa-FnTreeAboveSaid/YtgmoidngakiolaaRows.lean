/-
  No cell of these rows narrows 'for every input' (looked for: loops, veiled, ifaces, maps, wideKeys, modest, calm, conditions, laid).
  DERIVED. THE GIVEN ROWS OF THIS SEAT. 5 by the template 'for every input the law returns true; each argument reads behind the call as it read before'; 0 by the template 'total and deterministic' (their statements: YtgmoidngakiolaaTotals.lean).
  GIVEN WITH THE SEED: the statements are not yours to turn. If you find one false, say at which input.
  Laid BY PROGRAM, IN A SANDBOX (cutbox-rows.mjs): the forced cells as the released guide's own fill.sh prints them over the translation 346c3dac53c1cbcd… (all of the seat's roots in one cut). By AI agents, Wed Nov 11 2026. No macro, syntax, notation, axiom, sorry.
-/
import Derived.Test.YtgmoidngakiolaaChecked
import GoSem.Claim
import GoSem.ClaimJoined
import GoSem.ClaimMapViews
import Derived.JoinedTies
import Derived.KernelRfl
namespace Go.Proofs.Ytgmoidngakiolaa
/- THE CELL 'sum', in the pinned program and in every row, IS THE sha256 OF THE DUMP (.gsa) THAT YtgmoidngakiolaaProg.lean LOADS. Nothing in Lean hashes anything: it is a label: what it is worth is what the hold of that sum in a sandbox is worth. -/
noncomputable def Try.pinned : Pinned := { name := "ytgmoidngakiolaa", sum := "346c3dac53c1cbcd690e0b58203174318af91c1d5d55aee528fd0239220bfc9f", checked := Try.checked }
namespace Rows
def none {H : Type} : Left H := { results := [], args := [] }

/-- 'laws.FnLocalImport': WHATEVER THE INPUT: true; the input reads as it did. -/
def fnLocalImportSpec : ChangeSpec := { name := "fnLocalImport", fn := fun _ => fun
  | [d] => { results := [.lit (.bool true)], args := [d] }
  | _ => none }
def fnLocalImportRow : OpenClaim := { program := "ytgmoidngakiolaa", sum := "346c3dac53c1cbcd690e0b58203174318af91c1d5d55aee528fd0239220bfc9f", func := "loop.example/pub-g01463/laws.FnLocalImport", spec := "fnLocalImport", apart := false }
def FnLocalImportSaid : Prop := fnLocalImportRow.holds Try.pinned (OpenSpec.ofChange fnLocalImportSpec)

/-- ITS FALSE NEIGHBOUR: 'it returns false'. Refute it at one input. -/
def fnLocalImportWrong : ChangeSpec := { name := "fnLocalImport", fn := fun _ => fun
  | [d] => { results := [.lit (.bool false)], args := [d] }
  | _ => none }
def FnLocalImportWrongFalsely : Prop := fnLocalImportRow.holds Try.pinned (OpenSpec.ofChange fnLocalImportWrong)

/-- 'laws.FnSafeJoined': WHATEVER THE INPUT: true; the input reads as it did. -/
def fnSafeJoinedSpec : ChangeSpec := { name := "fnSafeJoined", fn := fun _ => fun
  | [d1, d2] => { results := [.lit (.bool true)], args := [d1, d2] }
  | _ => none }
def fnSafeJoinedRow : OpenClaim := { program := "ytgmoidngakiolaa", sum := "346c3dac53c1cbcd690e0b58203174318af91c1d5d55aee528fd0239220bfc9f", func := "loop.example/pub-g01463/laws.FnSafeJoined", spec := "fnSafeJoined", inPlace := ["internal/bytealg.IndexByteString"], apart := false }
def FnSafeJoinedSaid : Prop := fnSafeJoinedRow.holds Try.pinned (OpenSpec.ofChange fnSafeJoinedSpec)

/-- ITS FALSE NEIGHBOUR: 'it returns false'. Refute it at one input. -/
def fnSafeJoinedWrong : ChangeSpec := { name := "fnSafeJoined", fn := fun _ => fun
  | [d1, d2] => { results := [.lit (.bool false)], args := [d1, d2] }
  | _ => none }
def FnSafeJoinedWrongFalsely : Prop := fnSafeJoinedRow.holds Try.pinned (OpenSpec.ofChange fnSafeJoinedWrong)

/-- 'laws.FnPathPrefix': WHATEVER THE INPUT: true; the input reads as it did. -/
def fnPathPrefixSpec : ChangeSpec := { name := "fnPathPrefix", fn := fun _ => fun
  | [d1, d2] => { results := [.lit (.bool true)], args := [d1, d2] }
  | _ => none }
def fnPathPrefixRow : OpenClaim := { program := "ytgmoidngakiolaa", sum := "346c3dac53c1cbcd690e0b58203174318af91c1d5d55aee528fd0239220bfc9f", func := "loop.example/pub-g01463/laws.FnPathPrefix", spec := "fnPathPrefix", apart := false }
def FnPathPrefixSaid : Prop := fnPathPrefixRow.holds Try.pinned (OpenSpec.ofChange fnPathPrefixSpec)

/-- ITS FALSE NEIGHBOUR: 'it returns false'. Refute it at one input. -/
def fnPathPrefixWrong : ChangeSpec := { name := "fnPathPrefix", fn := fun _ => fun
  | [d1, d2] => { results := [.lit (.bool false)], args := [d1, d2] }
  | _ => none }
def FnPathPrefixWrongFalsely : Prop := fnPathPrefixRow.holds Try.pinned (OpenSpec.ofChange fnPathPrefixWrong)

/-- 'laws.FnTreeAbove': WHATEVER THE INPUT: true; the input reads as it did. -/
def fnTreeAboveSpec : ChangeSpec := { name := "fnTreeAbove", fn := fun _ => fun
  | [d1, d2, d3] => { results := [.lit (.bool true)], args := [d1, d2, d3] }
  | _ => none }
def fnTreeAboveRow : OpenClaim := { program := "ytgmoidngakiolaa", sum := "346c3dac53c1cbcd690e0b58203174318af91c1d5d55aee528fd0239220bfc9f", func := "loop.example/pub-g01463/laws.FnTreeAbove", spec := "fnTreeAbove", unfollowed := true, recurses := true, apart := false }
def FnTreeAboveSaid : Prop := fnTreeAboveRow.holds Try.pinned (OpenSpec.ofChange fnTreeAboveSpec)

/-- ITS FALSE NEIGHBOUR: 'it returns false'. Refute it at one input. -/
def fnTreeAboveWrong : ChangeSpec := { name := "fnTreeAbove", fn := fun _ => fun
  | [d1, d2, d3] => { results := [.lit (.bool false)], args := [d1, d2, d3] }
  | _ => none }
def FnTreeAboveWrongFalsely : Prop := fnTreeAboveRow.holds Try.pinned (OpenSpec.ofChange fnTreeAboveWrong)

/-- 'laws.FnTreeCanMatch': WHATEVER THE INPUT: true; the input reads as it did. -/
def fnTreeCanMatchSpec : ChangeSpec := { name := "fnTreeCanMatch", fn := fun _ => fun
  | [d1, d2] => { results := [.lit (.bool true)], args := [d1, d2] }
  | _ => none }
def fnTreeCanMatchRow : OpenClaim := { program := "ytgmoidngakiolaa", sum := "346c3dac53c1cbcd690e0b58203174318af91c1d5d55aee528fd0239220bfc9f", func := "loop.example/pub-g01463/laws.FnTreeCanMatch", spec := "fnTreeCanMatch", unfollowed := true, recurses := true, apart := false }
def FnTreeCanMatchSaid : Prop := fnTreeCanMatchRow.holds Try.pinned (OpenSpec.ofChange fnTreeCanMatchSpec)

/-- ITS FALSE NEIGHBOUR: 'it returns false'. Refute it at one input. -/
def fnTreeCanMatchWrong : ChangeSpec := { name := "fnTreeCanMatch", fn := fun _ => fun
  | [d1, d2] => { results := [.lit (.bool false)], args := [d1, d2] }
  | _ => none }
def FnTreeCanMatchWrongFalsely : Prop := fnTreeCanMatchRow.holds Try.pinned (OpenSpec.ofChange fnTreeCanMatchWrong)

/- THE SECOND FORM. 'bulk': how many values and letters a reading holds, each counted each time it is reached (what is shared counts as often as it is met; a slice's spare places count too). A statement '..UptoSaid' is the law's where the arguments, and the package variables that the reading takes, are together of bulk at most 1048576: NARROWER than '..Said'. Prove '..Said' where nothing that the law and all that it calls make is longer than what came in: it says more and counts as full. Else prove '..UptoSaid'. A law counts once. -/
mutual
def uptoBulk {H : Type} : DataW H → Nat
  | .lit (.string bytes) => bytes.length + 1
  | .lit _ => 1
  | .nil => 1
  | .ptr d => uptoBulk d + 1
  | .slice elems spare => uptoBulkAll elems + uptoBulkAll spare + 1
  | .agg parts => uptoBulkAll parts + 1
  | .iface _ d => uptoBulk d + 1
  | .map entries => uptoBulkEntries entries + 1
  | .held _ => 1
def uptoBulkAll {H : Type} : List (DataW H) → Nat
  | [] => 0
  | d :: r => uptoBulk d + uptoBulkAll r
def uptoBulkEntries {H : Type} : List (Lit × DataW H) → Nat
  | [] => 0
  | x :: r => uptoBulkEntry x + uptoBulkEntries r
def uptoBulkEntry {H : Type} : Lit × DataW H → Nat
  | (.string bytes, d) => bytes.length + uptoBulk d + 1
  | (_, d) => uptoBulk d + 1
 end
def uptoSmall : (H : Type) → List (DataW H) → Bool := fun _ ds => decide (uptoBulkAll ds ≤ 1048576)
def OpenSpec.upto (s : _root_.Go.ChangeSpec) : _root_.Go.OpenSpec := { _root_.Go.OpenSpec.ofChange s with cond := some uptoSmall }

/-- 'laws.FnLocalImport', WHERE WHAT IT READS IS OF BULK AT MOST 1048576: true; the input reads as it did. -/
def fnLocalImportUptoRow : OpenClaim := { program := "ytgmoidngakiolaa", sum := "346c3dac53c1cbcd690e0b58203174318af91c1d5d55aee528fd0239220bfc9f", func := "loop.example/pub-g01463/laws.FnLocalImport", spec := "fnLocalImport", apart := false, narrowed := true }
def FnLocalImportUptoSaid : Prop := fnLocalImportUptoRow.holds Try.pinned (OpenSpec.upto fnLocalImportSpec)

/-- 'laws.FnSafeJoined', WHERE WHAT IT READS IS OF BULK AT MOST 1048576: true; the input reads as it did. -/
def fnSafeJoinedUptoRow : OpenClaim := { program := "ytgmoidngakiolaa", sum := "346c3dac53c1cbcd690e0b58203174318af91c1d5d55aee528fd0239220bfc9f", func := "loop.example/pub-g01463/laws.FnSafeJoined", spec := "fnSafeJoined", inPlace := ["internal/bytealg.IndexByteString"], apart := false, narrowed := true }
def FnSafeJoinedUptoSaid : Prop := fnSafeJoinedUptoRow.holds Try.pinned (OpenSpec.upto fnSafeJoinedSpec)

/-- 'laws.FnPathPrefix', WHERE WHAT IT READS IS OF BULK AT MOST 1048576: true; the input reads as it did. -/
def fnPathPrefixUptoRow : OpenClaim := { program := "ytgmoidngakiolaa", sum := "346c3dac53c1cbcd690e0b58203174318af91c1d5d55aee528fd0239220bfc9f", func := "loop.example/pub-g01463/laws.FnPathPrefix", spec := "fnPathPrefix", apart := false, narrowed := true }
def FnPathPrefixUptoSaid : Prop := fnPathPrefixUptoRow.holds Try.pinned (OpenSpec.upto fnPathPrefixSpec)

/-- 'laws.FnTreeAbove', WHERE WHAT IT READS IS OF BULK AT MOST 1048576: true; the input reads as it did. -/
def fnTreeAboveUptoRow : OpenClaim := { program := "ytgmoidngakiolaa", sum := "346c3dac53c1cbcd690e0b58203174318af91c1d5d55aee528fd0239220bfc9f", func := "loop.example/pub-g01463/laws.FnTreeAbove", spec := "fnTreeAbove", unfollowed := true, recurses := true, apart := false, narrowed := true }
def FnTreeAboveUptoSaid : Prop := fnTreeAboveUptoRow.holds Try.pinned (OpenSpec.upto fnTreeAboveSpec)

/-- 'laws.FnTreeCanMatch', WHERE WHAT IT READS IS OF BULK AT MOST 1048576: true; the input reads as it did. -/
def fnTreeCanMatchUptoRow : OpenClaim := { program := "ytgmoidngakiolaa", sum := "346c3dac53c1cbcd690e0b58203174318af91c1d5d55aee528fd0239220bfc9f", func := "loop.example/pub-g01463/laws.FnTreeCanMatch", spec := "fnTreeCanMatch", unfollowed := true, recurses := true, apart := false, narrowed := true }
def FnTreeCanMatchUptoSaid : Prop := fnTreeCanMatchUptoRow.holds Try.pinned (OpenSpec.upto fnTreeCanMatchSpec)

end Rows
end Go.Proofs.Ytgmoidngakiolaa

/-
  No cell of these rows narrows 'for every input' (looked for: loops, veiled, ifaces, maps, wideKeys, modest, calm, conditions, laid).
  DERIVED. THE GIVEN ROWS OF THIS SEAT. 5 by the template 'for every input the law returns true; each argument reads behind the call as it read before'; 0 by the template 'total and deterministic' (their statements: YtdapcnhgbmicoaaTotals.lean).
  GIVEN WITH THE SEED: the statements are not yours to turn. If you find one false, say at which input.
  Laid BY PROGRAM, IN A SANDBOX (cutbox-rows.mjs): the forced cells as the released guide's own fill.sh prints them over the translation fd3b8449e849b8eb… (all of the seat's roots in one cut). By AI agents, Wed Nov 11 2026. No macro, syntax, notation, axiom, sorry.
-/
import Derived.Test.YtdapcnhgbmicoaaChecked
import GoSem.Claim
import GoSem.ClaimJoined
import GoSem.ClaimMapViews
import Derived.JoinedTies
import Derived.KernelRfl
namespace Go.Proofs.Ytdapcnhgbmicoaa
/- THE CELL 'sum', in the pinned program and in every row, IS THE sha256 OF THE DUMP (.gsa) THAT YtdapcnhgbmicoaaProg.lean LOADS. Nothing in Lean hashes anything: it is a label: what it is worth is what the hold of that sum in a sandbox is worth. -/
noncomputable def Try.pinned : Pinned := { name := "ytdapcnhgbmicoaa", sum := "fd3b8449e849b8eb3512735d7950c2f75c9fc0e9a5959b088ff3b40b49c82229", checked := Try.checked }
namespace Rows
def none {H : Type} : Left H := { results := [], args := [] }

/-- 'laws.FnSkipParts': WHATEVER THE INPUT: true; the input reads as it did. -/
def fnSkipPartsSpec : ChangeSpec := { name := "fnSkipParts", fn := fun _ => fun
  | [d1, d2] => { results := [.lit (.bool true)], args := [d1, d2] }
  | _ => none }
def fnSkipPartsRow : OpenClaim := { program := "ytdapcnhgbmicoaa", sum := "fd3b8449e849b8eb3512735d7950c2f75c9fc0e9a5959b088ff3b40b49c82229", func := "loop.example/pub-g01463/laws.FnSkipParts", spec := "fnSkipParts", apart := false }
def FnSkipPartsSaid : Prop := fnSkipPartsRow.holds Try.pinned (OpenSpec.ofChange fnSkipPartsSpec)

/-- ITS FALSE NEIGHBOUR: 'it returns false'. Refute it at one input. -/
def fnSkipPartsWrong : ChangeSpec := { name := "fnSkipParts", fn := fun _ => fun
  | [d1, d2] => { results := [.lit (.bool false)], args := [d1, d2] }
  | _ => none }
def FnSkipPartsWrongFalsely : Prop := fnSkipPartsRow.holds Try.pinned (OpenSpec.ofChange fnSkipPartsWrong)

/-- 'laws.FnSkipSpaces': WHATEVER THE INPUT: true; the input reads as it did. -/
def fnSkipSpacesSpec : ChangeSpec := { name := "fnSkipSpaces", fn := fun _ => fun
  | [d] => { results := [.lit (.bool true)], args := [d] }
  | _ => none }
def fnSkipSpacesRow : OpenClaim := { program := "ytdapcnhgbmicoaa", sum := "fd3b8449e849b8eb3512735d7950c2f75c9fc0e9a5959b088ff3b40b49c82229", func := "loop.example/pub-g01463/laws.FnSkipSpaces", spec := "fnSkipSpaces", apart := false }
def FnSkipSpacesSaid : Prop := fnSkipSpacesRow.holds Try.pinned (OpenSpec.ofChange fnSkipSpacesSpec)

/-- ITS FALSE NEIGHBOUR: 'it returns false'. Refute it at one input. -/
def fnSkipSpacesWrong : ChangeSpec := { name := "fnSkipSpaces", fn := fun _ => fun
  | [d] => { results := [.lit (.bool false)], args := [d] }
  | _ => none }
def FnSkipSpacesWrongFalsely : Prop := fnSkipSpacesRow.holds Try.pinned (OpenSpec.ofChange fnSkipSpacesWrong)

/-- 'laws.FnReplaceVendor': WHATEVER THE INPUT: true; the input reads as it did. -/
def fnReplaceVendorSpec : ChangeSpec := { name := "fnReplaceVendor", fn := fun _ => fun
  | [d1, d2] => { results := [.lit (.bool true)], args := [d1, d2] }
  | _ => none }
def fnReplaceVendorRow : OpenClaim := { program := "ytdapcnhgbmicoaa", sum := "fd3b8449e849b8eb3512735d7950c2f75c9fc0e9a5959b088ff3b40b49c82229", func := "loop.example/pub-g01463/laws.FnReplaceVendor", spec := "fnReplaceVendor", inPlace := ["internal/abi.NoEscape", "internal/bytealg.MakeNoZero"], apart := false }
def FnReplaceVendorSaid : Prop := fnReplaceVendorRow.holds Try.pinned (OpenSpec.ofChange fnReplaceVendorSpec)

/-- ITS FALSE NEIGHBOUR: 'it returns false'. Refute it at one input. -/
def fnReplaceVendorWrong : ChangeSpec := { name := "fnReplaceVendor", fn := fun _ => fun
  | [d1, d2] => { results := [.lit (.bool false)], args := [d1, d2] }
  | _ => none }
def FnReplaceVendorWrongFalsely : Prop := fnReplaceVendorRow.holds Try.pinned (OpenSpec.ofChange fnReplaceVendorWrong)

/-- 'laws.FnReplaceVendorSame': WHATEVER THE INPUT: true; the input reads as it did. -/
def fnReplaceVendorSameSpec : ChangeSpec := { name := "fnReplaceVendorSame", fn := fun _ => fun
  | [d1, d2] => { results := [.lit (.bool true)], args := [d1, d2] }
  | _ => none }
def fnReplaceVendorSameRow : OpenClaim := { program := "ytdapcnhgbmicoaa", sum := "fd3b8449e849b8eb3512735d7950c2f75c9fc0e9a5959b088ff3b40b49c82229", func := "loop.example/pub-g01463/laws.FnReplaceVendorSame", spec := "fnReplaceVendorSame", inPlace := ["internal/abi.NoEscape", "internal/bytealg.MakeNoZero"], apart := false }
def FnReplaceVendorSameSaid : Prop := fnReplaceVendorSameRow.holds Try.pinned (OpenSpec.ofChange fnReplaceVendorSameSpec)

/-- ITS FALSE NEIGHBOUR: 'it returns false'. Refute it at one input. -/
def fnReplaceVendorSameWrong : ChangeSpec := { name := "fnReplaceVendorSame", fn := fun _ => fun
  | [d1, d2] => { results := [.lit (.bool false)], args := [d1, d2] }
  | _ => none }
def FnReplaceVendorSameWrongFalsely : Prop := fnReplaceVendorSameRow.holds Try.pinned (OpenSpec.ofChange fnReplaceVendorSameWrong)

/-- 'laws.FnExpandSrcDir': WHATEVER THE INPUT: true; the input reads as it did. -/
def fnExpandSrcDirSpec : ChangeSpec := { name := "fnExpandSrcDir", fn := fun _ => fun
  | [d1, d2] => { results := [.lit (.bool true)], args := [d1, d2] }
  | _ => none }
def fnExpandSrcDirRow : OpenClaim := { program := "ytdapcnhgbmicoaa", sum := "fd3b8449e849b8eb3512735d7950c2f75c9fc0e9a5959b088ff3b40b49c82229", func := "loop.example/pub-g01463/laws.FnExpandSrcDir", spec := "fnExpandSrcDir", inPlace := ["internal/bytealg.IndexByteString", "internal/abi.NoEscape", "internal/bytealg.MakeNoZero"], apart := false }
def FnExpandSrcDirSaid : Prop := fnExpandSrcDirRow.holds Try.pinned (OpenSpec.ofChange fnExpandSrcDirSpec)

/-- ITS FALSE NEIGHBOUR: 'it returns false'. Refute it at one input. -/
def fnExpandSrcDirWrong : ChangeSpec := { name := "fnExpandSrcDir", fn := fun _ => fun
  | [d1, d2] => { results := [.lit (.bool false)], args := [d1, d2] }
  | _ => none }
def FnExpandSrcDirWrongFalsely : Prop := fnExpandSrcDirRow.holds Try.pinned (OpenSpec.ofChange fnExpandSrcDirWrong)

/- THE SECOND FORM. 'bulk': how many values and letters a reading holds, each counted each time it is reached (what is shared counts as often as it is met; a slice's spare places count too). A statement '..UptoSaid' is the law's where the arguments, and the package variables that the reading takes, are together of bulk at most 1048576: NARROWER than '..Said'. Prove '..Said' where nothing that the law and all that it calls make is longer than what came in: it says more and counts as full. Else prove '..UptoSaid'. A law counts once. -/
mutual
def uptoBulk {H : Type} : DataW H → Nat
  | .lit (.string bytes) => bytes.length + 1
  | .lit _ => 1
  | .nil => 1
  | .ptr d => uptoBulk d + 1
  | .slice elems spare => uptoBulkAll elems + uptoBulkAll spare + 1
  | .agg parts => uptoBulkAll parts + 1
  | .iface _ d => uptoBulk d + 1
  | .map entries => uptoBulkEntries entries + 1
  | .held _ => 1
def uptoBulkAll {H : Type} : List (DataW H) → Nat
  | [] => 0
  | d :: r => uptoBulk d + uptoBulkAll r
def uptoBulkEntries {H : Type} : List (Lit × DataW H) → Nat
  | [] => 0
  | x :: r => uptoBulkEntry x + uptoBulkEntries r
def uptoBulkEntry {H : Type} : Lit × DataW H → Nat
  | (.string bytes, d) => bytes.length + uptoBulk d + 1
  | (_, d) => uptoBulk d + 1
 end
def uptoSmall : (H : Type) → List (DataW H) → Bool := fun _ ds => decide (uptoBulkAll ds ≤ 1048576)
def OpenSpec.upto (s : _root_.Go.ChangeSpec) : _root_.Go.OpenSpec := { _root_.Go.OpenSpec.ofChange s with cond := some uptoSmall }

/-- 'laws.FnSkipParts', WHERE WHAT IT READS IS OF BULK AT MOST 1048576: true; the input reads as it did. -/
def fnSkipPartsUptoRow : OpenClaim := { program := "ytdapcnhgbmicoaa", sum := "fd3b8449e849b8eb3512735d7950c2f75c9fc0e9a5959b088ff3b40b49c82229", func := "loop.example/pub-g01463/laws.FnSkipParts", spec := "fnSkipParts", apart := false, narrowed := true }
def FnSkipPartsUptoSaid : Prop := fnSkipPartsUptoRow.holds Try.pinned (OpenSpec.upto fnSkipPartsSpec)

/-- 'laws.FnSkipSpaces', WHERE WHAT IT READS IS OF BULK AT MOST 1048576: true; the input reads as it did. -/
def fnSkipSpacesUptoRow : OpenClaim := { program := "ytdapcnhgbmicoaa", sum := "fd3b8449e849b8eb3512735d7950c2f75c9fc0e9a5959b088ff3b40b49c82229", func := "loop.example/pub-g01463/laws.FnSkipSpaces", spec := "fnSkipSpaces", apart := false, narrowed := true }
def FnSkipSpacesUptoSaid : Prop := fnSkipSpacesUptoRow.holds Try.pinned (OpenSpec.upto fnSkipSpacesSpec)

/-- 'laws.FnReplaceVendor', WHERE WHAT IT READS IS OF BULK AT MOST 1048576: true; the input reads as it did. -/
def fnReplaceVendorUptoRow : OpenClaim := { program := "ytdapcnhgbmicoaa", sum := "fd3b8449e849b8eb3512735d7950c2f75c9fc0e9a5959b088ff3b40b49c82229", func := "loop.example/pub-g01463/laws.FnReplaceVendor", spec := "fnReplaceVendor", inPlace := ["internal/abi.NoEscape", "internal/bytealg.MakeNoZero"], apart := false, narrowed := true }
def FnReplaceVendorUptoSaid : Prop := fnReplaceVendorUptoRow.holds Try.pinned (OpenSpec.upto fnReplaceVendorSpec)

/-- 'laws.FnReplaceVendorSame', WHERE WHAT IT READS IS OF BULK AT MOST 1048576: true; the input reads as it did. -/
def fnReplaceVendorSameUptoRow : OpenClaim := { program := "ytdapcnhgbmicoaa", sum := "fd3b8449e849b8eb3512735d7950c2f75c9fc0e9a5959b088ff3b40b49c82229", func := "loop.example/pub-g01463/laws.FnReplaceVendorSame", spec := "fnReplaceVendorSame", inPlace := ["internal/abi.NoEscape", "internal/bytealg.MakeNoZero"], apart := false, narrowed := true }
def FnReplaceVendorSameUptoSaid : Prop := fnReplaceVendorSameUptoRow.holds Try.pinned (OpenSpec.upto fnReplaceVendorSameSpec)

/-- 'laws.FnExpandSrcDir', WHERE WHAT IT READS IS OF BULK AT MOST 1048576: true; the input reads as it did. -/
def fnExpandSrcDirUptoRow : OpenClaim := { program := "ytdapcnhgbmicoaa", sum := "fd3b8449e849b8eb3512735d7950c2f75c9fc0e9a5959b088ff3b40b49c82229", func := "loop.example/pub-g01463/laws.FnExpandSrcDir", spec := "fnExpandSrcDir", inPlace := ["internal/bytealg.IndexByteString", "internal/abi.NoEscape", "internal/bytealg.MakeNoZero"], apart := false, narrowed := true }
def FnExpandSrcDirUptoSaid : Prop := fnExpandSrcDirUptoRow.holds Try.pinned (OpenSpec.upto fnExpandSrcDirSpec)

end Rows
end Go.Proofs.Ytdapcnhgbmicoaa

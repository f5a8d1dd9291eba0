/-
  NARROWER THAN 'FOR EVERY INPUT', by the rows' own cells (each row's printed sentence says how): FnTagMet: maps, laid · FnTagMore: maps, laid · FnNameFits: maps, laid · FnNameParts: maps, laid.
  DERIVED. THE GIVEN ROWS OF THIS SEAT. 4 by the template 'for every input the law returns true; each argument reads behind the call as it read before'; 0 by the template 'total and deterministic' (their statements: YtbociefjibgklaaDoorTotals.lean).
  GIVEN WITH THE SEED: the statements are not yours to turn. If you find one false, say at which input.
  Laid BY PROGRAM, IN A SANDBOX (cutbox-rows.mjs): the forced cells as the released guide's own fill.sh prints them over the translation 908ff4f512bd59c1… (all of the seat's roots in one cut). By AI agents, Wed Nov 11 2026. No macro, syntax, notation, axiom, sorry.
-/
import Derived.Test.YtbociefjibgklaaDoorChecked
import GoSem.Claim
import GoSem.ClaimJoined
import GoSem.ClaimMapViews
import Derived.JoinedTies
import Derived.KernelRfl
namespace Go.Proofs.YtbociefjibgklaaDoor
/- THE CELL 'sum', in the pinned program and in every row, IS THE sha256 OF THE DUMP (.gsa) THAT YtbociefjibgklaaDoorProg.lean LOADS. Nothing in Lean hashes anything: it is a label: what it is worth is what the hold of that sum in a sandbox is worth. -/
noncomputable def Tryd.pinned : Pinned := { name := "ytbociefjibgklaadoor", sum := "908ff4f512bd59c17fda1df213979793025059bb0d0face19d11fe24a9b6e14e", checked := Tryd.checked }
namespace Rows
def none {H : Type} : Left H := { results := [], args := [] }

/- WHAT THE LISTED PACKAGE-LEVEL VARIABLES READ AS WHEN THE CALL BEGINS. Each datum BY PROGRAM (the guide's laid-datum.mjs) off the statement by which the dump's own 'gosem.cut.vars' lays the variable. In a bare row this is a premise. The card (YtbociefjibgklaaDoorCards.lean) ties it to the program's text. -/
def laid_loop_example_pub_g01463_pub_syslist_UnixOS {H : Type} : DataW H := .map [(.string [97, 105, 120], .lit (.bool true)), (.string [97, 110, 100, 114, 111, 105, 100], .lit (.bool true)), (.string [100, 97, 114, 119, 105, 110], .lit (.bool true)), (.string [100, 114, 97, 103, 111, 110, 102, 108, 121], .lit (.bool true)), (.string [102, 114, 101, 101, 98, 115, 100], .lit (.bool true)), (.string [104, 117, 114, 100], .lit (.bool true)), (.string [105, 108, 108, 117, 109, 111, 115], .lit (.bool true)), (.string [105, 111, 115], .lit (.bool true)), (.string [108, 105, 110, 117, 120], .lit (.bool true)), (.string [110, 101, 116, 98, 115, 100], .lit (.bool true)), (.string [111, 112, 101, 110, 98, 115, 100], .lit (.bool true)), (.string [115, 111, 108, 97, 114, 105, 115], .lit (.bool true))]
def laid_loop_example_pub_g01463_pub_syslist_KnownOS {H : Type} : DataW H := .map [(.string [97, 105, 120], .lit (.bool true)), (.string [97, 110, 100, 114, 111, 105, 100], .lit (.bool true)), (.string [100, 97, 114, 119, 105, 110], .lit (.bool true)), (.string [100, 114, 97, 103, 111, 110, 102, 108, 121], .lit (.bool true)), (.string [102, 114, 101, 101, 98, 115, 100], .lit (.bool true)), (.string [104, 117, 114, 100], .lit (.bool true)), (.string [105, 108, 108, 117, 109, 111, 115], .lit (.bool true)), (.string [105, 111, 115], .lit (.bool true)), (.string [106, 115], .lit (.bool true)), (.string [108, 105, 110, 117, 120], .lit (.bool true)), (.string [110, 97, 99, 108], .lit (.bool true)), (.string [110, 101, 116, 98, 115, 100], .lit (.bool true)), (.string [111, 112, 101, 110, 98, 115, 100], .lit (.bool true)), (.string [112, 108, 97, 110, 57], .lit (.bool true)), (.string [115, 111, 108, 97, 114, 105, 115], .lit (.bool true)), (.string [119, 97, 115, 105, 112, 49], .lit (.bool true)), (.string [119, 105, 110, 100, 111, 119, 115], .lit (.bool true)), (.string [122, 111, 115], .lit (.bool true))]
def laid_loop_example_pub_g01463_pub_syslist_KnownArch {H : Type} : DataW H := .map [(.string [51, 56, 54], .lit (.bool true)), (.string [97, 109, 100, 54, 52], .lit (.bool true)), (.string [97, 109, 100, 54, 52, 112, 51, 50], .lit (.bool true)), (.string [97, 114, 109], .lit (.bool true)), (.string [97, 114, 109, 54, 52], .lit (.bool true)), (.string [97, 114, 109, 54, 52, 98, 101], .lit (.bool true)), (.string [97, 114, 109, 98, 101], .lit (.bool true)), (.string [108, 111, 111, 110, 103, 54, 52], .lit (.bool true)), (.string [109, 105, 112, 115], .lit (.bool true)), (.string [109, 105, 112, 115, 54, 52], .lit (.bool true)), (.string [109, 105, 112, 115, 54, 52, 108, 101], .lit (.bool true)), (.string [109, 105, 112, 115, 54, 52, 112, 51, 50], .lit (.bool true)), (.string [109, 105, 112, 115, 54, 52, 112, 51, 50, 108, 101], .lit (.bool true)), (.string [109, 105, 112, 115, 108, 101], .lit (.bool true)), (.string [112, 112, 99], .lit (.bool true)), (.string [112, 112, 99, 54, 52], .lit (.bool true)), (.string [112, 112, 99, 54, 52, 108, 101], .lit (.bool true)), (.string [114, 105, 115, 99, 118], .lit (.bool true)), (.string [114, 105, 115, 99, 118, 54, 52], .lit (.bool true)), (.string [115, 51, 57, 48], .lit (.bool true)), (.string [115, 51, 57, 48, 120], .lit (.bool true)), (.string [115, 112, 97, 114, 99], .lit (.bool true)), (.string [115, 112, 97, 114, 99, 54, 52], .lit (.bool true)), (.string [119, 97, 115, 109], .lit (.bool true))]

/-- 'laws.FnTagMet': WHATEVER THE INPUT: true; the input reads as it did. -/
def fnTagMetSpec : ChangeSpec := { name := "fnTagMet", vars := ["loop.example/pub-g01463/pub/syslist.UnixOS"], fn := fun _ => fun
  | [d1, d2, g1] => { results := [.lit (.bool true)], args := [d1, d2], vars := [g1] }
  | _ => none }
def fnTagMetRow : OpenClaim := { program := "ytbociefjibgklaadoor", sum := "908ff4f512bd59c17fda1df213979793025059bb0d0face19d11fe24a9b6e14e", func := "loop.example/pub-g01463/laws.FnTagMet", spec := "fnTagMet", named := ["loop.example/pub-g01463/pub/syslist.UnixOS"], maps := true, apart := false, laid := [("loop.example/pub-g01463/pub/syslist.UnixOS", laid_loop_example_pub_g01463_pub_syslist_UnixOS)] }
def FnTagMetSaid : Prop := fnTagMetRow.holds Tryd.pinned (OpenSpec.ofChange fnTagMetSpec)

/-- ITS FALSE NEIGHBOUR: 'it returns false'. Refute it at one input. -/
def fnTagMetWrong : ChangeSpec := { name := "fnTagMet", vars := ["loop.example/pub-g01463/pub/syslist.UnixOS"], fn := fun _ => fun
  | [d1, d2, g1] => { results := [.lit (.bool false)], args := [d1, d2], vars := [g1] }
  | _ => none }
def FnTagMetWrongFalsely : Prop := fnTagMetRow.holds Tryd.pinned (OpenSpec.ofChange fnTagMetWrong)

/-- 'laws.FnTagMore': WHATEVER THE INPUT: true; the input reads as it did. -/
def fnTagMoreSpec : ChangeSpec := { name := "fnTagMore", vars := ["loop.example/pub-g01463/pub/syslist.UnixOS"], fn := fun _ => fun
  | [d1, d2, d3, g1] => { results := [.lit (.bool true)], args := [d1, d2, d3], vars := [g1] }
  | _ => none }
def fnTagMoreRow : OpenClaim := { program := "ytbociefjibgklaadoor", sum := "908ff4f512bd59c17fda1df213979793025059bb0d0face19d11fe24a9b6e14e", func := "loop.example/pub-g01463/laws.FnTagMore", spec := "fnTagMore", named := ["loop.example/pub-g01463/pub/syslist.UnixOS"], maps := true, apart := false, laid := [("loop.example/pub-g01463/pub/syslist.UnixOS", laid_loop_example_pub_g01463_pub_syslist_UnixOS)] }
def FnTagMoreSaid : Prop := fnTagMoreRow.holds Tryd.pinned (OpenSpec.ofChange fnTagMoreSpec)

/-- ITS FALSE NEIGHBOUR: 'it returns false'. Refute it at one input. -/
def fnTagMoreWrong : ChangeSpec := { name := "fnTagMore", vars := ["loop.example/pub-g01463/pub/syslist.UnixOS"], fn := fun _ => fun
  | [d1, d2, d3, g1] => { results := [.lit (.bool false)], args := [d1, d2, d3], vars := [g1] }
  | _ => none }
def FnTagMoreWrongFalsely : Prop := fnTagMoreRow.holds Tryd.pinned (OpenSpec.ofChange fnTagMoreWrong)

/-- 'laws.FnNameFits': WHATEVER THE INPUT: true; the input reads as it did. -/
def fnNameFitsSpec : ChangeSpec := { name := "fnNameFits", vars := ["loop.example/pub-g01463/pub/syslist.KnownOS", "loop.example/pub-g01463/pub/syslist.KnownArch", "loop.example/pub-g01463/pub/syslist.UnixOS"], fn := fun _ => fun
  | [d1, d2, g1, g2, g3] => { results := [.lit (.bool true)], args := [d1, d2], vars := [g1, g2, g3] }
  | _ => none }
def fnNameFitsRow : OpenClaim := { program := "ytbociefjibgklaadoor", sum := "908ff4f512bd59c17fda1df213979793025059bb0d0face19d11fe24a9b6e14e", func := "loop.example/pub-g01463/laws.FnNameFits", spec := "fnNameFits", named := ["loop.example/pub-g01463/pub/syslist.KnownOS", "loop.example/pub-g01463/pub/syslist.KnownArch", "loop.example/pub-g01463/pub/syslist.UnixOS"], maps := true, apart := false, laid := [("loop.example/pub-g01463/pub/syslist.KnownOS", laid_loop_example_pub_g01463_pub_syslist_KnownOS), ("loop.example/pub-g01463/pub/syslist.UnixOS", laid_loop_example_pub_g01463_pub_syslist_UnixOS), ("loop.example/pub-g01463/pub/syslist.KnownArch", laid_loop_example_pub_g01463_pub_syslist_KnownArch)] }
def FnNameFitsSaid : Prop := fnNameFitsRow.holds Tryd.pinned (OpenSpec.ofChange fnNameFitsSpec)

/-- ITS FALSE NEIGHBOUR: 'it returns false'. Refute it at one input. -/
def fnNameFitsWrong : ChangeSpec := { name := "fnNameFits", vars := ["loop.example/pub-g01463/pub/syslist.KnownOS", "loop.example/pub-g01463/pub/syslist.KnownArch", "loop.example/pub-g01463/pub/syslist.UnixOS"], fn := fun _ => fun
  | [d1, d2, g1, g2, g3] => { results := [.lit (.bool false)], args := [d1, d2], vars := [g1, g2, g3] }
  | _ => none }
def FnNameFitsWrongFalsely : Prop := fnNameFitsRow.holds Tryd.pinned (OpenSpec.ofChange fnNameFitsWrong)

/-- 'laws.FnNameParts': WHATEVER THE INPUT: true; the input reads as it did. -/
def fnNamePartsSpec : ChangeSpec := { name := "fnNameParts", vars := ["loop.example/pub-g01463/pub/syslist.KnownOS", "loop.example/pub-g01463/pub/syslist.KnownArch", "loop.example/pub-g01463/pub/syslist.UnixOS"], fn := fun _ => fun
  | [d1, d2, d3, d4, d5, g1, g2, g3] => { results := [.lit (.bool true)], args := [d1, d2, d3, d4, d5], vars := [g1, g2, g3] }
  | _ => none }
def fnNamePartsRow : OpenClaim := { program := "ytbociefjibgklaadoor", sum := "908ff4f512bd59c17fda1df213979793025059bb0d0face19d11fe24a9b6e14e", func := "loop.example/pub-g01463/laws.FnNameParts", spec := "fnNameParts", named := ["loop.example/pub-g01463/pub/syslist.KnownOS", "loop.example/pub-g01463/pub/syslist.KnownArch", "loop.example/pub-g01463/pub/syslist.UnixOS"], maps := true, apart := false, laid := [("loop.example/pub-g01463/pub/syslist.KnownOS", laid_loop_example_pub_g01463_pub_syslist_KnownOS), ("loop.example/pub-g01463/pub/syslist.UnixOS", laid_loop_example_pub_g01463_pub_syslist_UnixOS), ("loop.example/pub-g01463/pub/syslist.KnownArch", laid_loop_example_pub_g01463_pub_syslist_KnownArch)] }
def FnNamePartsSaid : Prop := fnNamePartsRow.holds Tryd.pinned (OpenSpec.ofChange fnNamePartsSpec)

/-- ITS FALSE NEIGHBOUR: 'it returns false'. Refute it at one input. -/
def fnNamePartsWrong : ChangeSpec := { name := "fnNameParts", vars := ["loop.example/pub-g01463/pub/syslist.KnownOS", "loop.example/pub-g01463/pub/syslist.KnownArch", "loop.example/pub-g01463/pub/syslist.UnixOS"], fn := fun _ => fun
  | [d1, d2, d3, d4, d5, g1, g2, g3] => { results := [.lit (.bool false)], args := [d1, d2, d3, d4, d5], vars := [g1, g2, g3] }
  | _ => none }
def FnNamePartsWrongFalsely : Prop := fnNamePartsRow.holds Tryd.pinned (OpenSpec.ofChange fnNamePartsWrong)

/- THE SECOND FORM. 'bulk': how many values and letters a reading holds, each counted each time it is reached (what is shared counts as often as it is met; a slice's spare places count too). A statement '..UptoSaid' is the law's where the arguments, and the package variables that the reading takes, are together of bulk at most 1048576: NARROWER than '..Said'. Prove '..Said' where nothing that the law and all that it calls make is longer than what came in: it says more and counts as full. Else prove '..UptoSaid'. A law counts once. -/
mutual
def uptoBulk {H : Type} : DataW H → Nat
  | .lit (.string bytes) => bytes.length + 1
  | .lit _ => 1
  | .nil => 1
  | .ptr d => uptoBulk d + 1
  | .slice elems spare => uptoBulkAll elems + uptoBulkAll spare + 1
  | .agg parts => uptoBulkAll parts + 1
  | .iface _ d => uptoBulk d + 1
  | .map entries => uptoBulkEntries entries + 1
  | .held _ => 1
def uptoBulkAll {H : Type} : List (DataW H) → Nat
  | [] => 0
  | d :: r => uptoBulk d + uptoBulkAll r
def uptoBulkEntries {H : Type} : List (Lit × DataW H) → Nat
  | [] => 0
  | x :: r => uptoBulkEntry x + uptoBulkEntries r
def uptoBulkEntry {H : Type} : Lit × DataW H → Nat
  | (.string bytes, d) => bytes.length + uptoBulk d + 1
  | (_, d) => uptoBulk d + 1
 end
def uptoSmall : (H : Type) → List (DataW H) → Bool := fun _ ds => decide (uptoBulkAll ds ≤ 1048576)
def OpenSpec.upto (s : _root_.Go.ChangeSpec) : _root_.Go.OpenSpec := { _root_.Go.OpenSpec.ofChange s with cond := some uptoSmall }

/-- 'laws.FnTagMet', WHERE WHAT IT READS IS OF BULK AT MOST 1048576: true; the input reads as it did. -/
def fnTagMetUptoRow : OpenClaim := { program := "ytbociefjibgklaadoor", sum := "908ff4f512bd59c17fda1df213979793025059bb0d0face19d11fe24a9b6e14e", func := "loop.example/pub-g01463/laws.FnTagMet", spec := "fnTagMet", named := ["loop.example/pub-g01463/pub/syslist.UnixOS"], maps := true, apart := false, laid := [("loop.example/pub-g01463/pub/syslist.UnixOS", laid_loop_example_pub_g01463_pub_syslist_UnixOS)], narrowed := true }
def FnTagMetUptoSaid : Prop := fnTagMetUptoRow.holds Tryd.pinned (OpenSpec.upto fnTagMetSpec)

/-- 'laws.FnTagMore', WHERE WHAT IT READS IS OF BULK AT MOST 1048576: true; the input reads as it did. -/
def fnTagMoreUptoRow : OpenClaim := { program := "ytbociefjibgklaadoor", sum := "908ff4f512bd59c17fda1df213979793025059bb0d0face19d11fe24a9b6e14e", func := "loop.example/pub-g01463/laws.FnTagMore", spec := "fnTagMore", named := ["loop.example/pub-g01463/pub/syslist.UnixOS"], maps := true, apart := false, laid := [("loop.example/pub-g01463/pub/syslist.UnixOS", laid_loop_example_pub_g01463_pub_syslist_UnixOS)], narrowed := true }
def FnTagMoreUptoSaid : Prop := fnTagMoreUptoRow.holds Tryd.pinned (OpenSpec.upto fnTagMoreSpec)

/-- 'laws.FnNameFits', WHERE WHAT IT READS IS OF BULK AT MOST 1048576: true; the input reads as it did. -/
def fnNameFitsUptoRow : OpenClaim := { program := "ytbociefjibgklaadoor", sum := "908ff4f512bd59c17fda1df213979793025059bb0d0face19d11fe24a9b6e14e", func := "loop.example/pub-g01463/laws.FnNameFits", spec := "fnNameFits", named := ["loop.example/pub-g01463/pub/syslist.KnownOS", "loop.example/pub-g01463/pub/syslist.KnownArch", "loop.example/pub-g01463/pub/syslist.UnixOS"], maps := true, apart := false, laid := [("loop.example/pub-g01463/pub/syslist.KnownOS", laid_loop_example_pub_g01463_pub_syslist_KnownOS), ("loop.example/pub-g01463/pub/syslist.UnixOS", laid_loop_example_pub_g01463_pub_syslist_UnixOS), ("loop.example/pub-g01463/pub/syslist.KnownArch", laid_loop_example_pub_g01463_pub_syslist_KnownArch)], narrowed := true }
def FnNameFitsUptoSaid : Prop := fnNameFitsUptoRow.holds Tryd.pinned (OpenSpec.upto fnNameFitsSpec)

/-- 'laws.FnNameParts', WHERE WHAT IT READS IS OF BULK AT MOST 1048576: true; the input reads as it did. -/
def fnNamePartsUptoRow : OpenClaim := { program := "ytbociefjibgklaadoor", sum := "908ff4f512bd59c17fda1df213979793025059bb0d0face19d11fe24a9b6e14e", func := "loop.example/pub-g01463/laws.FnNameParts", spec := "fnNameParts", named := ["loop.example/pub-g01463/pub/syslist.KnownOS", "loop.example/pub-g01463/pub/syslist.KnownArch", "loop.example/pub-g01463/pub/syslist.UnixOS"], maps := true, apart := false, laid := [("loop.example/pub-g01463/pub/syslist.KnownOS", laid_loop_example_pub_g01463_pub_syslist_KnownOS), ("loop.example/pub-g01463/pub/syslist.UnixOS", laid_loop_example_pub_g01463_pub_syslist_UnixOS), ("loop.example/pub-g01463/pub/syslist.KnownArch", laid_loop_example_pub_g01463_pub_syslist_KnownArch)], narrowed := true }
def FnNamePartsUptoSaid : Prop := fnNamePartsUptoRow.holds Tryd.pinned (OpenSpec.upto fnNamePartsSpec)

end Rows
end Go.Proofs.YtbociefjibgklaaDoor

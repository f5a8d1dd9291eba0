/-
  NARROWER THAN 'FOR EVERY INPUT', by the rows' own cells (each row's printed sentence says how): FnImportsBegin: ifaces, laid · FnImportsPieces: ifaces, laid · FnImportsRead: ifaces, laid · FnImportsWrong: ifaces, laid · FnCommentsRead: ifaces, laid · FnCommentsRoads: ifaces, laid · FnCommentsImports: ifaces, laid.
  DERIVED. THE GIVEN ROWS OF THIS SEAT. 7 by the template 'for every input the law returns true; each argument reads behind the call as it read before'; 0 by the template 'total and deterministic' (their statements: YtgplcbobomainaaDoorTotals.lean).
  GIVEN WITH THE SEED: the statements are not yours to turn. If you find one false, say at which input.
  Laid BY PROGRAM, IN A SANDBOX (cutbox-rows.mjs): the forced cells as the released guide's own fill.sh prints them over the translation edeada1c1ade6804… (all of the seat's roots in one cut). By AI agents, Wed Nov 11 2026. No macro, syntax, notation, axiom, sorry.
-/
import Derived.Test.YtgplcbobomainaaDoorChecked
import GoSem.Claim
import GoSem.ClaimJoined
import GoSem.ClaimMapViews
import Derived.JoinedTies
import Derived.KernelRfl
namespace Go.Proofs.YtgplcbobomainaaDoor
/- THE CELL 'sum', in the pinned program and in every row, IS THE sha256 OF THE DUMP (.gsa) THAT YtgplcbobomainaaDoorProg.lean LOADS. Nothing in Lean hashes anything: it is a label: what it is worth is what the hold of that sum in a sandbox is worth. -/
noncomputable def Tryd.pinned : Pinned := { name := "ytgplcbobomainaadoor", sum := "edeada1c1ade6804131227ade93353a43035e0dd983327d5f8e67cb9d63b4953", checked := Tryd.checked }
namespace Rows
def none {H : Type} : Left H := { results := [], args := [] }

/- WHAT THE LISTED PACKAGE-LEVEL VARIABLES READ AS WHEN THE CALL BEGINS. Each datum BY PROGRAM (the guide's laid-datum.mjs) off the statement by which the dump's own 'gosem.cut.vars' lays the variable. In a bare row this is a premise. The card (YtgplcbobomainaaDoorCards.lean) ties it to the program's text. -/
def laid_io_EOF {H : Type} : DataW H := .iface "*errors.errorString" (.ptr (.agg [.lit (.string [69, 79, 70])]))
def laid_io_ErrNoProgress {H : Type} : DataW H := .iface "*errors.errorString" (.ptr (.agg [.lit (.string [109, 117, 108, 116, 105, 112, 108, 101, 32, 82, 101, 97, 100, 32, 99, 97, 108, 108, 115, 32, 114, 101, 116, 117, 114, 110, 32, 110, 111, 32, 100, 97, 116, 97, 32, 111, 114, 32, 101, 114, 114, 111, 114])]))
def laid_bufio_ErrBufferFull {H : Type} : DataW H := .iface "*errors.errorString" (.ptr (.agg [.lit (.string [98, 117, 102, 105, 111, 58, 32, 98, 117, 102, 102, 101, 114, 32, 102, 117, 108, 108])]))
def laid_bufio_ErrNegativeCount {H : Type} : DataW H := .iface "*errors.errorString" (.ptr (.agg [.lit (.string [98, 117, 102, 105, 111, 58, 32, 110, 101, 103, 97, 116, 105, 118, 101, 32, 99, 111, 117, 110, 116])]))
def laid_bufio_errNegativeRead {H : Type} : DataW H := .iface "*errors.errorString" (.ptr (.agg [.lit (.string [98, 117, 102, 105, 111, 58, 32, 114, 101, 97, 100, 101, 114, 32, 114, 101, 116, 117, 114, 110, 101, 100, 32, 110, 101, 103, 97, 116, 105, 118, 101, 32, 99, 111, 117, 110, 116, 32, 102, 114, 111, 109, 32, 82, 101, 97, 100])]))
def laid_loop_example_pub_g01463_pub_goimports_errSyntax {H : Type} : DataW H := .iface "*errors.errorString" (.ptr (.agg [.lit (.string [115, 121, 110, 116, 97, 120, 32, 101, 114, 114, 111, 114])]))
def laid_loop_example_pub_g01463_pub_goimports_errNUL {H : Type} : DataW H := .iface "*errors.errorString" (.ptr (.agg [.lit (.string [117, 110, 101, 120, 112, 101, 99, 116, 101, 100, 32, 78, 85, 76, 32, 105, 110, 32, 105, 110, 112, 117, 116])]))
def laid_loop_example_pub_g01463_pub_gobuildread_errSyntax {H : Type} : DataW H := .iface "*errors.errorString" (.ptr (.agg [.lit (.string [115, 121, 110, 116, 97, 120, 32, 101, 114, 114, 111, 114])]))
def laid_loop_example_pub_g01463_pub_gobuildread_errNUL {H : Type} : DataW H := .iface "*errors.errorString" (.ptr (.agg [.lit (.string [117, 110, 101, 120, 112, 101, 99, 116, 101, 100, 32, 78, 85, 76, 32, 105, 110, 32, 105, 110, 112, 117, 116])]))

/-- 'laws.FnImportsBegin': WHATEVER THE INPUT: true; the input reads as it did. -/
def fnImportsBeginSpec : ChangeSpec := { name := "fnImportsBegin", vars := ["loop.example/pub-g01463/pub/goimports.errSyntax", "loop.example/pub-g01463/pub/goimports.errNUL"], fn := fun _ => fun
  | [d1, d2, d3, g1, g2] => { results := [.lit (.bool true)], args := [d1, d2, d3], vars := [g1, g2] }
  | _ => none }
def fnImportsBeginRow : OpenClaim := { program := "ytgplcbobomainaadoor", sum := "edeada1c1ade6804131227ade93353a43035e0dd983327d5f8e67cb9d63b4953", func := "loop.example/pub-g01463/laws.FnImportsBegin", spec := "fnImportsBegin", unfollowed := true, recurses := true, named := ["loop.example/pub-g01463/pub/goimports.errSyntax", "bufio.ErrNegativeCount", "bufio.ErrBufferFull", "bufio.errNegativeRead", "io.ErrNoProgress", "loop.example/pub-g01463/pub/goimports.errNUL", "io.EOF"], ifaces := true, apart := false, laid := [("io.EOF", laid_io_EOF), ("io.ErrNoProgress", laid_io_ErrNoProgress), ("bufio.ErrBufferFull", laid_bufio_ErrBufferFull), ("bufio.ErrNegativeCount", laid_bufio_ErrNegativeCount), ("bufio.errNegativeRead", laid_bufio_errNegativeRead), ("loop.example/pub-g01463/pub/goimports.errSyntax", laid_loop_example_pub_g01463_pub_goimports_errSyntax), ("loop.example/pub-g01463/pub/goimports.errNUL", laid_loop_example_pub_g01463_pub_goimports_errNUL)] }
def FnImportsBeginSaid : Prop := fnImportsBeginRow.holds Tryd.pinned (OpenSpec.ofChange fnImportsBeginSpec)

/-- ITS FALSE NEIGHBOUR: 'it returns false'. Refute it at one input. -/
def fnImportsBeginWrong : ChangeSpec := { name := "fnImportsBegin", vars := ["loop.example/pub-g01463/pub/goimports.errSyntax", "loop.example/pub-g01463/pub/goimports.errNUL"], fn := fun _ => fun
  | [d1, d2, d3, g1, g2] => { results := [.lit (.bool false)], args := [d1, d2, d3], vars := [g1, g2] }
  | _ => none }
def FnImportsBeginWrongFalsely : Prop := fnImportsBeginRow.holds Tryd.pinned (OpenSpec.ofChange fnImportsBeginWrong)

/-- 'laws.FnImportsPieces': WHATEVER THE INPUT: true; the input reads as it did. -/
def fnImportsPiecesSpec : ChangeSpec := { name := "fnImportsPieces", vars := ["loop.example/pub-g01463/pub/goimports.errSyntax", "loop.example/pub-g01463/pub/goimports.errNUL"], fn := fun _ => fun
  | [d1, d2, d3, d4, g1, g2] => { results := [.lit (.bool true)], args := [d1, d2, d3, d4], vars := [g1, g2] }
  | _ => none }
def fnImportsPiecesRow : OpenClaim := { program := "ytgplcbobomainaadoor", sum := "edeada1c1ade6804131227ade93353a43035e0dd983327d5f8e67cb9d63b4953", func := "loop.example/pub-g01463/laws.FnImportsPieces", spec := "fnImportsPieces", unfollowed := true, recurses := true, named := ["loop.example/pub-g01463/pub/goimports.errSyntax", "bufio.ErrNegativeCount", "bufio.ErrBufferFull", "bufio.errNegativeRead", "io.ErrNoProgress", "loop.example/pub-g01463/pub/goimports.errNUL", "io.EOF"], ifaces := true, apart := false, laid := [("io.EOF", laid_io_EOF), ("io.ErrNoProgress", laid_io_ErrNoProgress), ("bufio.ErrBufferFull", laid_bufio_ErrBufferFull), ("bufio.ErrNegativeCount", laid_bufio_ErrNegativeCount), ("bufio.errNegativeRead", laid_bufio_errNegativeRead), ("loop.example/pub-g01463/pub/goimports.errSyntax", laid_loop_example_pub_g01463_pub_goimports_errSyntax), ("loop.example/pub-g01463/pub/goimports.errNUL", laid_loop_example_pub_g01463_pub_goimports_errNUL)] }
def FnImportsPiecesSaid : Prop := fnImportsPiecesRow.holds Tryd.pinned (OpenSpec.ofChange fnImportsPiecesSpec)

/-- ITS FALSE NEIGHBOUR: 'it returns false'. Refute it at one input. -/
def fnImportsPiecesWrong : ChangeSpec := { name := "fnImportsPieces", vars := ["loop.example/pub-g01463/pub/goimports.errSyntax", "loop.example/pub-g01463/pub/goimports.errNUL"], fn := fun _ => fun
  | [d1, d2, d3, d4, g1, g2] => { results := [.lit (.bool false)], args := [d1, d2, d3, d4], vars := [g1, g2] }
  | _ => none }
def FnImportsPiecesWrongFalsely : Prop := fnImportsPiecesRow.holds Tryd.pinned (OpenSpec.ofChange fnImportsPiecesWrong)

/-- 'laws.FnImportsRead': WHATEVER THE INPUT: true; the input reads as it did. -/
def fnImportsReadSpec : ChangeSpec := { name := "fnImportsRead", vars := ["loop.example/pub-g01463/pub/goimports.errSyntax", "loop.example/pub-g01463/pub/goimports.errNUL"], fn := fun _ => fun
  | [d1, d2, d3, d4, d5, d6, d7, d8, g1, g2] => { results := [.lit (.bool true)], args := [d1, d2, d3, d4, d5, d6, d7, d8], vars := [g1, g2] }
  | _ => none }
def fnImportsReadRow : OpenClaim := { program := "ytgplcbobomainaadoor", sum := "edeada1c1ade6804131227ade93353a43035e0dd983327d5f8e67cb9d63b4953", func := "loop.example/pub-g01463/laws.FnImportsRead", spec := "fnImportsRead", unfollowed := true, recurses := true, named := ["loop.example/pub-g01463/pub/goimports.errSyntax", "bufio.ErrNegativeCount", "bufio.ErrBufferFull", "bufio.errNegativeRead", "io.ErrNoProgress", "loop.example/pub-g01463/pub/goimports.errNUL", "io.EOF"], ifaces := true, apart := false, laid := [("io.EOF", laid_io_EOF), ("io.ErrNoProgress", laid_io_ErrNoProgress), ("bufio.ErrBufferFull", laid_bufio_ErrBufferFull), ("bufio.ErrNegativeCount", laid_bufio_ErrNegativeCount), ("bufio.errNegativeRead", laid_bufio_errNegativeRead), ("loop.example/pub-g01463/pub/goimports.errSyntax", laid_loop_example_pub_g01463_pub_goimports_errSyntax), ("loop.example/pub-g01463/pub/goimports.errNUL", laid_loop_example_pub_g01463_pub_goimports_errNUL)] }
def FnImportsReadSaid : Prop := fnImportsReadRow.holds Tryd.pinned (OpenSpec.ofChange fnImportsReadSpec)

/-- ITS FALSE NEIGHBOUR: 'it returns false'. Refute it at one input. -/
def fnImportsReadWrong : ChangeSpec := { name := "fnImportsRead", vars := ["loop.example/pub-g01463/pub/goimports.errSyntax", "loop.example/pub-g01463/pub/goimports.errNUL"], fn := fun _ => fun
  | [d1, d2, d3, d4, d5, d6, d7, d8, g1, g2] => { results := [.lit (.bool false)], args := [d1, d2, d3, d4, d5, d6, d7, d8], vars := [g1, g2] }
  | _ => none }
def FnImportsReadWrongFalsely : Prop := fnImportsReadRow.holds Tryd.pinned (OpenSpec.ofChange fnImportsReadWrong)

/-- 'laws.FnImportsWrong': WHATEVER THE INPUT: true; the input reads as it did. -/
def fnImportsWrongSpec : ChangeSpec := { name := "fnImportsWrong", vars := ["loop.example/pub-g01463/pub/goimports.errSyntax", "loop.example/pub-g01463/pub/goimports.errNUL"], fn := fun _ => fun
  | [d1, d2, d3, d4, g1, g2] => { results := [.lit (.bool true)], args := [d1, d2, d3, d4], vars := [g1, g2] }
  | _ => none }
def fnImportsWrongRow : OpenClaim := { program := "ytgplcbobomainaadoor", sum := "edeada1c1ade6804131227ade93353a43035e0dd983327d5f8e67cb9d63b4953", func := "loop.example/pub-g01463/laws.FnImportsWrong", spec := "fnImportsWrong", unfollowed := true, recurses := true, named := ["loop.example/pub-g01463/pub/goimports.errSyntax", "bufio.ErrNegativeCount", "bufio.ErrBufferFull", "bufio.errNegativeRead", "io.ErrNoProgress", "loop.example/pub-g01463/pub/goimports.errNUL", "io.EOF"], ifaces := true, apart := false, laid := [("io.EOF", laid_io_EOF), ("io.ErrNoProgress", laid_io_ErrNoProgress), ("bufio.ErrBufferFull", laid_bufio_ErrBufferFull), ("bufio.ErrNegativeCount", laid_bufio_ErrNegativeCount), ("bufio.errNegativeRead", laid_bufio_errNegativeRead), ("loop.example/pub-g01463/pub/goimports.errSyntax", laid_loop_example_pub_g01463_pub_goimports_errSyntax), ("loop.example/pub-g01463/pub/goimports.errNUL", laid_loop_example_pub_g01463_pub_goimports_errNUL)] }
def FnImportsWrongSaid : Prop := fnImportsWrongRow.holds Tryd.pinned (OpenSpec.ofChange fnImportsWrongSpec)

/-- ITS FALSE NEIGHBOUR: 'it returns false'. Refute it at one input. -/
def fnImportsWrongWrong : ChangeSpec := { name := "fnImportsWrong", vars := ["loop.example/pub-g01463/pub/goimports.errSyntax", "loop.example/pub-g01463/pub/goimports.errNUL"], fn := fun _ => fun
  | [d1, d2, d3, d4, g1, g2] => { results := [.lit (.bool false)], args := [d1, d2, d3, d4], vars := [g1, g2] }
  | _ => none }
def FnImportsWrongWrongFalsely : Prop := fnImportsWrongRow.holds Tryd.pinned (OpenSpec.ofChange fnImportsWrongWrong)

/-- 'laws.FnCommentsRead': WHATEVER THE INPUT: true; the input reads as it did. -/
def fnCommentsReadSpec : ChangeSpec := { name := "fnCommentsRead", vars := ["loop.example/pub-g01463/pub/goimports.errNUL", "loop.example/pub-g01463/pub/goimports.errSyntax", "loop.example/pub-g01463/pub/gobuildread.errNUL", "loop.example/pub-g01463/pub/gobuildread.errSyntax"], fn := fun _ => fun
  | [d1, d2, d3, d4, g1, g2, g3, g4] => { results := [.lit (.bool true)], args := [d1, d2, d3, d4], vars := [g1, g2, g3, g4] }
  | _ => none }
def fnCommentsReadRow : OpenClaim := { program := "ytgplcbobomainaadoor", sum := "edeada1c1ade6804131227ade93353a43035e0dd983327d5f8e67cb9d63b4953", func := "loop.example/pub-g01463/laws.FnCommentsRead", spec := "fnCommentsRead", unfollowed := true, recurses := true, named := ["bufio.ErrNegativeCount", "bufio.ErrBufferFull", "bufio.errNegativeRead", "io.ErrNoProgress", "loop.example/pub-g01463/pub/goimports.errNUL", "io.EOF", "loop.example/pub-g01463/pub/goimports.errSyntax", "loop.example/pub-g01463/pub/gobuildread.errNUL", "loop.example/pub-g01463/pub/gobuildread.errSyntax"], ifaces := true, apart := false, laid := [("io.EOF", laid_io_EOF), ("io.ErrNoProgress", laid_io_ErrNoProgress), ("bufio.ErrBufferFull", laid_bufio_ErrBufferFull), ("bufio.ErrNegativeCount", laid_bufio_ErrNegativeCount), ("bufio.errNegativeRead", laid_bufio_errNegativeRead), ("loop.example/pub-g01463/pub/goimports.errSyntax", laid_loop_example_pub_g01463_pub_goimports_errSyntax), ("loop.example/pub-g01463/pub/goimports.errNUL", laid_loop_example_pub_g01463_pub_goimports_errNUL), ("loop.example/pub-g01463/pub/gobuildread.errSyntax", laid_loop_example_pub_g01463_pub_gobuildread_errSyntax), ("loop.example/pub-g01463/pub/gobuildread.errNUL", laid_loop_example_pub_g01463_pub_gobuildread_errNUL)] }
def FnCommentsReadSaid : Prop := fnCommentsReadRow.holds Tryd.pinned (OpenSpec.ofChange fnCommentsReadSpec)

/-- ITS FALSE NEIGHBOUR: 'it returns false'. Refute it at one input. -/
def fnCommentsReadWrong : ChangeSpec := { name := "fnCommentsRead", vars := ["loop.example/pub-g01463/pub/goimports.errNUL", "loop.example/pub-g01463/pub/goimports.errSyntax", "loop.example/pub-g01463/pub/gobuildread.errNUL", "loop.example/pub-g01463/pub/gobuildread.errSyntax"], fn := fun _ => fun
  | [d1, d2, d3, d4, g1, g2, g3, g4] => { results := [.lit (.bool false)], args := [d1, d2, d3, d4], vars := [g1, g2, g3, g4] }
  | _ => none }
def FnCommentsReadWrongFalsely : Prop := fnCommentsReadRow.holds Tryd.pinned (OpenSpec.ofChange fnCommentsReadWrong)

/-- 'laws.FnCommentsRoads': WHATEVER THE INPUT: true; the input reads as it did. -/
def fnCommentsRoadsSpec : ChangeSpec := { name := "fnCommentsRoads", vars := ["loop.example/pub-g01463/pub/goimports.errNUL", "loop.example/pub-g01463/pub/goimports.errSyntax", "loop.example/pub-g01463/pub/gobuildread.errNUL", "loop.example/pub-g01463/pub/gobuildread.errSyntax"], fn := fun _ => fun
  | [d1, d2, g1, g2, g3, g4] => { results := [.lit (.bool true)], args := [d1, d2], vars := [g1, g2, g3, g4] }
  | _ => none }
def fnCommentsRoadsRow : OpenClaim := { program := "ytgplcbobomainaadoor", sum := "edeada1c1ade6804131227ade93353a43035e0dd983327d5f8e67cb9d63b4953", func := "loop.example/pub-g01463/laws.FnCommentsRoads", spec := "fnCommentsRoads", unfollowed := true, recurses := true, named := ["bufio.ErrNegativeCount", "bufio.ErrBufferFull", "bufio.errNegativeRead", "io.ErrNoProgress", "loop.example/pub-g01463/pub/goimports.errNUL", "io.EOF", "loop.example/pub-g01463/pub/goimports.errSyntax", "loop.example/pub-g01463/pub/gobuildread.errNUL", "loop.example/pub-g01463/pub/gobuildread.errSyntax"], ifaces := true, apart := false, laid := [("io.EOF", laid_io_EOF), ("io.ErrNoProgress", laid_io_ErrNoProgress), ("bufio.ErrBufferFull", laid_bufio_ErrBufferFull), ("bufio.ErrNegativeCount", laid_bufio_ErrNegativeCount), ("bufio.errNegativeRead", laid_bufio_errNegativeRead), ("loop.example/pub-g01463/pub/goimports.errSyntax", laid_loop_example_pub_g01463_pub_goimports_errSyntax), ("loop.example/pub-g01463/pub/goimports.errNUL", laid_loop_example_pub_g01463_pub_goimports_errNUL), ("loop.example/pub-g01463/pub/gobuildread.errSyntax", laid_loop_example_pub_g01463_pub_gobuildread_errSyntax), ("loop.example/pub-g01463/pub/gobuildread.errNUL", laid_loop_example_pub_g01463_pub_gobuildread_errNUL)] }
def FnCommentsRoadsSaid : Prop := fnCommentsRoadsRow.holds Tryd.pinned (OpenSpec.ofChange fnCommentsRoadsSpec)

/-- ITS FALSE NEIGHBOUR: 'it returns false'. Refute it at one input. -/
def fnCommentsRoadsWrong : ChangeSpec := { name := "fnCommentsRoads", vars := ["loop.example/pub-g01463/pub/goimports.errNUL", "loop.example/pub-g01463/pub/goimports.errSyntax", "loop.example/pub-g01463/pub/gobuildread.errNUL", "loop.example/pub-g01463/pub/gobuildread.errSyntax"], fn := fun _ => fun
  | [d1, d2, g1, g2, g3, g4] => { results := [.lit (.bool false)], args := [d1, d2], vars := [g1, g2, g3, g4] }
  | _ => none }
def FnCommentsRoadsWrongFalsely : Prop := fnCommentsRoadsRow.holds Tryd.pinned (OpenSpec.ofChange fnCommentsRoadsWrong)

/-- 'laws.FnCommentsImports': WHATEVER THE INPUT: true; the input reads as it did. -/
def fnCommentsImportsSpec : ChangeSpec := { name := "fnCommentsImports", vars := ["loop.example/pub-g01463/pub/goimports.errNUL", "loop.example/pub-g01463/pub/goimports.errSyntax"], fn := fun _ => fun
  | [d1, d2, g1, g2] => { results := [.lit (.bool true)], args := [d1, d2], vars := [g1, g2] }
  | _ => none }
def fnCommentsImportsRow : OpenClaim := { program := "ytgplcbobomainaadoor", sum := "edeada1c1ade6804131227ade93353a43035e0dd983327d5f8e67cb9d63b4953", func := "loop.example/pub-g01463/laws.FnCommentsImports", spec := "fnCommentsImports", unfollowed := true, recurses := true, named := ["bufio.ErrNegativeCount", "bufio.ErrBufferFull", "bufio.errNegativeRead", "io.ErrNoProgress", "loop.example/pub-g01463/pub/goimports.errNUL", "io.EOF", "loop.example/pub-g01463/pub/goimports.errSyntax"], ifaces := true, apart := false, laid := [("io.EOF", laid_io_EOF), ("io.ErrNoProgress", laid_io_ErrNoProgress), ("bufio.ErrBufferFull", laid_bufio_ErrBufferFull), ("bufio.ErrNegativeCount", laid_bufio_ErrNegativeCount), ("bufio.errNegativeRead", laid_bufio_errNegativeRead), ("loop.example/pub-g01463/pub/goimports.errSyntax", laid_loop_example_pub_g01463_pub_goimports_errSyntax), ("loop.example/pub-g01463/pub/goimports.errNUL", laid_loop_example_pub_g01463_pub_goimports_errNUL)] }
def FnCommentsImportsSaid : Prop := fnCommentsImportsRow.holds Tryd.pinned (OpenSpec.ofChange fnCommentsImportsSpec)

/-- ITS FALSE NEIGHBOUR: 'it returns false'. Refute it at one input. -/
def fnCommentsImportsWrong : ChangeSpec := { name := "fnCommentsImports", vars := ["loop.example/pub-g01463/pub/goimports.errNUL", "loop.example/pub-g01463/pub/goimports.errSyntax"], fn := fun _ => fun
  | [d1, d2, g1, g2] => { results := [.lit (.bool false)], args := [d1, d2], vars := [g1, g2] }
  | _ => none }
def FnCommentsImportsWrongFalsely : Prop := fnCommentsImportsRow.holds Tryd.pinned (OpenSpec.ofChange fnCommentsImportsWrong)

/- THE SECOND FORM. 'bulk': how many values and letters a reading holds, each counted each time it is reached (what is shared counts as often as it is met; a slice's spare places count too). A statement '..UptoSaid' is the law's where the arguments, and the package variables that the reading takes, are together of bulk at most 1048576: NARROWER than '..Said'. Prove '..Said' where nothing that the law and all that it calls make is longer than what came in: it says more and counts as full. Else prove '..UptoSaid'. A law counts once. -/
mutual
def uptoBulk {H : Type} : DataW H → Nat
  | .lit (.string bytes) => bytes.length + 1
  | .lit _ => 1
  | .nil => 1
  | .ptr d => uptoBulk d + 1
  | .slice elems spare => uptoBulkAll elems + uptoBulkAll spare + 1
  | .agg parts => uptoBulkAll parts + 1
  | .iface _ d => uptoBulk d + 1
  | .map entries => uptoBulkEntries entries + 1
  | .held _ => 1
def uptoBulkAll {H : Type} : List (DataW H) → Nat
  | [] => 0
  | d :: r => uptoBulk d + uptoBulkAll r
def uptoBulkEntries {H : Type} : List (Lit × DataW H) → Nat
  | [] => 0
  | x :: r => uptoBulkEntry x + uptoBulkEntries r
def uptoBulkEntry {H : Type} : Lit × DataW H → Nat
  | (.string bytes, d) => bytes.length + uptoBulk d + 1
  | (_, d) => uptoBulk d + 1
 end
def uptoSmall : (H : Type) → List (DataW H) → Bool := fun _ ds => decide (uptoBulkAll ds ≤ 1048576)
def OpenSpec.upto (s : _root_.Go.ChangeSpec) : _root_.Go.OpenSpec := { _root_.Go.OpenSpec.ofChange s with cond := some uptoSmall }

/-- 'laws.FnImportsBegin', WHERE WHAT IT READS IS OF BULK AT MOST 1048576: true; the input reads as it did. -/
def fnImportsBeginUptoRow : OpenClaim := { program := "ytgplcbobomainaadoor", sum := "edeada1c1ade6804131227ade93353a43035e0dd983327d5f8e67cb9d63b4953", func := "loop.example/pub-g01463/laws.FnImportsBegin", spec := "fnImportsBegin", unfollowed := true, recurses := true, named := ["loop.example/pub-g01463/pub/goimports.errSyntax", "bufio.ErrNegativeCount", "bufio.ErrBufferFull", "bufio.errNegativeRead", "io.ErrNoProgress", "loop.example/pub-g01463/pub/goimports.errNUL", "io.EOF"], ifaces := true, apart := false, laid := [("io.EOF", laid_io_EOF), ("io.ErrNoProgress", laid_io_ErrNoProgress), ("bufio.ErrBufferFull", laid_bufio_ErrBufferFull), ("bufio.ErrNegativeCount", laid_bufio_ErrNegativeCount), ("bufio.errNegativeRead", laid_bufio_errNegativeRead), ("loop.example/pub-g01463/pub/goimports.errSyntax", laid_loop_example_pub_g01463_pub_goimports_errSyntax), ("loop.example/pub-g01463/pub/goimports.errNUL", laid_loop_example_pub_g01463_pub_goimports_errNUL)], narrowed := true }
def FnImportsBeginUptoSaid : Prop := fnImportsBeginUptoRow.holds Tryd.pinned (OpenSpec.upto fnImportsBeginSpec)

/-- 'laws.FnImportsPieces', WHERE WHAT IT READS IS OF BULK AT MOST 1048576: true; the input reads as it did. -/
def fnImportsPiecesUptoRow : OpenClaim := { program := "ytgplcbobomainaadoor", sum := "edeada1c1ade6804131227ade93353a43035e0dd983327d5f8e67cb9d63b4953", func := "loop.example/pub-g01463/laws.FnImportsPieces", spec := "fnImportsPieces", unfollowed := true, recurses := true, named := ["loop.example/pub-g01463/pub/goimports.errSyntax", "bufio.ErrNegativeCount", "bufio.ErrBufferFull", "bufio.errNegativeRead", "io.ErrNoProgress", "loop.example/pub-g01463/pub/goimports.errNUL", "io.EOF"], ifaces := true, apart := false, laid := [("io.EOF", laid_io_EOF), ("io.ErrNoProgress", laid_io_ErrNoProgress), ("bufio.ErrBufferFull", laid_bufio_ErrBufferFull), ("bufio.ErrNegativeCount", laid_bufio_ErrNegativeCount), ("bufio.errNegativeRead", laid_bufio_errNegativeRead), ("loop.example/pub-g01463/pub/goimports.errSyntax", laid_loop_example_pub_g01463_pub_goimports_errSyntax), ("loop.example/pub-g01463/pub/goimports.errNUL", laid_loop_example_pub_g01463_pub_goimports_errNUL)], narrowed := true }
def FnImportsPiecesUptoSaid : Prop := fnImportsPiecesUptoRow.holds Tryd.pinned (OpenSpec.upto fnImportsPiecesSpec)

/-- 'laws.FnImportsRead', WHERE WHAT IT READS IS OF BULK AT MOST 1048576: true; the input reads as it did. -/
def fnImportsReadUptoRow : OpenClaim := { program := "ytgplcbobomainaadoor", sum := "edeada1c1ade6804131227ade93353a43035e0dd983327d5f8e67cb9d63b4953", func := "loop.example/pub-g01463/laws.FnImportsRead", spec := "fnImportsRead", unfollowed := true, recurses := true, named := ["loop.example/pub-g01463/pub/goimports.errSyntax", "bufio.ErrNegativeCount", "bufio.ErrBufferFull", "bufio.errNegativeRead", "io.ErrNoProgress", "loop.example/pub-g01463/pub/goimports.errNUL", "io.EOF"], ifaces := true, apart := false, laid := [("io.EOF", laid_io_EOF), ("io.ErrNoProgress", laid_io_ErrNoProgress), ("bufio.ErrBufferFull", laid_bufio_ErrBufferFull), ("bufio.ErrNegativeCount", laid_bufio_ErrNegativeCount), ("bufio.errNegativeRead", laid_bufio_errNegativeRead), ("loop.example/pub-g01463/pub/goimports.errSyntax", laid_loop_example_pub_g01463_pub_goimports_errSyntax), ("loop.example/pub-g01463/pub/goimports.errNUL", laid_loop_example_pub_g01463_pub_goimports_errNUL)], narrowed := true }
def FnImportsReadUptoSaid : Prop := fnImportsReadUptoRow.holds Tryd.pinned (OpenSpec.upto fnImportsReadSpec)

/-- 'laws.FnImportsWrong', WHERE WHAT IT READS IS OF BULK AT MOST 1048576: true; the input reads as it did. -/
def fnImportsWrongUptoRow : OpenClaim := { program := "ytgplcbobomainaadoor", sum := "edeada1c1ade6804131227ade93353a43035e0dd983327d5f8e67cb9d63b4953", func := "loop.example/pub-g01463/laws.FnImportsWrong", spec := "fnImportsWrong", unfollowed := true, recurses := true, named := ["loop.example/pub-g01463/pub/goimports.errSyntax", "bufio.ErrNegativeCount", "bufio.ErrBufferFull", "bufio.errNegativeRead", "io.ErrNoProgress", "loop.example/pub-g01463/pub/goimports.errNUL", "io.EOF"], ifaces := true, apart := false, laid := [("io.EOF", laid_io_EOF), ("io.ErrNoProgress", laid_io_ErrNoProgress), ("bufio.ErrBufferFull", laid_bufio_ErrBufferFull), ("bufio.ErrNegativeCount", laid_bufio_ErrNegativeCount), ("bufio.errNegativeRead", laid_bufio_errNegativeRead), ("loop.example/pub-g01463/pub/goimports.errSyntax", laid_loop_example_pub_g01463_pub_goimports_errSyntax), ("loop.example/pub-g01463/pub/goimports.errNUL", laid_loop_example_pub_g01463_pub_goimports_errNUL)], narrowed := true }
def FnImportsWrongUptoSaid : Prop := fnImportsWrongUptoRow.holds Tryd.pinned (OpenSpec.upto fnImportsWrongSpec)

/-- 'laws.FnCommentsRead', WHERE WHAT IT READS IS OF BULK AT MOST 1048576: true; the input reads as it did. -/
def fnCommentsReadUptoRow : OpenClaim := { program := "ytgplcbobomainaadoor", sum := "edeada1c1ade6804131227ade93353a43035e0dd983327d5f8e67cb9d63b4953", func := "loop.example/pub-g01463/laws.FnCommentsRead", spec := "fnCommentsRead", unfollowed := true, recurses := true, named := ["bufio.ErrNegativeCount", "bufio.ErrBufferFull", "bufio.errNegativeRead", "io.ErrNoProgress", "loop.example/pub-g01463/pub/goimports.errNUL", "io.EOF", "loop.example/pub-g01463/pub/goimports.errSyntax", "loop.example/pub-g01463/pub/gobuildread.errNUL", "loop.example/pub-g01463/pub/gobuildread.errSyntax"], ifaces := true, apart := false, laid := [("io.EOF", laid_io_EOF), ("io.ErrNoProgress", laid_io_ErrNoProgress), ("bufio.ErrBufferFull", laid_bufio_ErrBufferFull), ("bufio.ErrNegativeCount", laid_bufio_ErrNegativeCount), ("bufio.errNegativeRead", laid_bufio_errNegativeRead), ("loop.example/pub-g01463/pub/goimports.errSyntax", laid_loop_example_pub_g01463_pub_goimports_errSyntax), ("loop.example/pub-g01463/pub/goimports.errNUL", laid_loop_example_pub_g01463_pub_goimports_errNUL), ("loop.example/pub-g01463/pub/gobuildread.errSyntax", laid_loop_example_pub_g01463_pub_gobuildread_errSyntax), ("loop.example/pub-g01463/pub/gobuildread.errNUL", laid_loop_example_pub_g01463_pub_gobuildread_errNUL)], narrowed := true }
def FnCommentsReadUptoSaid : Prop := fnCommentsReadUptoRow.holds Tryd.pinned (OpenSpec.upto fnCommentsReadSpec)

/-- 'laws.FnCommentsRoads', WHERE WHAT IT READS IS OF BULK AT MOST 1048576: true; the input reads as it did. -/
def fnCommentsRoadsUptoRow : OpenClaim := { program := "ytgplcbobomainaadoor", sum := "edeada1c1ade6804131227ade93353a43035e0dd983327d5f8e67cb9d63b4953", func := "loop.example/pub-g01463/laws.FnCommentsRoads", spec := "fnCommentsRoads", unfollowed := true, recurses := true, named := ["bufio.ErrNegativeCount", "bufio.ErrBufferFull", "bufio.errNegativeRead", "io.ErrNoProgress", "loop.example/pub-g01463/pub/goimports.errNUL", "io.EOF", "loop.example/pub-g01463/pub/goimports.errSyntax", "loop.example/pub-g01463/pub/gobuildread.errNUL", "loop.example/pub-g01463/pub/gobuildread.errSyntax"], ifaces := true, apart := false, laid := [("io.EOF", laid_io_EOF), ("io.ErrNoProgress", laid_io_ErrNoProgress), ("bufio.ErrBufferFull", laid_bufio_ErrBufferFull), ("bufio.ErrNegativeCount", laid_bufio_ErrNegativeCount), ("bufio.errNegativeRead", laid_bufio_errNegativeRead), ("loop.example/pub-g01463/pub/goimports.errSyntax", laid_loop_example_pub_g01463_pub_goimports_errSyntax), ("loop.example/pub-g01463/pub/goimports.errNUL", laid_loop_example_pub_g01463_pub_goimports_errNUL), ("loop.example/pub-g01463/pub/gobuildread.errSyntax", laid_loop_example_pub_g01463_pub_gobuildread_errSyntax), ("loop.example/pub-g01463/pub/gobuildread.errNUL", laid_loop_example_pub_g01463_pub_gobuildread_errNUL)], narrowed := true }
def FnCommentsRoadsUptoSaid : Prop := fnCommentsRoadsUptoRow.holds Tryd.pinned (OpenSpec.upto fnCommentsRoadsSpec)

/-- 'laws.FnCommentsImports', WHERE WHAT IT READS IS OF BULK AT MOST 1048576: true; the input reads as it did. -/
def fnCommentsImportsUptoRow : OpenClaim := { program := "ytgplcbobomainaadoor", sum := "edeada1c1ade6804131227ade93353a43035e0dd983327d5f8e67cb9d63b4953", func := "loop.example/pub-g01463/laws.FnCommentsImports", spec := "fnCommentsImports", unfollowed := true, recurses := true, named := ["bufio.ErrNegativeCount", "bufio.ErrBufferFull", "bufio.errNegativeRead", "io.ErrNoProgress", "loop.example/pub-g01463/pub/goimports.errNUL", "io.EOF", "loop.example/pub-g01463/pub/goimports.errSyntax"], ifaces := true, apart := false, laid := [("io.EOF", laid_io_EOF), ("io.ErrNoProgress", laid_io_ErrNoProgress), ("bufio.ErrBufferFull", laid_bufio_ErrBufferFull), ("bufio.ErrNegativeCount", laid_bufio_ErrNegativeCount), ("bufio.errNegativeRead", laid_bufio_errNegativeRead), ("loop.example/pub-g01463/pub/goimports.errSyntax", laid_loop_example_pub_g01463_pub_goimports_errSyntax), ("loop.example/pub-g01463/pub/goimports.errNUL", laid_loop_example_pub_g01463_pub_goimports_errNUL)], narrowed := true }
def FnCommentsImportsUptoSaid : Prop := fnCommentsImportsUptoRow.holds Tryd.pinned (OpenSpec.upto fnCommentsImportsSpec)

end Rows
end Go.Proofs.YtgplcbobomainaaDoor

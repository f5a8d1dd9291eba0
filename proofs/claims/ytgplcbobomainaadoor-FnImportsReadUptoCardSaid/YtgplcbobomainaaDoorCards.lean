/-
  DERIVED. GIVEN WITH THE SEED: THE CARDS: each row of YtgplcbobomainaaDoorRows.lean that lists a variable, with what it lists TIED to the program's text (the seventh form; the later family's looks); each row that meets fmt, with fmt's text TOLD by the authors' own Lean function (tested against real Go, not proved from fmt's source: count such statements apart). THE CARD IS WHAT COUNTS. Prove the row's statement (the work); the ties are given (YtgplcbobomainaaDoorTie.lean); close each card by the builder's one call (the guide's Derived/Test/ToyasCard.lean, 'card_holds'). Laid BY PROGRAM, IN A SANDBOX (cutbox-door.mjs). By AI agents, Wed Nov 11 2026. No macro, syntax, notation, axiom, sorry.
-/
import Derived.Test.YtgplcbobomainaaDoorRows
import GoSem.ClaimSeven
namespace Go.Proofs.YtgplcbobomainaaDoor
namespace Rows

/-- THE TIED CARD OF 'laws.FnImportsBegin'. -/
def fnImportsBeginCard : Claim7 := { stood := { row := fnImportsBeginRow, standIns := [], harness := (true, "e47fb460eac99c474a702002e7ebb53137ad6b16786ed5c7334235bf0e22ed23"), looks := true }, kinds := [], alts := [], laidByText := true, laidKinds := [.sentinel, .sentinel, .sentinel, .sentinel, .sentinel, .sentinel, .sentinel], laidTests := true, laidLooks := .later }
def FnImportsBeginCardSaid : Prop := Claim7.holds Tryd.pinned (.plain (OpenSpec.ofChange fnImportsBeginSpec)) fnImportsBeginCard

/-- THE TIED CARD OF 'laws.FnImportsPieces'. -/
def fnImportsPiecesCard : Claim7 := { stood := { row := fnImportsPiecesRow, standIns := [], harness := (true, "e47fb460eac99c474a702002e7ebb53137ad6b16786ed5c7334235bf0e22ed23"), looks := true }, kinds := [], alts := [], laidByText := true, laidKinds := [.sentinel, .sentinel, .sentinel, .sentinel, .sentinel, .sentinel, .sentinel], laidTests := true, laidLooks := .later }
def FnImportsPiecesCardSaid : Prop := Claim7.holds Tryd.pinned (.plain (OpenSpec.ofChange fnImportsPiecesSpec)) fnImportsPiecesCard

/-- THE TIED CARD OF 'laws.FnImportsRead'. -/
def fnImportsReadCard : Claim7 := { stood := { row := fnImportsReadRow, standIns := [], harness := (true, "e47fb460eac99c474a702002e7ebb53137ad6b16786ed5c7334235bf0e22ed23"), looks := true }, kinds := [], alts := [], laidByText := true, laidKinds := [.sentinel, .sentinel, .sentinel, .sentinel, .sentinel, .sentinel, .sentinel], laidTests := true, laidLooks := .later }
def FnImportsReadCardSaid : Prop := Claim7.holds Tryd.pinned (.plain (OpenSpec.ofChange fnImportsReadSpec)) fnImportsReadCard

/-- THE TIED CARD OF 'laws.FnImportsWrong'. -/
def fnImportsWrongCard : Claim7 := { stood := { row := fnImportsWrongRow, standIns := [], harness := (true, "e47fb460eac99c474a702002e7ebb53137ad6b16786ed5c7334235bf0e22ed23"), looks := true }, kinds := [], alts := [], laidByText := true, laidKinds := [.sentinel, .sentinel, .sentinel, .sentinel, .sentinel, .sentinel, .sentinel], laidTests := true, laidLooks := .later }
def FnImportsWrongCardSaid : Prop := Claim7.holds Tryd.pinned (.plain (OpenSpec.ofChange fnImportsWrongSpec)) fnImportsWrongCard

/-- THE TIED CARD OF 'laws.FnCommentsRead'. -/
def fnCommentsReadCard : Claim7 := { stood := { row := fnCommentsReadRow, standIns := [], harness := (true, "e47fb460eac99c474a702002e7ebb53137ad6b16786ed5c7334235bf0e22ed23"), looks := true }, kinds := [], alts := [], laidByText := true, laidKinds := [.sentinel, .sentinel, .sentinel, .sentinel, .sentinel, .sentinel, .sentinel, .sentinel, .sentinel], laidTests := true, laidLooks := .later }
def FnCommentsReadCardSaid : Prop := Claim7.holds Tryd.pinned (.plain (OpenSpec.ofChange fnCommentsReadSpec)) fnCommentsReadCard

/-- THE TIED CARD OF 'laws.FnCommentsRoads'. -/
def fnCommentsRoadsCard : Claim7 := { stood := { row := fnCommentsRoadsRow, standIns := [], harness := (true, "e47fb460eac99c474a702002e7ebb53137ad6b16786ed5c7334235bf0e22ed23"), looks := true }, kinds := [], alts := [], laidByText := true, laidKinds := [.sentinel, .sentinel, .sentinel, .sentinel, .sentinel, .sentinel, .sentinel, .sentinel, .sentinel], laidTests := true, laidLooks := .later }
def FnCommentsRoadsCardSaid : Prop := Claim7.holds Tryd.pinned (.plain (OpenSpec.ofChange fnCommentsRoadsSpec)) fnCommentsRoadsCard

/-- THE TIED CARD OF 'laws.FnCommentsImports'. -/
def fnCommentsImportsCard : Claim7 := { stood := { row := fnCommentsImportsRow, standIns := [], harness := (true, "e47fb460eac99c474a702002e7ebb53137ad6b16786ed5c7334235bf0e22ed23"), looks := true }, kinds := [], alts := [], laidByText := true, laidKinds := [.sentinel, .sentinel, .sentinel, .sentinel, .sentinel, .sentinel, .sentinel], laidTests := true, laidLooks := .later }
def FnCommentsImportsCardSaid : Prop := Claim7.holds Tryd.pinned (.plain (OpenSpec.ofChange fnCommentsImportsSpec)) fnCommentsImportsCard

/-- THE SECOND FORM's CARD OF 'laws.FnImportsBegin'. -/
def fnImportsBeginUptoCard : Claim7 := { stood := { row := fnImportsBeginUptoRow, standIns := [], harness := (true, "e47fb460eac99c474a702002e7ebb53137ad6b16786ed5c7334235bf0e22ed23"), looks := true }, kinds := [], alts := [], laidByText := true, laidKinds := [.sentinel, .sentinel, .sentinel, .sentinel, .sentinel, .sentinel, .sentinel], laidTests := true, laidLooks := .later }
def FnImportsBeginUptoCardSaid : Prop := Claim7.holds Tryd.pinned (.plain (OpenSpec.upto fnImportsBeginSpec)) fnImportsBeginUptoCard

/-- THE SECOND FORM's CARD OF 'laws.FnImportsPieces'. -/
def fnImportsPiecesUptoCard : Claim7 := { stood := { row := fnImportsPiecesUptoRow, standIns := [], harness := (true, "e47fb460eac99c474a702002e7ebb53137ad6b16786ed5c7334235bf0e22ed23"), looks := true }, kinds := [], alts := [], laidByText := true, laidKinds := [.sentinel, .sentinel, .sentinel, .sentinel, .sentinel, .sentinel, .sentinel], laidTests := true, laidLooks := .later }
def FnImportsPiecesUptoCardSaid : Prop := Claim7.holds Tryd.pinned (.plain (OpenSpec.upto fnImportsPiecesSpec)) fnImportsPiecesUptoCard

/-- THE SECOND FORM's CARD OF 'laws.FnImportsRead'. -/
def fnImportsReadUptoCard : Claim7 := { stood := { row := fnImportsReadUptoRow, standIns := [], harness := (true, "e47fb460eac99c474a702002e7ebb53137ad6b16786ed5c7334235bf0e22ed23"), looks := true }, kinds := [], alts := [], laidByText := true, laidKinds := [.sentinel, .sentinel, .sentinel, .sentinel, .sentinel, .sentinel, .sentinel], laidTests := true, laidLooks := .later }
def FnImportsReadUptoCardSaid : Prop := Claim7.holds Tryd.pinned (.plain (OpenSpec.upto fnImportsReadSpec)) fnImportsReadUptoCard

/-- THE SECOND FORM's CARD OF 'laws.FnImportsWrong'. -/
def fnImportsWrongUptoCard : Claim7 := { stood := { row := fnImportsWrongUptoRow, standIns := [], harness := (true, "e47fb460eac99c474a702002e7ebb53137ad6b16786ed5c7334235bf0e22ed23"), looks := true }, kinds := [], alts := [], laidByText := true, laidKinds := [.sentinel, .sentinel, .sentinel, .sentinel, .sentinel, .sentinel, .sentinel], laidTests := true, laidLooks := .later }
def FnImportsWrongUptoCardSaid : Prop := Claim7.holds Tryd.pinned (.plain (OpenSpec.upto fnImportsWrongSpec)) fnImportsWrongUptoCard

/-- THE SECOND FORM's CARD OF 'laws.FnCommentsRead'. -/
def fnCommentsReadUptoCard : Claim7 := { stood := { row := fnCommentsReadUptoRow, standIns := [], harness := (true, "e47fb460eac99c474a702002e7ebb53137ad6b16786ed5c7334235bf0e22ed23"), looks := true }, kinds := [], alts := [], laidByText := true, laidKinds := [.sentinel, .sentinel, .sentinel, .sentinel, .sentinel, .sentinel, .sentinel, .sentinel, .sentinel], laidTests := true, laidLooks := .later }
def FnCommentsReadUptoCardSaid : Prop := Claim7.holds Tryd.pinned (.plain (OpenSpec.upto fnCommentsReadSpec)) fnCommentsReadUptoCard

/-- THE SECOND FORM's CARD OF 'laws.FnCommentsRoads'. -/
def fnCommentsRoadsUptoCard : Claim7 := { stood := { row := fnCommentsRoadsUptoRow, standIns := [], harness := (true, "e47fb460eac99c474a702002e7ebb53137ad6b16786ed5c7334235bf0e22ed23"), looks := true }, kinds := [], alts := [], laidByText := true, laidKinds := [.sentinel, .sentinel, .sentinel, .sentinel, .sentinel, .sentinel, .sentinel, .sentinel, .sentinel], laidTests := true, laidLooks := .later }
def FnCommentsRoadsUptoCardSaid : Prop := Claim7.holds Tryd.pinned (.plain (OpenSpec.upto fnCommentsRoadsSpec)) fnCommentsRoadsUptoCard

/-- THE SECOND FORM's CARD OF 'laws.FnCommentsImports'. -/
def fnCommentsImportsUptoCard : Claim7 := { stood := { row := fnCommentsImportsUptoRow, standIns := [], harness := (true, "e47fb460eac99c474a702002e7ebb53137ad6b16786ed5c7334235bf0e22ed23"), looks := true }, kinds := [], alts := [], laidByText := true, laidKinds := [.sentinel, .sentinel, .sentinel, .sentinel, .sentinel, .sentinel, .sentinel], laidTests := true, laidLooks := .later }
def FnCommentsImportsUptoCardSaid : Prop := Claim7.holds Tryd.pinned (.plain (OpenSpec.upto fnCommentsImportsSpec)) fnCommentsImportsUptoCard
end Rows
end Go.Proofs.YtgplcbobomainaaDoor

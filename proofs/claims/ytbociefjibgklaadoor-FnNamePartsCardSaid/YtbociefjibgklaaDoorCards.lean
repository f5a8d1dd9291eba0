/-
  DERIVED. GIVEN WITH THE SEED: THE CARDS: each row of YtbociefjibgklaaDoorRows.lean that lists a variable, with what it lists TIED to the program's text (the seventh form; the later family's looks); each row that meets fmt, with fmt's text TOLD by the authors' own Lean function (tested against real Go, not proved from fmt's source: count such statements apart). THE CARD IS WHAT COUNTS. Prove the row's statement (the work); the ties are given (YtbociefjibgklaaDoorTie.lean); close each card by the builder's one call (the guide's Derived/Test/ToyasCard.lean, 'card_holds'). Laid BY PROGRAM, IN A SANDBOX (cutbox-door.mjs). By AI agents, Wed Nov 11 2026. No macro, syntax, notation, axiom, sorry.
-/
import Derived.Test.YtbociefjibgklaaDoorRows
import GoSem.ClaimSeven
namespace Go.Proofs.YtbociefjibgklaaDoor
namespace Rows

/-- THE TIED CARD OF 'laws.FnTagMet'. -/
def fnTagMetCard : Claim7 := { stood := { row := fnTagMetRow, standIns := [], harness := (true, "b192ebd0f8ea02208590195854b2f7740456e709a96a5896c11e619cd5f4a07b"), looks := false }, kinds := [], alts := [], laidByText := true, laidKinds := [.mapped], laidTests := true, laidLooks := .later }
def FnTagMetCardSaid : Prop := Claim7.holds Tryd.pinned (.plain (OpenSpec.ofChange fnTagMetSpec)) fnTagMetCard

/-- THE TIED CARD OF 'laws.FnTagMore'. -/
def fnTagMoreCard : Claim7 := { stood := { row := fnTagMoreRow, standIns := [], harness := (true, "b192ebd0f8ea02208590195854b2f7740456e709a96a5896c11e619cd5f4a07b"), looks := false }, kinds := [], alts := [], laidByText := true, laidKinds := [.mapped], laidTests := true, laidLooks := .later }
def FnTagMoreCardSaid : Prop := Claim7.holds Tryd.pinned (.plain (OpenSpec.ofChange fnTagMoreSpec)) fnTagMoreCard

/-- THE TIED CARD OF 'laws.FnNameFits'. -/
def fnNameFitsCard : Claim7 := { stood := { row := fnNameFitsRow, standIns := [], harness := (true, "b192ebd0f8ea02208590195854b2f7740456e709a96a5896c11e619cd5f4a07b"), looks := false }, kinds := [], alts := [], laidByText := true, laidKinds := [.mapped, .mapped, .mapped], laidTests := true, laidLooks := .later }
def FnNameFitsCardSaid : Prop := Claim7.holds Tryd.pinned (.plain (OpenSpec.ofChange fnNameFitsSpec)) fnNameFitsCard

/-- THE TIED CARD OF 'laws.FnNameParts'. -/
def fnNamePartsCard : Claim7 := { stood := { row := fnNamePartsRow, standIns := [], harness := (true, "b192ebd0f8ea02208590195854b2f7740456e709a96a5896c11e619cd5f4a07b"), looks := false }, kinds := [], alts := [], laidByText := true, laidKinds := [.mapped, .mapped, .mapped], laidTests := true, laidLooks := .later }
def FnNamePartsCardSaid : Prop := Claim7.holds Tryd.pinned (.plain (OpenSpec.ofChange fnNamePartsSpec)) fnNamePartsCard

/-- THE SECOND FORM's CARD OF 'laws.FnTagMet'. -/
def fnTagMetUptoCard : Claim7 := { stood := { row := fnTagMetUptoRow, standIns := [], harness := (true, "b192ebd0f8ea02208590195854b2f7740456e709a96a5896c11e619cd5f4a07b"), looks := false }, kinds := [], alts := [], laidByText := true, laidKinds := [.mapped], laidTests := true, laidLooks := .later }
def FnTagMetUptoCardSaid : Prop := Claim7.holds Tryd.pinned (.plain (OpenSpec.upto fnTagMetSpec)) fnTagMetUptoCard

/-- THE SECOND FORM's CARD OF 'laws.FnTagMore'. -/
def fnTagMoreUptoCard : Claim7 := { stood := { row := fnTagMoreUptoRow, standIns := [], harness := (true, "b192ebd0f8ea02208590195854b2f7740456e709a96a5896c11e619cd5f4a07b"), looks := false }, kinds := [], alts := [], laidByText := true, laidKinds := [.mapped], laidTests := true, laidLooks := .later }
def FnTagMoreUptoCardSaid : Prop := Claim7.holds Tryd.pinned (.plain (OpenSpec.upto fnTagMoreSpec)) fnTagMoreUptoCard

/-- THE SECOND FORM's CARD OF 'laws.FnNameFits'. -/
def fnNameFitsUptoCard : Claim7 := { stood := { row := fnNameFitsUptoRow, standIns := [], harness := (true, "b192ebd0f8ea02208590195854b2f7740456e709a96a5896c11e619cd5f4a07b"), looks := false }, kinds := [], alts := [], laidByText := true, laidKinds := [.mapped, .mapped, .mapped], laidTests := true, laidLooks := .later }
def FnNameFitsUptoCardSaid : Prop := Claim7.holds Tryd.pinned (.plain (OpenSpec.upto fnNameFitsSpec)) fnNameFitsUptoCard

/-- THE SECOND FORM's CARD OF 'laws.FnNameParts'. -/
def fnNamePartsUptoCard : Claim7 := { stood := { row := fnNamePartsUptoRow, standIns := [], harness := (true, "b192ebd0f8ea02208590195854b2f7740456e709a96a5896c11e619cd5f4a07b"), looks := false }, kinds := [], alts := [], laidByText := true, laidKinds := [.mapped, .mapped, .mapped], laidTests := true, laidLooks := .later }
def FnNamePartsUptoCardSaid : Prop := Claim7.holds Tryd.pinned (.plain (OpenSpec.upto fnNamePartsSpec)) fnNamePartsUptoCard
end Rows
end Go.Proofs.YtbociefjibgklaaDoor

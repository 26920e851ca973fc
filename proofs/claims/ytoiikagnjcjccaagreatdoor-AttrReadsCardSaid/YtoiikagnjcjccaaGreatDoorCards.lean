/-
  DERIVED. GIVEN WITH THE SEED: THE CARDS: each row of YtoiikagnjcjccaaGreatDoorRows.lean that lists a variable, with what it lists TIED to the program's text (the seventh form; the later family's looks); each row that meets fmt, with fmt's text TOLD by the authors' own Lean function (tested against real Go, not proved from fmt's source: count such statements apart). THE CARD IS WHAT COUNTS. Prove the row's statement (the work); the ties are given (YtoiikagnjcjccaaGreatDoorTie.lean); close each card by the builder's one call (the guide's Derived/Test/ToyasCard.lean, 'card_holds'). Laid BY PROGRAM, IN A SANDBOX (cutbox-door.mjs). By AI agents, Wed Nov 11 2026. No macro, syntax, notation, axiom, sorry.
-/
import Derived.Test.YtoiikagnjcjccaaGreatDoorRows
import GoSem.ClaimSeven
namespace Go.Proofs.YtoiikagnjcjccaaGreatDoor
namespace Rows

/-- THE TIED CARD OF 'apostillelaw31.AttrTells'. -/
def attrTellsCard : Claim7 := { stood := { row := attrTellsRow, standIns := [], harness := (true, "b49cd3901f3f74ac028313b7eb020032d114eddd78f5d5d84a49187556041ff6"), looks := false }, kinds := [], alts := [], laidByText := true, laidKinds := [.data, .pinned], laidTests := true, laidLooks := .later }
def AttrTellsCardSaid : Prop := Claim7.holds Tryz.pinned (.plain (OpenSpec.ofChange attrTellsSpec)) attrTellsCard

/-- THE TIED CARD OF 'apostillelaw31.AttrReads'. -/
def attrReadsCard : Claim7 := { stood := { row := attrReadsRow, standIns := [], harness := (true, "b49cd3901f3f74ac028313b7eb020032d114eddd78f5d5d84a49187556041ff6"), looks := false }, kinds := [], alts := [], laidByText := true, laidKinds := [.data, .pinned], laidTests := true, laidLooks := .later }
def AttrReadsCardSaid : Prop := Claim7.holds Tryz.pinned (.plain (OpenSpec.ofChange attrReadsSpec)) attrReadsCard

/-- THE TIED CARD OF 'apostillelaw31.AttrBack'. -/
def attrBackCard : Claim7 := { stood := { row := attrBackRow, standIns := [], harness := (true, "b49cd3901f3f74ac028313b7eb020032d114eddd78f5d5d84a49187556041ff6"), looks := false }, kinds := [], alts := [], laidByText := true, laidKinds := [.data, .pinned], laidTests := true, laidLooks := .later }
def AttrBackCardSaid : Prop := Claim7.holds Tryz.pinned (.plain (OpenSpec.ofChange attrBackSpec)) attrBackCard

/-- THE SECOND FORM's CARD OF 'apostillelaw31.AttrTells'. -/
def attrTellsUptoCard : Claim7 := { stood := { row := attrTellsUptoRow, standIns := [], harness := (true, "b49cd3901f3f74ac028313b7eb020032d114eddd78f5d5d84a49187556041ff6"), looks := false }, kinds := [], alts := [], laidByText := true, laidKinds := [.data, .pinned], laidTests := true, laidLooks := .later }
def AttrTellsUptoCardSaid : Prop := Claim7.holds Tryz.pinned (.plain (OpenSpec.upto attrTellsSpec)) attrTellsUptoCard

/-- THE SECOND FORM's CARD OF 'apostillelaw31.AttrReads'. -/
def attrReadsUptoCard : Claim7 := { stood := { row := attrReadsUptoRow, standIns := [], harness := (true, "b49cd3901f3f74ac028313b7eb020032d114eddd78f5d5d84a49187556041ff6"), looks := false }, kinds := [], alts := [], laidByText := true, laidKinds := [.data, .pinned], laidTests := true, laidLooks := .later }
def AttrReadsUptoCardSaid : Prop := Claim7.holds Tryz.pinned (.plain (OpenSpec.upto attrReadsSpec)) attrReadsUptoCard

/-- THE SECOND FORM's CARD OF 'apostillelaw31.AttrBack'. -/
def attrBackUptoCard : Claim7 := { stood := { row := attrBackUptoRow, standIns := [], harness := (true, "b49cd3901f3f74ac028313b7eb020032d114eddd78f5d5d84a49187556041ff6"), looks := false }, kinds := [], alts := [], laidByText := true, laidKinds := [.data, .pinned], laidTests := true, laidLooks := .later }
def AttrBackUptoCardSaid : Prop := Claim7.holds Tryz.pinned (.plain (OpenSpec.upto attrBackSpec)) attrBackUptoCard
end Rows
end Go.Proofs.YtoiikagnjcjccaaGreatDoor

/-
  DERIVED. GIVEN WITH THE SEED: THE CARDS: each row of YtoaakappnhemiaaGreatDoorRows.lean that lists a variable, with what it lists TIED to the program's text (the seventh form; the later family's looks); each row that meets fmt, with fmt's text TOLD by the authors' own Lean function (tested against real Go, not proved from fmt's source: count such statements apart). THE CARD IS WHAT COUNTS. Prove the row's statement (the work); the ties are given (YtoaakappnhemiaaGreatDoorTie.lean); close each card by the builder's one call (the guide's Derived/Test/ToyasCard.lean, 'card_holds'). Laid BY PROGRAM, IN A SANDBOX (cutbox-door.mjs). By AI agents, Wed Nov 11 2026. No macro, syntax, notation, axiom, sorry.
-/
import Derived.Test.YtoaakappnhemiaaGreatDoorRows
import GoSem.ClaimSeven
namespace Go.Proofs.YtoaakappnhemiaaGreatDoor
namespace Rows

/-- THE TIED CARD OF 'apostillelaw39.EvidReads'. -/
def evidReadsCard : Claim7 := { stood := { row := evidReadsRow, standIns := [], harness := (true, "3924b3a053842a8b577809707186c3326f895193d082f2cb5d77014066adf0bf"), looks := true }, kinds := [], alts := [], laidByText := true, laidKinds := [.data, .data, .data, .pinned], laidTests := true, laidLooks := .later }
def EvidReadsCardSaid : Prop := Claim7.holds Tryz.pinned (.plain (OpenSpec.ofChange evidReadsSpec)) evidReadsCard

/-- THE TIED CARD OF 'apostillelaw39.EvidBack'. -/
def evidBackCard : Claim7 := { stood := { row := evidBackRow, standIns := [], harness := (true, "3924b3a053842a8b577809707186c3326f895193d082f2cb5d77014066adf0bf"), looks := true }, kinds := [], alts := [], laidByText := true, laidKinds := [.data, .data, .data, .pinned], laidTests := true, laidLooks := .later }
def EvidBackCardSaid : Prop := Claim7.holds Tryz.pinned (.plain (OpenSpec.ofChange evidBackSpec)) evidBackCard

/-- THE TIED CARD OF 'apostillelaw39.EvidFirst'. -/
def evidFirstCard : Claim7 := { stood := { row := evidFirstRow, standIns := [], harness := (true, "3924b3a053842a8b577809707186c3326f895193d082f2cb5d77014066adf0bf"), looks := true }, kinds := [], alts := [], laidByText := true, laidKinds := [.data, .data, .data, .pinned], laidTests := true, laidLooks := .later }
def EvidFirstCardSaid : Prop := Claim7.holds Tryz.pinned (.plain (OpenSpec.ofChange evidFirstSpec)) evidFirstCard

/-- THE TIED CARD OF 'apostillelaw39.EvidTells'. -/
def evidTellsCard : Claim7 := { stood := { row := evidTellsRow, standIns := [], harness := (true, "3924b3a053842a8b577809707186c3326f895193d082f2cb5d77014066adf0bf"), looks := true }, kinds := [], alts := [], laidByText := true, laidKinds := [.data, .data, .data, .pinned], laidTests := true, laidLooks := .later }
def EvidTellsCardSaid : Prop := Claim7.holds Tryz.pinned (.plain (OpenSpec.ofChange evidTellsSpec)) evidTellsCard

/-- THE SECOND FORM's CARD OF 'apostillelaw39.EvidReads'. -/
def evidReadsUptoCard : Claim7 := { stood := { row := evidReadsUptoRow, standIns := [], harness := (true, "3924b3a053842a8b577809707186c3326f895193d082f2cb5d77014066adf0bf"), looks := true }, kinds := [], alts := [], laidByText := true, laidKinds := [.data, .data, .data, .pinned], laidTests := true, laidLooks := .later }
def EvidReadsUptoCardSaid : Prop := Claim7.holds Tryz.pinned (.plain (OpenSpec.upto evidReadsSpec)) evidReadsUptoCard

/-- THE SECOND FORM's CARD OF 'apostillelaw39.EvidBack'. -/
def evidBackUptoCard : Claim7 := { stood := { row := evidBackUptoRow, standIns := [], harness := (true, "3924b3a053842a8b577809707186c3326f895193d082f2cb5d77014066adf0bf"), looks := true }, kinds := [], alts := [], laidByText := true, laidKinds := [.data, .data, .data, .pinned], laidTests := true, laidLooks := .later }
def EvidBackUptoCardSaid : Prop := Claim7.holds Tryz.pinned (.plain (OpenSpec.upto evidBackSpec)) evidBackUptoCard

/-- THE SECOND FORM's CARD OF 'apostillelaw39.EvidFirst'. -/
def evidFirstUptoCard : Claim7 := { stood := { row := evidFirstUptoRow, standIns := [], harness := (true, "3924b3a053842a8b577809707186c3326f895193d082f2cb5d77014066adf0bf"), looks := true }, kinds := [], alts := [], laidByText := true, laidKinds := [.data, .data, .data, .pinned], laidTests := true, laidLooks := .later }
def EvidFirstUptoCardSaid : Prop := Claim7.holds Tryz.pinned (.plain (OpenSpec.upto evidFirstSpec)) evidFirstUptoCard

/-- THE SECOND FORM's CARD OF 'apostillelaw39.EvidTells'. -/
def evidTellsUptoCard : Claim7 := { stood := { row := evidTellsUptoRow, standIns := [], harness := (true, "3924b3a053842a8b577809707186c3326f895193d082f2cb5d77014066adf0bf"), looks := true }, kinds := [], alts := [], laidByText := true, laidKinds := [.data, .data, .data, .pinned], laidTests := true, laidLooks := .later }
def EvidTellsUptoCardSaid : Prop := Claim7.holds Tryz.pinned (.plain (OpenSpec.upto evidTellsSpec)) evidTellsUptoCard
end Rows
end Go.Proofs.YtoaakappnhemiaaGreatDoor

/-
  DERIVED. GIVEN WITH THE SEED: THE CARDS: each row of YtfkpjbbkdkcdcaaDoorRows.lean that lists a variable, with what it lists TIED to the program's text (the seventh form; the later family's looks); each row that meets fmt, with fmt's text TOLD by the authors' own Lean function (tested against real Go, not proved from fmt's source: count such statements apart). THE CARD IS WHAT COUNTS. Prove the row's statement (the work); the ties are given (YtfkpjbbkdkcdcaaDoorTie.lean); close each card by the builder's one call (the guide's Derived/Test/ToyasCard.lean, 'card_holds'). Laid BY PROGRAM, IN A SANDBOX (cutbox-door.mjs). By AI agents, Wed Nov 11 2026. No macro, syntax, notation, axiom, sorry.
-/
import Derived.Test.YtfkpjbbkdkcdcaaDoorRows
import GoSem.ClaimSeven
namespace Go.Proofs.YtfkpjbbkdkcdcaaDoor
namespace Rows

/-- THE TIED CARD OF 'apostillelaw06.ValueFit'. -/
def valueFitCard : Claim7 := { stood := { row := valueFitRow, standIns := [], harness := (true, "2cffa269ceaba6903b0b99673c4dd56f8f74d6e390e05841074d1d0756317486"), looks := false }, kinds := [], alts := [], laidByText := true, laidKinds := [.data, .pinned], laidTests := true, laidLooks := .later }
def ValueFitCardSaid : Prop := Claim7.holds Tryd.pinned (.plain (OpenSpec.ofChange valueFitSpec)) valueFitCard

/-- THE TIED CARD OF 'apostillelaw06.ValueTells'. -/
def valueTellsCard : Claim7 := { stood := { row := valueTellsRow, standIns := [], harness := (true, "2cffa269ceaba6903b0b99673c4dd56f8f74d6e390e05841074d1d0756317486"), looks := false }, kinds := [], alts := [], laidByText := true, laidKinds := [.data, .pinned], laidTests := true, laidLooks := .later }
def ValueTellsCardSaid : Prop := Claim7.holds Tryd.pinned (.plain (OpenSpec.ofChange valueTellsSpec)) valueTellsCard

/-- THE TIED CARD OF 'apostillelaw30.AlgsTells'. -/
def algsTellsCard : Claim7 := { stood := { row := algsTellsRow, standIns := [], harness := (true, "2cffa269ceaba6903b0b99673c4dd56f8f74d6e390e05841074d1d0756317486"), looks := false }, kinds := [], alts := [], laidByText := true, laidKinds := [.data, .data, .data, .pinned], laidTests := true, laidLooks := .later }
def AlgsTellsCardSaid : Prop := Claim7.holds Tryd.pinned (.plain (OpenSpec.ofChange algsTellsSpec)) algsTellsCard

/-- THE TIED CARD OF 'apostillelaw06.ValueParts'. -/
def valuePartsCard : Claim7 := { stood := { row := valuePartsRow, standIns := [], harness := (true, "2cffa269ceaba6903b0b99673c4dd56f8f74d6e390e05841074d1d0756317486"), looks := false }, kinds := [], alts := [], laidByText := true, laidKinds := [.data, .pinned], laidTests := true, laidLooks := .later }
def ValuePartsCardSaid : Prop := Claim7.holds Tryd.pinned (.plain (OpenSpec.ofChange valuePartsSpec)) valuePartsCard

/-- THE TIED CARD OF 'apostillelaw30.AlgsBack'. -/
def algsBackCard : Claim7 := { stood := { row := algsBackRow, standIns := [], harness := (true, "2cffa269ceaba6903b0b99673c4dd56f8f74d6e390e05841074d1d0756317486"), looks := false }, kinds := [], alts := [], laidByText := true, laidKinds := [.data, .data, .pinned], laidTests := true, laidLooks := .later }
def AlgsBackCardSaid : Prop := Claim7.holds Tryd.pinned (.plain (OpenSpec.ofChange algsBackSpec)) algsBackCard

/-- THE TIED CARD OF 'apostillelaw06.ValueMakes'. -/
def valueMakesCard : Claim7 := { stood := { row := valueMakesRow, standIns := [], harness := (true, "2cffa269ceaba6903b0b99673c4dd56f8f74d6e390e05841074d1d0756317486"), looks := false }, kinds := [], alts := [], laidByText := true, laidKinds := [.data, .pinned], laidTests := true, laidLooks := .later }
def ValueMakesCardSaid : Prop := Claim7.holds Tryd.pinned (.plain (OpenSpec.ofChange valueMakesSpec)) valueMakesCard

/-- THE SECOND FORM's CARD OF 'apostillelaw06.ValueFit'. -/
def valueFitUptoCard : Claim7 := { stood := { row := valueFitUptoRow, standIns := [], harness := (true, "2cffa269ceaba6903b0b99673c4dd56f8f74d6e390e05841074d1d0756317486"), looks := false }, kinds := [], alts := [], laidByText := true, laidKinds := [.data, .pinned], laidTests := true, laidLooks := .later }
def ValueFitUptoCardSaid : Prop := Claim7.holds Tryd.pinned (.plain (OpenSpec.upto valueFitSpec)) valueFitUptoCard

/-- THE SECOND FORM's CARD OF 'apostillelaw06.ValueTells'. -/
def valueTellsUptoCard : Claim7 := { stood := { row := valueTellsUptoRow, standIns := [], harness := (true, "2cffa269ceaba6903b0b99673c4dd56f8f74d6e390e05841074d1d0756317486"), looks := false }, kinds := [], alts := [], laidByText := true, laidKinds := [.data, .pinned], laidTests := true, laidLooks := .later }
def ValueTellsUptoCardSaid : Prop := Claim7.holds Tryd.pinned (.plain (OpenSpec.upto valueTellsSpec)) valueTellsUptoCard

/-- THE SECOND FORM's CARD OF 'apostillelaw30.AlgsTells'. -/
def algsTellsUptoCard : Claim7 := { stood := { row := algsTellsUptoRow, standIns := [], harness := (true, "2cffa269ceaba6903b0b99673c4dd56f8f74d6e390e05841074d1d0756317486"), looks := false }, kinds := [], alts := [], laidByText := true, laidKinds := [.data, .data, .data, .pinned], laidTests := true, laidLooks := .later }
def AlgsTellsUptoCardSaid : Prop := Claim7.holds Tryd.pinned (.plain (OpenSpec.upto algsTellsSpec)) algsTellsUptoCard

/-- THE SECOND FORM's CARD OF 'apostillelaw06.ValueParts'. -/
def valuePartsUptoCard : Claim7 := { stood := { row := valuePartsUptoRow, standIns := [], harness := (true, "2cffa269ceaba6903b0b99673c4dd56f8f74d6e390e05841074d1d0756317486"), looks := false }, kinds := [], alts := [], laidByText := true, laidKinds := [.data, .pinned], laidTests := true, laidLooks := .later }
def ValuePartsUptoCardSaid : Prop := Claim7.holds Tryd.pinned (.plain (OpenSpec.upto valuePartsSpec)) valuePartsUptoCard

/-- THE SECOND FORM's CARD OF 'apostillelaw30.AlgsBack'. -/
def algsBackUptoCard : Claim7 := { stood := { row := algsBackUptoRow, standIns := [], harness := (true, "2cffa269ceaba6903b0b99673c4dd56f8f74d6e390e05841074d1d0756317486"), looks := false }, kinds := [], alts := [], laidByText := true, laidKinds := [.data, .data, .pinned], laidTests := true, laidLooks := .later }
def AlgsBackUptoCardSaid : Prop := Claim7.holds Tryd.pinned (.plain (OpenSpec.upto algsBackSpec)) algsBackUptoCard

/-- THE SECOND FORM's CARD OF 'apostillelaw06.ValueMakes'. -/
def valueMakesUptoCard : Claim7 := { stood := { row := valueMakesUptoRow, standIns := [], harness := (true, "2cffa269ceaba6903b0b99673c4dd56f8f74d6e390e05841074d1d0756317486"), looks := false }, kinds := [], alts := [], laidByText := true, laidKinds := [.data, .pinned], laidTests := true, laidLooks := .later }
def ValueMakesUptoCardSaid : Prop := Claim7.holds Tryd.pinned (.plain (OpenSpec.upto valueMakesSpec)) valueMakesUptoCard
end Rows
end Go.Proofs.YtfkpjbbkdkcdcaaDoor

/-
  DERIVED. GIVEN WITH THE SEED: THE CARDS: each row of YtfkpjbbkdkcdcabDoorRows.lean that lists a variable, with what it lists TIED to the program's text (the seventh form; the later family's looks); each row that meets fmt, with fmt's text TOLD by the authors' own Lean function (tested against real Go, not proved from fmt's source: count such statements apart). THE CARD IS WHAT COUNTS. Prove the row's statement (the work); the ties are given (YtfkpjbbkdkcdcabDoorTie.lean); close each card by the builder's one call (the guide's Derived/Test/ToyasCard.lean, 'card_holds'). Laid BY PROGRAM, IN A SANDBOX (cutbox-door.mjs). By AI agents, Wed Nov 11 2026. No macro, syntax, notation, axiom, sorry.
-/
import Derived.Test.YtfkpjbbkdkcdcabDoorRows
import GoSem.ClaimSeven
namespace Go.Proofs.YtfkpjbbkdkcdcabDoor
namespace Rows

/-- THE TIED CARD OF 'apostillelaw06.ValueBack'. -/
def valueBackCard : Claim7 := { stood := { row := valueBackRow, standIns := [], harness := (true, "ec14f7c8f47cb7444d56cdec76490b7153e5f5c8f92b1c1e949dfefd23b2a608"), looks := false }, kinds := [], alts := [], laidByText := true, laidKinds := [.data, .pinned], laidTests := true, laidLooks := .later }
def ValueBackCardSaid : Prop := Claim7.holds Tryd.pinned (.plain (OpenSpec.ofChange valueBackSpec)) valueBackCard

/-- THE SECOND FORM's CARD OF 'apostillelaw06.ValueBack'. -/
def valueBackUptoCard : Claim7 := { stood := { row := valueBackUptoRow, standIns := [], harness := (true, "ec14f7c8f47cb7444d56cdec76490b7153e5f5c8f92b1c1e949dfefd23b2a608"), looks := false }, kinds := [], alts := [], laidByText := true, laidKinds := [.data, .pinned], laidTests := true, laidLooks := .later }
def ValueBackUptoCardSaid : Prop := Claim7.holds Tryd.pinned (.plain (OpenSpec.upto valueBackSpec)) valueBackUptoCard
end Rows
end Go.Proofs.YtfkpjbbkdkcdcabDoor

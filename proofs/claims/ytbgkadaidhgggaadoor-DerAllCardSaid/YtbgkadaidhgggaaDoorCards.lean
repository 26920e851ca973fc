/-
  DERIVED. GIVEN WITH THE SEED: THE CARDS: each row of YtbgkadaidhgggaaDoorRows.lean that lists a variable, with what it lists TIED to the program's text (the seventh form; the later family's looks); each row that meets fmt, with fmt's text TOLD by the authors' own Lean function (tested against real Go, not proved from fmt's source: count such statements apart). THE CARD IS WHAT COUNTS. Prove the row's statement (the work); the ties are given (YtbgkadaidhgggaaDoorTie.lean); close each card by the builder's one call (the guide's Derived/Test/ToyasCard.lean, 'card_holds'). Laid BY PROGRAM, IN A SANDBOX (cutbox-door.mjs). By AI agents, Wed Nov 11 2026. No macro, syntax, notation, axiom, sorry.
-/
import Derived.Test.YtbgkadaidhgggaaDoorRows
import GoSem.ClaimSeven
namespace Go.Proofs.YtbgkadaidhgggaaDoor
namespace Rows

/-- THE TIED CARD OF 'apostillelaw05.DerReads'. -/
def derReadsCard : Claim7 := { stood := { row := derReadsRow, standIns := [], harness := (true, "5db1b9deb85939a7aa55a58a02fb14b34b6f1dfaf924380db9c5714a6deded95"), looks := true }, kinds := [], alts := [], laidByText := true, laidKinds := [.data, .pinned], laidTests := true, laidLooks := .later }
def DerReadsCardSaid : Prop := Claim7.holds Tryd.pinned (.plain (OpenSpec.ofChange derReadsSpec)) derReadsCard

/-- THE TIED CARD OF 'apostillelaw05.DerDeep'. -/
def derDeepCard : Claim7 := { stood := { row := derDeepRow, standIns := [], harness := (true, "5db1b9deb85939a7aa55a58a02fb14b34b6f1dfaf924380db9c5714a6deded95"), looks := true }, kinds := [], alts := [], laidByText := true, laidKinds := [.data, .pinned], laidTests := true, laidLooks := .later }
def DerDeepCardSaid : Prop := Claim7.holds Tryd.pinned (.plain (OpenSpec.ofChange derDeepSpec)) derDeepCard

/-- THE TIED CARD OF 'apostillelaw05.DerAll'. -/
def derAllCard : Claim7 := { stood := { row := derAllRow, standIns := [], harness := (true, "5db1b9deb85939a7aa55a58a02fb14b34b6f1dfaf924380db9c5714a6deded95"), looks := true }, kinds := [], alts := [], laidByText := true, laidKinds := [.data, .pinned], laidTests := true, laidLooks := .later }
def DerAllCardSaid : Prop := Claim7.holds Tryd.pinned (.plain (OpenSpec.ofChange derAllSpec)) derAllCard

/-- THE TIED CARD OF 'apostillelaw05.DerBack'. -/
def derBackCard : Claim7 := { stood := { row := derBackRow, standIns := [], harness := (true, "5db1b9deb85939a7aa55a58a02fb14b34b6f1dfaf924380db9c5714a6deded95"), looks := true }, kinds := [], alts := [], laidByText := true, laidKinds := [.data, .pinned], laidTests := true, laidLooks := .later }
def DerBackCardSaid : Prop := Claim7.holds Tryd.pinned (.plain (OpenSpec.ofChange derBackSpec)) derBackCard

/-- THE TIED CARD OF 'apostillelaw05.DerTells'. -/
def derTellsCard : Claim7 := { stood := { row := derTellsRow, standIns := [], harness := (true, "5db1b9deb85939a7aa55a58a02fb14b34b6f1dfaf924380db9c5714a6deded95"), looks := true }, kinds := [], alts := [], laidByText := true, laidKinds := [.data, .pinned], laidTests := true, laidLooks := .later }
def DerTellsCardSaid : Prop := Claim7.holds Tryd.pinned (.plain (OpenSpec.ofChange derTellsSpec)) derTellsCard

/-- THE SECOND FORM's CARD OF 'apostillelaw05.DerReads'. -/
def derReadsUptoCard : Claim7 := { stood := { row := derReadsUptoRow, standIns := [], harness := (true, "5db1b9deb85939a7aa55a58a02fb14b34b6f1dfaf924380db9c5714a6deded95"), looks := true }, kinds := [], alts := [], laidByText := true, laidKinds := [.data, .pinned], laidTests := true, laidLooks := .later }
def DerReadsUptoCardSaid : Prop := Claim7.holds Tryd.pinned (.plain (OpenSpec.upto derReadsSpec)) derReadsUptoCard

/-- THE SECOND FORM's CARD OF 'apostillelaw05.DerDeep'. -/
def derDeepUptoCard : Claim7 := { stood := { row := derDeepUptoRow, standIns := [], harness := (true, "5db1b9deb85939a7aa55a58a02fb14b34b6f1dfaf924380db9c5714a6deded95"), looks := true }, kinds := [], alts := [], laidByText := true, laidKinds := [.data, .pinned], laidTests := true, laidLooks := .later }
def DerDeepUptoCardSaid : Prop := Claim7.holds Tryd.pinned (.plain (OpenSpec.upto derDeepSpec)) derDeepUptoCard

/-- THE SECOND FORM's CARD OF 'apostillelaw05.DerAll'. -/
def derAllUptoCard : Claim7 := { stood := { row := derAllUptoRow, standIns := [], harness := (true, "5db1b9deb85939a7aa55a58a02fb14b34b6f1dfaf924380db9c5714a6deded95"), looks := true }, kinds := [], alts := [], laidByText := true, laidKinds := [.data, .pinned], laidTests := true, laidLooks := .later }
def DerAllUptoCardSaid : Prop := Claim7.holds Tryd.pinned (.plain (OpenSpec.upto derAllSpec)) derAllUptoCard

/-- THE SECOND FORM's CARD OF 'apostillelaw05.DerBack'. -/
def derBackUptoCard : Claim7 := { stood := { row := derBackUptoRow, standIns := [], harness := (true, "5db1b9deb85939a7aa55a58a02fb14b34b6f1dfaf924380db9c5714a6deded95"), looks := true }, kinds := [], alts := [], laidByText := true, laidKinds := [.data, .pinned], laidTests := true, laidLooks := .later }
def DerBackUptoCardSaid : Prop := Claim7.holds Tryd.pinned (.plain (OpenSpec.upto derBackSpec)) derBackUptoCard

/-- THE SECOND FORM's CARD OF 'apostillelaw05.DerTells'. -/
def derTellsUptoCard : Claim7 := { stood := { row := derTellsUptoRow, standIns := [], harness := (true, "5db1b9deb85939a7aa55a58a02fb14b34b6f1dfaf924380db9c5714a6deded95"), looks := true }, kinds := [], alts := [], laidByText := true, laidKinds := [.data, .pinned], laidTests := true, laidLooks := .later }
def DerTellsUptoCardSaid : Prop := Claim7.holds Tryd.pinned (.plain (OpenSpec.upto derTellsSpec)) derTellsUptoCard
end Rows
end Go.Proofs.YtbgkadaidhgggaaDoor

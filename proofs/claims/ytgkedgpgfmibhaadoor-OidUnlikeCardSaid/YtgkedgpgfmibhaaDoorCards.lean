/-
  DERIVED. GIVEN WITH THE SEED: THE CARDS: each row of YtgkedgpgfmibhaaDoorRows.lean that lists a variable, with what it lists TIED to the program's text (the seventh form; the later family's looks); each row that meets fmt, with fmt's text TOLD by the authors' own Lean function (tested against real Go, not proved from fmt's source: count such statements apart). THE CARD IS WHAT COUNTS. Prove the row's statement (the work); the ties are given (YtgkedgpgfmibhaaDoorTie.lean); close each card by the builder's one call (the guide's Derived/Test/ToyasCard.lean, 'card_holds'). Laid BY PROGRAM, IN A SANDBOX (cutbox-door.mjs). By AI agents, Wed Nov 11 2026. No macro, syntax, notation, axiom, sorry.
-/
import Derived.Test.YtgkedgpgfmibhaaDoorRows
import GoSem.ClaimSeven
namespace Go.Proofs.YtgkedgpgfmibhaaDoor
namespace Rows

/-- THE TIED CARD OF 'apostillelaw02.OidTells'. -/
def oidTellsCard : Claim7 := { stood := { row := oidTellsRow, standIns := [], harness := (true, "e42c602a6ab9ce97a1266a64b19b3c95e711ae6538b272e4682eef3e390a868c"), looks := true }, kinds := [], alts := [], laidByText := true, laidKinds := [.data, .data, .data, .data, .sentinel, .sentinel, .pinned], laidTests := true, laidLooks := .later }
def OidTellsCardSaid : Prop := Claim7.holds Tryd.pinned (.plain (OpenSpec.ofChange oidTellsSpec)) oidTellsCard

/-- THE TIED CARD OF 'apostillelaw02.OidBack'. -/
def oidBackCard : Claim7 := { stood := { row := oidBackRow, standIns := [], harness := (true, "e42c602a6ab9ce97a1266a64b19b3c95e711ae6538b272e4682eef3e390a868c"), looks := true }, kinds := [], alts := [], laidByText := true, laidKinds := [.data, .data, .data, .data, .sentinel, .sentinel, .pinned], laidTests := true, laidLooks := .later }
def OidBackCardSaid : Prop := Claim7.holds Tryd.pinned (.plain (OpenSpec.ofChange oidBackSpec)) oidBackCard

/-- THE TIED CARD OF 'apostillelaw02.OidUnlike'. -/
def oidUnlikeCard : Claim7 := { stood := { row := oidUnlikeRow, standIns := [], harness := (true, "e42c602a6ab9ce97a1266a64b19b3c95e711ae6538b272e4682eef3e390a868c"), looks := true }, kinds := [], alts := [], laidByText := true, laidKinds := [.data, .data, .data, .data, .sentinel, .sentinel, .pinned], laidTests := true, laidLooks := .later }
def OidUnlikeCardSaid : Prop := Claim7.holds Tryd.pinned (.plain (OpenSpec.ofChange oidUnlikeSpec)) oidUnlikeCard

/-- THE TIED CARD OF 'apostillelaw02.OidTexts'. -/
def oidTextsCard : Claim7 := { stood := { row := oidTextsRow, standIns := [], harness := (true, "e42c602a6ab9ce97a1266a64b19b3c95e711ae6538b272e4682eef3e390a868c"), looks := true }, kinds := [], alts := [], laidByText := true, laidKinds := [.data, .data, .data, .data, .sentinel, .sentinel, .pinned], laidTests := true, laidLooks := .later }
def OidTextsCardSaid : Prop := Claim7.holds Tryd.pinned (.plain (OpenSpec.ofChange oidTextsSpec)) oidTextsCard

/-- THE SECOND FORM's CARD OF 'apostillelaw02.OidTells'. -/
def oidTellsUptoCard : Claim7 := { stood := { row := oidTellsUptoRow, standIns := [], harness := (true, "e42c602a6ab9ce97a1266a64b19b3c95e711ae6538b272e4682eef3e390a868c"), looks := true }, kinds := [], alts := [], laidByText := true, laidKinds := [.data, .data, .data, .data, .sentinel, .sentinel, .pinned], laidTests := true, laidLooks := .later }
def OidTellsUptoCardSaid : Prop := Claim7.holds Tryd.pinned (.plain (OpenSpec.upto oidTellsSpec)) oidTellsUptoCard

/-- THE SECOND FORM's CARD OF 'apostillelaw02.OidBack'. -/
def oidBackUptoCard : Claim7 := { stood := { row := oidBackUptoRow, standIns := [], harness := (true, "e42c602a6ab9ce97a1266a64b19b3c95e711ae6538b272e4682eef3e390a868c"), looks := true }, kinds := [], alts := [], laidByText := true, laidKinds := [.data, .data, .data, .data, .sentinel, .sentinel, .pinned], laidTests := true, laidLooks := .later }
def OidBackUptoCardSaid : Prop := Claim7.holds Tryd.pinned (.plain (OpenSpec.upto oidBackSpec)) oidBackUptoCard

/-- THE SECOND FORM's CARD OF 'apostillelaw02.OidUnlike'. -/
def oidUnlikeUptoCard : Claim7 := { stood := { row := oidUnlikeUptoRow, standIns := [], harness := (true, "e42c602a6ab9ce97a1266a64b19b3c95e711ae6538b272e4682eef3e390a868c"), looks := true }, kinds := [], alts := [], laidByText := true, laidKinds := [.data, .data, .data, .data, .sentinel, .sentinel, .pinned], laidTests := true, laidLooks := .later }
def OidUnlikeUptoCardSaid : Prop := Claim7.holds Tryd.pinned (.plain (OpenSpec.upto oidUnlikeSpec)) oidUnlikeUptoCard

/-- THE SECOND FORM's CARD OF 'apostillelaw02.OidTexts'. -/
def oidTextsUptoCard : Claim7 := { stood := { row := oidTextsUptoRow, standIns := [], harness := (true, "e42c602a6ab9ce97a1266a64b19b3c95e711ae6538b272e4682eef3e390a868c"), looks := true }, kinds := [], alts := [], laidByText := true, laidKinds := [.data, .data, .data, .data, .sentinel, .sentinel, .pinned], laidTests := true, laidLooks := .later }
def OidTextsUptoCardSaid : Prop := Claim7.holds Tryd.pinned (.plain (OpenSpec.upto oidTextsSpec)) oidTextsUptoCard
end Rows
end Go.Proofs.YtgkedgpgfmibhaaDoor

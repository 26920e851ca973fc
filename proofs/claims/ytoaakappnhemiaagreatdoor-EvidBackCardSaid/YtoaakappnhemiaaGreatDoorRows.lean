/-
  NARROWER THAN 'FOR EVERY INPUT', by the rows' own cells (each row's printed sentence says how): EvidReads: laid · EvidBack: laid · EvidFirst: laid · EvidTells: laid.
  DERIVED. THE GIVEN ROWS OF THIS SEAT. 4 by the template 'for every input the law returns true; each argument reads behind the call as it read before'; 0 by the template 'total and deterministic' (their statements: YtoaakappnhemiaaGreatDoorTotals.lean).
  GIVEN WITH THE SEED: the statements are not yours to turn. If you find one false, say at which input.
  Laid BY PROGRAM, IN A SANDBOX (cutbox-rows.mjs): the forced cells as the released guide's own fill.sh prints them over the translation 3d6db4e4245ade53… (all of the seat's roots in one cut). By AI agents, Wed Nov 11 2026. No macro, syntax, notation, axiom, sorry.
-/
import Derived.Test.YtoaakappnhemiaaGreatDoorChecked
import GoSem.PinnedTables
import GoSem.Claim
import GoSem.ClaimJoined
import GoSem.ClaimMapViews
import Derived.JoinedTies
import Derived.KernelRfl
namespace Go.Proofs.YtoaakappnhemiaaGreatDoor
/- THE CELL 'sum', in the pinned program and in every row, IS THE sha256 OF THE DUMP (.gsa) THAT YtoaakappnhemiaaGreatDoorProg.lean LOADS. Nothing in Lean hashes anything: it is a label: what it is worth is what the hold of that sum in a sandbox is worth. -/
noncomputable def Tryz.pinned : Pinned := { name := "ytoaakappnhemiaagreatdoor", sum := "3d6db4e4245ade536dc54e07d27a30c26322f47972ef7be23028830486df67ce", checked := Tryz.checked }
namespace Rows
def none {H : Type} : Left H := { results := [], args := [] }

/- WHAT THE LISTED PACKAGE-LEVEL VARIABLES READ AS WHEN THE CALL BEGINS. Each datum BY PROGRAM (the guide's laid-datum.mjs) off the statement by which the dump's own 'gosem.cut.vars' lays the variable. In a bare row this is a premise. The card (YtoaakappnhemiaaGreatDoorCards.lean) ties it to the program's text. -/
def laid_unicode_utf8_acceptRanges {H : Type} : DataW H := .agg [.agg [.lit (.int .u8 128), .lit (.int .u8 191)], .agg [.lit (.int .u8 160), .lit (.int .u8 191)], .agg [.lit (.int .u8 128), .lit (.int .u8 159)], .agg [.lit (.int .u8 144), .lit (.int .u8 191)], .agg [.lit (.int .u8 128), .lit (.int .u8 143)], .agg [.lit (.int .u8 0), .lit (.int .u8 0)], .agg [.lit (.int .u8 0), .lit (.int .u8 0)], .agg [.lit (.int .u8 0), .lit (.int .u8 0)], .agg [.lit (.int .u8 0), .lit (.int .u8 0)], .agg [.lit (.int .u8 0), .lit (.int .u8 0)], .agg [.lit (.int .u8 0), .lit (.int .u8 0)], .agg [.lit (.int .u8 0), .lit (.int .u8 0)], .agg [.lit (.int .u8 0), .lit (.int .u8 0)], .agg [.lit (.int .u8 0), .lit (.int .u8 0)], .agg [.lit (.int .u8 0), .lit (.int .u8 0)], .agg [.lit (.int .u8 0), .lit (.int .u8 0)]]
def laid_apostille_mac_sizes {H : Type} : DataW H := .agg [.agg [.lit (.int .i64 0), .lit (.int .i64 0)], .agg [.lit (.int .i64 32), .lit (.int .i64 64)], .agg [.lit (.int .i64 48), .lit (.int .i64 128)], .agg [.lit (.int .i64 64), .lit (.int .i64 128)], .agg [.lit (.int .i64 32), .lit (.int .i64 136)], .agg [.lit (.int .i64 64), .lit (.int .i64 72)], .agg [.lit (.int .i64 32), .lit (.int .i64 168)], .agg [.lit (.int .i64 64), .lit (.int .i64 136)]]
def laid_apostille_algs_rows {H : Type} : DataW H := .agg [.agg [.lit (.int .i64 1), .lit (.int .i64 3), .lit (.int .i64 1), .lit (.int .i64 0), .lit (.int .i64 1), .lit (.int .i64 1)], .agg [.lit (.int .i64 4), .lit (.int .i64 2), .lit (.int .i64 1), .lit (.int .i64 0), .lit (.int .i64 8), .lit (.int .i64 2)], .agg [.lit (.int .i64 6), .lit (.int .i64 2), .lit (.int .i64 1), .lit (.int .i64 0), .lit (.int .i64 11), .lit (.int .i64 1)], .agg [.lit (.int .i64 11), .lit (.int .i64 3), .lit (.int .i64 2), .lit (.int .i64 1), .lit (.int .i64 17), .lit (.int .i64 1)], .agg [.lit (.int .i64 33), .lit (.int .i64 2), .lit (.int .i64 2), .lit (.int .i64 5), .lit (.int .i64 1), .lit (.int .i64 1)], .agg [.lit (.int .i64 41), .lit (.int .i64 1), .lit (.int .i64 2), .lit (.int .i64 4), .lit (.int .i64 17), .lit (.int .i64 1)], .agg [.lit (.int .i64 51), .lit (.int .i64 3), .lit (.int .i64 3), .lit (.int .i64 2), .lit (.int .i64 1), .lit (.int .i64 1)], .agg [.lit (.int .i64 61), .lit (.int .i64 3), .lit (.int .i64 4), .lit (.int .i64 4), .lit (.int .i64 28), .lit (.int .i64 1)], .agg [.lit (.int .i64 71), .lit (.int .i64 3), .lit (.int .i64 5), .lit (.int .i64 3), .lit (.int .i64 5), .lit (.int .i64 20)], .agg [.lit (.int .i64 81), .lit (.int .i64 3), .lit (.int .i64 6), .lit (.int .i64 3), .lit (.int .i64 2), .lit (.int .i64 20)], .agg [.lit (.int .i64 91), .lit (.int .i64 3), .lit (.int .i64 7), .lit (.int .i64 3), .lit (.int .i64 6), .lit (.int .i64 20)]]
/-- One of Go's own tables, pinned by name: the form's constant. -/
def laid_unicode_utf8_first : DataW Unit := Go.Pinned.utf8First

/-- 'apostillelaw39.EvidReads': WHATEVER THE INPUT: true; the input reads as it did. -/
def evidReadsSpec : ChangeSpec := { name := "evidReads", fn := fun _ => fun
  | [d] => { results := [.lit (.bool true)], args := [d] }
  | _ => none }
def evidReadsRow : OpenClaim := { program := "ytoaakappnhemiaagreatdoor", sum := "3d6db4e4245ade536dc54e07d27a30c26322f47972ef7be23028830486df67ce", func := "apostille/apostillelaw39.EvidReads", spec := "evidReads", inPlace := ["internal/bytealg.Compare"], unfollowed := true, recurses := true, named := ["unicode/utf8.first", "unicode/utf8.acceptRanges", "apostille/algs.rows", "apostille/mac.sizes"], apart := false, laid := [("unicode/utf8.acceptRanges", laid_unicode_utf8_acceptRanges), ("apostille/mac.sizes", laid_apostille_mac_sizes), ("apostille/algs.rows", laid_apostille_algs_rows), ("unicode/utf8.first", laid_unicode_utf8_first)] }
def EvidReadsSaid : Prop := evidReadsRow.holds Tryz.pinned (OpenSpec.ofChange evidReadsSpec)

/-- ITS FALSE NEIGHBOUR: 'it returns false'. Refute it at one input. -/
def evidReadsWrong : ChangeSpec := { name := "evidReads", fn := fun _ => fun
  | [d] => { results := [.lit (.bool false)], args := [d] }
  | _ => none }
def EvidReadsWrongFalsely : Prop := evidReadsRow.holds Tryz.pinned (OpenSpec.ofChange evidReadsWrong)

/-- 'apostillelaw39.EvidBack': WHATEVER THE INPUT: true; the input reads as it did. -/
def evidBackSpec : ChangeSpec := { name := "evidBack", fn := fun _ => fun
  | [d1, d2] => { results := [.lit (.bool true)], args := [d1, d2] }
  | _ => none }
def evidBackRow : OpenClaim := { program := "ytoaakappnhemiaagreatdoor", sum := "3d6db4e4245ade536dc54e07d27a30c26322f47972ef7be23028830486df67ce", func := "apostille/apostillelaw39.EvidBack", spec := "evidBack", inPlace := ["internal/bytealg.Compare"], unfollowed := true, recurses := true, named := ["unicode/utf8.first", "unicode/utf8.acceptRanges", "apostille/algs.rows", "apostille/mac.sizes"], apart := false, laid := [("unicode/utf8.acceptRanges", laid_unicode_utf8_acceptRanges), ("apostille/mac.sizes", laid_apostille_mac_sizes), ("apostille/algs.rows", laid_apostille_algs_rows), ("unicode/utf8.first", laid_unicode_utf8_first)] }
def EvidBackSaid : Prop := evidBackRow.holds Tryz.pinned (OpenSpec.ofChange evidBackSpec)

/-- ITS FALSE NEIGHBOUR: 'it returns false'. Refute it at one input. -/
def evidBackWrong : ChangeSpec := { name := "evidBack", fn := fun _ => fun
  | [d1, d2] => { results := [.lit (.bool false)], args := [d1, d2] }
  | _ => none }
def EvidBackWrongFalsely : Prop := evidBackRow.holds Tryz.pinned (OpenSpec.ofChange evidBackWrong)

/-- 'apostillelaw39.EvidFirst': WHATEVER THE INPUT: true; the input reads as it did. -/
def evidFirstSpec : ChangeSpec := { name := "evidFirst", fn := fun _ => fun
  | [d1, d2, d3] => { results := [.lit (.bool true)], args := [d1, d2, d3] }
  | _ => none }
def evidFirstRow : OpenClaim := { program := "ytoaakappnhemiaagreatdoor", sum := "3d6db4e4245ade536dc54e07d27a30c26322f47972ef7be23028830486df67ce", func := "apostille/apostillelaw39.EvidFirst", spec := "evidFirst", inPlace := ["internal/bytealg.Compare"], unfollowed := true, recurses := true, named := ["unicode/utf8.first", "unicode/utf8.acceptRanges", "apostille/algs.rows", "apostille/mac.sizes"], apart := false, laid := [("unicode/utf8.acceptRanges", laid_unicode_utf8_acceptRanges), ("apostille/mac.sizes", laid_apostille_mac_sizes), ("apostille/algs.rows", laid_apostille_algs_rows), ("unicode/utf8.first", laid_unicode_utf8_first)] }
def EvidFirstSaid : Prop := evidFirstRow.holds Tryz.pinned (OpenSpec.ofChange evidFirstSpec)

/-- ITS FALSE NEIGHBOUR: 'it returns false'. Refute it at one input. -/
def evidFirstWrong : ChangeSpec := { name := "evidFirst", fn := fun _ => fun
  | [d1, d2, d3] => { results := [.lit (.bool false)], args := [d1, d2, d3] }
  | _ => none }
def EvidFirstWrongFalsely : Prop := evidFirstRow.holds Tryz.pinned (OpenSpec.ofChange evidFirstWrong)

/-- 'apostillelaw39.EvidTells': WHATEVER THE INPUT: true; the input reads as it did. -/
def evidTellsSpec : ChangeSpec := { name := "evidTells", fn := fun _ => fun
  | [d1, d2, d3] => { results := [.lit (.bool true)], args := [d1, d2, d3] }
  | _ => none }
def evidTellsRow : OpenClaim := { program := "ytoaakappnhemiaagreatdoor", sum := "3d6db4e4245ade536dc54e07d27a30c26322f47972ef7be23028830486df67ce", func := "apostille/apostillelaw39.EvidTells", spec := "evidTells", inPlace := ["internal/bytealg.Compare"], unfollowed := true, recurses := true, named := ["unicode/utf8.first", "unicode/utf8.acceptRanges", "apostille/algs.rows", "apostille/mac.sizes"], apart := false, laid := [("unicode/utf8.acceptRanges", laid_unicode_utf8_acceptRanges), ("apostille/mac.sizes", laid_apostille_mac_sizes), ("apostille/algs.rows", laid_apostille_algs_rows), ("unicode/utf8.first", laid_unicode_utf8_first)] }
def EvidTellsSaid : Prop := evidTellsRow.holds Tryz.pinned (OpenSpec.ofChange evidTellsSpec)

/-- ITS FALSE NEIGHBOUR: 'it returns false'. Refute it at one input. -/
def evidTellsWrong : ChangeSpec := { name := "evidTells", fn := fun _ => fun
  | [d1, d2, d3] => { results := [.lit (.bool false)], args := [d1, d2, d3] }
  | _ => none }
def EvidTellsWrongFalsely : Prop := evidTellsRow.holds Tryz.pinned (OpenSpec.ofChange evidTellsWrong)

/- THE SECOND FORM. 'bulk': how many values and letters a reading holds, each counted each time it is reached (what is shared counts as often as it is met; a slice's spare places count too). A statement '..UptoSaid' is the law's where the arguments, and the package variables that the reading takes, are together of bulk at most 1048576: NARROWER than '..Said'. Prove '..Said' where nothing that the law and all that it calls make is longer than what came in: it says more and counts as full. Else prove '..UptoSaid'. A law counts once. -/
mutual
def uptoBulk {H : Type} : DataW H → Nat
  | .lit (.string bytes) => bytes.length + 1
  | .lit _ => 1
  | .nil => 1
  | .ptr d => uptoBulk d + 1
  | .slice elems spare => uptoBulkAll elems + uptoBulkAll spare + 1
  | .agg parts => uptoBulkAll parts + 1
  | .iface _ d => uptoBulk d + 1
  | .map entries => uptoBulkEntries entries + 1
  | .held _ => 1
def uptoBulkAll {H : Type} : List (DataW H) → Nat
  | [] => 0
  | d :: r => uptoBulk d + uptoBulkAll r
def uptoBulkEntries {H : Type} : List (Lit × DataW H) → Nat
  | [] => 0
  | x :: r => uptoBulkEntry x + uptoBulkEntries r
def uptoBulkEntry {H : Type} : Lit × DataW H → Nat
  | (.string bytes, d) => bytes.length + uptoBulk d + 1
  | (_, d) => uptoBulk d + 1
 end
def uptoSmall : (H : Type) → List (DataW H) → Bool := fun _ ds => decide (uptoBulkAll ds ≤ 1048576)
def OpenSpec.upto (s : _root_.Go.ChangeSpec) : _root_.Go.OpenSpec := { _root_.Go.OpenSpec.ofChange s with cond := some uptoSmall }

/-- 'apostillelaw39.EvidReads', WHERE WHAT IT READS IS OF BULK AT MOST 1048576: true; the input reads as it did. -/
def evidReadsUptoRow : OpenClaim := { program := "ytoaakappnhemiaagreatdoor", sum := "3d6db4e4245ade536dc54e07d27a30c26322f47972ef7be23028830486df67ce", func := "apostille/apostillelaw39.EvidReads", spec := "evidReads", inPlace := ["internal/bytealg.Compare"], unfollowed := true, recurses := true, named := ["unicode/utf8.first", "unicode/utf8.acceptRanges", "apostille/algs.rows", "apostille/mac.sizes"], apart := false, laid := [("unicode/utf8.acceptRanges", laid_unicode_utf8_acceptRanges), ("apostille/mac.sizes", laid_apostille_mac_sizes), ("apostille/algs.rows", laid_apostille_algs_rows), ("unicode/utf8.first", laid_unicode_utf8_first)], narrowed := true }
def EvidReadsUptoSaid : Prop := evidReadsUptoRow.holds Tryz.pinned (OpenSpec.upto evidReadsSpec)

/-- 'apostillelaw39.EvidBack', WHERE WHAT IT READS IS OF BULK AT MOST 1048576: true; the input reads as it did. -/
def evidBackUptoRow : OpenClaim := { program := "ytoaakappnhemiaagreatdoor", sum := "3d6db4e4245ade536dc54e07d27a30c26322f47972ef7be23028830486df67ce", func := "apostille/apostillelaw39.EvidBack", spec := "evidBack", inPlace := ["internal/bytealg.Compare"], unfollowed := true, recurses := true, named := ["unicode/utf8.first", "unicode/utf8.acceptRanges", "apostille/algs.rows", "apostille/mac.sizes"], apart := false, laid := [("unicode/utf8.acceptRanges", laid_unicode_utf8_acceptRanges), ("apostille/mac.sizes", laid_apostille_mac_sizes), ("apostille/algs.rows", laid_apostille_algs_rows), ("unicode/utf8.first", laid_unicode_utf8_first)], narrowed := true }
def EvidBackUptoSaid : Prop := evidBackUptoRow.holds Tryz.pinned (OpenSpec.upto evidBackSpec)

/-- 'apostillelaw39.EvidFirst', WHERE WHAT IT READS IS OF BULK AT MOST 1048576: true; the input reads as it did. -/
def evidFirstUptoRow : OpenClaim := { program := "ytoaakappnhemiaagreatdoor", sum := "3d6db4e4245ade536dc54e07d27a30c26322f47972ef7be23028830486df67ce", func := "apostille/apostillelaw39.EvidFirst", spec := "evidFirst", inPlace := ["internal/bytealg.Compare"], unfollowed := true, recurses := true, named := ["unicode/utf8.first", "unicode/utf8.acceptRanges", "apostille/algs.rows", "apostille/mac.sizes"], apart := false, laid := [("unicode/utf8.acceptRanges", laid_unicode_utf8_acceptRanges), ("apostille/mac.sizes", laid_apostille_mac_sizes), ("apostille/algs.rows", laid_apostille_algs_rows), ("unicode/utf8.first", laid_unicode_utf8_first)], narrowed := true }
def EvidFirstUptoSaid : Prop := evidFirstUptoRow.holds Tryz.pinned (OpenSpec.upto evidFirstSpec)

/-- 'apostillelaw39.EvidTells', WHERE WHAT IT READS IS OF BULK AT MOST 1048576: true; the input reads as it did. -/
def evidTellsUptoRow : OpenClaim := { program := "ytoaakappnhemiaagreatdoor", sum := "3d6db4e4245ade536dc54e07d27a30c26322f47972ef7be23028830486df67ce", func := "apostille/apostillelaw39.EvidTells", spec := "evidTells", inPlace := ["internal/bytealg.Compare"], unfollowed := true, recurses := true, named := ["unicode/utf8.first", "unicode/utf8.acceptRanges", "apostille/algs.rows", "apostille/mac.sizes"], apart := false, laid := [("unicode/utf8.acceptRanges", laid_unicode_utf8_acceptRanges), ("apostille/mac.sizes", laid_apostille_mac_sizes), ("apostille/algs.rows", laid_apostille_algs_rows), ("unicode/utf8.first", laid_unicode_utf8_first)], narrowed := true }
def EvidTellsUptoSaid : Prop := evidTellsUptoRow.holds Tryz.pinned (OpenSpec.upto evidTellsSpec)

end Rows
end Go.Proofs.YtoaakappnhemiaaGreatDoor

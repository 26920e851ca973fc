/-
  NARROWER THAN 'FOR EVERY INPUT', by the rows' own cells (each row's printed sentence says how): ValueFit: loops, laid · ValueTells: loops, laid · AlgsTells: laid · ValueParts: loops, laid · AlgsBack: loops, laid · ValueMakes: laid.
  DERIVED. THE GIVEN ROWS OF THIS SEAT. 6 by the template 'for every input the law returns true; each argument reads behind the call as it read before'; 0 by the template 'total and deterministic' (their statements: YtfkpjbbkdkcdcaaDoorTotals.lean).
  GIVEN WITH THE SEED: the statements are not yours to turn. If you find one false, say at which input.
  Laid BY PROGRAM, IN A SANDBOX (cutbox-rows.mjs): the forced cells as the released guide's own fill.sh prints them over the translation 1251db8ad98ecf79… (all of the seat's roots in one cut). By AI agents, Wed Nov 11 2026. No macro, syntax, notation, axiom, sorry.
-/
import Derived.Test.YtfkpjbbkdkcdcaaDoorChecked
import GoSem.PinnedTables
import GoSem.Claim
import GoSem.ClaimJoined
import GoSem.ClaimMapViews
import Derived.JoinedTies
import Derived.KernelRfl
namespace Go.Proofs.YtfkpjbbkdkcdcaaDoor
/- THE CELL 'sum', in the pinned program and in every row, IS THE sha256 OF THE DUMP (.gsa) THAT YtfkpjbbkdkcdcaaDoorProg.lean LOADS. Nothing in Lean hashes anything: it is a label: what it is worth is what the hold of that sum in a sandbox is worth. -/
noncomputable def Tryd.pinned : Pinned := { name := "ytfkpjbbkdkcdcaadoor", sum := "1251db8ad98ecf79f986253f8e396ff61bb0ddc330b4f2dedd5df6c6fda210b7", checked := Tryd.checked }
namespace Rows
def none {H : Type} : Left H := { results := [], args := [] }

/- WHAT THE LISTED PACKAGE-LEVEL VARIABLES READ AS WHEN THE CALL BEGINS. Each datum BY PROGRAM (the guide's laid-datum.mjs) off the statement by which the dump's own 'gosem.cut.vars' lays the variable. In a bare row this is a premise. The card (YtfkpjbbkdkcdcaaDoorCards.lean) ties it to the program's text. -/
def laid_unicode_utf8_acceptRanges {H : Type} : DataW H := .agg [.agg [.lit (.int .u8 128), .lit (.int .u8 191)], .agg [.lit (.int .u8 160), .lit (.int .u8 191)], .agg [.lit (.int .u8 128), .lit (.int .u8 159)], .agg [.lit (.int .u8 144), .lit (.int .u8 191)], .agg [.lit (.int .u8 128), .lit (.int .u8 143)], .agg [.lit (.int .u8 0), .lit (.int .u8 0)], .agg [.lit (.int .u8 0), .lit (.int .u8 0)], .agg [.lit (.int .u8 0), .lit (.int .u8 0)], .agg [.lit (.int .u8 0), .lit (.int .u8 0)], .agg [.lit (.int .u8 0), .lit (.int .u8 0)], .agg [.lit (.int .u8 0), .lit (.int .u8 0)], .agg [.lit (.int .u8 0), .lit (.int .u8 0)], .agg [.lit (.int .u8 0), .lit (.int .u8 0)], .agg [.lit (.int .u8 0), .lit (.int .u8 0)], .agg [.lit (.int .u8 0), .lit (.int .u8 0)], .agg [.lit (.int .u8 0), .lit (.int .u8 0)]]
/-- One of Go's own tables, pinned by name: the form's constant. -/
def laid_unicode_utf8_first : DataW Unit := Go.Pinned.utf8First
def laid_apostille_slh_kinds {H : Type} : DataW H := .agg [.agg [.lit (.int .i64 16), .lit (.int .i64 63), .lit (.int .i64 7), .lit (.int .i64 12), .lit (.int .i64 14)], .agg [.lit (.int .i64 16), .lit (.int .i64 66), .lit (.int .i64 22), .lit (.int .i64 6), .lit (.int .i64 33)], .agg [.lit (.int .i64 24), .lit (.int .i64 63), .lit (.int .i64 7), .lit (.int .i64 14), .lit (.int .i64 17)], .agg [.lit (.int .i64 24), .lit (.int .i64 66), .lit (.int .i64 22), .lit (.int .i64 8), .lit (.int .i64 33)], .agg [.lit (.int .i64 32), .lit (.int .i64 64), .lit (.int .i64 8), .lit (.int .i64 14), .lit (.int .i64 22)], .agg [.lit (.int .i64 32), .lit (.int .i64 68), .lit (.int .i64 17), .lit (.int .i64 9), .lit (.int .i64 35)]]
def laid_apostille_algs_rows {H : Type} : DataW H := .agg [.agg [.lit (.int .i64 1), .lit (.int .i64 3), .lit (.int .i64 1), .lit (.int .i64 0), .lit (.int .i64 1), .lit (.int .i64 1)], .agg [.lit (.int .i64 4), .lit (.int .i64 2), .lit (.int .i64 1), .lit (.int .i64 0), .lit (.int .i64 8), .lit (.int .i64 2)], .agg [.lit (.int .i64 6), .lit (.int .i64 2), .lit (.int .i64 1), .lit (.int .i64 0), .lit (.int .i64 11), .lit (.int .i64 1)], .agg [.lit (.int .i64 11), .lit (.int .i64 3), .lit (.int .i64 2), .lit (.int .i64 1), .lit (.int .i64 17), .lit (.int .i64 1)], .agg [.lit (.int .i64 33), .lit (.int .i64 2), .lit (.int .i64 2), .lit (.int .i64 5), .lit (.int .i64 1), .lit (.int .i64 1)], .agg [.lit (.int .i64 41), .lit (.int .i64 1), .lit (.int .i64 2), .lit (.int .i64 4), .lit (.int .i64 17), .lit (.int .i64 1)], .agg [.lit (.int .i64 51), .lit (.int .i64 3), .lit (.int .i64 3), .lit (.int .i64 2), .lit (.int .i64 1), .lit (.int .i64 1)], .agg [.lit (.int .i64 61), .lit (.int .i64 3), .lit (.int .i64 4), .lit (.int .i64 4), .lit (.int .i64 28), .lit (.int .i64 1)], .agg [.lit (.int .i64 71), .lit (.int .i64 3), .lit (.int .i64 5), .lit (.int .i64 3), .lit (.int .i64 5), .lit (.int .i64 20)], .agg [.lit (.int .i64 81), .lit (.int .i64 3), .lit (.int .i64 6), .lit (.int .i64 3), .lit (.int .i64 2), .lit (.int .i64 20)], .agg [.lit (.int .i64 91), .lit (.int .i64 3), .lit (.int .i64 7), .lit (.int .i64 3), .lit (.int .i64 6), .lit (.int .i64 20)]]

/-- 'apostillelaw06.ValueFit': WHATEVER THE INPUT: true; the input reads as it did. -/
def valueFitSpec : ChangeSpec := { name := "valueFit", fn := fun _ => fun
  | [d1, d2, d3, d4] => { results := [.lit (.bool true)], args := [d1, d2, d3, d4] }
  | _ => none }
def valueFitRow : OpenClaim := { program := "ytfkpjbbkdkcdcaadoor", sum := "1251db8ad98ecf79f986253f8e396ff61bb0ddc330b4f2dedd5df6c6fda210b7", func := "apostille/apostillelaw06.ValueFit", spec := "valueFit", inPlace := ["internal/bytealg.Compare"], unfollowed := true, recurses := true, named := ["unicode/utf8.first", "unicode/utf8.acceptRanges"], loops := true, apart := false, laid := [("unicode/utf8.acceptRanges", laid_unicode_utf8_acceptRanges), ("unicode/utf8.first", laid_unicode_utf8_first)] }
def ValueFitSaid : Prop := valueFitRow.holds Tryd.pinned (OpenSpec.ofChange valueFitSpec)

/-- ITS FALSE NEIGHBOUR: 'it returns false'. Refute it at one input. -/
def valueFitWrong : ChangeSpec := { name := "valueFit", fn := fun _ => fun
  | [d1, d2, d3, d4] => { results := [.lit (.bool false)], args := [d1, d2, d3, d4] }
  | _ => none }
def ValueFitWrongFalsely : Prop := valueFitRow.holds Tryd.pinned (OpenSpec.ofChange valueFitWrong)

/-- 'apostillelaw06.ValueTells': WHATEVER THE INPUT: true; the input reads as it did. -/
def valueTellsSpec : ChangeSpec := { name := "valueTells", fn := fun _ => fun
  | [d] => { results := [.lit (.bool true)], args := [d] }
  | _ => none }
def valueTellsRow : OpenClaim := { program := "ytfkpjbbkdkcdcaadoor", sum := "1251db8ad98ecf79f986253f8e396ff61bb0ddc330b4f2dedd5df6c6fda210b7", func := "apostille/apostillelaw06.ValueTells", spec := "valueTells", inPlace := ["internal/bytealg.Compare"], unfollowed := true, recurses := true, named := ["unicode/utf8.first", "unicode/utf8.acceptRanges"], loops := true, apart := false, laid := [("unicode/utf8.acceptRanges", laid_unicode_utf8_acceptRanges), ("unicode/utf8.first", laid_unicode_utf8_first)] }
def ValueTellsSaid : Prop := valueTellsRow.holds Tryd.pinned (OpenSpec.ofChange valueTellsSpec)

/-- ITS FALSE NEIGHBOUR: 'it returns false'. Refute it at one input. -/
def valueTellsWrong : ChangeSpec := { name := "valueTells", fn := fun _ => fun
  | [d] => { results := [.lit (.bool false)], args := [d] }
  | _ => none }
def ValueTellsWrongFalsely : Prop := valueTellsRow.holds Tryd.pinned (OpenSpec.ofChange valueTellsWrong)

/-- 'apostillelaw30.AlgsTells': WHATEVER THE INPUT: true; the input reads as it did. -/
def algsTellsSpec : ChangeSpec := { name := "algsTells", fn := fun _ => fun
  | [d1, d2] => { results := [.lit (.bool true)], args := [d1, d2] }
  | _ => none }
def algsTellsRow : OpenClaim := { program := "ytfkpjbbkdkcdcaadoor", sum := "1251db8ad98ecf79f986253f8e396ff61bb0ddc330b4f2dedd5df6c6fda210b7", func := "apostille/apostillelaw30.AlgsTells", spec := "algsTells", inPlace := ["internal/bytealg.Compare"], unfollowed := true, recurses := true, named := ["apostille/algs.rows", "unicode/utf8.first", "unicode/utf8.acceptRanges", "apostille/slh.kinds"], apart := false, laid := [("unicode/utf8.acceptRanges", laid_unicode_utf8_acceptRanges), ("apostille/slh.kinds", laid_apostille_slh_kinds), ("apostille/algs.rows", laid_apostille_algs_rows), ("unicode/utf8.first", laid_unicode_utf8_first)] }
def AlgsTellsSaid : Prop := algsTellsRow.holds Tryd.pinned (OpenSpec.ofChange algsTellsSpec)

/-- ITS FALSE NEIGHBOUR: 'it returns false'. Refute it at one input. -/
def algsTellsWrong : ChangeSpec := { name := "algsTells", fn := fun _ => fun
  | [d1, d2] => { results := [.lit (.bool false)], args := [d1, d2] }
  | _ => none }
def AlgsTellsWrongFalsely : Prop := algsTellsRow.holds Tryd.pinned (OpenSpec.ofChange algsTellsWrong)

/-- 'apostillelaw06.ValueParts': WHATEVER THE INPUT: true; the input reads as it did. -/
def valuePartsSpec : ChangeSpec := { name := "valueParts", fn := fun _ => fun
  | [d1, d2, d3, d4, d5] => { results := [.lit (.bool true)], args := [d1, d2, d3, d4, d5] }
  | _ => none }
def valuePartsRow : OpenClaim := { program := "ytfkpjbbkdkcdcaadoor", sum := "1251db8ad98ecf79f986253f8e396ff61bb0ddc330b4f2dedd5df6c6fda210b7", func := "apostille/apostillelaw06.ValueParts", spec := "valueParts", inPlace := ["internal/bytealg.Compare"], unfollowed := true, recurses := true, named := ["unicode/utf8.first", "unicode/utf8.acceptRanges"], loops := true, apart := false, laid := [("unicode/utf8.acceptRanges", laid_unicode_utf8_acceptRanges), ("unicode/utf8.first", laid_unicode_utf8_first)] }
def ValuePartsSaid : Prop := valuePartsRow.holds Tryd.pinned (OpenSpec.ofChange valuePartsSpec)

/-- ITS FALSE NEIGHBOUR: 'it returns false'. Refute it at one input. -/
def valuePartsWrong : ChangeSpec := { name := "valueParts", fn := fun _ => fun
  | [d1, d2, d3, d4, d5] => { results := [.lit (.bool false)], args := [d1, d2, d3, d4, d5] }
  | _ => none }
def ValuePartsWrongFalsely : Prop := valuePartsRow.holds Tryd.pinned (OpenSpec.ofChange valuePartsWrong)

/-- 'apostillelaw30.AlgsBack': WHATEVER THE INPUT: true; the input reads as it did. -/
def algsBackSpec : ChangeSpec := { name := "algsBack", fn := fun _ => fun
  | [d1, d2, d3, d4] => { results := [.lit (.bool true)], args := [d1, d2, d3, d4] }
  | _ => none }
def algsBackRow : OpenClaim := { program := "ytfkpjbbkdkcdcaadoor", sum := "1251db8ad98ecf79f986253f8e396ff61bb0ddc330b4f2dedd5df6c6fda210b7", func := "apostille/apostillelaw30.AlgsBack", spec := "algsBack", inPlace := ["internal/bytealg.Compare"], unfollowed := true, recurses := true, named := ["apostille/algs.rows", "unicode/utf8.first", "unicode/utf8.acceptRanges"], loops := true, apart := false, laid := [("unicode/utf8.acceptRanges", laid_unicode_utf8_acceptRanges), ("apostille/algs.rows", laid_apostille_algs_rows), ("unicode/utf8.first", laid_unicode_utf8_first)] }
def AlgsBackSaid : Prop := algsBackRow.holds Tryd.pinned (OpenSpec.ofChange algsBackSpec)

/-- ITS FALSE NEIGHBOUR: 'it returns false'. Refute it at one input. -/
def algsBackWrong : ChangeSpec := { name := "algsBack", fn := fun _ => fun
  | [d1, d2, d3, d4] => { results := [.lit (.bool false)], args := [d1, d2, d3, d4] }
  | _ => none }
def AlgsBackWrongFalsely : Prop := algsBackRow.holds Tryd.pinned (OpenSpec.ofChange algsBackWrong)

/-- 'apostillelaw06.ValueMakes': WHATEVER THE INPUT: true; the input reads as it did. -/
def valueMakesSpec : ChangeSpec := { name := "valueMakes", fn := fun _ => fun
  | [d1, d2, d3, d4] => { results := [.lit (.bool true)], args := [d1, d2, d3, d4] }
  | _ => none }
def valueMakesRow : OpenClaim := { program := "ytfkpjbbkdkcdcaadoor", sum := "1251db8ad98ecf79f986253f8e396ff61bb0ddc330b4f2dedd5df6c6fda210b7", func := "apostille/apostillelaw06.ValueMakes", spec := "valueMakes", inPlace := ["internal/bytealg.Compare"], unfollowed := true, recurses := true, named := ["unicode/utf8.first", "unicode/utf8.acceptRanges"], apart := false, laid := [("unicode/utf8.acceptRanges", laid_unicode_utf8_acceptRanges), ("unicode/utf8.first", laid_unicode_utf8_first)] }
def ValueMakesSaid : Prop := valueMakesRow.holds Tryd.pinned (OpenSpec.ofChange valueMakesSpec)

/-- ITS FALSE NEIGHBOUR: 'it returns false'. Refute it at one input. -/
def valueMakesWrong : ChangeSpec := { name := "valueMakes", fn := fun _ => fun
  | [d1, d2, d3, d4] => { results := [.lit (.bool false)], args := [d1, d2, d3, d4] }
  | _ => none }
def ValueMakesWrongFalsely : Prop := valueMakesRow.holds Tryd.pinned (OpenSpec.ofChange valueMakesWrong)

/- THE SECOND FORM. 'bulk': how many values and letters a reading holds, each counted each time it is reached (what is shared counts as often as it is met; a slice's spare places count too). A statement '..UptoSaid' is the law's where the arguments, and the package variables that the reading takes, are together of bulk at most 1048576: NARROWER than '..Said'. Prove '..Said' where nothing that the law and all that it calls make is longer than what came in: it says more and counts as full. Else prove '..UptoSaid'. A law counts once. -/
mutual
def uptoBulk {H : Type} : DataW H → Nat
  | .lit (.string bytes) => bytes.length + 1
  | .lit _ => 1
  | .nil => 1
  | .ptr d => uptoBulk d + 1
  | .slice elems spare => uptoBulkAll elems + uptoBulkAll spare + 1
  | .agg parts => uptoBulkAll parts + 1
  | .iface _ d => uptoBulk d + 1
  | .map entries => uptoBulkEntries entries + 1
  | .held _ => 1
def uptoBulkAll {H : Type} : List (DataW H) → Nat
  | [] => 0
  | d :: r => uptoBulk d + uptoBulkAll r
def uptoBulkEntries {H : Type} : List (Lit × DataW H) → Nat
  | [] => 0
  | x :: r => uptoBulkEntry x + uptoBulkEntries r
def uptoBulkEntry {H : Type} : Lit × DataW H → Nat
  | (.string bytes, d) => bytes.length + uptoBulk d + 1
  | (_, d) => uptoBulk d + 1
 end
def uptoSmall : (H : Type) → List (DataW H) → Bool := fun _ ds => decide (uptoBulkAll ds ≤ 1048576)
def OpenSpec.upto (s : _root_.Go.ChangeSpec) : _root_.Go.OpenSpec := { _root_.Go.OpenSpec.ofChange s with cond := some uptoSmall }

/-- 'apostillelaw06.ValueFit', WHERE WHAT IT READS IS OF BULK AT MOST 1048576: true; the input reads as it did. -/
def valueFitUptoRow : OpenClaim := { program := "ytfkpjbbkdkcdcaadoor", sum := "1251db8ad98ecf79f986253f8e396ff61bb0ddc330b4f2dedd5df6c6fda210b7", func := "apostille/apostillelaw06.ValueFit", spec := "valueFit", inPlace := ["internal/bytealg.Compare"], unfollowed := true, recurses := true, named := ["unicode/utf8.first", "unicode/utf8.acceptRanges"], loops := true, apart := false, laid := [("unicode/utf8.acceptRanges", laid_unicode_utf8_acceptRanges), ("unicode/utf8.first", laid_unicode_utf8_first)], narrowed := true }
def ValueFitUptoSaid : Prop := valueFitUptoRow.holds Tryd.pinned (OpenSpec.upto valueFitSpec)

/-- 'apostillelaw06.ValueTells', WHERE WHAT IT READS IS OF BULK AT MOST 1048576: true; the input reads as it did. -/
def valueTellsUptoRow : OpenClaim := { program := "ytfkpjbbkdkcdcaadoor", sum := "1251db8ad98ecf79f986253f8e396ff61bb0ddc330b4f2dedd5df6c6fda210b7", func := "apostille/apostillelaw06.ValueTells", spec := "valueTells", inPlace := ["internal/bytealg.Compare"], unfollowed := true, recurses := true, named := ["unicode/utf8.first", "unicode/utf8.acceptRanges"], loops := true, apart := false, laid := [("unicode/utf8.acceptRanges", laid_unicode_utf8_acceptRanges), ("unicode/utf8.first", laid_unicode_utf8_first)], narrowed := true }
def ValueTellsUptoSaid : Prop := valueTellsUptoRow.holds Tryd.pinned (OpenSpec.upto valueTellsSpec)

/-- 'apostillelaw30.AlgsTells', WHERE WHAT IT READS IS OF BULK AT MOST 1048576: true; the input reads as it did. -/
def algsTellsUptoRow : OpenClaim := { program := "ytfkpjbbkdkcdcaadoor", sum := "1251db8ad98ecf79f986253f8e396ff61bb0ddc330b4f2dedd5df6c6fda210b7", func := "apostille/apostillelaw30.AlgsTells", spec := "algsTells", inPlace := ["internal/bytealg.Compare"], unfollowed := true, recurses := true, named := ["apostille/algs.rows", "unicode/utf8.first", "unicode/utf8.acceptRanges", "apostille/slh.kinds"], apart := false, laid := [("unicode/utf8.acceptRanges", laid_unicode_utf8_acceptRanges), ("apostille/slh.kinds", laid_apostille_slh_kinds), ("apostille/algs.rows", laid_apostille_algs_rows), ("unicode/utf8.first", laid_unicode_utf8_first)], narrowed := true }
def AlgsTellsUptoSaid : Prop := algsTellsUptoRow.holds Tryd.pinned (OpenSpec.upto algsTellsSpec)

/-- 'apostillelaw06.ValueParts', WHERE WHAT IT READS IS OF BULK AT MOST 1048576: true; the input reads as it did. -/
def valuePartsUptoRow : OpenClaim := { program := "ytfkpjbbkdkcdcaadoor", sum := "1251db8ad98ecf79f986253f8e396ff61bb0ddc330b4f2dedd5df6c6fda210b7", func := "apostille/apostillelaw06.ValueParts", spec := "valueParts", inPlace := ["internal/bytealg.Compare"], unfollowed := true, recurses := true, named := ["unicode/utf8.first", "unicode/utf8.acceptRanges"], loops := true, apart := false, laid := [("unicode/utf8.acceptRanges", laid_unicode_utf8_acceptRanges), ("unicode/utf8.first", laid_unicode_utf8_first)], narrowed := true }
def ValuePartsUptoSaid : Prop := valuePartsUptoRow.holds Tryd.pinned (OpenSpec.upto valuePartsSpec)

/-- 'apostillelaw30.AlgsBack', WHERE WHAT IT READS IS OF BULK AT MOST 1048576: true; the input reads as it did. -/
def algsBackUptoRow : OpenClaim := { program := "ytfkpjbbkdkcdcaadoor", sum := "1251db8ad98ecf79f986253f8e396ff61bb0ddc330b4f2dedd5df6c6fda210b7", func := "apostille/apostillelaw30.AlgsBack", spec := "algsBack", inPlace := ["internal/bytealg.Compare"], unfollowed := true, recurses := true, named := ["apostille/algs.rows", "unicode/utf8.first", "unicode/utf8.acceptRanges"], loops := true, apart := false, laid := [("unicode/utf8.acceptRanges", laid_unicode_utf8_acceptRanges), ("apostille/algs.rows", laid_apostille_algs_rows), ("unicode/utf8.first", laid_unicode_utf8_first)], narrowed := true }
def AlgsBackUptoSaid : Prop := algsBackUptoRow.holds Tryd.pinned (OpenSpec.upto algsBackSpec)

/-- 'apostillelaw06.ValueMakes', WHERE WHAT IT READS IS OF BULK AT MOST 1048576: true; the input reads as it did. -/
def valueMakesUptoRow : OpenClaim := { program := "ytfkpjbbkdkcdcaadoor", sum := "1251db8ad98ecf79f986253f8e396ff61bb0ddc330b4f2dedd5df6c6fda210b7", func := "apostille/apostillelaw06.ValueMakes", spec := "valueMakes", inPlace := ["internal/bytealg.Compare"], unfollowed := true, recurses := true, named := ["unicode/utf8.first", "unicode/utf8.acceptRanges"], apart := false, laid := [("unicode/utf8.acceptRanges", laid_unicode_utf8_acceptRanges), ("unicode/utf8.first", laid_unicode_utf8_first)], narrowed := true }
def ValueMakesUptoSaid : Prop := valueMakesUptoRow.holds Tryd.pinned (OpenSpec.upto valueMakesSpec)

end Rows
end Go.Proofs.YtfkpjbbkdkcdcaaDoor

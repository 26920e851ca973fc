/-
  NARROWER THAN 'FOR EVERY INPUT', by the rows' own cells (each row's printed sentence says how): DerReads: laid · DerDeep: laid · DerAll: loops, laid · DerBack: loops, laid · DerTells: loops, laid.
  DERIVED. THE GIVEN ROWS OF THIS SEAT. 5 by the template 'for every input the law returns true; each argument reads behind the call as it read before'; 0 by the template 'total and deterministic' (their statements: YtbgkadaidhgggaaDoorTotals.lean).
  GIVEN WITH THE SEED: the statements are not yours to turn. If you find one false, say at which input.
  Laid BY PROGRAM, IN A SANDBOX (cutbox-rows.mjs): the forced cells as the released guide's own fill.sh prints them over the translation 78ef051d65b9a98d… (all of the seat's roots in one cut). By AI agents, Wed Nov 11 2026. No macro, syntax, notation, axiom, sorry.
-/
import Derived.Test.YtbgkadaidhgggaaDoorChecked
import GoSem.PinnedTables
import GoSem.Claim
import GoSem.ClaimJoined
import GoSem.ClaimMapViews
import Derived.JoinedTies
import Derived.KernelRfl
namespace Go.Proofs.YtbgkadaidhgggaaDoor
/- THE CELL 'sum', in the pinned program and in every row, IS THE sha256 OF THE DUMP (.gsa) THAT YtbgkadaidhgggaaDoorProg.lean LOADS. Nothing in Lean hashes anything: it is a label: what it is worth is what the hold of that sum in a sandbox is worth. -/
noncomputable def Tryd.pinned : Pinned := { name := "ytbgkadaidhgggaadoor", sum := "78ef051d65b9a98d1cf47e3a423a11e5bd6c09c8991851bda40fa26242e29583", checked := Tryd.checked }
namespace Rows
def none {H : Type} : Left H := { results := [], args := [] }

/- WHAT THE LISTED PACKAGE-LEVEL VARIABLES READ AS WHEN THE CALL BEGINS. Each datum BY PROGRAM (the guide's laid-datum.mjs) off the statement by which the dump's own 'gosem.cut.vars' lays the variable. In a bare row this is a premise. The card (YtbgkadaidhgggaaDoorCards.lean) ties it to the program's text. -/
def laid_unicode_utf8_acceptRanges {H : Type} : DataW H := .agg [.agg [.lit (.int .u8 128), .lit (.int .u8 191)], .agg [.lit (.int .u8 160), .lit (.int .u8 191)], .agg [.lit (.int .u8 128), .lit (.int .u8 159)], .agg [.lit (.int .u8 144), .lit (.int .u8 191)], .agg [.lit (.int .u8 128), .lit (.int .u8 143)], .agg [.lit (.int .u8 0), .lit (.int .u8 0)], .agg [.lit (.int .u8 0), .lit (.int .u8 0)], .agg [.lit (.int .u8 0), .lit (.int .u8 0)], .agg [.lit (.int .u8 0), .lit (.int .u8 0)], .agg [.lit (.int .u8 0), .lit (.int .u8 0)], .agg [.lit (.int .u8 0), .lit (.int .u8 0)], .agg [.lit (.int .u8 0), .lit (.int .u8 0)], .agg [.lit (.int .u8 0), .lit (.int .u8 0)], .agg [.lit (.int .u8 0), .lit (.int .u8 0)], .agg [.lit (.int .u8 0), .lit (.int .u8 0)], .agg [.lit (.int .u8 0), .lit (.int .u8 0)]]
/-- One of Go's own tables, pinned by name: the form's constant. -/
def laid_unicode_utf8_first : DataW Unit := Go.Pinned.utf8First

/-- 'apostillelaw05.DerReads': WHATEVER THE INPUT: true; the input reads as it did. -/
def derReadsSpec : ChangeSpec := { name := "derReads", fn := fun _ => fun
  | [d] => { results := [.lit (.bool true)], args := [d] }
  | _ => none }
def derReadsRow : OpenClaim := { program := "ytbgkadaidhgggaadoor", sum := "78ef051d65b9a98d1cf47e3a423a11e5bd6c09c8991851bda40fa26242e29583", func := "apostille/apostillelaw05.DerReads", spec := "derReads", inPlace := ["internal/bytealg.Compare"], unfollowed := true, recurses := true, named := ["unicode/utf8.first", "unicode/utf8.acceptRanges"], apart := false, laid := [("unicode/utf8.acceptRanges", laid_unicode_utf8_acceptRanges), ("unicode/utf8.first", laid_unicode_utf8_first)] }
def DerReadsSaid : Prop := derReadsRow.holds Tryd.pinned (OpenSpec.ofChange derReadsSpec)

/-- ITS FALSE NEIGHBOUR: 'it returns false'. Refute it at one input. -/
def derReadsWrong : ChangeSpec := { name := "derReads", fn := fun _ => fun
  | [d] => { results := [.lit (.bool false)], args := [d] }
  | _ => none }
def DerReadsWrongFalsely : Prop := derReadsRow.holds Tryd.pinned (OpenSpec.ofChange derReadsWrong)

/-- 'apostillelaw05.DerDeep': WHATEVER THE INPUT: true; the input reads as it did. -/
def derDeepSpec : ChangeSpec := { name := "derDeep", fn := fun _ => fun
  | [d] => { results := [.lit (.bool true)], args := [d] }
  | _ => none }
def derDeepRow : OpenClaim := { program := "ytbgkadaidhgggaadoor", sum := "78ef051d65b9a98d1cf47e3a423a11e5bd6c09c8991851bda40fa26242e29583", func := "apostille/apostillelaw05.DerDeep", spec := "derDeep", inPlace := ["internal/bytealg.Compare"], unfollowed := true, recurses := true, named := ["unicode/utf8.first", "unicode/utf8.acceptRanges"], apart := false, laid := [("unicode/utf8.acceptRanges", laid_unicode_utf8_acceptRanges), ("unicode/utf8.first", laid_unicode_utf8_first)] }
def DerDeepSaid : Prop := derDeepRow.holds Tryd.pinned (OpenSpec.ofChange derDeepSpec)

/-- ITS FALSE NEIGHBOUR: 'it returns false'. Refute it at one input. -/
def derDeepWrong : ChangeSpec := { name := "derDeep", fn := fun _ => fun
  | [d] => { results := [.lit (.bool false)], args := [d] }
  | _ => none }
def DerDeepWrongFalsely : Prop := derDeepRow.holds Tryd.pinned (OpenSpec.ofChange derDeepWrong)

/-- 'apostillelaw05.DerAll': WHATEVER THE INPUT: true; the input reads as it did. -/
def derAllSpec : ChangeSpec := { name := "derAll", fn := fun _ => fun
  | [d1, d2, d3, d4] => { results := [.lit (.bool true)], args := [d1, d2, d3, d4] }
  | _ => none }
def derAllRow : OpenClaim := { program := "ytbgkadaidhgggaadoor", sum := "78ef051d65b9a98d1cf47e3a423a11e5bd6c09c8991851bda40fa26242e29583", func := "apostille/apostillelaw05.DerAll", spec := "derAll", inPlace := ["internal/bytealg.Compare"], unfollowed := true, recurses := true, named := ["unicode/utf8.first", "unicode/utf8.acceptRanges"], loops := true, apart := false, laid := [("unicode/utf8.acceptRanges", laid_unicode_utf8_acceptRanges), ("unicode/utf8.first", laid_unicode_utf8_first)] }
def DerAllSaid : Prop := derAllRow.holds Tryd.pinned (OpenSpec.ofChange derAllSpec)

/-- ITS FALSE NEIGHBOUR: 'it returns false'. Refute it at one input. -/
def derAllWrong : ChangeSpec := { name := "derAll", fn := fun _ => fun
  | [d1, d2, d3, d4] => { results := [.lit (.bool false)], args := [d1, d2, d3, d4] }
  | _ => none }
def DerAllWrongFalsely : Prop := derAllRow.holds Tryd.pinned (OpenSpec.ofChange derAllWrong)

/-- 'apostillelaw05.DerBack': WHATEVER THE INPUT: true; the input reads as it did. -/
def derBackSpec : ChangeSpec := { name := "derBack", fn := fun _ => fun
  | [d1, d2] => { results := [.lit (.bool true)], args := [d1, d2] }
  | _ => none }
def derBackRow : OpenClaim := { program := "ytbgkadaidhgggaadoor", sum := "78ef051d65b9a98d1cf47e3a423a11e5bd6c09c8991851bda40fa26242e29583", func := "apostille/apostillelaw05.DerBack", spec := "derBack", inPlace := ["internal/bytealg.Compare"], unfollowed := true, recurses := true, named := ["unicode/utf8.first", "unicode/utf8.acceptRanges"], loops := true, apart := false, laid := [("unicode/utf8.acceptRanges", laid_unicode_utf8_acceptRanges), ("unicode/utf8.first", laid_unicode_utf8_first)] }
def DerBackSaid : Prop := derBackRow.holds Tryd.pinned (OpenSpec.ofChange derBackSpec)

/-- ITS FALSE NEIGHBOUR: 'it returns false'. Refute it at one input. -/
def derBackWrong : ChangeSpec := { name := "derBack", fn := fun _ => fun
  | [d1, d2] => { results := [.lit (.bool false)], args := [d1, d2] }
  | _ => none }
def DerBackWrongFalsely : Prop := derBackRow.holds Tryd.pinned (OpenSpec.ofChange derBackWrong)

/-- 'apostillelaw05.DerTells': WHATEVER THE INPUT: true; the input reads as it did. -/
def derTellsSpec : ChangeSpec := { name := "derTells", fn := fun _ => fun
  | [d1, d2, d3] => { results := [.lit (.bool true)], args := [d1, d2, d3] }
  | _ => none }
def derTellsRow : OpenClaim := { program := "ytbgkadaidhgggaadoor", sum := "78ef051d65b9a98d1cf47e3a423a11e5bd6c09c8991851bda40fa26242e29583", func := "apostille/apostillelaw05.DerTells", spec := "derTells", inPlace := ["internal/bytealg.Compare"], unfollowed := true, recurses := true, named := ["unicode/utf8.first", "unicode/utf8.acceptRanges"], loops := true, apart := false, laid := [("unicode/utf8.acceptRanges", laid_unicode_utf8_acceptRanges), ("unicode/utf8.first", laid_unicode_utf8_first)] }
def DerTellsSaid : Prop := derTellsRow.holds Tryd.pinned (OpenSpec.ofChange derTellsSpec)

/-- ITS FALSE NEIGHBOUR: 'it returns false'. Refute it at one input. -/
def derTellsWrong : ChangeSpec := { name := "derTells", fn := fun _ => fun
  | [d1, d2, d3] => { results := [.lit (.bool false)], args := [d1, d2, d3] }
  | _ => none }
def DerTellsWrongFalsely : Prop := derTellsRow.holds Tryd.pinned (OpenSpec.ofChange derTellsWrong)

/- THE SECOND FORM. 'bulk': how many values and letters a reading holds, each counted each time it is reached (what is shared counts as often as it is met; a slice's spare places count too). A statement '..UptoSaid' is the law's where the arguments, and the package variables that the reading takes, are together of bulk at most 1048576: NARROWER than '..Said'. Prove '..Said' where nothing that the law and all that it calls make is longer than what came in: it says more and counts as full. Else prove '..UptoSaid'. A law counts once. -/
mutual
def uptoBulk {H : Type} : DataW H → Nat
  | .lit (.string bytes) => bytes.length + 1
  | .lit _ => 1
  | .nil => 1
  | .ptr d => uptoBulk d + 1
  | .slice elems spare => uptoBulkAll elems + uptoBulkAll spare + 1
  | .agg parts => uptoBulkAll parts + 1
  | .iface _ d => uptoBulk d + 1
  | .map entries => uptoBulkEntries entries + 1
  | .held _ => 1
def uptoBulkAll {H : Type} : List (DataW H) → Nat
  | [] => 0
  | d :: r => uptoBulk d + uptoBulkAll r
def uptoBulkEntries {H : Type} : List (Lit × DataW H) → Nat
  | [] => 0
  | x :: r => uptoBulkEntry x + uptoBulkEntries r
def uptoBulkEntry {H : Type} : Lit × DataW H → Nat
  | (.string bytes, d) => bytes.length + uptoBulk d + 1
  | (_, d) => uptoBulk d + 1
 end
def uptoSmall : (H : Type) → List (DataW H) → Bool := fun _ ds => decide (uptoBulkAll ds ≤ 1048576)
def OpenSpec.upto (s : _root_.Go.ChangeSpec) : _root_.Go.OpenSpec := { _root_.Go.OpenSpec.ofChange s with cond := some uptoSmall }

/-- 'apostillelaw05.DerReads', WHERE WHAT IT READS IS OF BULK AT MOST 1048576: true; the input reads as it did. -/
def derReadsUptoRow : OpenClaim := { program := "ytbgkadaidhgggaadoor", sum := "78ef051d65b9a98d1cf47e3a423a11e5bd6c09c8991851bda40fa26242e29583", func := "apostille/apostillelaw05.DerReads", spec := "derReads", inPlace := ["internal/bytealg.Compare"], unfollowed := true, recurses := true, named := ["unicode/utf8.first", "unicode/utf8.acceptRanges"], apart := false, laid := [("unicode/utf8.acceptRanges", laid_unicode_utf8_acceptRanges), ("unicode/utf8.first", laid_unicode_utf8_first)], narrowed := true }
def DerReadsUptoSaid : Prop := derReadsUptoRow.holds Tryd.pinned (OpenSpec.upto derReadsSpec)

/-- 'apostillelaw05.DerDeep', WHERE WHAT IT READS IS OF BULK AT MOST 1048576: true; the input reads as it did. -/
def derDeepUptoRow : OpenClaim := { program := "ytbgkadaidhgggaadoor", sum := "78ef051d65b9a98d1cf47e3a423a11e5bd6c09c8991851bda40fa26242e29583", func := "apostille/apostillelaw05.DerDeep", spec := "derDeep", inPlace := ["internal/bytealg.Compare"], unfollowed := true, recurses := true, named := ["unicode/utf8.first", "unicode/utf8.acceptRanges"], apart := false, laid := [("unicode/utf8.acceptRanges", laid_unicode_utf8_acceptRanges), ("unicode/utf8.first", laid_unicode_utf8_first)], narrowed := true }
def DerDeepUptoSaid : Prop := derDeepUptoRow.holds Tryd.pinned (OpenSpec.upto derDeepSpec)

/-- 'apostillelaw05.DerAll', WHERE WHAT IT READS IS OF BULK AT MOST 1048576: true; the input reads as it did. -/
def derAllUptoRow : OpenClaim := { program := "ytbgkadaidhgggaadoor", sum := "78ef051d65b9a98d1cf47e3a423a11e5bd6c09c8991851bda40fa26242e29583", func := "apostille/apostillelaw05.DerAll", spec := "derAll", inPlace := ["internal/bytealg.Compare"], unfollowed := true, recurses := true, named := ["unicode/utf8.first", "unicode/utf8.acceptRanges"], loops := true, apart := false, laid := [("unicode/utf8.acceptRanges", laid_unicode_utf8_acceptRanges), ("unicode/utf8.first", laid_unicode_utf8_first)], narrowed := true }
def DerAllUptoSaid : Prop := derAllUptoRow.holds Tryd.pinned (OpenSpec.upto derAllSpec)

/-- 'apostillelaw05.DerBack', WHERE WHAT IT READS IS OF BULK AT MOST 1048576: true; the input reads as it did. -/
def derBackUptoRow : OpenClaim := { program := "ytbgkadaidhgggaadoor", sum := "78ef051d65b9a98d1cf47e3a423a11e5bd6c09c8991851bda40fa26242e29583", func := "apostille/apostillelaw05.DerBack", spec := "derBack", inPlace := ["internal/bytealg.Compare"], unfollowed := true, recurses := true, named := ["unicode/utf8.first", "unicode/utf8.acceptRanges"], loops := true, apart := false, laid := [("unicode/utf8.acceptRanges", laid_unicode_utf8_acceptRanges), ("unicode/utf8.first", laid_unicode_utf8_first)], narrowed := true }
def DerBackUptoSaid : Prop := derBackUptoRow.holds Tryd.pinned (OpenSpec.upto derBackSpec)

/-- 'apostillelaw05.DerTells', WHERE WHAT IT READS IS OF BULK AT MOST 1048576: true; the input reads as it did. -/
def derTellsUptoRow : OpenClaim := { program := "ytbgkadaidhgggaadoor", sum := "78ef051d65b9a98d1cf47e3a423a11e5bd6c09c8991851bda40fa26242e29583", func := "apostille/apostillelaw05.DerTells", spec := "derTells", inPlace := ["internal/bytealg.Compare"], unfollowed := true, recurses := true, named := ["unicode/utf8.first", "unicode/utf8.acceptRanges"], loops := true, apart := false, laid := [("unicode/utf8.acceptRanges", laid_unicode_utf8_acceptRanges), ("unicode/utf8.first", laid_unicode_utf8_first)], narrowed := true }
def DerTellsUptoSaid : Prop := derTellsUptoRow.holds Tryd.pinned (OpenSpec.upto derTellsSpec)

end Rows
end Go.Proofs.YtbgkadaidhgggaaDoor

/-
  NARROWER THAN 'FOR EVERY INPUT', by the rows' own cells (each row's printed sentence says how): FnAdvance: laid · FnAdvanceBytes: laid · FnAdvanceRoads: laid · FnAdvanceSplit: laid · FnBeforeText: laid · FnSumAdvance: laid.
  DERIVED. THE GIVEN ROWS OF THIS SEAT. 6 by the template 'for every input the law returns true; each argument reads behind the call as it read before'; 0 by the template 'total and deterministic' (their statements: YtgnhfbhmmdnoeaaDoorTotals.lean).
  GIVEN WITH THE SEED: the statements are not yours to turn. If you find one false, say at which input.
  Laid BY PROGRAM, IN A SANDBOX (cutbox-rows.mjs): the forced cells as the released guide's own fill.sh prints them over the translation 731c4a435608d87c… (all of the seat's roots in one cut). By AI agents, Wed Nov 11 2026. No macro, syntax, notation, axiom, sorry.
-/
import Derived.Test.YtgnhfbhmmdnoeaaDoorChecked
import GoSem.PinnedTables
import GoSem.Claim
import GoSem.ClaimJoined
import GoSem.ClaimMapViews
import Derived.JoinedTies
import Derived.KernelRfl
namespace Go.Proofs.YtgnhfbhmmdnoeaaDoor
/- THE CELL 'sum', in the pinned program and in every row, IS THE sha256 OF THE DUMP (.gsa) THAT YtgnhfbhmmdnoeaaDoorProg.lean LOADS. Nothing in Lean hashes anything: it is a label: what it is worth is what the hold of that sum in a sandbox is worth. -/
noncomputable def Tryd.pinned : Pinned := { name := "ytgnhfbhmmdnoeaadoor", sum := "731c4a435608d87c2c735119e92be25480c5a1b675bcf0b4c4126ab0bb05780e", checked := Tryd.checked }
namespace Rows
def none {H : Type} : Left H := { results := [], args := [] }

/- WHAT THE LISTED PACKAGE-LEVEL VARIABLES READ AS WHEN THE CALL BEGINS. Each datum BY PROGRAM (the guide's laid-datum.mjs) off the statement by which the dump's own 'gosem.cut.vars' lays the variable. In a bare row this is a premise. The card (YtgnhfbhmmdnoeaaDoorCards.lean) ties it to the program's text. -/
def laid_unicode_utf8_acceptRanges {H : Type} : DataW H := .agg [.agg [.lit (.int .u8 128), .lit (.int .u8 191)], .agg [.lit (.int .u8 160), .lit (.int .u8 191)], .agg [.lit (.int .u8 128), .lit (.int .u8 159)], .agg [.lit (.int .u8 144), .lit (.int .u8 191)], .agg [.lit (.int .u8 128), .lit (.int .u8 143)], .agg [.lit (.int .u8 0), .lit (.int .u8 0)], .agg [.lit (.int .u8 0), .lit (.int .u8 0)], .agg [.lit (.int .u8 0), .lit (.int .u8 0)], .agg [.lit (.int .u8 0), .lit (.int .u8 0)], .agg [.lit (.int .u8 0), .lit (.int .u8 0)], .agg [.lit (.int .u8 0), .lit (.int .u8 0)], .agg [.lit (.int .u8 0), .lit (.int .u8 0)], .agg [.lit (.int .u8 0), .lit (.int .u8 0)], .agg [.lit (.int .u8 0), .lit (.int .u8 0)], .agg [.lit (.int .u8 0), .lit (.int .u8 0)], .agg [.lit (.int .u8 0), .lit (.int .u8 0)]]
/-- One of Go's own tables, pinned by name: the form's constant. -/
def laid_unicode_utf8_first : DataW Unit := Go.Pinned.utf8First

/-- 'laws.FnAdvance': WHATEVER THE INPUT: true; the input reads as it did. -/
def fnAdvanceSpec : ChangeSpec := { name := "fnAdvance", fn := fun _ => fun
  | [d1, d2, d3] => { results := [.lit (.bool true)], args := [d1, d2, d3] }
  | _ => none }
def fnAdvanceRow : OpenClaim := { program := "ytgnhfbhmmdnoeaadoor", sum := "731c4a435608d87c2c735119e92be25480c5a1b675bcf0b4c4126ab0bb05780e", func := "mapthread/laws.FnAdvance", spec := "fnAdvance", named := ["unicode/utf8.first", "unicode/utf8.acceptRanges"], apart := false, laid := [("unicode/utf8.acceptRanges", laid_unicode_utf8_acceptRanges), ("unicode/utf8.first", laid_unicode_utf8_first)] }
def FnAdvanceSaid : Prop := fnAdvanceRow.holds Tryd.pinned (OpenSpec.ofChange fnAdvanceSpec)

/-- ITS FALSE NEIGHBOUR: 'it returns false'. Refute it at one input. -/
def fnAdvanceWrong : ChangeSpec := { name := "fnAdvance", fn := fun _ => fun
  | [d1, d2, d3] => { results := [.lit (.bool false)], args := [d1, d2, d3] }
  | _ => none }
def FnAdvanceWrongFalsely : Prop := fnAdvanceRow.holds Tryd.pinned (OpenSpec.ofChange fnAdvanceWrong)

/-- 'laws.FnAdvanceBytes': WHATEVER THE INPUT: true; the input reads as it did. -/
def fnAdvanceBytesSpec : ChangeSpec := { name := "fnAdvanceBytes", fn := fun _ => fun
  | [d1, d2, d3] => { results := [.lit (.bool true)], args := [d1, d2, d3] }
  | _ => none }
def fnAdvanceBytesRow : OpenClaim := { program := "ytgnhfbhmmdnoeaadoor", sum := "731c4a435608d87c2c735119e92be25480c5a1b675bcf0b4c4126ab0bb05780e", func := "mapthread/laws.FnAdvanceBytes", spec := "fnAdvanceBytes", named := ["unicode/utf8.first", "unicode/utf8.acceptRanges"], apart := false, laid := [("unicode/utf8.acceptRanges", laid_unicode_utf8_acceptRanges), ("unicode/utf8.first", laid_unicode_utf8_first)] }
def FnAdvanceBytesSaid : Prop := fnAdvanceBytesRow.holds Tryd.pinned (OpenSpec.ofChange fnAdvanceBytesSpec)

/-- ITS FALSE NEIGHBOUR: 'it returns false'. Refute it at one input. -/
def fnAdvanceBytesWrong : ChangeSpec := { name := "fnAdvanceBytes", fn := fun _ => fun
  | [d1, d2, d3] => { results := [.lit (.bool false)], args := [d1, d2, d3] }
  | _ => none }
def FnAdvanceBytesWrongFalsely : Prop := fnAdvanceBytesRow.holds Tryd.pinned (OpenSpec.ofChange fnAdvanceBytesWrong)

/-- 'laws.FnAdvanceRoads': WHATEVER THE INPUT: true; the input reads as it did. -/
def fnAdvanceRoadsSpec : ChangeSpec := { name := "fnAdvanceRoads", fn := fun _ => fun
  | [d] => { results := [.lit (.bool true)], args := [d] }
  | _ => none }
def fnAdvanceRoadsRow : OpenClaim := { program := "ytgnhfbhmmdnoeaadoor", sum := "731c4a435608d87c2c735119e92be25480c5a1b675bcf0b4c4126ab0bb05780e", func := "mapthread/laws.FnAdvanceRoads", spec := "fnAdvanceRoads", named := ["unicode/utf8.first", "unicode/utf8.acceptRanges"], apart := false, laid := [("unicode/utf8.acceptRanges", laid_unicode_utf8_acceptRanges), ("unicode/utf8.first", laid_unicode_utf8_first)] }
def FnAdvanceRoadsSaid : Prop := fnAdvanceRoadsRow.holds Tryd.pinned (OpenSpec.ofChange fnAdvanceRoadsSpec)

/-- ITS FALSE NEIGHBOUR: 'it returns false'. Refute it at one input. -/
def fnAdvanceRoadsWrong : ChangeSpec := { name := "fnAdvanceRoads", fn := fun _ => fun
  | [d] => { results := [.lit (.bool false)], args := [d] }
  | _ => none }
def FnAdvanceRoadsWrongFalsely : Prop := fnAdvanceRoadsRow.holds Tryd.pinned (OpenSpec.ofChange fnAdvanceRoadsWrong)

/-- 'laws.FnAdvanceSplit': WHATEVER THE INPUT: true; the input reads as it did. -/
def fnAdvanceSplitSpec : ChangeSpec := { name := "fnAdvanceSplit", fn := fun _ => fun
  | [d1, d2, d3] => { results := [.lit (.bool true)], args := [d1, d2, d3] }
  | _ => none }
def fnAdvanceSplitRow : OpenClaim := { program := "ytgnhfbhmmdnoeaadoor", sum := "731c4a435608d87c2c735119e92be25480c5a1b675bcf0b4c4126ab0bb05780e", func := "mapthread/laws.FnAdvanceSplit", spec := "fnAdvanceSplit", named := ["unicode/utf8.first", "unicode/utf8.acceptRanges"], apart := false, laid := [("unicode/utf8.acceptRanges", laid_unicode_utf8_acceptRanges), ("unicode/utf8.first", laid_unicode_utf8_first)] }
def FnAdvanceSplitSaid : Prop := fnAdvanceSplitRow.holds Tryd.pinned (OpenSpec.ofChange fnAdvanceSplitSpec)

/-- ITS FALSE NEIGHBOUR: 'it returns false'. Refute it at one input. -/
def fnAdvanceSplitWrong : ChangeSpec := { name := "fnAdvanceSplit", fn := fun _ => fun
  | [d1, d2, d3] => { results := [.lit (.bool false)], args := [d1, d2, d3] }
  | _ => none }
def FnAdvanceSplitWrongFalsely : Prop := fnAdvanceSplitRow.holds Tryd.pinned (OpenSpec.ofChange fnAdvanceSplitWrong)

/-- 'laws.FnBeforeText': WHATEVER THE INPUT: true; the input reads as it did. -/
def fnBeforeTextSpec : ChangeSpec := { name := "fnBeforeText", fn := fun _ => fun
  | [d1, d2] => { results := [.lit (.bool true)], args := [d1, d2] }
  | _ => none }
def fnBeforeTextRow : OpenClaim := { program := "ytgnhfbhmmdnoeaadoor", sum := "731c4a435608d87c2c735119e92be25480c5a1b675bcf0b4c4126ab0bb05780e", func := "mapthread/laws.FnBeforeText", spec := "fnBeforeText", named := ["unicode/utf8.first", "unicode/utf8.acceptRanges"], apart := false, laid := [("unicode/utf8.acceptRanges", laid_unicode_utf8_acceptRanges), ("unicode/utf8.first", laid_unicode_utf8_first)] }
def FnBeforeTextSaid : Prop := fnBeforeTextRow.holds Tryd.pinned (OpenSpec.ofChange fnBeforeTextSpec)

/-- ITS FALSE NEIGHBOUR: 'it returns false'. Refute it at one input. -/
def fnBeforeTextWrong : ChangeSpec := { name := "fnBeforeText", fn := fun _ => fun
  | [d1, d2] => { results := [.lit (.bool false)], args := [d1, d2] }
  | _ => none }
def FnBeforeTextWrongFalsely : Prop := fnBeforeTextRow.holds Tryd.pinned (OpenSpec.ofChange fnBeforeTextWrong)

/-- 'laws.FnSumAdvance': WHATEVER THE INPUT: true; the input reads as it did. -/
def fnSumAdvanceSpec : ChangeSpec := { name := "fnSumAdvance", fn := fun _ => fun
  | [d1, d2] => { results := [.lit (.bool true)], args := [d1, d2] }
  | _ => none }
def fnSumAdvanceRow : OpenClaim := { program := "ytgnhfbhmmdnoeaadoor", sum := "731c4a435608d87c2c735119e92be25480c5a1b675bcf0b4c4126ab0bb05780e", func := "mapthread/laws.FnSumAdvance", spec := "fnSumAdvance", named := ["unicode/utf8.first", "unicode/utf8.acceptRanges"], apart := false, laid := [("unicode/utf8.acceptRanges", laid_unicode_utf8_acceptRanges), ("unicode/utf8.first", laid_unicode_utf8_first)] }
def FnSumAdvanceSaid : Prop := fnSumAdvanceRow.holds Tryd.pinned (OpenSpec.ofChange fnSumAdvanceSpec)

/-- ITS FALSE NEIGHBOUR: 'it returns false'. Refute it at one input. -/
def fnSumAdvanceWrong : ChangeSpec := { name := "fnSumAdvance", fn := fun _ => fun
  | [d1, d2] => { results := [.lit (.bool false)], args := [d1, d2] }
  | _ => none }
def FnSumAdvanceWrongFalsely : Prop := fnSumAdvanceRow.holds Tryd.pinned (OpenSpec.ofChange fnSumAdvanceWrong)

/- THE SECOND FORM. 'bulk': how many values and letters a reading holds, each counted each time it is reached (what is shared counts as often as it is met; a slice's spare places count too). A statement '..UptoSaid' is the law's where the arguments, and the package variables that the reading takes, are together of bulk at most 1048576: NARROWER than '..Said'. Prove '..Said' where nothing that the law and all that it calls make is longer than what came in: it says more and counts as full. Else prove '..UptoSaid'. A law counts once. -/
mutual
def uptoBulk {H : Type} : DataW H → Nat
  | .lit (.string bytes) => bytes.length + 1
  | .lit _ => 1
  | .nil => 1
  | .ptr d => uptoBulk d + 1
  | .slice elems spare => uptoBulkAll elems + uptoBulkAll spare + 1
  | .agg parts => uptoBulkAll parts + 1
  | .iface _ d => uptoBulk d + 1
  | .map entries => uptoBulkEntries entries + 1
  | .held _ => 1
def uptoBulkAll {H : Type} : List (DataW H) → Nat
  | [] => 0
  | d :: r => uptoBulk d + uptoBulkAll r
def uptoBulkEntries {H : Type} : List (Lit × DataW H) → Nat
  | [] => 0
  | x :: r => uptoBulkEntry x + uptoBulkEntries r
def uptoBulkEntry {H : Type} : Lit × DataW H → Nat
  | (.string bytes, d) => bytes.length + uptoBulk d + 1
  | (_, d) => uptoBulk d + 1
 end
def uptoSmall : (H : Type) → List (DataW H) → Bool := fun _ ds => decide (uptoBulkAll ds ≤ 1048576)
def OpenSpec.upto (s : _root_.Go.ChangeSpec) : _root_.Go.OpenSpec := { _root_.Go.OpenSpec.ofChange s with cond := some uptoSmall }

/-- 'laws.FnAdvance', WHERE WHAT IT READS IS OF BULK AT MOST 1048576: true; the input reads as it did. -/
def fnAdvanceUptoRow : OpenClaim := { program := "ytgnhfbhmmdnoeaadoor", sum := "731c4a435608d87c2c735119e92be25480c5a1b675bcf0b4c4126ab0bb05780e", func := "mapthread/laws.FnAdvance", spec := "fnAdvance", named := ["unicode/utf8.first", "unicode/utf8.acceptRanges"], apart := false, laid := [("unicode/utf8.acceptRanges", laid_unicode_utf8_acceptRanges), ("unicode/utf8.first", laid_unicode_utf8_first)], narrowed := true }
def FnAdvanceUptoSaid : Prop := fnAdvanceUptoRow.holds Tryd.pinned (OpenSpec.upto fnAdvanceSpec)

/-- 'laws.FnAdvanceBytes', WHERE WHAT IT READS IS OF BULK AT MOST 1048576: true; the input reads as it did. -/
def fnAdvanceBytesUptoRow : OpenClaim := { program := "ytgnhfbhmmdnoeaadoor", sum := "731c4a435608d87c2c735119e92be25480c5a1b675bcf0b4c4126ab0bb05780e", func := "mapthread/laws.FnAdvanceBytes", spec := "fnAdvanceBytes", named := ["unicode/utf8.first", "unicode/utf8.acceptRanges"], apart := false, laid := [("unicode/utf8.acceptRanges", laid_unicode_utf8_acceptRanges), ("unicode/utf8.first", laid_unicode_utf8_first)], narrowed := true }
def FnAdvanceBytesUptoSaid : Prop := fnAdvanceBytesUptoRow.holds Tryd.pinned (OpenSpec.upto fnAdvanceBytesSpec)

/-- 'laws.FnAdvanceRoads', WHERE WHAT IT READS IS OF BULK AT MOST 1048576: true; the input reads as it did. -/
def fnAdvanceRoadsUptoRow : OpenClaim := { program := "ytgnhfbhmmdnoeaadoor", sum := "731c4a435608d87c2c735119e92be25480c5a1b675bcf0b4c4126ab0bb05780e", func := "mapthread/laws.FnAdvanceRoads", spec := "fnAdvanceRoads", named := ["unicode/utf8.first", "unicode/utf8.acceptRanges"], apart := false, laid := [("unicode/utf8.acceptRanges", laid_unicode_utf8_acceptRanges), ("unicode/utf8.first", laid_unicode_utf8_first)], narrowed := true }
def FnAdvanceRoadsUptoSaid : Prop := fnAdvanceRoadsUptoRow.holds Tryd.pinned (OpenSpec.upto fnAdvanceRoadsSpec)

/-- 'laws.FnAdvanceSplit', WHERE WHAT IT READS IS OF BULK AT MOST 1048576: true; the input reads as it did. -/
def fnAdvanceSplitUptoRow : OpenClaim := { program := "ytgnhfbhmmdnoeaadoor", sum := "731c4a435608d87c2c735119e92be25480c5a1b675bcf0b4c4126ab0bb05780e", func := "mapthread/laws.FnAdvanceSplit", spec := "fnAdvanceSplit", named := ["unicode/utf8.first", "unicode/utf8.acceptRanges"], apart := false, laid := [("unicode/utf8.acceptRanges", laid_unicode_utf8_acceptRanges), ("unicode/utf8.first", laid_unicode_utf8_first)], narrowed := true }
def FnAdvanceSplitUptoSaid : Prop := fnAdvanceSplitUptoRow.holds Tryd.pinned (OpenSpec.upto fnAdvanceSplitSpec)

/-- 'laws.FnBeforeText', WHERE WHAT IT READS IS OF BULK AT MOST 1048576: true; the input reads as it did. -/
def fnBeforeTextUptoRow : OpenClaim := { program := "ytgnhfbhmmdnoeaadoor", sum := "731c4a435608d87c2c735119e92be25480c5a1b675bcf0b4c4126ab0bb05780e", func := "mapthread/laws.FnBeforeText", spec := "fnBeforeText", named := ["unicode/utf8.first", "unicode/utf8.acceptRanges"], apart := false, laid := [("unicode/utf8.acceptRanges", laid_unicode_utf8_acceptRanges), ("unicode/utf8.first", laid_unicode_utf8_first)], narrowed := true }
def FnBeforeTextUptoSaid : Prop := fnBeforeTextUptoRow.holds Tryd.pinned (OpenSpec.upto fnBeforeTextSpec)

/-- 'laws.FnSumAdvance', WHERE WHAT IT READS IS OF BULK AT MOST 1048576: true; the input reads as it did. -/
def fnSumAdvanceUptoRow : OpenClaim := { program := "ytgnhfbhmmdnoeaadoor", sum := "731c4a435608d87c2c735119e92be25480c5a1b675bcf0b4c4126ab0bb05780e", func := "mapthread/laws.FnSumAdvance", spec := "fnSumAdvance", named := ["unicode/utf8.first", "unicode/utf8.acceptRanges"], apart := false, laid := [("unicode/utf8.acceptRanges", laid_unicode_utf8_acceptRanges), ("unicode/utf8.first", laid_unicode_utf8_first)], narrowed := true }
def FnSumAdvanceUptoSaid : Prop := fnSumAdvanceUptoRow.holds Tryd.pinned (OpenSpec.upto fnSumAdvanceSpec)

end Rows
end Go.Proofs.YtgnhfbhmmdnoeaaDoor

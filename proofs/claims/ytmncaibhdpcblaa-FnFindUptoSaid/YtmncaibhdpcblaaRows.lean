/-
  No cell of these rows narrows 'for every input' (looked for: loops, veiled, ifaces, maps, wideKeys, modest, calm, conditions, laid).
  DERIVED. THE GIVEN ROWS OF THIS SEAT. 4 by the template 'for every input the law returns true; each argument reads behind the call as it read before'; 0 by the template 'total and deterministic' (their statements: YtmncaibhdpcblaaTotals.lean).
  GIVEN WITH THE SEED: the statements are not yours to turn. If you find one false, say at which input.
  Laid BY PROGRAM, IN A SANDBOX (cutbox-rows.mjs): the forced cells as the released guide's own fill.sh prints them over the translation 02845c851eace46a… (all of the seat's roots in one cut). By AI agents, Wed Nov 11 2026. No macro, syntax, notation, axiom, sorry.
-/
import Derived.Test.YtmncaibhdpcblaaChecked
import GoSem.Claim
import GoSem.ClaimJoined
import GoSem.ClaimMapViews
import Derived.JoinedTies
import Derived.KernelRfl
namespace Go.Proofs.Ytmncaibhdpcblaa
/- THE CELL 'sum', in the pinned program and in every row, IS THE sha256 OF THE DUMP (.gsa) THAT YtmncaibhdpcblaaProg.lean LOADS. Nothing in Lean hashes anything: it is a label: what it is worth is what the hold of that sum in a sandbox is worth. -/
noncomputable def Try.pinned : Pinned := { name := "ytmncaibhdpcblaa", sum := "02845c851eace46a2d0a5aa8ee26bddd30465591f90a1a3e97dd9f239d5e020e", checked := Try.checked }
namespace Rows
def none {H : Type} : Left H := { results := [], args := [] }

/-- 'laws.FnFind': WHATEVER THE INPUT: true; the input reads as it did. -/
def fnFindSpec : ChangeSpec := { name := "fnFind", fn := fun _ => fun
  | [d1, d2, d3] => { results := [.lit (.bool true)], args := [d1, d2, d3] }
  | _ => none }
def fnFindRow : OpenClaim := { program := "ytmncaibhdpcblaa", sum := "02845c851eace46a2d0a5aa8ee26bddd30465591f90a1a3e97dd9f239d5e020e", func := "mapthread/laws.FnFind", spec := "fnFind", apart := false }
def FnFindSaid : Prop := fnFindRow.holds Try.pinned (OpenSpec.ofChange fnFindSpec)

/-- ITS FALSE NEIGHBOUR: 'it returns false'. Refute it at one input. -/
def fnFindWrong : ChangeSpec := { name := "fnFind", fn := fun _ => fun
  | [d1, d2, d3] => { results := [.lit (.bool false)], args := [d1, d2, d3] }
  | _ => none }
def FnFindWrongFalsely : Prop := fnFindRow.holds Try.pinned (OpenSpec.ofChange fnFindWrong)

/-- 'laws.FnFindBetween': WHATEVER THE INPUT: true; the input reads as it did. -/
def fnFindBetweenSpec : ChangeSpec := { name := "fnFindBetween", fn := fun _ => fun
  | [d] => { results := [.lit (.bool true)], args := [d] }
  | _ => none }
def fnFindBetweenRow : OpenClaim := { program := "ytmncaibhdpcblaa", sum := "02845c851eace46a2d0a5aa8ee26bddd30465591f90a1a3e97dd9f239d5e020e", func := "mapthread/laws.FnFindBetween", spec := "fnFindBetween", apart := false }
def FnFindBetweenSaid : Prop := fnFindBetweenRow.holds Try.pinned (OpenSpec.ofChange fnFindBetweenSpec)

/-- ITS FALSE NEIGHBOUR: 'it returns false'. Refute it at one input. -/
def fnFindBetweenWrong : ChangeSpec := { name := "fnFindBetween", fn := fun _ => fun
  | [d] => { results := [.lit (.bool false)], args := [d] }
  | _ => none }
def FnFindBetweenWrongFalsely : Prop := fnFindBetweenRow.holds Try.pinned (OpenSpec.ofChange fnFindBetweenWrong)

/-- 'laws.FnFindEach': WHATEVER THE INPUT: true; the input reads as it did. -/
def fnFindEachSpec : ChangeSpec := { name := "fnFindEach", fn := fun _ => fun
  | [d] => { results := [.lit (.bool true)], args := [d] }
  | _ => none }
def fnFindEachRow : OpenClaim := { program := "ytmncaibhdpcblaa", sum := "02845c851eace46a2d0a5aa8ee26bddd30465591f90a1a3e97dd9f239d5e020e", func := "mapthread/laws.FnFindEach", spec := "fnFindEach", apart := false }
def FnFindEachSaid : Prop := fnFindEachRow.holds Try.pinned (OpenSpec.ofChange fnFindEachSpec)

/-- ITS FALSE NEIGHBOUR: 'it returns false'. Refute it at one input. -/
def fnFindEachWrong : ChangeSpec := { name := "fnFindEach", fn := fun _ => fun
  | [d] => { results := [.lit (.bool false)], args := [d] }
  | _ => none }
def FnFindEachWrongFalsely : Prop := fnFindEachRow.holds Try.pinned (OpenSpec.ofChange fnFindEachWrong)

/-- 'laws.FnFindMore': WHATEVER THE INPUT: true; the input reads as it did. -/
def fnFindMoreSpec : ChangeSpec := { name := "fnFindMore", fn := fun _ => fun
  | [d1, d2] => { results := [.lit (.bool true)], args := [d1, d2] }
  | _ => none }
def fnFindMoreRow : OpenClaim := { program := "ytmncaibhdpcblaa", sum := "02845c851eace46a2d0a5aa8ee26bddd30465591f90a1a3e97dd9f239d5e020e", func := "mapthread/laws.FnFindMore", spec := "fnFindMore", apart := false }
def FnFindMoreSaid : Prop := fnFindMoreRow.holds Try.pinned (OpenSpec.ofChange fnFindMoreSpec)

/-- ITS FALSE NEIGHBOUR: 'it returns false'. Refute it at one input. -/
def fnFindMoreWrong : ChangeSpec := { name := "fnFindMore", fn := fun _ => fun
  | [d1, d2] => { results := [.lit (.bool false)], args := [d1, d2] }
  | _ => none }
def FnFindMoreWrongFalsely : Prop := fnFindMoreRow.holds Try.pinned (OpenSpec.ofChange fnFindMoreWrong)

/- THE SECOND FORM. 'bulk': how many values and letters a reading holds, each counted each time it is reached (what is shared counts as often as it is met; a slice's spare places count too). A statement '..UptoSaid' is the law's where the arguments, and the package variables that the reading takes, are together of bulk at most 1048576: NARROWER than '..Said'. Prove '..Said' where nothing that the law and all that it calls make is longer than what came in: it says more and counts as full. Else prove '..UptoSaid'. A law counts once. -/
mutual
def uptoBulk {H : Type} : DataW H → Nat
  | .lit (.string bytes) => bytes.length + 1
  | .lit _ => 1
  | .nil => 1
  | .ptr d => uptoBulk d + 1
  | .slice elems spare => uptoBulkAll elems + uptoBulkAll spare + 1
  | .agg parts => uptoBulkAll parts + 1
  | .iface _ d => uptoBulk d + 1
  | .map entries => uptoBulkEntries entries + 1
  | .held _ => 1
def uptoBulkAll {H : Type} : List (DataW H) → Nat
  | [] => 0
  | d :: r => uptoBulk d + uptoBulkAll r
def uptoBulkEntries {H : Type} : List (Lit × DataW H) → Nat
  | [] => 0
  | x :: r => uptoBulkEntry x + uptoBulkEntries r
def uptoBulkEntry {H : Type} : Lit × DataW H → Nat
  | (.string bytes, d) => bytes.length + uptoBulk d + 1
  | (_, d) => uptoBulk d + 1
 end
def uptoSmall : (H : Type) → List (DataW H) → Bool := fun _ ds => decide (uptoBulkAll ds ≤ 1048576)
def OpenSpec.upto (s : _root_.Go.ChangeSpec) : _root_.Go.OpenSpec := { _root_.Go.OpenSpec.ofChange s with cond := some uptoSmall }

/-- 'laws.FnFind', WHERE WHAT IT READS IS OF BULK AT MOST 1048576: true; the input reads as it did. -/
def fnFindUptoRow : OpenClaim := { program := "ytmncaibhdpcblaa", sum := "02845c851eace46a2d0a5aa8ee26bddd30465591f90a1a3e97dd9f239d5e020e", func := "mapthread/laws.FnFind", spec := "fnFind", apart := false, narrowed := true }
def FnFindUptoSaid : Prop := fnFindUptoRow.holds Try.pinned (OpenSpec.upto fnFindSpec)

/-- 'laws.FnFindBetween', WHERE WHAT IT READS IS OF BULK AT MOST 1048576: true; the input reads as it did. -/
def fnFindBetweenUptoRow : OpenClaim := { program := "ytmncaibhdpcblaa", sum := "02845c851eace46a2d0a5aa8ee26bddd30465591f90a1a3e97dd9f239d5e020e", func := "mapthread/laws.FnFindBetween", spec := "fnFindBetween", apart := false, narrowed := true }
def FnFindBetweenUptoSaid : Prop := fnFindBetweenUptoRow.holds Try.pinned (OpenSpec.upto fnFindBetweenSpec)

/-- 'laws.FnFindEach', WHERE WHAT IT READS IS OF BULK AT MOST 1048576: true; the input reads as it did. -/
def fnFindEachUptoRow : OpenClaim := { program := "ytmncaibhdpcblaa", sum := "02845c851eace46a2d0a5aa8ee26bddd30465591f90a1a3e97dd9f239d5e020e", func := "mapthread/laws.FnFindEach", spec := "fnFindEach", apart := false, narrowed := true }
def FnFindEachUptoSaid : Prop := fnFindEachUptoRow.holds Try.pinned (OpenSpec.upto fnFindEachSpec)

/-- 'laws.FnFindMore', WHERE WHAT IT READS IS OF BULK AT MOST 1048576: true; the input reads as it did. -/
def fnFindMoreUptoRow : OpenClaim := { program := "ytmncaibhdpcblaa", sum := "02845c851eace46a2d0a5aa8ee26bddd30465591f90a1a3e97dd9f239d5e020e", func := "mapthread/laws.FnFindMore", spec := "fnFindMore", apart := false, narrowed := true }
def FnFindMoreUptoSaid : Prop := fnFindMoreUptoRow.holds Try.pinned (OpenSpec.upto fnFindMoreSpec)

end Rows
end Go.Proofs.Ytmncaibhdpcblaa

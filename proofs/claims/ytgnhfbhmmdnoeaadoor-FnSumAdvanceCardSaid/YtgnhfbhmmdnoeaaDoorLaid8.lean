/-
  The two tables of unicode/utf8, as a row lists them: from the list to memory, and a world that holds them. Conditions: none.
-/
import Derived.Test.YtgnhfbhmmdnoeaaDoorCards
import Derived.Test.YtgnhfbhmmdnoeaaDoorTie
import Derived.Test.YtgnhfbhmmdnoeaaDoorDecRune
import Derived.Test.YtgnhfbhmmdnoeaaDoorLawKit
import Derived.WalkKit
import Derived.ProofKit
import Derived.OpenShut
import Derived.SizedLaws
import Derived.Deep.DeepHandedRow
import Derived.Deep.DeepWitnessRowRef
import Derived.Lib.LaidIn
import Derived.Lib.LaidU8T
namespace Go.Proofs.YtgnhfbhmmdnoeaaDoor
open Go.RowKit Go.ChangeShapes Go.WideShapes Go.ChangeAt Go.Shelf

theorem own : ownKnob Tryd.prog.godebug = none := by kernel_rfl
/-- What the rows list. -/
abbrev laidL : List (String × DataW Unit) := [("unicode/utf8.acceptRanges", Rows.laid_unicode_utf8_acceptRanges), ("unicode/utf8.first", Rows.laid_unicode_utf8_first)]
theorem laid_is : laidL = [("unicode/utf8.acceptRanges", Lib.acceptData), ("unicode/utf8.first", Lib.firstData)] := by kernel_rfl

def renU : Ren := ⟨fun _ => 0, fun | 5 => 5 | 119 => 46 | 138 => 49 | 139 => 50 | _ => 0, fun | 3 => 0 | 4 => 1 | _ => 0⟩
theorem tabs_of_laid {W : World} (hL : laidMetH Tryd.prog laidL W) : Tabs8 W := by
  rw [laid_is] at hL
  exact utf8Tabs_of_readsT (P := Tryd.prog) (ρ := renU) ⟨by kernel_rfl, by kernel_rfl, by kernel_rfl, by kernel_rfl⟩ ⟨by kernel_rfl, by kernel_rfl, by kernel_rfl, by kernel_rfl, by kernel_rfl, by kernel_rfl, by kernel_rfl⟩ (Lib.laidMet.reads hL (.tail _ (.head _))) (Lib.laidMet.reads hL (.head _))

noncomputable def laidWorld (os : Os) : World :=
  let w0 := World.holding Tryd.prog os ⟨#[], #[], []⟩
  let put (h : Array Obj) (g : Nat) (cs : Array Value) : Array Obj := h.modify g fun
    | .cells _ t frozen => .cells cs t frozen
    | o => o
  let h1 := put w0.heap 0 (Lib.firstTab.map fun z => Value.int .u8 z).toArray
  let h2 := put h1 1 ((List.range 16).flatMap fun i => [Value.int .u8 (Lib.accLo i), Value.int .u8 (Lib.accHi i)]).toArray
  { w0 with heap := h2 }
set_option maxRecDepth 1000000 in
theorem laid_piece (os : Os) (args : Array Value) : LaidIn Tryd.prog ((laidWorld os).forCall (fun _ _ => 0) ⟨#[], args, []⟩).memory [("unicode/utf8.acceptRanges", Lib.acceptData), ("unicode/utf8.first", Lib.firstData)] [1, 0] :=
  LaidIn.of_run [1, 0] 8 (by kernel_rfl) (by kernel_rfl) (by kernel_rfl) (by kernel_rfl)
theorem laid_met (os : Os) (args : Array Value) : laidMet Tryd.prog laidL ((laidWorld os).forCall (fun _ _ => 0) ⟨#[], args, []⟩).memory := by
  rw [laid_is]
  exact (laid_piece os args).met
end Go.Proofs.YtgnhfbhmmdnoeaaDoor

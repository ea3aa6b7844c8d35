/-
  The table of signs, as a row lists it: from the list to memory, and a world that holds it. Conditions: none.
-/
import Derived.Test.YtnokiikgnplpmaaDoorCards
import Derived.Test.YtnokiikgnplpmaaDoorTie
import Derived.Test.YtnokiikgnplpmaaDoorTabKit
import Derived.Test.YtnokiikgnplpmaaDoorLawKit
import Derived.WalkKit
import Derived.ProofKit
import Derived.OpenShut
import Derived.SizedLaws
import Derived.Deep.DeepHandedRow
import Derived.Deep.DeepWitnessRowRef
import Derived.Lib.LaidIn
import Derived.Lib.LaidSlice
import Derived.Lib.LaidPrint
namespace Go.Proofs.YtnokiikgnplpmaaDoor
open Go.RowKit Go.ChangeShapes Go.WideShapes Go.ChangeAt

theorem own : ownKnob Tryd.prog.godebug = none := by kernel_rfl
def tabN : List Nat := (List.range 64).map sg
/-- What the rows list. -/
abbrev laidL : List (String × DataW Unit) := [("mapthread/pub/esbuild/inner/sourcemap.base64", Rows.laid_mapthread_pub_esbuild_inner_sourcemap_base64)]
theorem laid_is : laidL = [("mapthread/pub/esbuild/inner/sourcemap.base64", Lib.sliceData .u8 tabN)] := by kernel_rfl

theorem cell_lt {w : World} {p : Addr} {v : Value} (h : w.cell? p = some v) : p.block < w.heap.size := by
  rcases Nat.lt_or_ge p.block w.heap.size with h1 | h1
  · exact h1
  · simp [World.cell?, Array.getElem?_eq_none h1] at h

theorem b64_of_laid {W : World} (hL : laidMetH Tryd.prog laidL W) : B64 W.heap.size W := by
  rw [laid_is] at hL
  have hr := Lib.laidMet.reads hL (.head _)
  obtain ⟨R, o, c, h1, h2⟩ := Lib.tabSlice_of_reads (P := Tryd.prog) (g := 0) (t := 72) (e := 5) (by kernel_rfl) (by kernel_rfl) (by kernel_rfl) (by kernel_rfl) (by kernel_rfl) (by decide) hr
  have hl : tabN.length = 64 := by simp [tabN]
  rw [hl] at h1 h2
  refine ⟨R, o, c, cell_lt (h2 0 (by decide)), cell_lt h1, h1, fun j hj => ?_⟩
  have := h2 j hj
  simpa [tabN, List.getD, hj] using this

noncomputable def laidWorld (os : Os) : World :=
  let N := (World.settled Tryd.prog os).heap.size
  let w0 := World.holding Tryd.prog os ⟨#[.cells (Lib.intCellsOf .u8 tabN) 5], #[], []⟩
  { w0 with heap := w0.heap.modify 0 fun
      | .cells _ t frozen => .cells #[.slice (some ⟨N, 0, none⟩) 64 64] t frozen
      | o => o }
noncomputable abbrev N0 : Nat := (World.settled Tryd.prog default).heap.size

set_option maxRecDepth 1000000 in
theorem laid_piece (os : Os) (args : Array Value) : LaidIn Tryd.prog ((laidWorld os).forCall (fun _ _ => 0) ⟨#[], args, []⟩).memory [("mapthread/pub/esbuild/inner/sourcemap.base64", Lib.sliceData .u8 tabN)] [0, N0] :=
  Lib.laidIn_slice (t := 72) (e := 5) (te := 5) tabN N0 (by kernel_rfl) (by kernel_rfl) (by kernel_rfl) (by kernel_rfl) (by kernel_rfl) (by kernel_rfl) (by kernel_rfl) (by kernel_rfl) (of_decide_eq_true (by kernel_rfl)) (of_decide_eq_true (by kernel_rfl))
theorem laid_met (os : Os) (args : Array Value) : laidMet Tryd.prog laidL ((laidWorld os).forCall (fun _ _ => 0) ⟨#[], args, []⟩).memory := by
  rw [laid_is]
  exact (laid_piece os args).met
end Go.Proofs.YtnokiikgnplpmaaDoor

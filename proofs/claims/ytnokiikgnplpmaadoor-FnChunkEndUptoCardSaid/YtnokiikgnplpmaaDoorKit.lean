/-
  Small lemmas on worlds: what lay below a number of blocks reads as before. Conditions: as each one says.
-/
import Derived.Test.YtnokiikgnplpmaaDoorProg
import Derived.Tactics
import Derived.Tactics2
import Derived.WalkKit
import Derived.WalkSpells
import Derived.WalkLawsBesides
import Derived.KernelRfl
import Derived.Lib.Hide
import Derived.Below
import Derived.Laws.ResultCell
import Derived.Outline
import Derived.Deep.RegionHeld3
import Derived.Handy
import Derived.RegionTactic
import Derived.Deep.QuietTactic
import Derived.BigQuiet
import Derived.BigRegion
import Derived.Deep.DeepFit
import Derived.Deep.DeepMust
import Derived.Deep.DeepCutAuto
import Derived.Deep.CutBlock
import Derived.Deep.LoopGhost
import Derived.LoopTactic
namespace Go.Proofs.YtnokiikgnplpmaaDoor
open Go.RowKit

/-- Behind a call that made memory all old cells, and whether they may be written, are as they were. -/
theorem bcell {W w1 : World} (hb : Below W.heap.size W w1) : (∀ b o, b < W.heap.size → w1.cell? ⟨b, o, none⟩ = W.cell? ⟨b, o, none⟩) ∧ (∀ b o, b < W.heap.size → w1.frozen? ⟨b, o, none⟩ = W.frozen? ⟨b, o, none⟩) :=
  ⟨fun b o h => hb.cell (p := ⟨b, o, none⟩) h, fun b o h => hb.frozen (p := ⟨b, o, none⟩) h⟩

/-- What a call that made memory leaves, from a world that itself lies behind another one. -/
theorem bthen {a W w1 : World} (h : Below a.heap.size a W) (hb : Below W.heap.size W w1) : Below a.heap.size a w1 := h.trans (hb.mono h.size)
theorem balloc {a W : World} (h : Below a.heap.size a W) (o : Obj) : Below a.heap.size a (W.alloc o) := h.alloc h.size o
end Go.Proofs.YtnokiikgnplpmaaDoor

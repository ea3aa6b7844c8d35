/-
  What lies in memory: the table of signs; what a step may have changed. Conditions: as each lemma says.
-/
import Derived.Test.YtnokiikgnplpmaaDoorKit
import Derived.Test.YtnokiikgnplpmaaDoorVlq
import Derived.Laws.AppendOwn
import Derived.Maps.AppendAt
import Derived.Deep.AppendLies
import Derived.Lib.LaidPrint
import Derived.LoopTactic
namespace Go.Proofs.YtnokiikgnplpmaaDoor
open Go.RowKit

/-- The table of signs lies in its variable, below block B. -/
def B64 (B : Nat) (w : World) : Prop := ∃ R o c : Nat, R < B ∧ 0 < B ∧ w.cell? ⟨0, 0, none⟩ = some (.slice (some ⟨R, o, none⟩) 64 c) ∧ ∀ j : Nat, j < 64 → w.cell? ⟨R, o + j, none⟩ = some (.int .u8 (sg j : Int))

theorem B64.below {B : Nat} {w w' : World} (h : B64 B w) (hb : Below B w w') : B64 B w' := by
  obtain ⟨R, o, c, h1, h2, h3, h4⟩ := h
  exact ⟨R, o, c, h1, h2, (hb.cell (p := ⟨_, 0, none⟩) h2).trans h3, fun j hj => (hb.cell (p := ⟨R, o + j, none⟩) h1).trans (h4 j hj)⟩

/-- w' is w with new blocks, and with changes in the blocks of X alone. -/
structure Kep (X : Nat → Prop) (w w' : World) : Prop where
  os : w'.os = w.os
  tape : w'.tape = w.tape
  output : w'.output = w.output
  size : w.heap.size ≤ w'.heap.size
  block : ∀ k, k < w.heap.size → ¬ X k → w'.heap[k]? = w.heap[k]?

theorem Kep.refl (X : Nat → Prop) (w : World) : Kep X w w := ⟨rfl, rfl, rfl, Nat.le_refl _, fun _ _ _ => rfl⟩
theorem Kep.trans {X : Nat → Prop} {a b c : World} (h : Kep X a b) (k : Kep X b c) : Kep X a c :=
  ⟨k.os.trans h.os, k.tape.trans h.tape, k.output.trans h.output, Nat.le_trans h.size k.size, fun i hi hx => (k.block i (Nat.lt_of_lt_of_le hi h.size) hx).trans (h.block i hi hx)⟩
/-- Two steps, each with its own blocks: what the second one may change is the first one's to change, or new. -/
theorem Kep.then {X Y : Nat → Prop} {a b c : World} (h : Kep X a b) (k : Kep Y b c) (hy : ∀ i, Y i → X i ∨ a.heap.size ≤ i) : Kep X a c :=
  ⟨k.os.trans h.os, k.tape.trans h.tape, k.output.trans h.output, Nat.le_trans h.size k.size, fun i hi hx => (k.block i (Nat.lt_of_lt_of_le hi h.size) (fun q => by rcases hy i q with q | q; exact hx q; omega)).trans (h.block i hi hx)⟩
theorem Kep.mono {X Y : Nat → Prop} {a b : World} (h : Kep X a b) (hx : ∀ i, i < a.heap.size → X i → Y i) : Kep Y a b := ⟨h.os, h.tape, h.output, h.size, fun i hi hn => h.block i hi (fun q => hn (hx i hi q))⟩
theorem Kep.drew {X : Nat → Prop} {a w : World} (h : Kep X a w) : Kep X a w.drew := ⟨h.os, h.tape, h.output, h.size, h.block⟩
theorem Kep.alloc {X : Nat → Prop} {a w : World} (h : Kep X a w) (o : Obj) : Kep X a (w.alloc o) :=
  h.trans ⟨rfl, rfl, rfl, by simp, fun k hk _ => Below.heap_alloc _ _ _ hk⟩
theorem Kep.setCell {X : Nat → Prop} {a w : World} (h : Kep X a w) {p : Addr} (hp : X p.block ∨ a.heap.size ≤ p.block) (u : Value) : Kep X a (w.setCell p u) :=
  ⟨h.os, h.tape, h.output, by simpa [World.setCell] using h.size, fun k hk hx => (Below.heap_setCell _ _ _ _ (by rintro rfl; rcases hp with hp | hp; exact hx hp; omega)).trans (h.block k hk hx)⟩
theorem Kep.grown {X : Nat → Prop} {a w w' : World} {row : Option Nat} (h : Kep X a w) (hg : w.grownBy w' row) (hr : ∀ k, row = some k → X k ∨ a.heap.size ≤ k) : Kep X a w' :=
  ⟨hg.os.trans h.os, hg.tape.trans h.tape, hg.output.trans h.output, Nat.le_trans h.size hg.size, fun i hi hx => (hg.block i (Nat.lt_of_lt_of_le hi h.size) (fun e => by rcases hr i e.symm with q | q; exact hx q; omega)).trans (h.block i hi hx)⟩
theorem Kep.below {X : Nat → Prop} {w w' : World} {B : Nat} (h : Kep X w w') (hB : B ≤ w.heap.size) (hx : ∀ k, k < B → ¬ X k) : Below B w w' := ⟨h.os, h.tape, h.output, h.size, fun k hk => h.block k (by omega) (hx k hk)⟩
theorem Kep.of_below {w w' : World} {X : Nat → Prop} (h : Below w.heap.size w w') : Kep X w w' := ⟨h.os, h.tape, h.output, h.size, fun k hk _ => h.block k hk⟩
theorem Kep.of_grown {w w' : World} {row : Option Nat} (h : w.grownBy w' row) : Kep (fun k => row = some k) w w' := ⟨h.os, h.tape, h.output, h.size, fun k hk hx => h.block k hk (fun e => hx e.symm)⟩
theorem Kep.to_grown {w w' : World} {row : Option Nat} (h : Kep (fun k => row = some k) w w') : w.grownBy w' row := ⟨h.os, h.tape, h.output, h.size, fun k hk hx => h.block k hk (fun e => hx e.symm)⟩
theorem Kep.cell {X : Nat → Prop} {w w' : World} (h : Kep X w w') {p : Addr} (hp : p.block < w.heap.size) (hx : ¬ X p.block) : w'.cell? p = w.cell? p := World.cell?_of_block (w := w) (h.block p.block hp hx)
theorem Kep.frozen {X : Nat → Prop} {w w' : World} (h : Kep X w w') {p : Addr} (hp : p.block < w.heap.size) (hx : ¬ X p.block) : w'.frozen? p = w.frozen? p := World.frozen?_of_block (w := w) (h.block p.block hp hx)
end Go.Proofs.YtnokiikgnplpmaaDoor

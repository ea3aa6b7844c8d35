/-
  What a step may have changed in memory. Conditions: as each lemma says.
-/
import Derived.Test.YtmncaibhdpcblaaKit
import Derived.Laws.AppendOwn
import Derived.Maps.AppendAt
import Derived.Lib.OthersKept
namespace Go.Proofs.Ytmncaibhdpcblaa
open Go.RowKit

/-- w' is w with new blocks, and with changes in the blocks of X alone. -/
structure Kep (X : Nat → Prop) (w w' : World) : Prop where
  os : w'.os = w.os
  tape : w'.tape = w.tape
  output : w'.output = w.output
  size : w.heap.size ≤ w'.heap.size
  block : ∀ k, k < w.heap.size → ¬ X k → w'.heap[k]? = w.heap[k]?

theorem Kep.refl (X : Nat → Prop) (w : World) : Kep X w w := ⟨rfl, rfl, rfl, Nat.le_refl _, fun _ _ _ => rfl⟩
theorem Kep.trans {X : Nat → Prop} {a b c : World} (h : Kep X a b) (k : Kep X b c) : Kep X a c :=
  ⟨k.os.trans h.os, k.tape.trans h.tape, k.output.trans h.output, Nat.le_trans h.size k.size, fun i hi hx => (k.block i (Nat.lt_of_lt_of_le hi h.size) hx).trans (h.block i hi hx)⟩
/-- Two steps, each with its own blocks: what the second one may change is the first one's to change, or new. -/
theorem Kep.then {X Y : Nat → Prop} {a b c : World} (h : Kep X a b) (k : Kep Y b c) (hy : ∀ i, Y i → X i ∨ a.heap.size ≤ i) : Kep X a c :=
  ⟨k.os.trans h.os, k.tape.trans h.tape, k.output.trans h.output, Nat.le_trans h.size k.size, fun i hi hx => (k.block i (Nat.lt_of_lt_of_le hi h.size) (fun q => by rcases hy i q with q | q; exact hx q; omega)).trans (h.block i hi hx)⟩
theorem Kep.mono {X Y : Nat → Prop} {a b : World} (h : Kep X a b) (hx : ∀ i, i < a.heap.size → X i → Y i) : Kep Y a b := ⟨h.os, h.tape, h.output, h.size, fun i hi hn => h.block i hi (fun q => hn (hx i hi q))⟩
theorem Kep.drew {X : Nat → Prop} {a w : World} (h : Kep X a w) : Kep X a w.drew := ⟨h.os, h.tape, h.output, h.size, h.block⟩
theorem Kep.alloc {X : Nat → Prop} {a w : World} (h : Kep X a w) (o : Obj) : Kep X a (w.alloc o) :=
  h.trans ⟨rfl, rfl, rfl, by simp, fun k hk _ => Below.heap_alloc _ _ _ hk⟩
theorem Kep.setCell {X : Nat → Prop} {a w : World} (h : Kep X a w) {p : Addr} (hp : X p.block ∨ a.heap.size ≤ p.block) (u : Value) : Kep X a (w.setCell p u) :=
  ⟨h.os, h.tape, h.output, by simpa [World.setCell] using h.size, fun k hk hx => (Below.heap_setCell _ _ _ _ (by rintro rfl; rcases hp with hp | hp; exact hx hp; omega)).trans (h.block k hk hx)⟩
theorem Kep.grown {X : Nat → Prop} {a w w' : World} {row : Option Nat} (h : Kep X a w) (hg : w.grownBy w' row) (hr : ∀ k, row = some k → X k ∨ a.heap.size ≤ k) : Kep X a w' :=
  ⟨hg.os.trans h.os, hg.tape.trans h.tape, hg.output.trans h.output, Nat.le_trans h.size hg.size, fun i hi hx => (hg.block i (Nat.lt_of_lt_of_le hi h.size) (fun e => by rcases hr i e.symm with q | q; exact hx q; omega)).trans (h.block i hi hx)⟩
theorem Kep.below {X : Nat → Prop} {w w' : World} {B : Nat} (h : Kep X w w') (hB : B ≤ w.heap.size) (hx : ∀ k, k < B → ¬ X k) : Below B w w' := ⟨h.os, h.tape, h.output, h.size, fun k hk => h.block k (by omega) (hx k hk)⟩
theorem Kep.of_below {w w' : World} {X : Nat → Prop} (h : Below w.heap.size w w') : Kep X w w' := ⟨h.os, h.tape, h.output, h.size, fun k hk _ => h.block k hk⟩
theorem Kep.of_grown {w w' : World} {row : Option Nat} (h : w.grownBy w' row) : Kep (fun k => row = some k) w w' := ⟨h.os, h.tape, h.output, h.size, fun k hk hx => h.block k hk (fun e => hx e.symm)⟩
theorem Kep.to_grown {w w' : World} {row : Option Nat} (h : Kep (fun k => row = some k) w w') : w.grownBy w' row := ⟨h.os, h.tape, h.output, h.size, fun k hk hx => h.block k hk (fun e => hx e.symm)⟩
theorem Kep.cell {X : Nat → Prop} {w w' : World} (h : Kep X w w') {p : Addr} (hp : p.block < w.heap.size) (hx : ¬ X p.block) : w'.cell? p = w.cell? p := World.cell?_of_block (w := w) (h.block p.block hp hx)
theorem Kep.frozen {X : Nat → Prop} {w w' : World} (h : Kep X w w') {p : Addr} (hp : p.block < w.heap.size) (hx : ¬ X p.block) : w'.frozen? p = w.frozen? p := World.frozen?_of_block (w := w) (h.block p.block hp hx)
/-- A block is known whole. -/
def Blk (w : World) (g : Nat) (t : TypeId) (cs : Array Value) : Prop := w.heap[g]? = some (.cells cs t (0, 0))
theorem Blk.cell {w : World} {g : Nat} {t : TypeId} {cs : Array Value} (h : Blk w g t cs) (i : Nat) : w.cell? ⟨g, i, none⟩ = cs[i]? := cell_of_row w g i cs t (0, 0) h
theorem Blk.frozen {w : World} {g : Nat} {t : TypeId} {cs : Array Value} (h : Blk w g t cs) (i : Nat) : w.frozen? ⟨g, i, none⟩ = false := by
  unfold Blk at h
  simp [World.frozen?, h]
theorem Blk.lt {w : World} {g : Nat} {t : TypeId} {cs : Array Value} (h : Blk w g t cs) : g < w.heap.size := by
  rcases Nat.lt_or_ge g w.heap.size with hlt | hge
  · exact hlt
  · unfold Blk at h; rw [Array.getElem?_eq_none hge] at h; cases h
theorem Blk.kep {w w' : World} {g : Nat} {t : TypeId} {cs : Array Value} {X : Nat → Prop} (h : Blk w g t cs) (k : Kep X w w') (hx : ¬ X g) : Blk w' g t cs := (k.block g h.lt hx).trans h
theorem Blk.new (w : World) (t : TypeId) (cs : Array Value) : Blk (w.alloc (.cells cs t)) w.heap.size t cs := heap_alloc_new w _
theorem Blk.alloc {w : World} {g : Nat} {t : TypeId} {cs : Array Value} (h : Blk w g t cs) (o : Obj) : Blk (w.alloc o) g t cs := (Below.heap_alloc w o g h.lt).trans h
theorem Blk.drew {w : World} {g : Nat} {t : TypeId} {cs : Array Value} (h : Blk w g t cs) : Blk w.drew g t cs := h
theorem Blk.set_ {w : World} {g : Nat} {t : TypeId} {cs : Array Value} (h : Blk w g t cs) (i : Nat) (u : Value) : Blk (w.setCell ⟨g, i, none⟩ u) g t (cs.setIfInBounds i u) := by
  unfold Blk at h ⊢
  simp [World.setCell, Array.getElem?_modify, h]
theorem Blk.far {w : World} {g : Nat} {t : TypeId} {cs : Array Value} (h : Blk w g t cs) {p : Addr} (hp : g ≠ p.block) (u : Value) : Blk (w.setCell p u) g t cs := (Below.heap_setCell w p u g hp).trans h

theorem Blk.iterAt {w : World} {g : Nat} {t : TypeId} {cs : Array Value} (h : Blk w g t cs) {k : Nat} {s : ByteArray} {p : Nat} (hk : w.heap[k]? = some (.stringIter s p)) (p' : Nat) : Blk (w.iterAt k s p') g t cs := by
  unfold Blk at h ⊢
  rw [Lib.iterAt_other _ _ _ _ _ (by rintro rfl; rw [hk] at h; cases h)]
  exact h
theorem Kep.iterAt {X : Nat → Prop} {a w : World} (h : Kep X a w) {k : Nat} (hk : X k ∨ a.heap.size ≤ k) (s : ByteArray) (p : Nat) : Kep X a (w.iterAt k s p) :=
  ⟨h.os, h.tape, h.output, by rw [Lib.iterAt_size]; exact h.size, fun i hi hx => (Lib.iterAt_other w k i s p (by rintro rfl; rcases hk with q | q; exact hx q; omega)).trans (h.block i hi hx)⟩
end Go.Proofs.Ytmncaibhdpcblaa

/-
  Rows of one's own, where a step has changed only some blocks. Conditions: as each lemma says.
-/
import Derived.Test.YtmncaibhdpcblaaKepKit
import Derived.Laws.OwnMore
import Derived.Deep.Onto
namespace Go.Proofs.Ytmncaibhdpcblaa
open Go.RowKit

theorem cell_lt' {w : World} {p : Addr} {v : Value} (h : w.cell? p = some v) : p.block < w.heap.size := by
  rcases Nat.lt_or_ge p.block w.heap.size with h1 | h1
  · exact h1
  · simp [World.cell?, Array.getElem?_eq_none h1] at h
theorem heap_new2 (w : World) (o p : Obj) : ((w.alloc o).alloc p).heap[w.heap.size + 1]? = some p := by
  have h := heap_alloc_new (w.alloc o) p
  rw [show (w.alloc o).heap.size = w.heap.size + 1 by simp] at h
  exact h
theorem own_kep {X : Nat → Prop} {w w' : World} {base : Nat} {e : TypeId} {size : Nat} {v : Value} {n : Nat} {xs : List Value} (h : w.ownsRow base e size v n xs) (k : Kep X w w') (hx : ∀ g, v.ownBlock = some g → ¬ X g) : w'.ownsRow base e size v n xs := by
  obtain ⟨h1, h2⟩ := h
  refine ⟨h1, ?_⟩
  rcases h2 with h2 | ⟨g, cap, cur, rfl, h3, h4, h5⟩
  · exact .inl h2
  · have hlt : g < w.heap.size := (Array.getElem?_eq_some_iff.1 h4).1
    exact .inr ⟨g, cap, cur, rfl, h3, (k.block g hlt (hx g rfl)).trans h4, h5⟩
theorem own_below {w w' : World} {base : Nat} {e : TypeId} {size : Nat} {v : Value} {n : Nat} {xs : List Value} (h : w.ownsRow base e size v n xs) (hb : Below w.heap.size w w') : w'.ownsRow base e size v n xs :=
  own_kep h (Kep.of_below (X := fun _ => False) hb) (fun _ _ q => q)
theorem Blk.below {w w' : World} {g : Nat} {t : TypeId} {cs : Array Value} (h : Blk w g t cs) (hb : Below w.heap.size w w') : Blk w' g t cs := h.kep (Kep.of_below (X := fun _ => False) hb) (fun q => q)
theorem Blk.grown {w w' : World} {g : Nat} {t : TypeId} {cs : Array Value} {row : Option Nat} (h : Blk w g t cs) (hg : w.grownBy w' row) (hr : row ≠ some g) : Blk w' g t cs := (hg.block g h.lt (fun e => hr e.symm)).trans h
/-- What was made behind base is not below it. -/
theorem own_ge {w : World} {base : Nat} {e : TypeId} {size : Nat} {v : Value} {n : Nat} {xs : List Value} (h : w.ownsRow base e size v n xs) {g : Nat} (hg : g < base) : v.ownBlock ≠ some g := fun q => by have := (h.lt _ q).1; omega
theorem below_grown {a w w' : World} {B : Nat} {row : Option Nat} (h : Below B a w) (hB : B ≤ a.heap.size) (hg : w.grownBy w' row) (hr : ∀ k, row = some k → B ≤ k) : Below B a w' :=
  ⟨hg.os.trans h.os, hg.tape.trans h.tape, hg.output.trans h.output, Nat.le_trans h.size hg.size, fun k hk => (hg.block k (by have := h.size; omega) (fun q => by have := hr k q.symm; omega)).trans (h.block k hk)⟩
theorem below_drewN {a w : World} {B : Nat} (h : Below B a w) (q : Nat) : Below B a (w.drewN q) := ⟨h.os, h.tape, h.output, h.size, h.block⟩
end Go.Proofs.Ytmncaibhdpcblaa

/-
  A whole struct is stored into a block that is known whole, or loaded out of the middle of one. Conditions: as each lemma says.
-/
import Derived.Test.YtnokiikgnplpmaaDoorMapFn
import Derived.Deep.MidRow
namespace Go.Proofs.YtnokiikgnplpmaaDoor
open Go.RowKit

theorem heap_setCells (g : Nat) : ∀ (vs : List Value) (o : Nat) (w : World) (k : Nat), k ≠ g → (w.setCells g o vs).heap[k]? = w.heap[k]?
  | [], _, _, _, _ => rfl
  | v :: r, o, w, k, h => by rw [World.setCells, heap_setCells g r (o + 1) _ k h]; exact Below.heap_setCell w ⟨g, o, none⟩ v k h
theorem size_setCells (g : Nat) : ∀ (vs : List Value) (o : Nat) (w : World), (w.setCells g o vs).heap.size = w.heap.size
  | [], _, _ => rfl
  | v :: r, o, w => by rw [World.setCells, size_setCells g r (o + 1) _, World.size_setCell]
theorem rest_setCells (g : Nat) : ∀ (vs : List Value) (o : Nat) (w : World), (w.setCells g o vs).os = w.os ∧ (w.setCells g o vs).tape = w.tape ∧ (w.setCells g o vs).output = w.output
  | [], _, _ => ⟨rfl, rfl, rfl⟩
  | v :: r, o, w => by rw [World.setCells]; exact rest_setCells g r (o + 1) _
theorem Kep.setCells {X : Nat → Prop} {a w : World} (h : Kep X a w) {g : Nat} (hp : X g ∨ a.heap.size ≤ g) (o : Nat) (vs : List Value) : Kep X a (w.setCells g o vs) := by
  obtain ⟨r1, r2, r3⟩ := rest_setCells g vs o w
  exact ⟨r1.trans h.os, r2.trans h.tape, r3.trans h.output, by rw [size_setCells]; exact h.size, fun k hk hx => (heap_setCells g vs o w k (by rintro rfl; rcases hp with q | q; exact hx q; omega)).trans (h.block k hk hx)⟩
theorem Blk.setCells {g : Nat} {t : TypeId} : ∀ (vs : List Value) (o : Nat) (w : World) (cs : Array Value), Blk w g t cs → o + vs.length ≤ cs.size → ∃ cs', Blk (w.setCells g o vs) g t cs' ∧ cs'.toList = cs.toList.take o ++ vs ++ cs.toList.drop (o + vs.length)
  | [], o, w, cs, h, _ => ⟨cs, h, by simp⟩
  | v :: r, o, w, cs, h, hs => by
    have hs' : o + (r.length + 1) ≤ cs.size := by simpa using hs
    obtain ⟨cs', h1, h2⟩ := Blk.setCells r (o + 1) _ _ (h.set_ o v) (by rw [Array.size_setIfInBounds]; omega)
    refine ⟨cs', h1, ?_⟩
    rw [h2, Array.toList_setIfInBounds]
    have e1 : List.take (o + 1) (cs.toList.set o v) = cs.toList.take o ++ [v] := by
      rw [List.take_succ_eq_append_getElem (by simp; omega), List.take_set_of_le (Nat.le_refl _)]
      simp
    have e2 : List.drop (o + 1 + r.length) (cs.toList.set o v) = cs.toList.drop (o + (v :: r).length) := by
      rw [List.drop_set_of_lt (by omega)]
      congr 1
      simp
      omega
    rw [e1, e2]
    simp
theorem Blk.setAll {w : World} {g : Nat} {t : TypeId} {cs0 : Array Value} (h : Blk w g t cs0) (cs : Array Value) (hz : cs.size = cs0.size) : Blk (w.setCells g 0 cs.toList) g t cs := by
  obtain ⟨cs', h1, h2⟩ := Blk.setCells cs.toList 0 w cs0 h (by simp; omega)
  have : cs' = cs := by
    apply Array.ext'
    rw [h2]
    have : List.drop (0 + cs.toList.length) cs0.toList = [] := by
      rw [List.drop_eq_nil_iff]
      simp
      omega
    rw [this]
    simp
  rw [← this]
  rw [this] at h1 ⊢
  exact h1
theorem Blk.there {w : World} {g : Nat} {t : TypeId} {cs : Array Value} (h : Blk w g t cs) (o n : Nat) (hn : o + n ≤ cs.size) : w.there g o n := fun j hj => by
  refine ⟨?_, h.frozen _⟩
  rw [h.cell, Array.getElem?_eq_getElem (by omega)]
  rfl

/-- A whole struct is stored into a block that is known whole. -/
theorem wpList_store_blk {P : Program} {ops : Array Oper} {rest : List Oper} {op : Oper} {a : Act} {w : World} {Q : Exit → Act → World → Prop} (hgd : op.guard = none) (ty : TypeId) (x y : Operand) (ho : op.op = .store ty x y)
    (g : Nat) (t : TypeId) (cs0 cs : Array Value) (hx : a.eval x = .pointer (some ⟨g, 0, none⟩)) (hy : a.eval y = .agg cs) (hb : Blk w g t cs0) (hz : cs.size = cs0.size) (hi : (P.info? ty).map (·.size) = some cs.size) (h1 : cs.all (·.oneCell') = true)
    (h : ∀ w' : World, Blk w' g t cs → Kep (fun k => k = g) w w' → w'.heap.size = w.heap.size → wpList P ops Q rest (a.put op.dst undef) w') : wpList P ops Q (op :: rest) a w :=
  wpList_store_mid hgd ty x y ho g 0 cs hx hy (hb.there 0 cs.size (by omega)) hi h1 (h _ (hb.setAll cs hz) ((Kep.refl (fun k => k = g) w).setCells (.inl rfl) 0 _) (size_setCells g _ 0 w))
theorem own_kep {X : Nat → Prop} {w w' : World} {base : Nat} {e : TypeId} {size : Nat} {v : Value} {n : Nat} {xs : List Value} (h : w.ownsRow base e size v n xs) (k : Kep X w w') (hx : ∀ g, v.ownBlock = some g → ¬ X g) : w'.ownsRow base e size v n xs := by
  obtain ⟨h1, h2⟩ := h
  refine ⟨h1, ?_⟩
  rcases h2 with h2 | ⟨g, cap, cur, rfl, h3, h4, h5⟩
  · exact .inl h2
  · have hlt : g < w.heap.size := (Array.getElem?_eq_some_iff.1 h4).1
    exact .inr ⟨g, cap, cur, rfl, h3, (k.block g hlt (hx g rfl)).trans h4, h5⟩
end Go.Proofs.YtnokiikgnplpmaaDoor

/-
  Two variables of a law's own, stored in whatever order: what lies in them. Conditions: as each lemma says.
-/
import Derived.Test.YtnokiikgnplpmaaDoorSetKit
namespace Go.Proofs.YtnokiikgnplpmaaDoor
open Go.RowKit

theorem spl_new2 (w : World) (o : Obj) (t : TypeId) (cs : Array Value) : Blk ((w.alloc o).alloc (.cells cs t)) (w.heap.size + 1) t cs := by
  have h := Blk.new (w.alloc o) t cs
  rw [show (w.alloc o).heap.size = w.heap.size + 1 by simp] at h
  exact h
/-- Two variables of the law's own. -/
def Out2 (w6 : World) (xs ps : Array Value) (h15 h16 : Nat) (wx : World) : Prop := Blk wx h15 45 xs ∧ Blk wx h16 42 ps ∧ h15 ≠ h16 ∧ w6.heap.size ≤ h15 ∧ w6.heap.size ≤ h16 ∧ Below w6.heap.size w6 wx
def s7 (w : World) (h : Nat) (a b c d e f g : Value) : World := ((((((w.setCell ⟨h, 0, none⟩ a).setCell ⟨h, 1, none⟩ b).setCell ⟨h, 2, none⟩ c).setCell ⟨h, 3, none⟩ d).setCell ⟨h, 4, none⟩ e).setCell ⟨h, 5, none⟩ f).setCell ⟨h, 6, none⟩ g
def s2 (w : World) (h : Nat) (a b : Value) : World := (w.setCell ⟨h, 0, none⟩ a).setCell ⟨h, 1, none⟩ b
theorem s7_size (w : World) (h : Nat) (a b c d e f g : Value) : (s7 w h a b c d e f g).heap.size = w.heap.size := by simp [s7, World.setCell]
theorem s2_size (w : World) (h : Nat) (a b : Value) : (s2 w h a b).heap.size = w.heap.size := by simp [s2, World.setCell]
theorem Blk.s7 {w : World} {h : Nat} {t : TypeId} {z0 z1 z2 z3 z4 z5 z6 : Value} (hb : Blk w h t #[z0, z1, z2, z3, z4, z5, z6]) (a b c d e f g : Value) : Blk (s7 w h a b c d e f g) h t #[a, b, c, d, e, f, g] := by
  have := ((((((hb.set_ 0 a).set_ 1 b).set_ 2 c).set_ 3 d).set_ 4 e).set_ 5 f).set_ 6 g
  unfold Go.Proofs.YtnokiikgnplpmaaDoor.s7
  simpa using this
theorem Blk.s2 {w : World} {h : Nat} {t : TypeId} {z0 z1 : Value} (hb : Blk w h t #[z0, z1]) (a b : Value) : Blk (s2 w h a b) h t #[a, b] := by
  have := (hb.set_ 0 a).set_ 1 b
  unfold Go.Proofs.YtnokiikgnplpmaaDoor.s2
  simpa using this
theorem Blk.far7 {w : World} {h k : Nat} {t : TypeId} {cs : Array Value} (hb : Blk w k t cs) (hne : k ≠ h) (a b c d e f g : Value) : Blk (Go.Proofs.YtnokiikgnplpmaaDoor.s7 w h a b c d e f g) k t cs :=
  ((((((hb.far (p := ⟨h, 0, none⟩) hne a).far (p := ⟨h, 1, none⟩) hne b).far (p := ⟨h, 2, none⟩) hne c).far (p := ⟨h, 3, none⟩) hne d).far (p := ⟨h, 4, none⟩) hne e).far (p := ⟨h, 5, none⟩) hne f).far (p := ⟨h, 6, none⟩) hne g
theorem Blk.far2 {w : World} {h k : Nat} {t : TypeId} {cs : Array Value} (hb : Blk w k t cs) (hne : k ≠ h) (a b : Value) : Blk (Go.Proofs.YtnokiikgnplpmaaDoor.s2 w h a b) k t cs :=
  (hb.far (p := ⟨h, 0, none⟩) hne a).far (p := ⟨h, 1, none⟩) hne b
theorem bel7 {B : Nat} {w6 w : World} (hX : Below B w6 w) {h : Nat} (hh : B ≤ h) (a b c d e f g : Value) : Below B w6 (s7 w h a b c d e f g) :=
  ((((((hX.setCell (p := ⟨h, 0, none⟩) hh a).setCell (p := ⟨h, 1, none⟩) hh b).setCell (p := ⟨h, 2, none⟩) hh c).setCell (p := ⟨h, 3, none⟩) hh d).setCell (p := ⟨h, 4, none⟩) hh e).setCell (p := ⟨h, 5, none⟩) hh f).setCell (p := ⟨h, 6, none⟩) hh g
theorem bel2 {B : Nat} {w6 w : World} (hX : Below B w6 w) {h : Nat} (hh : B ≤ h) (a b : Value) : Below B w6 (s2 w h a b) :=
  (hX.setCell (p := ⟨h, 0, none⟩) hh a).setCell (p := ⟨h, 1, none⟩) hh b

section
variable {w6 w' : World} (hX : Below w6.heap.size w6 w') (a b c d e f g p q z0 z1 z2 z3 z4 z5 z6 y0 y1 : Value)
include hX
theorem out_1 (S P : Array Value) : Out2 w6 S P w'.heap.size (w'.heap.size + 1) ((w'.alloc (.cells S 45)).alloc (.cells P 42)) :=
  ⟨(Blk.new w' _ _).alloc _, spl_new2 w' _ _ _, by omega, hX.size, by have := hX.size; omega, balloc (balloc hX _) _⟩
theorem out_2 (S P : Array Value) : Out2 w6 S P (w'.heap.size + 1) w'.heap.size ((w'.alloc (.cells P 42)).alloc (.cells S 45)) :=
  ⟨spl_new2 w' _ _ _, (Blk.new w' _ _).alloc _, by omega, by have := hX.size; omega, hX.size, balloc (balloc hX _) _⟩
theorem out_3 (P : Array Value) {z0 z1 z2 z3 z4 z5 z6 : Value} (hA : Blk w' w6.heap.size 45 #[z0, z1, z2, z3, z4, z5, z6]) : Out2 w6 #[a, b, c, d, e, f, g] P w6.heap.size w'.heap.size ((((((((w'.setCell ⟨w6.heap.size, 0, none⟩ a).setCell ⟨w6.heap.size, 1, none⟩ b).setCell ⟨w6.heap.size, 2, none⟩ c).setCell ⟨w6.heap.size, 3, none⟩ d).setCell ⟨w6.heap.size, 4, none⟩ e).setCell ⟨w6.heap.size, 5, none⟩ f).setCell ⟨w6.heap.size, 6, none⟩ g).alloc (.cells P 42)) := by
  have hlt := hA.lt
  have h1 := Blk.new (s7 w' w6.heap.size a b c d e f g) 42 P
  rw [s7_size] at h1
  exact ⟨(hA.s7 a b c d e f g).alloc _, h1, by omega, Nat.le_refl _, hX.size, balloc (bel7 hX (Nat.le_refl _) a b c d e f g) _⟩
theorem out_4 {z0 z1 z2 z3 z4 z5 z6 y0 y1 : Value} (hA : Blk w' w6.heap.size 45 #[z0, z1, z2, z3, z4, z5, z6]) (hB : Blk w' (w6.heap.size + 1) 42 #[y0, y1]) : Out2 w6 #[a, b, c, d, e, f, g] #[p, q] w6.heap.size (w6.heap.size + 1) (((((((((w'.setCell ⟨w6.heap.size, 0, none⟩ a).setCell ⟨w6.heap.size, 1, none⟩ b).setCell ⟨w6.heap.size, 2, none⟩ c).setCell ⟨w6.heap.size, 3, none⟩ d).setCell ⟨w6.heap.size, 4, none⟩ e).setCell ⟨w6.heap.size, 5, none⟩ f).setCell ⟨w6.heap.size, 6, none⟩ g).setCell ⟨w6.heap.size + 1, 0, none⟩ p).setCell ⟨w6.heap.size + 1, 1, none⟩ q) :=
  ⟨(hA.s7 a b c d e f g).far2 (by omega) p q, (hB.far7 (by omega) a b c d e f g).s2 p q, by omega, Nat.le_refl _, by omega, bel2 (bel7 hX (Nat.le_refl _) a b c d e f g) (Nat.le_succ _) p q⟩
theorem out_5 (S : Array Value) {y0 y1 : Value} (hB : Blk w' w6.heap.size 42 #[y0, y1]) : Out2 w6 S #[p, q] w'.heap.size w6.heap.size (((w'.setCell ⟨w6.heap.size, 0, none⟩ p).setCell ⟨w6.heap.size, 1, none⟩ q).alloc (.cells S 45)) := by
  have hlt := hB.lt
  have h1 := Blk.new (s2 w' w6.heap.size p q) 45 S
  rw [s2_size] at h1
  exact ⟨h1, (hB.s2 p q).alloc _, by omega, hX.size, Nat.le_refl _, balloc (bel2 hX (Nat.le_refl _) p q) _⟩
theorem out_6 {z0 z1 z2 z3 z4 z5 z6 y0 y1 : Value} (hA : Blk w' (w6.heap.size + 1) 45 #[z0, z1, z2, z3, z4, z5, z6]) (hB : Blk w' w6.heap.size 42 #[y0, y1]) : Out2 w6 #[a, b, c, d, e, f, g] #[p, q] (w6.heap.size + 1) w6.heap.size (((((((((w'.setCell ⟨w6.heap.size + 1, 0, none⟩ a).setCell ⟨w6.heap.size + 1, 1, none⟩ b).setCell ⟨w6.heap.size + 1, 2, none⟩ c).setCell ⟨w6.heap.size + 1, 3, none⟩ d).setCell ⟨w6.heap.size + 1, 4, none⟩ e).setCell ⟨w6.heap.size + 1, 5, none⟩ f).setCell ⟨w6.heap.size + 1, 6, none⟩ g).setCell ⟨w6.heap.size, 0, none⟩ p).setCell ⟨w6.heap.size, 1, none⟩ q) :=
  ⟨(hA.s7 a b c d e f g).far2 (by omega) p q, (hB.far7 (by omega) a b c d e f g).s2 p q, by omega, by omega, Nat.le_refl _, bel2 (bel7 hX (Nat.le_succ _) a b c d e f g) (Nat.le_refl _) p q⟩
end
end Go.Proofs.YtnokiikgnplpmaaDoor

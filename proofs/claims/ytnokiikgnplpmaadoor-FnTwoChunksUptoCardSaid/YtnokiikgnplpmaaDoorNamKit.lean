/-
  Mappings of laws.named: how long their text is, where they end; a state of numbers: plain. Conditions: as each lemma says.
-/
import Derived.Test.YtnokiikgnplpmaaDoorM21
import Derived.Test.YtnokiikgnplpmaaDoorM16
import Derived.Test.YtnokiikgnplpmaaDoorM17
namespace Go.Proofs.YtnokiikgnplpmaaDoor
open Go.RowKit

theorem nam_ne (Z : Nat → Nat → Int) (n : Nat) (h : 0 < n) (h2 : n ≤ 4194304) : rsegs qz (wtk (namL Z n)) ≠ [] := by
  rw [(wtk_read (nam_ok Z n h2)).2.2]
  intro e
  have := namL_len Z n
  rw [e] at this
  simp at this
  omega
theorem nam_end2 (Z : Nat → Nat → Int) (n : Nat) : 0 ≤ (wst (namL Z n)).1.l ∧ (wst (namL Z n)).1.l ≤ 2 * (n : Int) + 2 := by
  rw [nam_wst]
  have := at_bd Z n
  omega
theorem nam_short2 (Z : Nat → Nat → Int) (n : Nat) (h : n ≤ 4194304) : (tokB true (wtk (namL Z n))).length ≤ 68 * n + 2 := by
  have h1 := wtk_short (nam_ok Z n h)
  have h2 := nam_end2 Z n
  rw [namL_len] at h1
  omega
theorem wtk_last {l : List Seg} (h : l ≠ []) : segLast (wtk l) = true := by
  rcases List.eq_nil_or_concat l with rfl | ⟨p, x, rfl⟩
  · exact absurd rfl h
  · rw [List.concat_eq_append, wtk_snoc]
    unfold wtok segLast
    rw [← List.append_assoc, List.getLast?_append]
    rfl
/-- How far mappings of laws.named reach. -/
theorem nam_small (Z : Nat → Nat → Int) (n : Nat) : ∀ x ∈ namL Z n, (0 ≤ x.l ∧ x.l ≤ 2 * (n : Int) + 2) ∧ (0 ≤ x.c ∧ x.c ≤ 999 * (n : Int) + 999) ∧ (0 ≤ x.s ∧ x.s < 100) ∧ (0 ≤ x.fl ∧ x.fl < 10000) ∧ (0 ≤ x.fc ∧ x.fc < 10000) ∧ (0 ≤ x.nm ∧ x.nm < 200) := by
  intro x hx
  unfold namL at hx
  obtain ⟨i, hi, rfl⟩ := List.mem_map.1 hx
  rw [List.mem_range] at hi
  obtain ⟨h1, h2, h3, h4, h5⟩ := nsg_le Z i
  obtain ⟨h6, h7, _⟩ := nsg_nm Z i
  have ha := at_bd Z (i + 1)
  rw [h1, h2, h3, h4, h5]
  refine ⟨by omega, by omega, by omega, by omega, by omega, by omega⟩
/-- Where mappings end. -/
theorem wst_small {l : List Seg} {P : Seg → Prop} (h0 : P qz.1) (h : ∀ x ∈ l, P x) : P (wst l).1 := by
  rcases List.eq_nil_or_concat l with rfl | ⟨p, x, rfl⟩
  · exact h0
  · rw [List.concat_eq_append, wst_snoc]
    exact h x (by simp)
theorem wst_name {l : List Seg} {N : Int} (hN : 0 ≤ N) (h : ∀ x ∈ l, 0 ≤ x.nm ∧ x.nm ≤ N) : 0 ≤ (wst l).2 ∧ (wst l).2 ≤ N := by
  induction l using snoc_ind with
  | h0 => exact ⟨Int.le_refl _, hN⟩
  | hs l x ih =>
    rw [wst_snoc]
    unfold wnx
    simp only
    split
    · exact h x (by simp)
    · exact ih (fun y hy => h y (by simp [hy]))
/-- How long tokens are that end in a mapping. -/
theorem toks_short {toks : List (Option (List Int))} (h : rok qz toks) (hs : segLast toks = true) {N : Int} (hN : 0 ≤ N) (hb : ∀ x ∈ rsegs qz toks, 0 ≤ x.l ∧ x.l ≤ N) : (tokB true toks).length ≤ N.toNat + 66 * (rsegs qz toks).length := by
  have h1 := tok_short toks qz true h
  have h2 := (rgo_wst toks).2 hs
  have h3 := wst_small (l := rsegs qz toks) (P := fun x => 0 ≤ x.l ∧ x.l ≤ N) ⟨Int.le_refl _, hN⟩ hb
  rw [h2] at h1
  have h4 : qz.1.l = 0 := rfl
  rw [h4] at h1
  omega
/-- Cells in memory, from a block's beginning on. -/
def CellsAt (w : World) (g : Nat) (xs : List Value) : Prop := g < w.heap.size ∧ ∀ (j : Nat) (u : Value), xs[j]? = some u → w.cell? ⟨g, j, none⟩ = some u
theorem CellsAt.below {w w' : World} {g : Nat} {xs : List Value} (h : CellsAt w g xs) (hb : Below w.heap.size w w') : CellsAt w' g xs :=
  ⟨Nat.lt_of_lt_of_le h.1 hb.size, fun j u hj => (hb.cell (p := ⟨g, j, none⟩) h.1).trans (h.2 j u hj)⟩
theorem cells_own {w : World} {base : Nat} {e : TypeId} {size g n m c : Nat} {xs : List Value} (h : w.ownsRow base e size (.slice (some ⟨g, 0, none⟩) n c) m xs) (hm : 0 < m) : CellsAt w g xs := by
  obtain ⟨A, c', e1, hA⟩ := own_form h
  obtain ⟨k, rfl, hk⟩ := hA hm
  injection e1 with e1 _ _
  injection e1 with e1
  injection e1 with e1 _ _
  subst e1
  exact ⟨(own_lt h rfl).2, hk⟩
theorem mvS_eq {m m' : Seg} (h1 : m.l = m'.l) (h2 : m.c = m'.c) (h3 : m.s = m'.s) (h4 : m.fl = m'.fl) (h5 : m.fc = m'.fc) (h6 : m.nm = m'.nm) : mvS m = mvS m' := by
  funext x
  unfold mvS
  rw [h1, h2, h3, h4, h5, h6]
theorem sgs_app (a b : List Seg) : sgs (a ++ b) = sgs a ++ sgs b := by simp [sgs]
/-- A state of numbers, as a mapping. -/
def begS (l0 l1 l2 l3 l4 l5 : Int) : Seg := ⟨l0 % 4, l1 % 1048576, l2 % 1000, l3 % 1048576, l4 % 1048576, l5 % 1000, false⟩
end Go.Proofs.YtnokiikgnplpmaaDoor

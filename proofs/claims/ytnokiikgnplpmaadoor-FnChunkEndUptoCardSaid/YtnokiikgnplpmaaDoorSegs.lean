/-
  Mappings as plain data, and mappings at rising places: no program. Conditions: as each lemma says.
-/
import Derived.KernelRfl
import Derived.Laws.AppendOwn
namespace Go.Proofs.YtnokiikgnplpmaaDoor

/-- A mapping. -/
structure Seg where
  l : Int
  c : Int
  s : Int
  fl : Int
  fc : Int
  nm : Int
  nd : Bool
/-- Its cells. -/
def Seg.cells (x : Seg) : List Value := [.int .i64 x.l, .int .i64 x.c, .int .i64 x.s, .int .i64 x.fl, .int .i64 x.fc, .int .i64 x.nm, .bool x.nd]
def sgs (l : List Seg) : List Value := l.flatMap Seg.cells
theorem Seg.cells_len (x : Seg) : x.cells.length = 7 := rfl
theorem sgs_len (l : List Seg) : (sgs l).length = l.length * 7 := by
  induction l with
  | nil => rfl
  | cons x l ih => simp [sgs, Seg.cells] at ih ⊢; omega
theorem sgs_snoc (l : List Seg) (x : Seg) : sgs (l ++ [x]) = sgs l ++ x.cells := by simp [sgs]
theorem sgs_at (l : List Seg) (i j : Nat) (hi : i < l.length) (hj : j < 7) : (sgs l)[i * 7 + j]? = (l[i]).cells[j]? := by
  induction l generalizing i with
  | nil => simp at hi
  | cons x l ih =>
    have e : sgs (x :: l) = x.cells ++ sgs l := by simp [sgs]
    rw [e]
    cases i with
    | zero =>
      rw [Nat.zero_mul, Nat.zero_add, List.getElem?_append_left (by rw [Seg.cells_len]; exact hj)]
      rfl
    | succ i =>
      rw [List.getElem?_append_right (by rw [Seg.cells_len]; omega), Seg.cells_len, show (i + 1) * 7 + j - 7 = i * 7 + j by omega]
      exact ih i (by simpa using hi)

/-- The column of a place that lies so far behind another one. -/
def sumC (b c d : Int) : Int := if c = 0 then b + d else d
/-- How far a mapping lies behind the one before. -/
def farL (Z : Nat → Nat → Int) (i : Nat) : Int := Z i 0 % 3
def farC (Z : Nat → Nat → Int) (i : Nat) : Int := if (Z i 0 % 3 = 0 ∧ Z i 1 % 1000 = 0) ∧ 0 < i then 1 else Z i 1 % 1000
/-- The place behind i steps. -/
def atP (Z : Nat → Nat → Int) : Nat → Int × Int
  | 0 => (0, 0)
  | i + 1 => ((atP Z i).1 + farL Z i, sumC (atP Z i).2 (farL Z i) (farC Z i))
def segOf (Z : Nat → Nat → Int) (i : Nat) : Seg := ⟨(atP Z (i + 1)).1, (atP Z (i + 1)).2, Z i 2 % 100, Z i 3 % 10000, Z i 4 % 10000, 0, false⟩
def risL (Z : Nat → Nat → Int) (n : Nat) : List Seg := (List.range n).map (segOf Z)
theorem risL_succ (Z : Nat → Nat → Int) (n : Nat) : risL Z (n + 1) = risL Z n ++ [segOf Z n] := by simp [risL, List.range_succ]
theorem risL_len (Z : Nat → Nat → Int) (n : Nat) : (risL Z n).length = n := by simp [risL]
theorem risL_at (Z : Nat → Nat → Int) (n i : Nat) (h : i < (risL Z n).length) : (risL Z n)[i] = segOf Z i := by simp [risL]

theorem far_bd (Z : Nat → Nat → Int) (i : Nat) : 0 ≤ farL Z i ∧ farL Z i ≤ 2 ∧ 0 ≤ farC Z i ∧ farC Z i ≤ 999 := by
  unfold farL farC
  split <;> omega
theorem at_bd (Z : Nat → Nat → Int) (i : Nat) : 0 ≤ (atP Z i).1 ∧ (atP Z i).1 ≤ 2 * i ∧ 0 ≤ (atP Z i).2 ∧ (atP Z i).2 ≤ 999 * i := by
  induction i with
  | zero => simp [atP]
  | succ i ih =>
    have := far_bd Z i
    simp only [atP]
    unfold sumC
    split <;> omega
/-- Each one lies behind the one before. -/
theorem at_lt (Z : Nat → Nat → Int) (i : Nat) (h : 0 < i) : (atP Z i).1 < (atP Z (i + 1)).1 ∨ (atP Z i).1 = (atP Z (i + 1)).1 ∧ (atP Z i).2 < (atP Z (i + 1)).2 := by
  have hb := far_bd Z i
  simp only [atP]
  by_cases h0 : farL Z i = 0
  · right
    refine ⟨by omega, ?_⟩
    unfold sumC
    rw [if_pos h0]
    have : 1 ≤ farC Z i := by
      unfold farC
      unfold farL at h0
      split <;> rename_i hq
      · omega
      · have : ¬ Z i 1 % 1000 = 0 := fun q => hq ⟨⟨h0, q⟩, h⟩
        omega
    omega
  · left; omega
theorem seg_lt (Z : Nat → Nat → Int) (i j : Nat) (h : i < j) : (segOf Z i).l < (segOf Z j).l ∨ (segOf Z i).l = (segOf Z j).l ∧ (segOf Z i).c < (segOf Z j).c := by
  induction j with
  | zero => omega
  | succ j ih =>
    have h1 := at_lt Z (j + 1) (by omega)
    rcases Nat.lt_or_ge i j with h2 | h2
    · have := ih h2
      simp only [segOf] at this ⊢
      omega
    · obtain rfl : i = j := by omega
      exact h1
end Go.Proofs.YtnokiikgnplpmaaDoor

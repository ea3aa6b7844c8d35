/-
  Tables of lines in the making, in memory. Conditions: as each lemma says.
-/
import Derived.Test.YtnokiikgnplpmaaDoorM5
import Derived.Test.YtnokiikgnplpmaaDoorM8
import Derived.Laws.OwnMore
namespace Go.Proofs.YtnokiikgnplpmaaDoor
open Go.RowKit

/-- The cells of columns. -/
def i32s (l : List Nat) : List Value := l.map fun (x : Nat) => Value.int .i32 (x : Int)
theorem i32s_len (l : List Nat) : (i32s l).length = l.length := by simp [i32s]
theorem i32s_snoc (l : List Nat) (x : Nat) : i32s (l ++ [x]) = i32s l ++ [Value.int .i32 (x : Int)] := by simp [i32s]
/-- The line's columns so far are a row of one's own, or nil. -/
def ColOwn (w : World) (base : Nat) (v : Value) : Option (List Nat) → Prop
  | none => v = .slice none 0 0
  | some l => (∃ k c, v = .slice (some ⟨k, 0, none⟩) l.length c) ∧ w.ownsRow base 21 1 v l.length (i32s l)
/-- The columns of a line that is done. -/
def Fin (w : World) (base : Nat) (v5 v10 cv : Value) : Option (List Nat) → Prop
  | none => cv = .slice none 0 0
  | some l => ∃ k c, cv = .slice (some ⟨k, 0, none⟩) l.length c ∧ base ≤ k ∧ k < w.heap.size ∧ v5.ownBlock ≠ some k ∧ v10.ownBlock ≠ some k ∧ ∀ (i : Nat) (hi : i < l.length), w.cell? ⟨k, i, none⟩ = some (.int .i32 ((l[i]'hi : Nat) : Int))
/-- The cells of lines. -/
def rowC (cv : Value) (r : LT) : List Value := [cv, .int .i32 (r.first : Int), .int .i32 (r.start : Int)]
def rowsC (cvs : List Value) (rs : List LT) : List Value := (List.zipWith rowC cvs rs).flatten
/-- Lines that are done, in memory. -/
def RowsIn (w : World) (base : Nat) (v5 v10 : Value) (rs : List LT) : Prop :=
  ∃ cvs : List Value, cvs.length = rs.length ∧ (∃ k c, v10 = .slice (some ⟨k, 0, none⟩) rs.length c) ∧ w.ownsRow base 112 3 v10 rs.length (rowsC cvs rs) ∧ ∀ (j : Nat) (h1 : j < cvs.length) (h2 : j < rs.length), Fin w base v5 v10 (cvs[j]'h1) (rs[j]'h2).cols

theorem Fin.kep {X : Nat → Prop} {w w' : World} {base : Nat} {v5 v10 u5 u10 cv : Value} {o : Option (List Nat)} (h : Fin w base v5 v10 cv o) (k : Kep X w w') (hx : ∀ i, X i → v5.ownBlock = some i ∨ v10.ownBlock = some i ∨ w.heap.size ≤ i)
    (h5 : u5.ownBlock = v5.ownBlock ∨ u5.ownBlock = none ∨ ∃ i, w.heap.size ≤ i ∧ u5.ownBlock = some i) (h10 : u10.ownBlock = v10.ownBlock ∨ ∃ i, w.heap.size ≤ i ∧ u10.ownBlock = some i) : Fin w' base u5 u10 cv o := by
  cases o with
  | none => exact h
  | some l =>
    obtain ⟨q, c, h1, h2, h3, h4, h6, h7⟩ := h
    refine ⟨q, c, h1, h2, Nat.lt_of_lt_of_le h3 k.size, ?_, ?_, fun i hi => (k.cell (p := ⟨q, i, none⟩) h3 (fun e => ?_)).trans (h7 i hi)⟩
    · rcases h5 with e | e | ⟨i, hi, e⟩
      · rw [e]; exact h4
      · rw [e]; simp
      · rw [e]; intro he; injection he with he; omega
    · rcases h10 with e | ⟨i, hi, e⟩
      · rw [e]; exact h6
      · rw [e]; intro he; injection he with he; omega
    · rcases hx q e with e | e | e
      · exact h4 e
      · exact h6 e
      · omega

theorem own_kep' {X : Nat → Prop} {w w' : World} {base : Nat} {e : TypeId} {size : Nat} {v : Value} {n : Nat} {xs : List Value} (h : w.ownsRow base e size v n xs) (k : Kep X w w') (hx : ∀ g, v.ownBlock = some g → ¬ X g) : w'.ownsRow base e size v n xs := by
  obtain ⟨h1, h2⟩ := h
  refine ⟨h1, ?_⟩
  rcases h2 with h2 | ⟨g, cap, cur, rfl, h3, h4, h5⟩
  · exact .inl h2
  · have hlt : g < w.heap.size := (Array.getElem?_eq_some_iff.1 h4).1
    exact .inr ⟨g, cap, cur, rfl, h3, (k.block g hlt (hx g rfl)).trans h4, h5⟩
theorem rowsC_len (cvs : List Value) (rs : List LT) (h : cvs.length = rs.length) : (rowsC cvs rs).length = rs.length * 3 := by
  induction rs generalizing cvs with
  | nil => cases cvs with
    | nil => rfl
    | cons c cvs => simp at h
  | cons r rs ih =>
    cases cvs with
    | nil => simp at h
    | cons c cvs =>
      have e : rowsC (c :: cvs) (r :: rs) = rowC c r ++ rowsC cvs rs := by simp [rowsC]
      rw [e, List.length_append, ih cvs (by simpa using h)]
      simp [rowC]
      omega
theorem rowsC_snoc (cvs : List Value) (rs : List LT) (c : Value) (r : LT) (h : cvs.length = rs.length) : rowsC (cvs ++ [c]) (rs ++ [r]) = rowsC cvs rs ++ rowC c r := by
  unfold rowsC
  rw [List.zipWith_append h, List.flatten_append]
  simp
theorem rowsC_at (cvs : List Value) (rs : List LT) (h : cvs.length = rs.length) (i j : Nat) (h1 : i < cvs.length) (h2 : i < rs.length) (hj : j < 3) : (rowsC cvs rs)[i * 3 + j]? = (rowC (cvs[i]'h1) (rs[i]'h2))[j]? := by
  induction rs generalizing cvs i with
  | nil => simp at h2
  | cons r rs ih =>
    cases cvs with
    | nil => simp at h
    | cons c cvs =>
      have e : rowsC (c :: cvs) (r :: rs) = rowC c r ++ rowsC cvs rs := by simp [rowsC]
      rw [e]
      cases i with
      | zero => rw [List.getElem?_append_left (by simp [rowC]; omega), Nat.zero_mul, Nat.zero_add]; rfl
      | succ i =>
        rw [List.getElem?_append_right (by simp [rowC]; omega), show (i + 1) * 3 + j - (rowC c r).length = i * 3 + j by simp [rowC]; omega]
        exact ih cvs (by simpa using h) i (by simpa using h1) (by simpa using h2)
end Go.Proofs.YtnokiikgnplpmaaDoor

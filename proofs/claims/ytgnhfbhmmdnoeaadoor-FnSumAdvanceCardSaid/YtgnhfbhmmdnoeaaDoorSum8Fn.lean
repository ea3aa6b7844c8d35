/-
  The contracts of Sum and Before: places are added and compared by the line, then by the column. Conditions: the numbers that are added are from 0 to 2^61.
-/
import Derived.Test.YtgnhfbhmmdnoeaaDoorPlaceFn
namespace Go.Proofs.YtgnhfbhmmdnoeaaDoor
open Go.RowKit

/-- A place comes before another one: by the line, then by the column. -/
def bef (a b c d : Int) : Bool := decide (a < c ∨ a = c ∧ b < d)

theorem comes_any (a b c d : Int) (w : World) :
    Calls Tryd.prog 19 #[.agg #[.int .i64 a, .int .i64 b], .agg #[.int .i64 c, .int .i64 d]] w fun e w' => e = .returned (.bool (bef a b c d)) ∧ Below w.heap.size w w' := by
  rcases (show a < c ∨ (a = c ∧ b < d) ∨ (a = c ∧ d ≤ b) ∨ c < a by omega) with h | ⟨rfl, h⟩ | ⟨rfl, h⟩ | h
  all_goals
    go_enter Tryd.func19, Tryd.ntmps19
    go_wp2
    go_ret
    exact ⟨by simp [bef] <;> omega, by repeat (first | exact Below.refl _ _ | refine Below.alloc ?_ (by simp; done) _)⟩

theorem before_any (a b c d : Int) (w : World) :
    Calls Tryd.prog 14 #[.int .i64 a, .int .i64 b, .int .i64 c, .int .i64 d] w fun e w' => e = .returned (.bool (bef a b c d)) ∧ Below w.heap.size w w' := by
  go_enter Tryd.func14, Tryd.ntmps14
  go_wp2_with (go_at_call 19; refine (comes_any _ _ _ _ _).mono ?_; rintro e w' ⟨rfl, hb1⟩)
  go_ret
  exact ⟨rfl, ((Below.refl _ _).alloc (by simp) _).trans (hb1.mono (by simp))⟩

/-- The column of a place that lies so far behind another one. -/
def sumC (b c d : Int) : Int := if c = 0 then b + d else d

theorem sum_any (a b c d : Int) (w : World) (ha : 0 ≤ a) (ha' : a ≤ 2305843009213693952) (hb : 0 ≤ b) (hb' : b ≤ 2305843009213693952) (hc : 0 ≤ c) (hc' : c ≤ 2305843009213693952) (hd : 0 ≤ d) (hd' : d ≤ 2305843009213693952) :
    Calls Tryd.prog 15 #[.int .i64 a, .int .i64 b, .int .i64 c, .int .i64 d] w fun e w' => e = .returned (.tuple #[.int .i64 (a + c), .int .i64 (sumC b c d)]) ∧ Below w.heap.size w w' := by
  rcases (show c = 0 ∨ 1 ≤ c by omega) with rfl | h
  · go_enter Tryd.func15, Tryd.ntmps15
    go_wp2
    go_region
    all_goals go_wp2
    all_goals go_region
    all_goals go_wp2
    all_goals go_ret2
    all_goals exact ⟨by simp [sumC], by go_grown⟩
  · go_enter Tryd.func15, Tryd.ntmps15
    go_wp2
    go_region
    all_goals go_wp2
    all_goals go_region
    all_goals go_wp2
    all_goals go_ret2
    all_goals exact ⟨by simp [sumC]; omega, by go_grown⟩
end Go.Proofs.YtgnhfbhmmdnoeaaDoor

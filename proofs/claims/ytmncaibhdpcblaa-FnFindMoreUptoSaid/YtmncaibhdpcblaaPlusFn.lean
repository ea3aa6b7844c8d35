/-
  The contract of (Place).Plus: places are added. Conditions: the numbers that are added are from 0 to 2^61.
-/
import Derived.Test.YtmncaibhdpcblaaPlaceFn
import Derived.Test.YtmncaibhdpcblaaSegs
namespace Go.Proofs.Ytmncaibhdpcblaa
open Go.RowKit

theorem plus_any (a b c d : Int) (w : World) (ha : 0 ≤ a) (ha' : a ≤ 2305843009213693952) (hb : 0 ≤ b) (hb' : b ≤ 2305843009213693952) (hc : 0 ≤ c) (hc' : c ≤ 2305843009213693952) (hd : 0 ≤ d) (hd' : d ≤ 2305843009213693952) :
    Calls Try.prog 10 #[.agg #[.int .i64 a, .int .i64 b], .agg #[.int .i64 c, .int .i64 d]] w fun e w' => e = .returned (.agg #[.int .i64 (a + c), .int .i64 (sumC b c d)]) ∧ Below w.heap.size w w' := by
  rcases (show c = 0 ∨ 1 ≤ c by omega) with rfl | h
  · go_enter Try.func10, Try.ntmps10
    go_wp2
    exact bodyPost_ret (v := .agg #[.int .i64 a, .int .i64 (b + d)]) (by simp [results, Try.results10, go_sem]) rfl ⟨by simp [sumC], by go_grown⟩
  · go_enter Try.func10, Try.ntmps10
    go_wp2
    exact bodyPost_ret (v := .agg #[.int .i64 (a + c), .int .i64 d]) (by simp [results, Try.results10, go_sem]) rfl ⟨by simp [sumC]; omega, by go_grown⟩

end Go.Proofs.Ytmncaibhdpcblaa

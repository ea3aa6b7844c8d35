/-
  What the laws of find.go need of mappings at rising places: plain. Conditions: as each lemma says.
-/
import Derived.Test.YtmncaibhdpcblaaSpecFind
import Derived.Test.YtmncaibhdpcblaaRisFn
import Derived.Test.YtmncaibhdpcblaaCons5
namespace Go.Proofs.Ytmncaibhdpcblaa
open Go.RowKit

theorem seg_small (Z : Nat → Nat → Int) (i : Nat) (h : i < 2097152) : (segOf Z i).small := by
  have h1 := at_bd Z (i + 1)
  unfold Seg.small segOf
  simp only
  omega
theorem rise_ris (Z : Nat → Nat → Int) (n : Nat) : Rise (segOf Z) n := fun i j h _ => seg_lt Z i j h
theorem upto_mono {S : Nat → Seg} {n : Nat} (hr : Rise S n) {line col : Int} {i j : Nat} (h : i ≤ j) (hj : j < n) (hu : (S j).upto line col) : (S i).upto line col := by
  rcases Nat.lt_or_ge i j with h1 | h1
  · have := hr i j h1 hj
    unfold Seg.upto at *
    omega
  · obtain rfl : i = j := by omega
    exact hu
/-- There is a place where mappings part. -/
theorem split_ex {S : Nat → Seg} (n : Nat) (hr : Rise S n) (line col : Int) : ∃ m, Split S n line col m := by
  induction n with
  | zero => exact ⟨0, Nat.le_refl _, fun i hi => absurd hi (Nat.not_lt_zero _), fun i _ hi => absurd hi (Nat.not_lt_zero _)⟩
  | succ n ih =>
    obtain ⟨m, h1, h2, h3⟩ := ih (fun i j h hj => hr i j h (by omega))
    by_cases hu : (S n).upto line col
    · refine ⟨n + 1, Nat.le_refl _, fun i hi => upto_mono hr (by omega) (by omega) hu, fun i hi hn => by omega⟩
    · refine ⟨m, by omega, h2, fun i hi hn => ?_⟩
      rcases Nat.lt_or_ge i n with h | h
      · exact h3 i hi h
      · obtain rfl : i = n := by omega
        exact hu
/-- A mapping's own place. -/
theorem split_own {S : Nat → Seg} {n k : Nat} (hr : Rise S n) (hk : k < n) : Split S n (S k).l (S k).c (k + 1) := by
  refine ⟨by omega, fun i hi => upto_mono hr (by omega) hk (by unfold Seg.upto; omega), fun i hi hn => ?_⟩
  have := hr k i (by omega) hn
  unfold Seg.upto
  omega
/-- The place ahead of a mapping. -/
theorem split_ahead {S : Nat → Seg} {n k : Nat} (hr : Rise S n) (hk : k < n) : Split S n (S k).l ((S k).c - 1) k := by
  refine ⟨by omega, fun i hi => ?_, fun i hi hn => ?_⟩
  · have := hr i k hi hk
    unfold Seg.upto
    omega
  · rcases Nat.lt_or_ge k i with h | h
    · have := hr k i h hn
      unfold Seg.upto
      omega
    · obtain rfl : k = i := by omega
      unfold Seg.upto
      omega
/-- A place behind all. -/
theorem split_last {S : Nat → Seg} {n : Nat} (hr : Rise S n) (hn : 0 < n) {line col : Int} (h : (S (n - 1)).upto line col) : Split S n line col n :=
  ⟨Nat.le_refl _, fun i hi => upto_mono hr (by omega) (by omega) h, fun i hi hn => by omega⟩

theorem plus_col (a b d : Int) (w : World) (ha : 0 ≤ a) (ha' : a ≤ 2305843009213693952) (hb : 0 ≤ b) (hb' : b ≤ 2305843009213693952) (hd : 0 ≤ d) (hd' : d ≤ 2305843009213693952) :
    Calls Try.prog 10 #[.agg #[.int .i64 a, .int .i64 b], .agg #[.int .i64 0, .int .i64 d]] w fun e w' => e = .returned (.agg #[.int .i64 a, .int .i64 (b + d)]) ∧ Below w.heap.size w w' := by
  have h := plus_any a b 0 d w ha ha' hb hb' (by omega) (by omega) hd hd'
  rw [show sumC b 0 d = b + d from rfl, Int.add_zero] at h
  exact h
theorem plus_line (a b : Int) (w : World) (ha : 0 ≤ a) (ha' : a ≤ 2305843009213693952) (hb : 0 ≤ b) (hb' : b ≤ 2305843009213693952) :
    Calls Try.prog 10 #[.agg #[.int .i64 a, .int .i64 b], .agg #[.int .i64 1, .int .i64 0]] w fun e w' => e = .returned (.agg #[.int .i64 (a + 1), .int .i64 0]) ∧ Below w.heap.size w w' := by
  have h := plus_any a b 1 0 w ha ha' hb hb' (by omega) (by omega) (by omega) (by omega)
  rw [show sumC b 1 0 = 0 from rfl] at h
  exact h
end Go.Proofs.Ytmncaibhdpcblaa

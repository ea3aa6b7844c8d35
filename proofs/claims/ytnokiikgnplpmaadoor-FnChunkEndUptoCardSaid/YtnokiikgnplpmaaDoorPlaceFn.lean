/-
  The contract of laws.place and laws.small: a number's rest from 0 on. Conditions: the second number is from 1 to 2^62.
-/
import Derived.Test.YtnokiikgnplpmaaDoorKit
namespace Go.Proofs.YtnokiikgnplpmaaDoor
open Go.RowKit

theorem tmod_place (n k : Int) (hk : 1 ≤ k) : (n.tmod k + k) % k = n % k := by
  rw [Int.add_emod_right]
  rcases Int.emod_emod_of_dvd n (Int.dvd_refl k) with _
  have h := Int.tmod_eq_emod (a := n) (b := k)
  rw [h]
  split
  · simp
  · have : (k.natAbs : Int) = k := by omega
    rw [this, Int.sub_emod]; simp

theorem tmod_bounds (n k : Int) (hk : 1 ≤ k) : -k < n.tmod k ∧ n.tmod k < k := by
  have h1 := Int.tmod_lt_of_pos n (b := k) (by omega)
  have h2 := Int.lt_tmod_of_pos n (b := k) (by omega)
  omega

theorem place_any (n k : Int) (w : World) (h1 : 1 ≤ k) (h2 : k ≤ 4611686018427387904) :
    Calls Tryd.prog 15 #[.int .i64 n, .int .i64 k] w fun e w' => e = .returned (.int .i64 (n % k)) ∧ w = w' := by
  have hb := tmod_bounds n k h1
  have H := Lib.hid (tmod_place n k h1)
  go_enter Tryd.func15, Tryd.ntmps15
  go_wp2
  go_ret
  exact ⟨by rw [H.out]; rfl, rfl⟩

theorem small_any (n : Int) (w : World) :
    Calls Tryd.prog 42 #[.int .i64 n] w fun e w' => e = .returned (.int .i64 (n % 1048576)) ∧ w = w' := by
  go_enter Tryd.func42, Tryd.ntmps42
  go_wp2_with (go_at_call 15; refine (place_any _ _ _ (by omega) (by omega)).mono ?_; rintro e w' ⟨rfl, rfl⟩)
  go_ret
  exact ⟨rfl, rfl⟩
end Go.Proofs.YtnokiikgnplpmaaDoor

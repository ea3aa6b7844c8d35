/-
  What the laws of numbers share: laws.fit, laws.place, and the digits of a number. Conditions: as each one says.
-/
import Derived.Test.YtahfnlhpodbbaaaDoorDec1Fn
namespace Go.Proofs.YtahfnlhpodbbaaaDoor
open Go.RowKit

theorem digs_len2 (f x m k : Nat) (h : x < 32 ^ (k + 1)) : (digs f x m).length ≤ k + 1 + m := by
  induction f generalizing x m k with
  | zero => simp [digs]; omega
  | succ f ih =>
    unfold digs
    split
    · simp; omega
    · rename_i hx
      rw [List.length_cons]
      by_cases h0 : x / 32 = 0
      · rw [if_pos h0]
        have := ih (x / 32) (m - 1) k (by rw [h0]; exact Nat.pow_pos (by decide))
        omega
      · rw [if_neg h0]
        obtain ⟨k', rfl⟩ : ∃ k', k = k' + 1 := by
          cases k with
          | zero => simp at h; omega
          | succ k => exact ⟨k, rfl⟩
        have := ih (x / 32) m k' (by apply Nat.div_lt_of_lt_mul; rw [Nat.pow_succ] at h; omega)
        omega

/-- The digits of a number of up to 30 bits, and up to 2 more: all that a reader of them needs. -/
theorem digs_all (n : Int) (m : Nat) (h1 : -1073741824 < n) (h2 : n < 1073741824) (hm : m ≤ 2) :
    ∃ l d, digs 12 (vl n) m = l ++ [d] ∧ d < 32 ∧ (∀ y ∈ l, 32 ≤ y ∧ y < 64) ∧ l.length ≤ 8 ∧ unvl (val (l ++ [d])) = n := by
  have hv : vl n < 2147483648 := by unfold vl; split <;> omega
  have hp : vl n < 32 ^ 13 := Nat.lt_of_lt_of_le hv (by decide)
  obtain ⟨l, d, e, hd, hl⟩ := digs_form 12 (vl n) m hp (.inr ⟨Nat.lt_of_lt_of_le hv (Nat.le_trans (show 2147483648 ≤ 32 ^ 10 by decide) (Nat.pow_le_pow_right (by decide) (by omega))), by omega⟩)
  have hlen := digs_len2 12 (vl n) m 6 (Nat.lt_of_lt_of_le hv (by decide))
  have hlt := digs_lt 12 (vl n) m
  have hval := val_digs 12 (vl n) m hp
  rw [e] at hlen hlt hval
  refine ⟨l, d, e, hd, fun y hy => ⟨hl y hy, hlt y (by simp [hy])⟩, by simp at hlen; omega, ?_⟩
  rw [hval, unvl_vl]

theorem sg_mod (d : Nat) (h : d < 64) : sg d % 256 = sg d := by have := sg_lt d h; omega

/-- A text that is digits alone. -/
theorem tx_digit (l : List Nat) (hl : ∀ y ∈ l, y < 64) (j : Nat) (h : j < l.length) : ((tx l).data.toList.getD j 0).toNat = sg l[j] := by
  rw [tx_getD l j h, sg_mod _ (hl _ (List.getElem_mem h))]

theorem tmod_abs (n k : Int) (hk : 0 < k) : -k < n.tmod k ∧ n.tmod k < k := by
  constructor
  · have := Int.tmod_lt_of_pos (-n) hk
    rw [Int.neg_tmod] at this
    omega
  · exact Int.tmod_lt_of_pos n hk

theorem fit_any (n : Int) (w : World) : Calls Tryd.prog 13 #[.int .i64 n] w fun e w' => e = .returned (.int .i64 (n.tmod 1073741824)) ∧ w' = w := by
  have h := tmod_abs n 1073741824 (by decide)
  go_enter Tryd.func13, Tryd.ntmps13
  go_wp2
  all_goals go_ret
  all_goals exact ⟨rfl, rfl⟩

theorem place_any (n k : Int) (w : World) (hk : 0 < k) (hk2 : k < 1099511627776) : Calls Tryd.prog 11 #[.int .i64 n, .int .i64 k] w fun e w' => e = .returned (.int .i64 ((n.tmod k + k) % k)) ∧ w' = w := by
  have h := tmod_abs n k hk
  go_enter Tryd.func11, Tryd.ntmps11
  go_wp2
  all_goals go_ret
  all_goals exact ⟨rfl, rfl⟩
theorem place_in (n k : Int) (hk : 0 < k) : 0 ≤ (n.tmod k + k) % k ∧ (n.tmod k + k) % k < k :=
  ⟨Int.emod_nonneg _ (by omega), Int.emod_lt_of_pos _ hk⟩
end Go.Proofs.YtahfnlhpodbbaaaDoor

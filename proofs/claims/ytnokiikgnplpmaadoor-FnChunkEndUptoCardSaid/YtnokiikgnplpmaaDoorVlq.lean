/-
  Numbers of source maps as digits of 5 bits: plain arithmetic, no program. Conditions: as each lemma says.
-/
import Derived.KernelRfl
namespace Go.Proofs.YtnokiikgnplpmaaDoor

/-- The sign of a digit. -/
def sg (d : Nat) : Nat := if d < 26 then 65 + d else if d < 52 then 71 + d else if d < 62 then d - 4 else if d = 62 then 43 else 47

/-- What a sign counts; -1: it is none. -/
def ix (c : Nat) : Int := if 65 ≤ c ∧ c ≤ 90 then (c : Int) - 65 else if 97 ≤ c ∧ c ≤ 122 then (c : Int) - 71 else if 48 ≤ c ∧ c ≤ 57 then (c : Int) + 4 else if c = 43 then 62 else if c = 47 then 63 else -1

theorem ix_sg (d : Nat) (h : d < 64) : ix (sg d) = d := by
  unfold ix sg
  repeat' split
  all_goals omega

theorem sg_lt (d : Nat) (h : d < 64) : sg d < 128 := by
  unfold sg
  repeat' split
  all_goals omega

theorem sg_ix (c : Nat) (h : 0 ≤ ix c) : sg (ix c).toNat = c := by
  unfold ix at *
  unfold sg
  split at h <;> rename_i h1
  · rw [if_pos h1]; split <;> omega
  split at h <;> rename_i h2
  · rw [if_neg h1, if_pos h2]; repeat' split
    all_goals omega
  split at h <;> rename_i h3
  · rw [if_neg h1, if_neg h2, if_pos h3]; repeat' split
    all_goals omega
  split at h <;> rename_i h4
  · subst h4; rfl
  split at h <;> rename_i h5
  · subst h5; rfl
  · omega

theorem ix_lt (c : Nat) : ix c < 64 := by
  unfold ix
  repeat' split
  all_goals omega

theorem ix_lo (c : Nat) : -1 ≤ ix c := by
  unfold ix
  repeat' split
  all_goals omega

/-- The digits of a number without a sign bit, with so many digits 0 more; f bounds their count. -/
def digs : Nat → Nat → Nat → List Nat
  | 0, x, _ => [x % 32]
  | f + 1, x, m => if x / 32 = 0 ∧ m = 0 then [x % 32] else (x % 32 + 32) :: digs f (x / 32) (if x / 32 = 0 then m - 1 else m)

/-- A number doubled, 1 more of it below 0. -/
def vl (n : Int) : Nat := if n < 0 then 2 * n.natAbs + 1 else 2 * n.natAbs
def unvl (x : Nat) : Int := if x % 2 = 1 then -((x / 2 : Nat) : Int) else ((x / 2 : Nat) : Int)

theorem unvl_vl (n : Int) : unvl (vl n) = n := by
  unfold unvl vl
  split <;> split <;> omega

/-- What digits count. -/
def val : List Nat → Nat
  | [] => 0
  | d :: l => d % 32 + 32 * val l

theorem digs_lt (f x m : Nat) : ∀ d ∈ digs f x m, d < 64 := by
  induction f generalizing x m with
  | zero => intro d hd; simp [digs] at hd; omega
  | succ f ih =>
    intro d hd
    unfold digs at hd
    split at hd
    · simp at hd; omega
    · rcases List.mem_cons.1 hd with rfl | h
      · omega
      · exact ih _ _ d h

theorem digs_ne (f x m : Nat) : digs f x m ≠ [] := by
  cases f with
  | zero => simp [digs]
  | succ f => unfold digs; split <;> simp

theorem digs_len (f x m : Nat) : (digs f x m).length ≤ f + 1 := by
  induction f generalizing x m with
  | zero => simp [digs]
  | succ f ih =>
    unfold digs
    split
    · simp
    · have := ih (x / 32) (if x / 32 = 0 then m - 1 else m)
      rw [List.length_cons]; omega

theorem val_digs (f x m : Nat) (h : x < 32 ^ (f + 1)) : val (digs f x m) = x := by
  induction f generalizing x m with
  | zero => simp [digs, val]; simp at h; omega
  | succ f ih =>
    unfold digs
    split
    · rename_i hx
      simp [val]; omega
    · have hx : x / 32 < 32 ^ (f + 1) := by
        apply Nat.div_lt_of_lt_mul
        rw [Nat.pow_succ] at h
        omega
      simp only [val]
      rw [ih _ _ hx]
      omega

/-- All digits but the last one go on, the last one ends. -/
theorem digs_form (f x m : Nat) (h : x < 32 ^ (f + 1)) (hm : m = 0 ∨ (x < 32 ^ (f - m) ∧ m + 1 ≤ f)) : ∃ l d, digs f x m = l ++ [d] ∧ d < 32 ∧ ∀ y ∈ l, 32 ≤ y := by
  induction f generalizing x m with
  | zero => exact ⟨[], x % 32, by simp [digs], by omega, by simp⟩
  | succ f ih =>
    unfold digs
    split
    · exact ⟨[], x % 32, by simp, by omega, by simp⟩
    · rename_i hx
      have h1 : x / 32 < 32 ^ (f + 1) := by
        apply Nat.div_lt_of_lt_mul
        rw [Nat.pow_succ] at h
        omega
      have h2 : (if x / 32 = 0 then m - 1 else m) = 0 ∨ (x / 32 < 32 ^ (f - (if x / 32 = 0 then m - 1 else m)) ∧ (if x / 32 = 0 then m - 1 else m) + 1 ≤ f) := by
        split
        · rename_i h0
          rcases hm with hm | hm
          · omega
          · by_cases h3 : m = 1
            · left; omega
            · right
              refine ⟨?_, by omega⟩
              rw [h0]
              exact Nat.pow_pos (by omega)
        · rename_i h0
          rcases hm with hm | hm
          · left; exact hm
          · by_cases h3 : m = 0
            · left; exact h3
            · right
              have h4 : f + 1 - m = (f - m) + 1 := by omega
              have h5 : x / 32 < 32 ^ (f - m) := by
                apply Nat.div_lt_of_lt_mul
                have := hm.1
                rw [h4, Nat.pow_succ] at this
                omega
              refine ⟨h5, ?_⟩
              rcases Nat.lt_or_ge m f with h6 | h6
              · exact h6
              · have : f - m = 0 := by omega
                rw [this] at h5
                simp at h5
                omega
      obtain ⟨l, d, e, hd, hl⟩ := ih _ _ h1 h2
      refine ⟨(x % 32 + 32) :: l, d, by rw [e]; rfl, hd, ?_⟩
      intro y hy
      rcases List.mem_cons.1 hy with rfl | hy
      · omega
      · exact hl y hy

/-- The digits of a number (up to 2^60 either way). -/
def nd (n : Int) : List Nat := digs 12 (vl n) 0

theorem vl_lt (n : Int) (h1 : -1152921504606846976 < n) (h2 : n < 1152921504606846976) : vl n < 32 ^ 13 := by
  unfold vl
  have : (32 : Nat) ^ 13 = 36893488147419103232 := by decide
  rw [this]
  split <;> omega

theorem nd_form (n : Int) (h1 : -1152921504606846976 < n) (h2 : n < 1152921504606846976) : ∃ l d, nd n = l ++ [d] ∧ d < 32 ∧ ∀ y ∈ l, 32 ≤ y :=
  digs_form 12 (vl n) 0 (vl_lt n h1 h2) (.inl rfl)

theorem val_nd (n : Int) (h1 : -1152921504606846976 < n) (h2 : n < 1152921504606846976) : unvl (val (nd n)) = n := by
  unfold nd
  rw [val_digs 12 (vl n) 0 (vl_lt n h1 h2), unvl_vl]

theorem nd_lt (n : Int) : ∀ d ∈ nd n, d < 64 := digs_lt _ _ _
theorem nd_ne (n : Int) : nd n ≠ [] := digs_ne _ _ _
theorem nd_len (n : Int) : (nd n).length ≤ 13 := digs_len _ _ _

/-- A number as text. -/
def nb (n : Int) : List UInt8 := (nd n).map fun d => UInt8.ofNat (sg d)
end Go.Proofs.YtnokiikgnplpmaaDoor

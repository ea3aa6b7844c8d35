/-
  Places behind texts, as folds over runes: plain, no program. Conditions: as each lemma says.
-/
import Derived.Test.YtnokiikgnplpmaaDoorValidFn
namespace Go.Proofs.YtnokiikgnplpmaaDoor

def isNlR (c : Nat) : Prop := c = 13 ∨ c = 10 ∨ c = 8232 ∨ c = 8233
instance (c : Nat) : Decidable (isNlR c) := by unfold isNlR; infer_instance
/-- How many units of UTF-16 a rune takes. -/
def unitsR (c : Nat) : Nat := if c ≤ 65535 then 1 else 2

/-- What AdvanceString counts. -/
def advI : List Nat → Nat × Nat → Nat × Nat
  | [], p => p
  | c :: rs, p => if isNlR c then (if c = 13 ∧ rs.head? = some 10 then advI rs (p.1, p.2 + 1) else advI rs (p.1 + 1, 0)) else advI rs (p.1, p.2 + unitsR c)

/-- What the format counts. -/
def advS : Nat → List Nat → Nat × Nat → Nat × Nat
  | _, [], p => p
  | was, c :: rs, p => if c = 10 ∧ was = 13 then advS c rs p else if isNlR c then advS c rs (p.1 + 1, 0) else advS c rs (p.1, p.2 + unitsR c)

theorem advS_cons (was c : Nat) (rs : List Nat) (p : Nat × Nat) : advS was (c :: rs) p = if c = 10 ∧ was = 13 then advS c rs p else if isNlR c then advS c rs (p.1 + 1, 0) else advS c rs (p.1, p.2 + unitsR c) := rfl

theorem adv_eq : ∀ (n : Nat) (rs : List Nat) (was : Nat) (p : Nat × Nat), rs.length ≤ n → (was = 13 → rs.head? ≠ some 10) → advI rs p = advS was rs p := by
  intro n
  induction n with
  | zero => intro rs was p hl _; cases rs with | nil => rfl | cons c rs => simp at hl
  | succ n ih =>
    intro rs was p hl hw
    cases rs with
    | nil => rfl
    | cons c rs =>
      have h1 : ¬ (c = 10 ∧ was = 13) := by
        rintro ⟨rfl, h⟩
        exact hw h rfl
      simp only [List.length_cons] at hl
      unfold advI advS
      rw [if_neg h1]
      by_cases hn : isNlR c
      · rw [if_pos hn, if_pos hn]
        by_cases hc : c = 13 ∧ rs.head? = some 10
        · rw [if_pos hc]
          obtain ⟨rfl, h2⟩ := hc
          cases rs with
          | nil => simp at h2
          | cons e rs =>
            simp at h2
            subst h2
            have hl2 : rs.length ≤ n := by simp at hl; omega
            have hn10 : isNlR 10 := by decide
            unfold advI advS
            rw [if_pos hn10, if_neg (by simp), if_pos ⟨rfl, rfl⟩]
            exact ih rs 10 _ hl2 (by simp)
        · rw [if_neg hc]
          exact ih rs c _ (by omega) (fun h h2 => hc ⟨h, h2⟩)
      · rw [if_neg hn, if_neg hn]
        refine ih rs c _ (by omega) (fun h => ?_)
        exact absurd (Or.inl h) hn

theorem unitsR_le (c : Nat) : unitsR c ≤ 2 := by unfold unitsR; split <;> omega
theorem unitsR_pos (c : Nat) : 1 ≤ unitsR c := by unfold unitsR; split <;> omega

theorem advI_le (rs : List Nat) (p : Nat × Nat) : (advI rs p).1 ≤ p.1 + rs.length ∧ (advI rs p).2 ≤ p.2 + 2 * rs.length := by
  induction rs generalizing p with
  | nil => simp [advI]
  | cons c rs ih =>
    unfold advI
    have hu := unitsR_le c
    split
    · split
      · have := ih (p.1, p.2 + 1); simp only [List.length_cons] at *; omega
      · have := ih (p.1 + 1, 0); simp only [List.length_cons] at *; omega
    · have := ih (p.1, p.2 + unitsR c); simp only [List.length_cons] at *; omega
theorem advS_le (was : Nat) (rs : List Nat) (p : Nat × Nat) : (advS was rs p).1 ≤ p.1 + rs.length ∧ (advS was rs p).2 ≤ p.2 + 2 * rs.length := by
  induction rs generalizing p was with
  | nil => simp [advS]
  | cons c rs ih =>
    unfold advS
    have hu := unitsR_le c
    split
    · have := ih c p; simp only [List.length_cons] at *; omega
    · split
      · have := ih c (p.1 + 1, 0); simp only [List.length_cons] at *; omega
      · have := ih c (p.1, p.2 + unitsR c); simp only [List.length_cons] at *; omega

/-- The last rune of a text, or what was. -/
def lastR (was : Nat) (rs : List Nat) : Nat := rs.getLastD was
theorem advS_append (rs ss : List Nat) (was : Nat) (p : Nat × Nat) : advS was (rs ++ ss) p = advS (lastR was rs) ss (advS was rs p) := by
  induction rs generalizing was p with
  | nil => simp [advS, lastR]
  | cons c rs ih =>
    have hl : lastR was (c :: rs) = lastR c rs := by
      unfold lastR
      cases rs with
      | nil => rfl
      | cons e rs => simp [List.getLastD]
    rw [List.cons_append, hl, advS_cons, advS_cons]
    split
    · exact ih c p
    · split
      · exact ih c _
      · exact ih c _

/-- Nothing of a text without runes that end lines but columns. -/
theorem advI_x (rs : List Nat) (p : Nat × Nat) : advI (rs ++ [120]) p = ((advI rs p).1, (advI rs p).2 + 1) := by
  rw [adv_eq (rs ++ [120]).length _ 0 p (Nat.le_refl _) (by simp), adv_eq rs.length rs 0 p (Nat.le_refl _) (by simp), advS_append]
  rfl
end Go.Proofs.YtnokiikgnplpmaaDoor

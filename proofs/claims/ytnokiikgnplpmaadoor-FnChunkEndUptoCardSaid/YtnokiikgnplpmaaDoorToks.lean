/-
  Texts of mappings as tokens (none: a semicolon; some: a mapping's numbers), and what is read of them: plain. Conditions: as each lemma says.
-/
import Derived.Test.YtnokiikgnplpmaaDoorVlq
import Derived.Test.YtnokiikgnplpmaaDoorSegs
namespace Go.Proofs.YtnokiikgnplpmaaDoor

/-- The bytes of numbers. -/
def nums (ns : List Int) : List UInt8 := ns.flatMap nb
/-- The bytes of tokens; is the place fresh (a line's beginning)? -/
def tokB : Bool → List (Option (List Int)) → List UInt8
  | _, [] => []
  | _, none :: r => 59 :: tokB true r
  | fr, some ns :: r => (if fr then [] else [44]) ++ (nums ns ++ tokB false r)
/-- A semicolon is read. -/
def rsemi (q : Seg × Int) : Seg × Int := ({ q.1 with l := q.1.l + 1, c := 0 }, q.2)
/-- A mapping's numbers are read. -/
def rstep (q : Seg × Int) (ns : List Int) : Seg × Int :=
  (⟨q.1.l, q.1.c + ns.getD 0 0, q.1.s + ns.getD 1 0, q.1.fl + ns.getD 2 0, q.1.fc + ns.getD 3 0, if ns.length = 5 then q.2 + ns.getD 4 0 else 0, decide (ns.length = 5)⟩, if ns.length = 5 then q.2 + ns.getD 4 0 else q.2)
/-- The mappings of tokens. -/
def rsegs : Seg × Int → List (Option (List Int)) → List Seg
  | _, [] => []
  | q, none :: r => rsegs (rsemi q) r
  | q, some ns :: r => (rstep q ns).1 :: rsegs (rstep q ns) r
/-- The state behind tokens. -/
def rgo : Seg × Int → List (Option (List Int)) → Seg × Int
  | q, [] => q
  | q, none :: r => rgo (rsemi q) r
  | q, some ns :: r => rgo (rstep q ns) r
def qz : Seg × Int := (⟨0, 0, 0, 0, 0, 0, false⟩, 0)
/-- The numbers of a state are not too great. -/
def sOk (q : Seg × Int) : Prop := (-1099511627776 < q.1.l ∧ q.1.l < 1099511627776) ∧ (-1099511627776 < q.1.c ∧ q.1.c < 1099511627776) ∧ (-1099511627776 < q.1.s ∧ q.1.s < 1099511627776) ∧ (-1099511627776 < q.1.fl ∧ q.1.fl < 1099511627776) ∧ (-1099511627776 < q.1.fc ∧ q.1.fc < 1099511627776) ∧ (-1099511627776 < q.2 ∧ q.2 < 1099511627776)
def nOk (ns : List Int) : Prop := (ns.length = 4 ∨ ns.length = 5) ∧ ∀ n ∈ ns, -17179869184 < n ∧ n < 17179869184
/-- Tokens can be read from a state on. -/
def rok : Seg × Int → List (Option (List Int)) → Prop
  | q, [] => sOk q
  | q, none :: r => sOk q ∧ rok (rsemi q) r
  | q, some ns :: r => sOk q ∧ nOk ns ∧ rok (rstep q ns) r
theorem rok_ok {q : Seg × Int} {ts : List (Option (List Int))} (h : rok q ts) : sOk q := by
  cases ts with
  | nil => exact h
  | cons t r => cases t with
    | none => exact h.1
    | some ns => exact h.1

theorem tokB_app : ∀ (a b : List (Option (List Int))) (fr : Bool), tokB fr (a ++ b) = tokB fr a ++ tokB (match a.getLast? with | none => fr | some none => true | some (some _) => false) b := by
  intro a
  induction a with
  | nil => intro b fr; rfl
  | cons t a ih =>
    intro b fr
    have e : ∀ x : Bool, (match (t :: a).getLast? with | none => fr | some none => true | some (some _) => false) = (match a.getLast? with | none => (match t with | none => true | some _ => false) | some none => true | some (some _) => false) := by
      intro _
      cases a with
      | nil => cases t <;> rfl
      | cons u a => rw [List.getLast?_cons_cons]; cases h : (u :: a).getLast? with
        | none => simp at h
        | some y => cases y <;> rfl
    rw [e true]
    cases t with
    | none => simp only [List.cons_append, tokB]; rw [ih b true]
    | some ns =>
      simp only [List.cons_append, tokB]
      rw [ih b false]
      simp [List.append_assoc]
theorem rgo_app (a b : List (Option (List Int))) (q : Seg × Int) : rgo q (a ++ b) = rgo (rgo q a) b := by
  induction a generalizing q with
  | nil => rfl
  | cons t a ih => cases t <;> simp only [List.cons_append, rgo] <;> exact ih _
theorem rsegs_app (a b : List (Option (List Int))) (q : Seg × Int) : rsegs q (a ++ b) = rsegs q a ++ rsegs (rgo q a) b := by
  induction a generalizing q with
  | nil => rfl
  | cons t a ih => cases t <;> simp only [List.cons_append, rsegs, rgo] <;> rw [ih]
theorem rok_app {a b : List (Option (List Int))} {q : Seg × Int} (ha : rok q a) (hb : rok (rgo q a) b) : rok q (a ++ b) := by
  induction a generalizing q with
  | nil => exact hb
  | cons t a ih =>
    cases t with
    | none => exact ⟨ha.1, ih ha.2 hb⟩
    | some ns => exact ⟨ha.1, ha.2.1, ih ha.2.2 hb⟩

theorem digs_short (f x k : Nat) (h : x < 32 ^ (k + 1)) : (digs f x 0).length ≤ k + 1 := by
  induction f generalizing x k with
  | zero => simp [digs]
  | succ f ih =>
    unfold digs
    split
    · simp
    · rename_i hx
      cases k with
      | zero => simp at h; omega
      | succ k =>
        have : x / 32 < 32 ^ (k + 1) := by
          apply Nat.div_lt_of_lt_mul
          rw [Nat.pow_succ] at h
          omega
        have := ih (x / 32) k this
        have e : (if x / 32 = 0 then 0 - 1 else 0) = 0 := by split <;> rfl
        rw [e, List.length_cons]
        omega
/-- The digits of a number that is read. -/
theorem nd_small (n : Int) (h1 : -17179869184 < n) (h2 : n < 17179869184) : ∃ l d, nd n = l ++ [d] ∧ d < 32 ∧ (∀ y ∈ l, 32 ≤ y ∧ y < 64) ∧ l.length ≤ 7 ∧ unvl (val (l ++ [d])) = n := by
  obtain ⟨l, d, e, hd, hl⟩ := nd_form n (by omega) (by omega)
  have hlt := nd_lt n
  have hle : (nd n).length ≤ 6 + 1 := digs_short 12 (vl n) 6 (by
    have h7 : (32 : Nat) ^ (6 + 1) = 34359738368 := (by decide)
    rw [h7]
    unfold vl
    split <;> omega)
  have hv := val_nd n (by omega) (by omega)
  rw [e] at hlt hle hv
  exact ⟨l, d, e, hd, fun y hy => ⟨hl y hy, hlt y (by simp [hy])⟩, by simp at hle; omega, hv⟩
theorem sg_ne (d : Nat) : sg d ≠ 44 ∧ sg d ≠ 59 ∧ sg d ≠ 0 ∧ sg d ≠ 34 := by
  unfold sg
  repeat' split
  all_goals omega
theorem nb_len (n : Int) : (nb n).length = (nd n).length := by simp [nb]
theorem nums_cons (n : Int) (ns : List Int) : nums (n :: ns) = nb n ++ nums ns := by simp [nums]
theorem nums_app (a b : List Int) : nums (a ++ b) = nums a ++ nums b := by simp [nums]
/-- What stands behind a mapping's numbers: nothing, a comma, or a semicolon. -/
theorem tokB_false (r : List (Option (List Int))) : tokB false r = [] ∨ ∃ x t, tokB false r = x :: t ∧ (x = 44 ∨ x = 59) := by
  cases r with
  | nil => exact .inl rfl
  | cons t r => cases t with
    | none => exact .inr ⟨_, _, rfl, .inr rfl⟩
    | some ns => exact .inr ⟨_, _, rfl, .inl rfl⟩
end Go.Proofs.YtnokiikgnplpmaaDoor

/-
  What sourcemap.GenerateLineOffsetTables computes: plain functions of a source. Conditions: as each lemma says.
-/
import Derived.Test.YtnokiikgnplpmaaDoorTabs
import Derived.Test.YtnokiikgnplpmaaDoorAdvLaw
namespace Go.Proofs.YtnokiikgnplpmaaDoor

/-- The state of the making: the columns of the line (none: no letter beyond ASCII yet), where the first such letter is, where the line begins, up to which byte the columns are told, the column, and the lines so far. -/
structure TS where
  cols : Option (List Nat)
  first : Nat
  lbo : Nat
  cbo : Nat
  col : Nat
  out : List LT
def TS.zero : TS := ⟨none, 0, 0, 0, 0, []⟩
def TS.mark (t : TS) (i : Nat) : TS := if t.col = 0 then { t with lbo := i } else t
def TS.opn (t : TS) (i c : Nat) : TS := if 127 < c ∧ t.cols = none then { t with cbo := i - t.lbo, first := i - t.lbo, cols := some [] } else t
def TS.fill (t : TS) (i : Nat) : TS :=
  match t.cols with
  | none => t
  | some l => { t with cols := some (l ++ List.replicate (i - t.lbo + 1 - t.cbo) t.col), cbo := t.cbo + (i - t.lbo + 1 - t.cbo) }
def TS.row (t : TS) : LT := ⟨t.cols, t.first, t.lbo⟩
def TS.newline (t : TS) : TS := { t with out := t.out ++ [t.row], cbo := 0, first := 0, cols := none, col := 0 }
def TS.eat (t : TS) (s : ByteArray) (i c : Nat) : TS := if isNl c then (if c = 13 ∧ lfAt s (i + 1) = true then { t with col := t.col + 1 } else t.newline) else { t with col := t.col + if c ≤ 65535 then 1 else 2 }
def TS.step (t : TS) (s : ByteArray) (i c : Nat) : TS := (((t.mark i).opn i c).fill i).eat s i c
/-- All runes from a place on; f bounds how many. -/
def tabRun (s : ByteArray) : Nat → Nat → TS → TS
  | 0, _, t => t
  | f + 1, pos, t => if pos < s.size then tabRun s f (pos + (Utf8.decode s pos).2) (t.step s pos (Utf8.decode s pos).1) else t
def TS.finish (t : TS) (s : ByteArray) : TS := (t.mark s.size).fill s.size
def tabsOf (s : ByteArray) : List LT := ((tabRun s s.size 0 TS.zero).finish s).out ++ [((tabRun s s.size 0 TS.zero).finish s).row]

/-- What holds of the state ahead of byte i: nothing is greater than the place; the lines so far begin at rising places. -/
structure TS.Ok (t : TS) (i : Nat) : Prop where
  lbo : t.lbo ≤ i
  col : t.col ≤ 2 * i
  first : t.first ≤ i
  cbo : t.cbo ≤ i
  bd : ∀ l, t.cols = some l → (∀ x ∈ l, x ≤ 2 * i) ∧ l.length ≤ i
  rel : ∀ l, t.cols = some l → l.length + t.first = t.cbo
  len : t.out.length ≤ i
  rows : ∀ r ∈ t.out, r.first ≤ i ∧ r.start ≤ i ∧ ∀ l, r.cols = some l → (∀ x ∈ l, x ≤ 2 * i) ∧ l.length ≤ i

theorem TS.Ok.mono {t : TS} {i j : Nat} (h : t.Ok i) (hj : i ≤ j) : t.Ok j :=
  ⟨by have := h.lbo; omega, by have := h.col; omega, by have := h.first; omega, by have := h.cbo; omega, fun l hl => ⟨fun x hx => by have := (h.bd l hl).1 x hx; omega, by have := (h.bd l hl).2; omega⟩, h.rel, by have := h.len; omega,
    fun r hr => ⟨by have := (h.rows r hr).1; omega, by have := (h.rows r hr).2.1; omega, fun l hl => ⟨fun x hx => by have := ((h.rows r hr).2.2 l hl).1 x hx; omega, by have := ((h.rows r hr).2.2 l hl).2; omega⟩⟩⟩
theorem TS.Ok.mark {t : TS} {i : Nat} (h : t.Ok i) : (t.mark i).Ok i := by
  unfold TS.mark
  split
  · exact ⟨Nat.le_refl _, h.col, h.first, h.cbo, h.bd, h.rel, h.len, h.rows⟩
  · exact h
theorem TS.Ok.opn {t : TS} {i : Nat} (h : t.Ok i) (c : Nat) : (t.opn i c).Ok i := by
  unfold TS.opn
  split
  · exact ⟨h.lbo, h.col, Nat.sub_le _ _, Nat.sub_le _ _, fun l hl => by cases hl; simp, fun l hl => by cases hl; simp, h.len, h.rows⟩
  · exact h
theorem TS.Ok.fill {t : TS} {i : Nat} (h : t.Ok i) : (t.fill i).Ok (i + 1) ∧ (t.fill i).col = t.col ∧ (t.fill i).out = t.out := by
  unfold TS.fill
  split
  · exact ⟨h.mono (by omega), rfl, rfl⟩
  · rename_i l hl
    have h1 := h.bd l hl
    have h2 := h.rel l hl
    have h3 := h.lbo
    have h4 := h.col
    have h5 := h.first
    have h6 := h.cbo
    have h7 := h.len
    refine ⟨⟨by simp only; omega, by simp only; omega, by simp only; omega, by simp only; omega, fun l' hl' => ?_, fun l' hl' => ?_, by simp only; omega, (h.mono (Nat.le_succ i)).rows⟩, rfl, rfl⟩
    · simp only [Option.some.injEq] at hl'
      subst hl'
      refine ⟨fun x hx => ?_, ?_⟩
      · rcases List.mem_append.1 hx with q | q
        · have := h1.1 x q; omega
        · have := (List.mem_replicate.1 q).2; omega
      · rw [List.length_append, List.length_replicate]; omega
    · simp only [Option.some.injEq] at hl'
      subst hl'
      rw [List.length_append, List.length_replicate]
      simp only
      omega
theorem TS.Ok.step {t : TS} {i : Nat} (h : t.Ok i) (s : ByteArray) (c : Nat) : (t.step s i c).Ok (i + 1) := by
  obtain ⟨h1, h2, h3⟩ := (h.mark.opn c).fill
  have hc := (h.mark.opn c).col
  have hl := (h.mark.opn c).len
  unfold TS.step
  generalize ((t.mark i).opn i c).fill i = u at *
  generalize (t.mark i).opn i c = v at *
  unfold TS.eat
  split
  · split
    · exact ⟨h1.lbo, by simp only; omega, h1.first, h1.cbo, h1.bd, h1.rel, h1.len, h1.rows⟩
    · unfold TS.newline
      refine ⟨h1.lbo, by simp, by simp, by simp, fun l hl => by simp at hl, fun l hl => by simp at hl, ?_, fun r hr => ?_⟩
      · simp only [List.length_append, List.length_singleton, h3]; omega
      · rcases List.mem_append.1 hr with q | q
        · exact h1.rows r q
        · simp only [List.mem_singleton] at q
          subst q
          exact ⟨h1.first, h1.lbo, fun l hl => h1.bd l hl⟩
  · refine ⟨h1.lbo, ?_, h1.first, h1.cbo, h1.bd, h1.rel, h1.len, h1.rows⟩
    simp only
    split <;> omega
theorem TS.Ok.zero : TS.zero.Ok 0 := ⟨Nat.le_refl _, Nat.le_refl _, Nat.le_refl _, Nat.le_refl _, (fun l hl => by cases hl), (fun l hl => by cases hl), Nat.le_refl _, (fun r hr => by cases hr)⟩
end Go.Proofs.YtnokiikgnplpmaaDoor

/-
  Tables of lines: what they say of a place of the source, and how they lie in memory. Conditions: as each lemma says.
-/
import Derived.Test.YtnokiikgnplpmaaDoorUpd
namespace Go.Proofs.YtnokiikgnplpmaaDoor
open Go.RowKit

/-- A line's table: its columns from the first letter that is no ASCII on (none: there is no such letter), where that letter is, where the line begins. -/
structure LT where
  cols : Option (List Nat)
  first : Nat
  start : Nat

/-- How many lines begin at a place or ahead of it. -/
def lineNo (ts : List LT) (loc : Nat) : Nat := (ts.takeWhile fun t => decide (t.start ≤ loc)).length
/-- The column of a place in a line. -/
def colOf (t : LT) (loc : Nat) : Nat :=
  match t.cols with
  | none => loc - t.start
  | some l => if t.first ≤ loc - t.start then l.getD (loc - t.start - t.first) 0 else loc - t.start
/-- The tables' lines begin at rising places, the first one at 0, and the place's column is there. -/
def TabOk (ts : List LT) : Prop := (∀ (i j : Nat) (hi : i < ts.length) (hj : j < ts.length), i < j → (ts[i]'hi).start < (ts[j]'hj).start) ∧ ∃ h : 0 < ts.length, (ts[0]'h).start = 0
def LocOk (ts : List LT) (loc : Nat) : Prop := ∀ (h : lineNo ts loc - 1 < ts.length), ∀ l, (ts[lineNo ts loc - 1]'h).cols = some l → (ts[lineNo ts loc - 1]'h).first ≤ loc - (ts[lineNo ts loc - 1]'h).start → loc - (ts[lineNo ts loc - 1]'h).start - (ts[lineNo ts loc - 1]'h).first < l.length

/-- No number of the tables is greater than 2^30. -/
def TabBd (ts : List LT) : Prop := ∀ t ∈ ts, t.first ≤ 1073741824 ∧ t.start ≤ 1073741824 ∧ ∀ l, t.cols = some l → ∀ c ∈ l, c ≤ 1073741824

theorem lineNo_is {ts : List LT} {loc r : Nat} (hr : r ≤ ts.length) (h1 : ∀ (j : Nat) (hj : j < ts.length), j < r → (ts[j]'hj).start ≤ loc) (h2 : ∀ (j : Nat) (hj : j < ts.length), r ≤ j → loc < (ts[j]'hj).start) : lineNo ts loc = r := by
  unfold lineNo
  induction ts generalizing r with
  | nil => simp at hr; simp [hr]
  | cons t ts ih =>
    cases r with
    | zero =>
      have := h2 0 (by simp) (Nat.le_refl _)
      simp at this
      rw [List.takeWhile_cons, if_neg (by simp; omega)]
      rfl
    | succ r =>
      have h0 := h1 0 (by simp) (by omega)
      simp at h0
      rw [List.takeWhile_cons, if_pos (by simpa using h0), List.length_cons]
      have := ih (r := r) (by simp at hr; omega) (fun j hj hjr => by have := h1 (j + 1) (by simp; omega) (by omega); simpa using this) (fun j hj hjr => by have := h2 (j + 1) (by simp; omega) (by omega); simpa using this)
      omega

theorem lineNo_pos {ts : List LT} (h : TabOk ts) (loc : Nat) : 1 ≤ lineNo ts loc := by
  obtain ⟨_, hl, h0⟩ := h
  cases ts with
  | nil => simp at hl
  | cons t ts =>
    simp at h0
    unfold lineNo
    rw [List.takeWhile_cons, if_pos (by simp; omega), List.length_cons]
    omega
theorem lineNo_le (ts : List LT) (loc : Nat) : lineNo ts loc ≤ ts.length := (List.takeWhile_sublist _).length_le
theorem lineNo_start {ts : List LT} {loc j : Nat} (hj : j < ts.length) (h : j < lineNo ts loc) : (ts[j]'hj).start ≤ loc := by
  unfold lineNo at h
  induction ts generalizing j with
  | nil => simp at hj
  | cons t ts ih =>
    rw [List.takeWhile_cons] at h
    split at h
    · rename_i ht
      cases j with
      | zero => simpa using ht
      | succ j => simp at h; simpa using ih (by simpa using hj) h
    · simp at h

/-- A line's columns lie below block B. -/
def ColAt (w : World) (B : Nat) (cv : Value) : Option (List Nat) → Prop
  | none => cv = .slice none 0 0
  | some l => ∃ k c : Nat, cv = .slice (some ⟨k, 0, none⟩) l.length c ∧ k < B ∧ ∀ (i : Nat) (hi : i < l.length), w.cell? ⟨k, i, none⟩ = some (.int .i32 ((l[i]'hi : Nat) : Int))
/-- The tables lie below block B. -/
def TabAt (w : World) (B : Nat) (tv : Value) (ts : List LT) : Prop :=
  ∃ tb cap : Nat, tv = .slice (some ⟨tb, 0, none⟩) ts.length cap ∧ tb < B ∧ ∀ (j : Nat) (hj : j < ts.length), ∃ cv, w.cell? ⟨tb, j * 3, none⟩ = some cv ∧ w.cell? ⟨tb, j * 3 + 1, none⟩ = some (.int .i32 ((ts[j]'hj).first : Int)) ∧ w.cell? ⟨tb, j * 3 + 2, none⟩ = some (.int .i32 ((ts[j]'hj).start : Int)) ∧ ColAt w B cv (ts[j]'hj).cols

theorem ColAt.below {w w' : World} {B : Nat} {cv : Value} {o : Option (List Nat)} (h : ColAt w B cv o) (hb : Below B w w') : ColAt w' B cv o := by
  cases o with
  | none => exact h
  | some l =>
    obtain ⟨k, c, h1, h2, h3⟩ := h
    exact ⟨k, c, h1, h2, fun i hi => (hb.cell (p := ⟨k, i, none⟩) h2).trans (h3 i hi)⟩
theorem TabAt.below {w w' : World} {B : Nat} {tv : Value} {ts : List LT} (h : TabAt w B tv ts) (hb : Below B w w') : TabAt w' B tv ts := by
  obtain ⟨tb, cap, h1, h2, h3⟩ := h
  refine ⟨tb, cap, h1, h2, fun j hj => ?_⟩
  obtain ⟨cv, a1, a2, a3, a4⟩ := h3 j hj
  exact ⟨cv, (hb.cell (p := ⟨tb, _, none⟩) h2).trans a1, (hb.cell (p := ⟨tb, _, none⟩) h2).trans a2, (hb.cell (p := ⟨tb, _, none⟩) h2).trans a3, a4.below hb⟩

/-- The builder ahead of a mapping that does not begin a line. -/
def Bd.topped (u : Bd) : Bd := if u.lsm = false ∧ 0 < u.gcol ∧ u.has = true then u.emit u.cover else u
theorem upd_le (s : ByteArray) (f pos : Nat) {d : Bd} {N : Nat} (h : d.le N) : (upd s f pos d).le (N + 2 * f) := by
  induction f generalizing pos d N with
  | zero => simpa [upd] using h
  | succ f ih =>
    unfold upd
    split
    · exact (ih _ (h.step s pos _)).mono (by omega)
    · exact h.mono (by omega)

theorem Bd.le.topped {N : Nat} {u : Bd} (h : u.le N) : u.topped.le (N + 1) := by
  obtain ⟨h1, h2, h3, h4, h5, h6, h7⟩ := h
  have hs := segb_len (lastB u.sm) u.st u.cover
  unfold Bd.topped Bd.le
  split
  · simp only [Bd.emit, Bd.cover, List.length_append] at hs ⊢
    omega
  · omega

/-- A mapping is added to the builder: the output so far, a place of the source. -/
def Bd.add (d : Bd) (ts : List LT) (ob : List UInt8) (tail : ByteArray) (loc : Nat) : Bd :=
  if d.ploc = (loc : Int) then d else
    let u : Bd := { upd tail tail.size 0 { d with ploc := loc, plen := ob.length } with lu := ob.length }
    let e : Bd := if u.lsm = false ∧ 0 < u.gcol ∧ u.has = true then u.emit u.cover else u
    { e.emit { gl := e.st.gl, gc := e.gcol, si := 0, ol := ((lineNo ts loc - 1 : Nat) : Int), oc := (colOf (ts.getD (lineNo ts loc - 1) ⟨none, 0, 0⟩) loc : Nat), on := 0 } with lsm := true }
end Go.Proofs.YtnokiikgnplpmaaDoor

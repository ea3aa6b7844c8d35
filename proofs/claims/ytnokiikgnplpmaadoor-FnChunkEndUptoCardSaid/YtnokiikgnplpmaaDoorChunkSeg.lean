/-
  What is made of steps holds a mapping, at least: plain. Conditions: as each lemma says.
-/
import Derived.Test.YtnokiikgnplpmaaDoorChunkPl
namespace Go.Proofs.YtnokiikgnplpmaaDoor
open Go.RowKit

theorem emit_mem {d : Bd} (c : St) {b : UInt8} (h : b ∈ d.sm) : b ∈ (d.emit c).sm := by simp [Bd.emit, h]
theorem newline_mem {d : Bd} {b : UInt8} (h : b ∈ d.sm) : b ∈ d.newline.sm := by
  rw [newline_eq]
  unfold Bd.covered
  split
  · simp only [List.mem_append]; exact .inl (emit_mem _ h)
  · simp only [List.mem_append]; exact .inl h
theorem upd_mem (s : ByteArray) (f pos : Nat) {d : Bd} {b : UInt8} (h : b ∈ d.sm) : b ∈ (upd s f pos d).sm := by
  induction f generalizing pos d with
  | zero => exact h
  | succ f ih =>
    unfold upd
    split
    · refine ih _ ?_
      unfold Bd.step
      split
      · split
        · exact h
        · exact newline_mem h
      · exact h
    · exact h
theorem nb_mem (n : Int) : ∃ b ∈ nb n, b ≠ 59 := by
  cases hx : nd n with
  | nil => exact absurd hx (nd_ne n)
  | cons y t =>
    refine ⟨UInt8.ofNat (sg y), by simp [nb, hx], fun e => ?_⟩
    have hy : y < 64 := nd_lt n y (by rw [hx]; simp)
    have h1 := sg_lt y hy
    have h2 := (sg_ne y).2.1
    have := congrArg UInt8.toNat e
    rw [u8n _ (by omega)] at this
    exact h2 this
theorem add_mem (d : Bd) (ts : List LT) (ob : List UInt8) (tail : ByteArray) (loc : Nat) : (∀ b ∈ d.sm, b ∈ (d.add ts ob tail loc).sm) ∧ (¬ d.ploc = (loc : Int) → ∃ b ∈ (d.add ts ob tail loc).sm, b ≠ 59) := by
  unfold Bd.add
  split
  · rename_i h; exact ⟨fun b hb => hb, fun q => absurd h q⟩
  · have h2 : ∀ b ∈ d.sm, b ∈ ({ upd tail tail.size 0 { d with ploc := (loc : Int), plen := ob.length } with lu := ob.length } : Bd).sm := fun b hb => upd_mem tail tail.size 0 (d := { d with ploc := (loc : Int), plen := ob.length }) hb
    generalize ({ upd tail tail.size 0 { d with ploc := (loc : Int), plen := ob.length } with lu := ob.length } : Bd) = u at *
    have e : ∀ b ∈ u.sm, b ∈ (if u.lsm = false ∧ 0 < u.gcol ∧ u.has = true then u.emit u.cover else u).sm := by
      intro b hb
      split
      · exact emit_mem _ hb
      · exact hb
    simp only
    generalize (if u.lsm = false ∧ 0 < u.gcol ∧ u.has = true then u.emit u.cover else u) = t at *
    refine ⟨fun b hb => emit_mem _ (e b (h2 b hb)), fun _ => ?_⟩
    obtain ⟨b, hb, hne⟩ := nb_mem ((t.gcol : Int) - t.st.gc)
    refine ⟨b, ?_, hne⟩
    simp only [Bd.emit, segb, List.mem_append]
    exact .inr (.inl (.inl (.inl (.inr hb))))
theorem cgo_mem (ts : List LT) (x : List Nat × Nat) (y : List (List Nat × Nat)) : ∃ b ∈ (cgo ts (x :: y)).1.sm, b ≠ 59 := by
  induction y using snoc_ind with
  | h0 =>
    have e : cgo ts [x] = cstep ts (Bd.zero, []) x := rfl
    rw [e]
    exact (add_mem Bd.zero ts ([] ++ encs x.1) (tailOf ([] ++ encs x.1) Bd.zero.lu) x.2).2 (by show ¬ (-1 : Int) = _; omega)
  | hs l z ih =>
    obtain ⟨b, hb, hne⟩ := ih
    rw [← List.cons_append, cgo_snoc]
    exact ⟨b, (add_mem _ ts _ _ _).1 b hb, hne⟩
theorem tokB_none (toks : List (Option (List Int))) (q : Seg × Int) (fr : Bool) (h : rsegs q toks = []) : ∀ b ∈ tokB fr toks, b = 59 := by
  induction toks generalizing q fr with
  | nil => intro b hb; cases hb
  | cons t r ih => cases t with
    | none =>
      intro b hb
      rcases List.mem_cons.1 hb with e | e
      · exact e
      · exact ih (rsemi q) true h b e
    | some ns => simp [rsegs] at h
/-- There is a mapping. -/
theorem cend_segs (ts : List LT) (x : List Nat × Nat) (y : List (List Nat × Nat)) (rest : List Nat) (toks : List (Option (List Int))) (h : BTok (cend ts (x :: y) rest) toks) : 0 < (rsegs qz toks).length := by
  rcases Nat.eq_zero_or_pos (rsegs qz toks).length with e | e
  · exfalso
    have h1 := tokB_none toks qz true (List.eq_nil_of_length_eq_zero e)
    obtain ⟨b, hb, hne⟩ := cgo_mem ts x y
    have hb2 : b ∈ (cend ts (x :: y) rest).sm := upd_mem _ _ _ hb
    rw [h.sm] at hb2
    exact hne (h1 b hb2)
  · exact e
end Go.Proofs.YtnokiikgnplpmaaDoor

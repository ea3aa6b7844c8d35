/-
  What impl.Chunk computes: plain. Conditions: as each lemma says.
-/
import Derived.Test.YtnokiikgnplpmaaDoorGenFn
import Derived.Test.YtnokiikgnplpmaaDoorMakeFn
import Derived.Test.YtnokiikgnplpmaaDoorTabs
import Derived.Test.YtnokiikgnplpmaaDoorSteps
namespace Go.Proofs.YtnokiikgnplpmaaDoor
open Go.RowKit

theorem snoc_ind {α : Type} {P : List α → Prop} (h0 : P []) (hs : ∀ l x, P l → P (l ++ [x])) : ∀ l, P l := by
  have key : ∀ l : List α, P l.reverse := by
    intro l
    induction l with
    | nil => exact h0
    | cons x l ih => rw [List.reverse_cons]; exact hs _ _ ih
  intro l
  have := key l.reverse
  rwa [List.reverse_reverse] at this

/-- A step: a text more of the output, then a mapping. -/
def cstep (ts : List LT) (p : Bd × List UInt8) (x : List Nat × Nat) : Bd × List UInt8 := (p.1.add ts (p.2 ++ encs x.1) (tailOf (p.2 ++ encs x.1) p.1.lu) x.2, p.2 ++ encs x.1)
/-- All steps. -/
def cgo (ts : List LT) (l : List (List Nat × Nat)) : Bd × List UInt8 := l.foldl (cstep ts) (Bd.zero, [])
/-- The builder behind all steps and the rest of the output. -/
def cend (ts : List LT) (l : List (List Nat × Nat)) (rest : List Nat) : Bd := (cgo ts l).1.done ((cgo ts l).2 ++ encs rest)

theorem cgo_snoc (ts : List LT) (l : List (List Nat × Nat)) (x : List Nat × Nat) : cgo ts (l ++ [x]) = cstep ts (cgo ts l) x := by simp [cgo]
theorem cgo_out (ts : List LT) (l : List (List Nat × Nat)) : (cgo ts l).2 = encs (allR l) := by
  induction l using snoc_ind with
  | h0 => rfl
  | hs l x ih => rw [cgo_snoc, allR_snoc, encs_app, ← ih]; rfl

theorem colOf_le {ts : List LT} (h : TabBd ts) (i loc : Nat) (hl : loc ≤ 1073741824) : colOf (ts.getD i ⟨none, 0, 0⟩) loc ≤ 1073741824 := by
  have hm : ts.getD i ⟨none, 0, 0⟩ ∈ ts ∨ ts.getD i ⟨none, 0, 0⟩ = ⟨none, 0, 0⟩ := by
    rcases Nat.lt_or_ge i ts.length with q | q
    · left
      rw [List.getD_eq_getElem?_getD, List.getElem?_eq_getElem q]
      exact List.getElem_mem q
    · right
      rw [List.getD_eq_getElem?_getD, List.getElem?_eq_none q]
      rfl
  unfold colOf
  rcases hm with hm | hm
  · have hb := h _ hm
    cases hc : (ts.getD i ⟨none, 0, 0⟩).cols with
    | none => simp only; omega
    | some l =>
      simp only
      split
      · rcases Nat.lt_or_ge (loc - (ts.getD i ⟨none, 0, 0⟩).start - (ts.getD i ⟨none, 0, 0⟩).first) l.length with q | q
        · rw [List.getD_eq_getElem?_getD, List.getElem?_eq_getElem q]
          exact hb.2.2 l hc _ (List.getElem_mem q)
        · rw [List.getD_eq_getElem?_getD, List.getElem?_eq_none q]
          simp
      · omega
  · rw [hm]
    simp only
    omega
theorem Bd.le.add {d : Bd} {N : Nat} (h : d.le N) (ts : List LT) (ob : List UInt8) (tail : ByteArray) (loc : Nat) (hts : TabBd ts) (hl : ts.length ≤ N) (hN : 1073741824 ≤ N) (hloc : loc ≤ 1073741824) : (d.add ts ob tail loc).le (N + 2 * tail.size + 2) := by
  unfold Bd.add
  split
  · exact h.mono (by omega)
  · have h1 : ({ d with ploc := (loc : Int), plen := ob.length } : Bd).le N := h
    have h2 := upd_le tail tail.size 0 h1
    have h3 : ({ upd tail tail.size 0 { d with ploc := (loc : Int), plen := ob.length } with lu := ob.length } : Bd).le (N + 2 * tail.size) := h2
    have h4 := h3.topped
    have hc := colOf_le hts (lineNo ts loc - 1) loc hloc
    have hn := lineNo_le ts loc
    generalize ({ upd tail tail.size 0 { d with ploc := (loc : Int), plen := ob.length } with lu := ob.length } : Bd) = u at *
    have e : (if u.lsm = false ∧ 0 < u.gcol ∧ u.has = true then u.emit u.cover else u) = u.topped := rfl
    simp only [e]
    generalize u.topped = t at *
    obtain ⟨a1, a2, a3, a4, a5, a6, a7⟩ := h4
    have hs := segb_len (lastB t.sm) t.st { gl := t.st.gl, gc := t.gcol, si := 0, ol := ((lineNo ts loc - 1 : Nat) : Int), oc := (colOf (ts.getD (lineNo ts loc - 1) ⟨none, 0, 0⟩) loc : Nat), on := 0 }
    unfold Bd.le
    simp only [Bd.emit, List.length_append] at hs ⊢
    exact ⟨by omega, by omega, by omega, trivial, by omega, by omega, by omega⟩
theorem add_lu (d : Bd) (ts : List LT) (ob : List UInt8) (tail : ByteArray) (loc : Nat) : (d.add ts ob tail loc).lu = if d.ploc = (loc : Int) then d.lu else ob.length := by
  unfold Bd.add
  split
  · rfl
  · simp only [Bd.emit]
    split
    · rfl
    · rfl
/-- Nothing of the builder is too great behind steps. -/
theorem cgo_le (ts : List LT) (hts : TabBd ts) (K : Nat) (hK : 1073741824 ≤ K) (hl : ts.length ≤ K) (l : List (List Nat × Nat)) (hp : ∀ x ∈ l, x.2 ≤ 1073741824) : (cgo ts l).1.lu ≤ (cgo ts l).2.length ∧ (cgo ts l).1.le (K + 2 * (cgo ts l).1.lu + 2 * l.length) := by
  induction l using snoc_ind with
  | h0 =>
    refine ⟨Nat.le_refl _, ?_⟩
    show (0 : Nat) ≤ 64 * (K + 2 * 0 + 2 * 0) ∧ ((0 : Int) ≤ 0 ∧ (0 : Int) ≤ (K + 2 * 0 + 2 * 0 : Nat)) ∧ ((0 : Int) ≤ 0 ∧ (0 : Int) ≤ (K + 2 * 0 + 2 * 0 : Nat)) ∧ (0 : Int) = 0 ∧ ((0 : Int) ≤ 0 ∧ (0 : Int) ≤ (K + 2 * 0 + 2 * 0 : Nat)) ∧ ((0 : Int) ≤ 0 ∧ (0 : Int) ≤ (K + 2 * 0 + 2 * 0 : Nat)) ∧ (0 : Nat) ≤ K + 2 * 0 + 2 * 0
    omega
  | hs l x ih =>
    obtain ⟨h1, h2⟩ := ih (fun y hy => hp y (by simp [hy]))
    rw [cgo_snoc]
    unfold cstep
    have ha := h2.add ts ((cgo ts l).2 ++ encs x.1) (tailOf ((cgo ts l).2 ++ encs x.1) (cgo ts l).1.lu) x.2 hts (by omega) (by omega) (hp x (by simp))
    have hu := add_lu (cgo ts l).1 ts ((cgo ts l).2 ++ encs x.1) (tailOf ((cgo ts l).2 ++ encs x.1) (cgo ts l).1.lu) x.2
    have hz := tail_size ((cgo ts l).2 ++ encs x.1) (cgo ts l).1.lu
    have hlen : ((cgo ts l).2 ++ encs x.1).length = (cgo ts l).2.length + (encs x.1).length := List.length_append
    generalize (cgo ts l).2 ++ encs x.1 = ob at *
    generalize tailOf ob (cgo ts l).1.lu = tl at *
    rw [List.length_append, List.length_singleton]
    by_cases hq : (cgo ts l).1.ploc = (x.2 : Int)
    · have e : (cgo ts l).1.add ts ob tl x.2 = (cgo ts l).1 := by unfold Bd.add; rw [if_pos hq]
      rw [e]
      exact ⟨by simp only; omega, h2.mono (by simp only; omega)⟩
    · rw [if_neg hq] at hu
      rw [hu]
      exact ⟨Nat.le_refl _, ha.mono (by omega)⟩
/-- The builder's bytes only grow. -/
theorem newline_sm (d : Bd) : d.sm.length ≤ d.newline.sm.length := by
  unfold Bd.newline
  simp only
  split
  · simp only [Bd.emit, List.length_append]; omega
  · simp only [List.length_append]; omega
theorem upd_sm (s : ByteArray) (f pos : Nat) (d : Bd) : d.sm.length ≤ (upd s f pos d).sm.length := by
  induction f generalizing pos d with
  | zero => exact Nat.le_refl _
  | succ f ih =>
    unfold upd
    split
    · refine Nat.le_trans ?_ (ih _ _)
      unfold Bd.step
      split
      · split
        · exact Nat.le_refl _
        · exact newline_sm d
      · exact Nat.le_refl _
    · exact Nat.le_refl _
theorem nb_pos (n : Int) : 0 < (nb n).length := by
  unfold nb
  rw [List.length_map]
  exact List.length_pos_iff.2 (nd_ne n)
theorem emit_sm (d : Bd) (c : St) : d.sm.length < (d.emit c).sm.length := by
  have := nb_pos (c.gc - d.st.gc)
  simp only [Bd.emit, segb, List.length_append]
  omega
theorem add_sm (d : Bd) (ts : List LT) (ob : List UInt8) (tail : ByteArray) (loc : Nat) : d.sm.length ≤ (d.add ts ob tail loc).sm.length ∧ (¬ d.ploc = (loc : Int) → d.sm.length < (d.add ts ob tail loc).sm.length) := by
  unfold Bd.add
  split
  · rename_i h; exact ⟨Nat.le_refl _, fun q => absurd h q⟩
  · have h1 := upd_sm tail tail.size 0 { d with ploc := (loc : Int), plen := ob.length }
    have h2 : d.sm.length ≤ ({ upd tail tail.size 0 { d with ploc := (loc : Int), plen := ob.length } with lu := ob.length } : Bd).sm.length := h1
    generalize ({ upd tail tail.size 0 { d with ploc := (loc : Int), plen := ob.length } with lu := ob.length } : Bd) = u at *
    have key : ∀ t : Bd, u.sm.length ≤ t.sm.length → ∀ c, d.sm.length < ({ t.emit c with lsm := true } : Bd).sm.length := fun t ht c => by have := emit_sm t c; exact Nat.lt_of_le_of_lt (Nat.le_trans h2 ht) this
    have e : u.sm.length ≤ (if u.lsm = false ∧ 0 < u.gcol ∧ u.has = true then u.emit u.cover else u).sm.length := by
      split
      · exact Nat.le_of_lt (emit_sm u _)
      · exact Nat.le_refl _
    have := key _ e
    simp only
    exact ⟨Nat.le_of_lt (this _), fun _ => this _⟩
theorem cgo_sm (ts : List LT) (x : List Nat × Nat) (y : List (List Nat × Nat)) : 0 < (cgo ts (x :: y)).1.sm.length := by
  induction y using snoc_ind with
  | h0 =>
    have e : cgo ts [x] = cstep ts (Bd.zero, []) x := rfl
    rw [e]
    have := (add_sm Bd.zero ts ([] ++ encs x.1) (tailOf ([] ++ encs x.1) Bd.zero.lu) x.2).2 (by show ¬ (-1 : Int) = _; omega)
    exact Nat.lt_of_le_of_lt (Nat.zero_le _) this
  | hs l z ih =>
    rw [← List.cons_append, cgo_snoc]
    exact Nat.lt_of_lt_of_le ih (add_sm _ ts _ _ _).1
theorem cend_sm (ts : List LT) (x : List Nat × Nat) (y : List (List Nat × Nat)) (rest : List Nat) : 0 < (cend ts (x :: y) rest).sm.length :=
  Nat.lt_of_lt_of_le (cgo_sm ts x y) (upd_sm _ _ _ _)
end Go.Proofs.YtnokiikgnplpmaaDoor

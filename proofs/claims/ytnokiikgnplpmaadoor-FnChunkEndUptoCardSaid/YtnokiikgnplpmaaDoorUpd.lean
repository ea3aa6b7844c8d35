/-
  What (*ChunkBuilder).updateGeneratedLineAndColumn computes: plain functions of a builder and of the text behind the last update. Conditions: as each lemma says.
-/
import Derived.Test.YtnokiikgnplpmaaDoorAddFn
import Derived.Laws.RangeAny
import Derived.Lib.OthersKept
namespace Go.Proofs.YtnokiikgnplpmaaDoor
open Go.RowKit

/-- The byte at a place, 0 behind the end. -/
def btn (s : ByteArray) (p : Nat) : Nat := (s.get! p).toNat
/-- Does the place hold a line feed? -/
def lfAt (s : ByteArray) (p : Nat) : Bool := decide (p < s.size ∧ btn s p = 10)
/-- Does a rune end a line (of a text, at a place)? -/
def isNl (c : Nat) : Bool := decide (c = 13 ∨ c = 10 ∨ c = 8232 ∨ c = 8233)

/-- The mapping that covers a line. -/
def Bd.cover (d : Bd) : St := { d.st with gc := 0, on := 0 }
/-- The end of a line of the output. -/
def Bd.newline (d : Bd) : Bd :=
  let e := if d.lsm = false ∧ d.has = true then d.emit d.cover else d
  { e with st := { e.st with gl := e.st.gl + 1, gc := 0 }, gcol := 0, sm := e.sm ++ [59], lsm := false }
/-- One rune of the output. -/
def Bd.step (s : ByteArray) (pos c : Nat) (d : Bd) : Bd :=
  if isNl c then (if c = 13 ∧ lfAt s (pos + 1) = true then d else d.newline) else { d with gcol := d.gcol + if c ≤ 65535 then 1 else 2 }
/-- All runes from a place on; f bounds how many. -/
def upd (s : ByteArray) : Nat → Nat → Bd → Bd
  | 0, _, d => d
  | f + 1, pos, d => if pos < s.size then upd s f (pos + (Utf8.decode s pos).2) (d.step s pos (Utf8.decode s pos).1) else d

/-- Nothing of the builder is greater than so much. -/
def Bd.le (N : Nat) (d : Bd) : Prop := d.sm.length ≤ 64 * N ∧ (0 ≤ d.st.gl ∧ d.st.gl ≤ N) ∧ (0 ≤ d.st.gc ∧ d.st.gc ≤ N) ∧ d.st.si = 0 ∧ (0 ≤ d.st.ol ∧ d.st.ol ≤ N) ∧ (0 ≤ d.st.oc ∧ d.st.oc ≤ N) ∧ d.gcol ≤ N

theorem Bd.le.ok {N : Nat} {d : Bd} (h : d.le N) (hN : N ≤ 8589934592) : d.st.ok := by
  obtain ⟨h1, h2, h3, h4, h5, h6, h7⟩ := h
  unfold St.ok
  omega
theorem Bd.le.cover_ok {N : Nat} {d : Bd} (h : d.le N) (hN : N ≤ 8589934592) : d.cover.ok := by
  obtain ⟨h1, h2, h3, h4, h5, h6, h7⟩ := h
  unfold St.ok Bd.cover
  simp only
  omega
theorem segb_len (lb : Nat) (p c : St) : (segb lb p c).length ≤ 53 := by
  rw [← bc_len, bc_segb]; exact segc_len lb p c
theorem Bd.le.newline {N : Nat} {d : Bd} (h : d.le N) : d.newline.le (N + 1) := by
  obtain ⟨h1, h2, h3, h4, h5, h6, h7⟩ := h
  have hs := segb_len (lastB d.sm) d.st d.cover
  unfold Bd.newline Bd.le
  split
  · simp only [Bd.emit, Bd.cover, List.length_append, List.length_singleton] at hs ⊢
    omega
  · simp only [List.length_append, List.length_singleton]
    omega
theorem Bd.le.mono {N M : Nat} {d : Bd} (h : d.le N) (hM : N ≤ M) : d.le M := by
  obtain ⟨h1, h2, h3, h4, h5, h6, h7⟩ := h
  unfold Bd.le
  omega
theorem Bd.le.step {N : Nat} {d : Bd} (h : d.le N) (s : ByteArray) (pos c : Nat) : (d.step s pos c).le (N + 2) := by
  unfold Bd.step
  split
  · split
    · exact h.mono (by omega)
    · exact h.newline.mono (by omega)
  · obtain ⟨h1, h2, h3, h4, h5, h6, h7⟩ := h
    unfold Bd.le
    simp only
    split <;> omega

theorem newline_lu (d : Bd) : d.newline.lu = d.lu := by
  unfold Bd.newline
  simp only
  split <;> rfl
theorem step_lu (s : ByteArray) (pos c : Nat) (d : Bd) : (d.step s pos c).lu = d.lu := by
  unfold Bd.step
  split
  · split
    · rfl
    · exact newline_lu d
  · rfl
theorem step_plain (s : ByteArray) (pos c : Nat) (d : Bd) (h : ¬ isNl c = true) : d.step s pos c = { d with gcol := d.gcol + if c ≤ 65535 then 1 else 2 } := by
  unfold Bd.step; rw [if_neg h]
theorem step_crlf (s : ByteArray) (pos c : Nat) (d : Bd) (h : isNl c = true) (h2 : c = 13 ∧ lfAt s (pos + 1) = true) : d.step s pos c = d := by
  unfold Bd.step; rw [if_pos h, if_pos h2]
theorem step_nl (s : ByteArray) (pos c : Nat) (d : Bd) (h : isNl c = true) (h2 : ¬ (c = 13 ∧ lfAt s (pos + 1) = true)) : d.step s pos c = d.newline := by
  unfold Bd.step; rw [if_pos h, if_neg h2]
/-- The builder ahead of a line's end. -/
def Bd.covered (d : Bd) : Bd := if d.lsm = false ∧ d.has = true then d.emit d.cover else d
theorem covered_gl (d : Bd) : d.covered.st.gl = d.st.gl := by
  unfold Bd.covered
  split <;> rfl
theorem covered_len (d : Bd) : d.covered.sm.length ≤ d.sm.length + 53 := by
  unfold Bd.covered
  split
  · have := segb_len (lastB d.sm) d.st d.cover
    simp [Bd.emit]; exact this
  · omega
theorem newline_eq (d : Bd) : d.newline = { d.covered with st := { d.covered.st with gl := d.covered.st.gl + 1, gc := 0 }, gcol := 0, sm := d.covered.sm ++ [59], lsm := false } := rfl

theorem width_pos (s : ByteArray) (pos : Nat) (h : pos < s.size) : 1 ≤ (Utf8.decode s pos).2 := by
  by_cases ha : (s[pos]'h).toNat < 128
  · rw [decode_ascii s pos h ha]
    exact Nat.le_refl _
  · exact (decode_high s pos h (by omega)).2

theorem upd_end (s : ByteArray) (f pos : Nat) (d : Bd) (h : ¬ pos < s.size) : upd s f pos d = d := by
  cases f <;> simp [upd, h]

/-- An iterator is moved on: rows of one's own stay. -/
theorem own_iter {w : World} {base e size n : Nat} {v : Value} {xs : List Value} (h : w.ownsRow base e size v n xs) {k : Nat} {s : ByteArray} {p : Nat} (hk : w.heap[k]? = some (.stringIter s p)) (p' : Nat) : (w.iterAt k s p').ownsRow base e size v n xs := by
  obtain ⟨h1, h2⟩ := h
  refine ⟨h1, ?_⟩
  rcases h2 with h2 | ⟨g, cap, cur, hv, hgb, hh, r⟩
  · exact .inl h2
  · refine .inr ⟨g, cap, cur, hv, hgb, ?_, r⟩
    rw [Lib.iterAt_other _ _ _ _ _ (by rintro rfl; rw [hk] at hh; cases hh)]
    exact hh
theorem Kep.iterAt {X : Nat → Prop} {a w : World} (h : Kep X a w) {k : Nat} (hk : X k ∨ a.heap.size ≤ k) (s : ByteArray) (p : Nat) : Kep X a (w.iterAt k s p) :=
  ⟨h.os, h.tape, h.output, by rw [Lib.iterAt_size]; exact h.size, fun i hi hx => (Lib.iterAt_other w k i s p (by rintro rfl; rcases hk with q | q; exact hx q; omega)).trans (h.block i hi hx)⟩
theorem Bld.iterAt {w : World} {g base : Nat} {v mp tv : Value} {d : Bd} (h : Bld w g base v mp tv d) {k : Nat} {s : ByteArray} {p : Nat} (hk : w.heap[k]? = some (.stringIter s p)) (p' : Nat) : Bld (w.iterAt k s p') g base v mp tv d := by
  obtain ⟨h1, h2, h3, h4⟩ := h
  refine ⟨?_, own_iter h2 hk p', h3, by rw [Lib.iterAt_size]; exact h4⟩
  unfold Blk at h1 ⊢
  rw [Lib.iterAt_other _ _ _ _ _ (by rintro rfl; rw [hk] at h1; cases h1)]
  exact h1

/-- The iterator stays where it is while the builder works. -/
theorem iter_kept {W w2 : World} {g base it : Nat} {v v2 mp tv : Value} {d : Bd} {s : ByteArray} {p : Nat} (hb : Bld W g base v mp tv d) (hs : Bst W g v w2 v2) (hi : W.heap[it]? = some (.stringIter s p)) : w2.heap[it]? = some (.stringIter s p) := by
  have hlt : it < W.heap.size := (Array.getElem?_eq_some_iff.1 hi).1
  refine (hs.1.block it hlt ?_).trans hi
  rintro (rfl | q)
  · have := hb.1
    unfold Blk at this
    rw [hi] at this
    cases this
  · rcases hb.2.1.2 with ⟨e, _⟩ | ⟨k, cap, cur, e, _, hh, _⟩
    · rw [e] at q; simp [Value.ownBlock] at q
    · rw [e] at q
      simp [Value.ownBlock] at q
      subst q
      rw [hi] at hh
      cases hh

/-- One cell of the builder is stored anew. -/
theorem Bld.put {w : World} {g base : Nat} {v mp tv : Value} {d d' : Bd} (h : Bld w g base v mp tv d) (i : Nat) (u : Value) (e : (d.cells v mp tv).setIfInBounds i u = d'.cells v mp tv) (hsm : d'.sm = d.sm) : Bld (w.setCell ⟨g, i, none⟩ u) g base v mp tv d' := by
  obtain ⟨h1, h2, h3, h4⟩ := h
  refine ⟨?_, ?_, h3, by rw [World.size_setCell]; exact h4⟩
  · have := h1.set_ i u
    rw [e] at this
    exact this
  · rw [hsm]
    exact ownsRow_setCell_other h2 (fun q => by have := own_lt h2 q; simp only at this; omega) u
theorem Bst.put {w w1 : World} {g : Nat} {v v1 : Value} (h : Bst w g v w1 v1) (i : Nat) (u : Value) : Bst w g v (w1.setCell ⟨g, i, none⟩ u) v1 := ⟨h.1.setCell (.inl (.inl rfl)) u, h.2⟩
theorem Bst.trans {w w1 w2 : World} {g : Nat} {v v1 v2 : Value} (h : Bst w g v w1 v1) (k : Bst w1 g v1 w2 v2) : Bst w g v w2 v2 := by
  obtain ⟨a1, a2⟩ := h
  obtain ⟨b1, b2⟩ := k
  refine ⟨a1.then b1 fun i hi => ?_, ?_⟩
  · rcases hi with hi | hi
    · exact .inl (.inl hi)
    · rcases a2 with e | ⟨q, hq, e⟩
      · left; right; rw [← e]; exact hi
      · right; rw [e] at hi; injection hi with hi; omega
  · rcases b2 with e | ⟨q, hq, e⟩
    · rw [e]; exact a2
    · exact .inr ⟨q, by have := a1.size; omega, e⟩
/-- One byte is appended, and stored in the builder. -/
theorem Bld.push {w w2 : World} {g base : Nat} {v v2 mp tv : Value} {d : Bd} {o : Obj} {b : UInt8} (h : Bld w g base v mp tv d) (h1 : w2.ownsRow base 5 1 v2 (d.sm.length + 1) (bc d.sm ++ [.int .u8 (b.toNat : Int)])) (h2 : (w.alloc o).grownBy w2 v.ownBlock) (h3 : v2.ownBlock = v.ownBlock ∨ v2.ownBlock = some (w.heap.size + 1)) :
    Bld (w2.setCell ⟨g, 1, none⟩ v2) g base v2 mp tv { d with sm := d.sm ++ [b] } ∧ Bst w g v (w2.setCell ⟨g, 1, none⟩ v2) v2 := by
  obtain ⟨a1, a2, a3, a4⟩ := h
  have k1 : Kep (fun k => v.ownBlock = some k) w w2 := ((Kep.refl _ _).alloc o).grown h2 fun k hk => .inl hk
  have ne : ¬ v.ownBlock = some g := fun q => by have := own_lt a2 q; omega
  have ne2 : v2.ownBlock ≠ some g := by
    rcases h3 with e | e
    · rw [e]; exact ne
    · rw [e]; intro q; injection q with q; have := a1.lt; omega
  refine ⟨⟨?_, ?_, a3, ?_⟩, ?_, ?_⟩
  · exact (a1.kep k1 ne).set_ 1 v2
  · have e : bc (d.sm ++ [b]) = bc d.sm ++ [.int .u8 (b.toNat : Int)] := by simp [bc]
    have e2 : (d.sm ++ [b]).length = d.sm.length + 1 := by simp
    show (w2.setCell ⟨g, 1, none⟩ v2).ownsRow base 5 1 v2 (d.sm ++ [b]).length (bc (d.sm ++ [b]))
    rw [e, e2]
    exact ownsRow_setCell_other h1 ne2 _
  · rw [World.size_setCell]; exact Nat.le_trans a4 k1.size
  · exact (k1.mono fun k _ hk => .inr hk).setCell (.inl (.inl rfl)) _
  · rcases h3 with e | e
    · exact .inl e
    · exact .inr ⟨_, by omega, e⟩
end Go.Proofs.YtnokiikgnplpmaaDoor

/-
  The contract of (*ChunkBuilder).appendMapping without a name and without an input map: it is appendMappingWithoutRemapping. Conditions: the numbers of both states are below 2^38.
  What (*ChunkBuilder).updateGeneratedLineAndColumn computes: plain functions of a builder and of the text behind the last update. Conditions: as each lemma says.
  The contract of sourcemap.MakeChunkBuilder without an input map. Conditions: none.
  Tables of lines: what they say of a place of the source, and how they lie in memory. Conditions: as each lemma says.
  What sourcemap.GenerateLineOffsetTables computes: plain functions of a source. Conditions: as each lemma says.
  The tables of lines of a source tell the line and the column of each place at which a rune begins: plain, no program. Conditions: as each lemma says.
  The tables of lines of a source of runes, and places of it: plain, no program. Conditions: as each lemma says.
  Steps that are made of turns: plain. Conditions: as each lemma says.
  The contract of laws.places: the places of a text at which something can begin. Conditions: the text has at most 2^24 bytes.
  The contract of laws.made: steps of turns, and all their text. Conditions: the source has at most 2^24 bytes, the turns' texts together too.
  The contract of spec.Advance: the place behind a text. Conditions: all numbers are below 2^60.
-/
import Derived.Test.YtnokiikgnplpmaaDoorM4
import Derived.Laws.RangeAny
import Derived.Lib.OthersKept
import Derived.Test.YtnokiikgnplpmaaDoorM1
import Derived.Carry
import Derived.Great.BuildSlice
import Derived.Test.YtnokiikgnplpmaaDoorM2
namespace Go.Proofs.YtnokiikgnplpmaaDoor
open Go.RowKit

/-- New blocks first, then an operation of the builder. -/
theorem Bst.after {w w0 w' : World} {g : Nat} {v v' : Value} (h : Below w.heap.size w w0) (k : Bst w0 g v w' v') : Bst w g v w' v' := by
  obtain ⟨k1, k2⟩ := k
  refine ⟨(Kep.of_below h).then k1 fun i hi => .inl hi, ?_⟩
  rcases k2 with e | ⟨q, hq, e⟩
  · exact .inl e
  · exact .inr ⟨q, by have := h.size; omega, e⟩
theorem Bld.after {w w0 : World} {g base : Nat} {v mp tv : Value} {d : Bd} (h : Bld w g base v mp tv d) (hb : Below w.heap.size w w0) : Bld w0 g base v mp tv d :=
  ⟨h.1.kep (Kep.of_below (X := fun _ => False) hb) (fun q => q), h.2.1.kept_below hb, h.2.2.1, Nat.le_trans h.2.2.2 hb.size⟩

set_option maxHeartbeats 1000000 in
set_option maxRecDepth 100000 in
theorem addmap_any (w : World) (g base B : Nat) (v mp tv : Value) (d : Bd) (c : St) (h : Bld w g base v mp tv d) (hT : B64 B w) (hB : B ≤ g) (hn : d.sm.length ≤ 549755813888) (hp : d.st.ok) (hc : c.ok) :
    Calls Tryd.prog 47 #[.pointer (some ⟨g, 0, none⟩), .string ByteArray.empty, .agg c.cells] w fun e w' => e = .returned (.tuple #[]) ∧ ∃ v', Bld w' g base v' mp tv (d.emit c) ∧ Bst w g v w' v' := by
  have c0 : w.cell? ⟨g, 0, none⟩ = some (.pointer none) := h.1.cell 0
  have hgw : g < w.heap.size := h.1.lt
  obtain ⟨cgl, cgc, csi, col, coc, con⟩ := c
  show Calls Tryd.prog 47 #[.pointer (some ⟨g, 0, none⟩), .string ByteArray.empty, .agg #[.int .i64 cgl, .int .i64 cgc, .int .i64 csi, .int .i64 col, .int .i64 coc, .int .i64 con, .bool false]] w _
  have hb0 : Below w.heap.size w (w.alloc (.cells #[.int .i64 cgl, .int .i64 cgc, .int .i64 csi, .int .i64 col, .int .i64 coc, .int .i64 con, .bool false] 77)) := balloc (Below.refl _ _) _
  go_enter Tryd.func47, Tryd.ntmps47
  go_wp2_with fail
  refine (emit_any _ g base B v mp tv d ⟨cgl, cgc, csi, col, coc, con⟩ (h.after hb0) (hT.below (hb0.mono (by omega))) hB hn hp hc).mono ?_
  rintro e w1 ⟨rfl, v1, h1, h2⟩
  go_wp2_with fail
  go_end0
  exact ⟨rfl, v1, h1, h2.after hb0⟩
end Go.Proofs.YtnokiikgnplpmaaDoor
namespace Go.Proofs.YtnokiikgnplpmaaDoor
open Go.RowKit

/-- The byte at a place, 0 behind the end. -/
def btn (s : ByteArray) (p : Nat) : Nat := (s.get! p).toNat
/-- Does the place hold a line feed? -/
def lfAt (s : ByteArray) (p : Nat) : Bool := decide (p < s.size ∧ btn s p = 10)
/-- Does a rune end a line (of a text, at a place)? -/
def isNl (c : Nat) : Bool := decide (c = 13 ∨ c = 10 ∨ c = 8232 ∨ c = 8233)

/-- The mapping that covers a line. -/
def Bd.cover (d : Bd) : St := { d.st with gc := 0, on := 0 }
/-- The end of a line of the output. -/
def Bd.newline (d : Bd) : Bd :=
  let e := if d.lsm = false ∧ d.has = true then d.emit d.cover else d
  { e with st := { e.st with gl := e.st.gl + 1, gc := 0 }, gcol := 0, sm := e.sm ++ [59], lsm := false }
/-- One rune of the output. -/
def Bd.step (s : ByteArray) (pos c : Nat) (d : Bd) : Bd :=
  if isNl c then (if c = 13 ∧ lfAt s (pos + 1) = true then d else d.newline) else { d with gcol := d.gcol + if c ≤ 65535 then 1 else 2 }
/-- All runes from a place on; f bounds how many. -/
def upd (s : ByteArray) : Nat → Nat → Bd → Bd
  | 0, _, d => d
  | f + 1, pos, d => if pos < s.size then upd s f (pos + (Utf8.decode s pos).2) (d.step s pos (Utf8.decode s pos).1) else d

/-- Nothing of the builder is greater than so much. -/
def Bd.le (N : Nat) (d : Bd) : Prop := d.sm.length ≤ 64 * N ∧ (0 ≤ d.st.gl ∧ d.st.gl ≤ N) ∧ (0 ≤ d.st.gc ∧ d.st.gc ≤ N) ∧ d.st.si = 0 ∧ (0 ≤ d.st.ol ∧ d.st.ol ≤ N) ∧ (0 ≤ d.st.oc ∧ d.st.oc ≤ N) ∧ d.gcol ≤ N

theorem Bd.le.ok {N : Nat} {d : Bd} (h : d.le N) (hN : N ≤ 8589934592) : d.st.ok := by
  obtain ⟨h1, h2, h3, h4, h5, h6, h7⟩ := h
  unfold St.ok
  omega
theorem Bd.le.cover_ok {N : Nat} {d : Bd} (h : d.le N) (hN : N ≤ 8589934592) : d.cover.ok := by
  obtain ⟨h1, h2, h3, h4, h5, h6, h7⟩ := h
  unfold St.ok Bd.cover
  simp only
  omega
theorem segb_len (lb : Nat) (p c : St) : (segb lb p c).length ≤ 53 := by
  rw [← bc_len, bc_segb]; exact segc_len lb p c
theorem Bd.le.newline {N : Nat} {d : Bd} (h : d.le N) : d.newline.le (N + 1) := by
  obtain ⟨h1, h2, h3, h4, h5, h6, h7⟩ := h
  have hs := segb_len (lastB d.sm) d.st d.cover
  unfold Bd.newline Bd.le
  split
  · simp only [Bd.emit, Bd.cover, List.length_append, List.length_singleton] at hs ⊢
    omega
  · simp only [List.length_append, List.length_singleton]
    omega
theorem Bd.le.mono {N M : Nat} {d : Bd} (h : d.le N) (hM : N ≤ M) : d.le M := by
  obtain ⟨h1, h2, h3, h4, h5, h6, h7⟩ := h
  unfold Bd.le
  omega
theorem Bd.le.step {N : Nat} {d : Bd} (h : d.le N) (s : ByteArray) (pos c : Nat) : (d.step s pos c).le (N + 2) := by
  unfold Bd.step
  split
  · split
    · exact h.mono (by omega)
    · exact h.newline.mono (by omega)
  · obtain ⟨h1, h2, h3, h4, h5, h6, h7⟩ := h
    unfold Bd.le
    simp only
    split <;> omega

theorem newline_lu (d : Bd) : d.newline.lu = d.lu := by
  unfold Bd.newline
  simp only
  split <;> rfl
theorem step_lu (s : ByteArray) (pos c : Nat) (d : Bd) : (d.step s pos c).lu = d.lu := by
  unfold Bd.step
  split
  · split
    · rfl
    · exact newline_lu d
  · rfl
theorem step_plain (s : ByteArray) (pos c : Nat) (d : Bd) (h : ¬ isNl c = true) : d.step s pos c = { d with gcol := d.gcol + if c ≤ 65535 then 1 else 2 } := by
  unfold Bd.step; rw [if_neg h]
theorem step_crlf (s : ByteArray) (pos c : Nat) (d : Bd) (h : isNl c = true) (h2 : c = 13 ∧ lfAt s (pos + 1) = true) : d.step s pos c = d := by
  unfold Bd.step; rw [if_pos h, if_pos h2]
theorem step_nl (s : ByteArray) (pos c : Nat) (d : Bd) (h : isNl c = true) (h2 : ¬ (c = 13 ∧ lfAt s (pos + 1) = true)) : d.step s pos c = d.newline := by
  unfold Bd.step; rw [if_pos h, if_neg h2]
/-- The builder ahead of a line's end. -/
def Bd.covered (d : Bd) : Bd := if d.lsm = false ∧ d.has = true then d.emit d.cover else d
theorem covered_gl (d : Bd) : d.covered.st.gl = d.st.gl := by
  unfold Bd.covered
  split <;> rfl
theorem covered_len (d : Bd) : d.covered.sm.length ≤ d.sm.length + 53 := by
  unfold Bd.covered
  split
  · have := segb_len (lastB d.sm) d.st d.cover
    simp [Bd.emit]; exact this
  · omega
theorem newline_eq (d : Bd) : d.newline = { d.covered with st := { d.covered.st with gl := d.covered.st.gl + 1, gc := 0 }, gcol := 0, sm := d.covered.sm ++ [59], lsm := false } := rfl

theorem width_pos (s : ByteArray) (pos : Nat) (h : pos < s.size) : 1 ≤ (Utf8.decode s pos).2 := by
  by_cases ha : (s[pos]'h).toNat < 128
  · rw [decode_ascii s pos h ha]
    exact Nat.le_refl _
  · exact (decode_high s pos h (by omega)).2

theorem upd_end (s : ByteArray) (f pos : Nat) (d : Bd) (h : ¬ pos < s.size) : upd s f pos d = d := by
  cases f <;> simp [upd, h]

/-- An iterator is moved on: rows of one's own stay. -/
theorem own_iter {w : World} {base e size n : Nat} {v : Value} {xs : List Value} (h : w.ownsRow base e size v n xs) {k : Nat} {s : ByteArray} {p : Nat} (hk : w.heap[k]? = some (.stringIter s p)) (p' : Nat) : (w.iterAt k s p').ownsRow base e size v n xs := by
  obtain ⟨h1, h2⟩ := h
  refine ⟨h1, ?_⟩
  rcases h2 with h2 | ⟨g, cap, cur, hv, hgb, hh, r⟩
  · exact .inl h2
  · refine .inr ⟨g, cap, cur, hv, hgb, ?_, r⟩
    rw [Lib.iterAt_other _ _ _ _ _ (by rintro rfl; rw [hk] at hh; cases hh)]
    exact hh
theorem Kep.iterAt {X : Nat → Prop} {a w : World} (h : Kep X a w) {k : Nat} (hk : X k ∨ a.heap.size ≤ k) (s : ByteArray) (p : Nat) : Kep X a (w.iterAt k s p) :=
  ⟨h.os, h.tape, h.output, by rw [Lib.iterAt_size]; exact h.size, fun i hi hx => (Lib.iterAt_other w k i s p (by rintro rfl; rcases hk with q | q; exact hx q; omega)).trans (h.block i hi hx)⟩
theorem Bld.iterAt {w : World} {g base : Nat} {v mp tv : Value} {d : Bd} (h : Bld w g base v mp tv d) {k : Nat} {s : ByteArray} {p : Nat} (hk : w.heap[k]? = some (.stringIter s p)) (p' : Nat) : Bld (w.iterAt k s p') g base v mp tv d := by
  obtain ⟨h1, h2, h3, h4⟩ := h
  refine ⟨?_, own_iter h2 hk p', h3, by rw [Lib.iterAt_size]; exact h4⟩
  unfold Blk at h1 ⊢
  rw [Lib.iterAt_other _ _ _ _ _ (by rintro rfl; rw [hk] at h1; cases h1)]
  exact h1

/-- The iterator stays where it is while the builder works. -/
theorem iter_kept {W w2 : World} {g base it : Nat} {v v2 mp tv : Value} {d : Bd} {s : ByteArray} {p : Nat} (hb : Bld W g base v mp tv d) (hs : Bst W g v w2 v2) (hi : W.heap[it]? = some (.stringIter s p)) : w2.heap[it]? = some (.stringIter s p) := by
  have hlt : it < W.heap.size := (Array.getElem?_eq_some_iff.1 hi).1
  refine (hs.1.block it hlt ?_).trans hi
  rintro (rfl | q)
  · have := hb.1
    unfold Blk at this
    rw [hi] at this
    cases this
  · rcases hb.2.1.2 with ⟨e, _⟩ | ⟨k, cap, cur, e, _, hh, _⟩
    · rw [e] at q; simp [Value.ownBlock] at q
    · rw [e] at q
      simp [Value.ownBlock] at q
      subst q
      rw [hi] at hh
      cases hh

/-- One cell of the builder is stored anew. -/
theorem Bld.put {w : World} {g base : Nat} {v mp tv : Value} {d d' : Bd} (h : Bld w g base v mp tv d) (i : Nat) (u : Value) (e : (d.cells v mp tv).setIfInBounds i u = d'.cells v mp tv) (hsm : d'.sm = d.sm) : Bld (w.setCell ⟨g, i, none⟩ u) g base v mp tv d' := by
  obtain ⟨h1, h2, h3, h4⟩ := h
  refine ⟨?_, ?_, h3, by rw [World.size_setCell]; exact h4⟩
  · have := h1.set_ i u
    rw [e] at this
    exact this
  · rw [hsm]
    exact ownsRow_setCell_other h2 (fun q => by have := own_lt h2 q; simp only at this; omega) u
theorem Bst.put {w w1 : World} {g : Nat} {v v1 : Value} (h : Bst w g v w1 v1) (i : Nat) (u : Value) : Bst w g v (w1.setCell ⟨g, i, none⟩ u) v1 := ⟨h.1.setCell (.inl (.inl rfl)) u, h.2⟩
theorem Bst.trans {w w1 w2 : World} {g : Nat} {v v1 v2 : Value} (h : Bst w g v w1 v1) (k : Bst w1 g v1 w2 v2) : Bst w g v w2 v2 := by
  obtain ⟨a1, a2⟩ := h
  obtain ⟨b1, b2⟩ := k
  refine ⟨a1.then b1 fun i hi => ?_, ?_⟩
  · rcases hi with hi | hi
    · exact .inl (.inl hi)
    · rcases a2 with e | ⟨q, hq, e⟩
      · left; right; rw [← e]; exact hi
      · right; rw [e] at hi; injection hi with hi; omega
  · rcases b2 with e | ⟨q, hq, e⟩
    · rw [e]; exact a2
    · exact .inr ⟨q, by have := a1.size; omega, e⟩
/-- One byte is appended, and stored in the builder. -/
theorem Bld.push {w w2 : World} {g base : Nat} {v v2 mp tv : Value} {d : Bd} {o : Obj} {b : UInt8} (h : Bld w g base v mp tv d) (h1 : w2.ownsRow base 5 1 v2 (d.sm.length + 1) (bc d.sm ++ [.int .u8 (b.toNat : Int)])) (h2 : (w.alloc o).grownBy w2 v.ownBlock) (h3 : v2.ownBlock = v.ownBlock ∨ v2.ownBlock = some (w.heap.size + 1)) :
    Bld (w2.setCell ⟨g, 1, none⟩ v2) g base v2 mp tv { d with sm := d.sm ++ [b] } ∧ Bst w g v (w2.setCell ⟨g, 1, none⟩ v2) v2 := by
  obtain ⟨a1, a2, a3, a4⟩ := h
  have k1 : Kep (fun k => v.ownBlock = some k) w w2 := ((Kep.refl _ _).alloc o).grown h2 fun k hk => .inl hk
  have ne : ¬ v.ownBlock = some g := fun q => by have := own_lt a2 q; omega
  have ne2 : v2.ownBlock ≠ some g := by
    rcases h3 with e | e
    · rw [e]; exact ne
    · rw [e]; intro q; injection q with q; have := a1.lt; omega
  refine ⟨⟨?_, ?_, a3, ?_⟩, ?_, ?_⟩
  · exact (a1.kep k1 ne).set_ 1 v2
  · have e : bc (d.sm ++ [b]) = bc d.sm ++ [.int .u8 (b.toNat : Int)] := by simp [bc]
    have e2 : (d.sm ++ [b]).length = d.sm.length + 1 := by simp
    show (w2.setCell ⟨g, 1, none⟩ v2).ownsRow base 5 1 v2 (d.sm ++ [b]).length (bc (d.sm ++ [b]))
    rw [e, e2]
    exact ownsRow_setCell_other h1 ne2 _
  · rw [World.size_setCell]; exact Nat.le_trans a4 k1.size
  · exact (k1.mono fun k _ hk => .inr hk).setCell (.inl (.inl rfl)) _
  · rcases h3 with e | e
    · exact .inl e
    · exact .inr ⟨_, by omega, e⟩
end Go.Proofs.YtnokiikgnplpmaaDoor
namespace Go.Proofs.YtnokiikgnplpmaaDoor
open Go.RowKit

/-- A new builder. -/
def Bd.zero : Bd := ⟨[], ⟨0, 0, 0, 0, 0, 0⟩, 0, 0, 0, -1, false, false⟩
def bdz : Array Value := #[.pointer none, .slice none 0 0, .slice none 0 0, .map none, .slice none 0 0, .string ByteArray.empty, .int .i64 0, .int .i64 0, .int .i64 0, .int .i64 0, .int .i64 0, .int .i64 0, .bool false, .int .i64 0, .int .i64 0, .int .i64 0, .int .i32 0, .int .u32 0, .bool false, .bool false, .bool false, .bool false]
theorem size_bd : (Tryd.prog.info? 84).map (·.size) = some 22 := by kernel_rfl
theorem cells_one (d : Bd) (a : Option Addr) (n c mp : Nat) : (d.cells (.slice none 0 0) (.map (some mp)) (.slice a n c)).all (·.oneCell') = true := by
  simp [Bd.cells, Value.oneCell']

theorem built_bd (a : Option Addr) (n c mp : Nat) : Tryd.prog.built 84 [(0, .pointer none), (10, .agg #[.int .i32 (-1)]), (4, .slice a n c), (13, .bool false), (3, .map (some mp)), (15, .bool true)] = some (Bd.zero.cells (.slice none 0 0) (.map (some mp)) (.slice a n c)) := by kernel_rfl

set_option maxHeartbeats 2000000 in
set_option maxRecDepth 100000 in
theorem make_any (a : Option Addr) (n c : Nat) (w : World) :
    Calls Tryd.prog 29 #[.pointer none, .slice a n c, .bool false] w fun e w' => ∃ mp : Nat, e = .returned (.agg (Bd.zero.cells (.slice none 0 0) (.map (some mp)) (.slice a n c))) ∧ Below w.heap.size w w' := by
  have hmm := @run_makeMap Tryd.prog
  go_enter Tryd.func29, Tryd.ntmps29
  go_upto_region 1 with fail
  have hb0 : Blk (w.alloc (.cells bdz 84)) w.heap.size 84 bdz := Blk.new _ _ _
  have hall := cells_one Bd.zero a n c (w.heap.size + 1)
  have hbu := built_bd a n c (w.heap.size + 1)
  have hsz : (Bd.zero.cells (.slice none 0 0) (.map (some (w.heap.size + 1))) (.slice a n c)).size = 22 := rfl
  have hex : ∃ mp : Nat, Bd.zero.cells (.slice none 0 0) (.map (some (w.heap.size + 1))) (.slice a n c) = Bd.zero.cells (.slice none 0 0) (.map (some mp)) (.slice a n c) := ⟨_, rfl⟩
  generalize Bd.zero.cells (.slice none 0 0) (.map (some (w.heap.size + 1))) (.slice a n c) = cs at *
  have HB := Lib.hid hbu
  have HA := Lib.hid hall
  have HS := Lib.hid hsz
  have HE := Lib.hid hex
  clear hbu hall hsz hex
  go_wp2_with (first | (refine wpList_buildTo rfl 84 #[(0, .tmp 7), (10, .tmp 8), (4, .tmp 9), (13, .tmp 10), (3, .tmp 11), (15, .tmp 13)] rfl (some 14) rfl cs ?_ ?_; (simp [Act.eval]); exact HB.out) | (refine wpList_store_blk rfl 84 (.tmp 6) (.tmp 14) rfl w.heap.size 84 bdz cs rfl rfl (hb0.alloc _) HS.out (by rw [size_bd, HS.out]) HA.out ?_; intro w' hb' hk' hz'; clear hz'))
  obtain ⟨mp, hmp⟩ := HE.out
  refine bodyPost_ret (v := .agg cs) (results_cell_row (p := 6) (ty := 84) rfl _ _ w.heap.size _ cs (0, 0) _ rfl hb' Tryd.underlying84 rfl (by rw [size_bd, HS.out])) rfl ⟨mp, by rw [hmp], ?_⟩
  exact ((Kep.of_below (X := fun k => k = w.heap.size) (balloc (balloc (Below.refl _ _) _) _)).then hk' (fun i hi => .inl hi)).below (Nat.le_refl _) (fun k hk e => by omega)
end Go.Proofs.YtnokiikgnplpmaaDoor
namespace Go.Proofs.YtnokiikgnplpmaaDoor
open Go.RowKit

/-- A line's table: its columns from the first letter that is no ASCII on (none: there is no such letter), where that letter is, where the line begins. -/
structure LT where
  cols : Option (List Nat)
  first : Nat
  start : Nat

/-- How many lines begin at a place or ahead of it. -/
def lineNo (ts : List LT) (loc : Nat) : Nat := (ts.takeWhile fun t => decide (t.start ≤ loc)).length
/-- The column of a place in a line. -/
def colOf (t : LT) (loc : Nat) : Nat :=
  match t.cols with
  | none => loc - t.start
  | some l => if t.first ≤ loc - t.start then l.getD (loc - t.start - t.first) 0 else loc - t.start
/-- The tables' lines begin at rising places, the first one at 0, and the place's column is there. -/
def TabOk (ts : List LT) : Prop := (∀ (i j : Nat) (hi : i < ts.length) (hj : j < ts.length), i < j → (ts[i]'hi).start < (ts[j]'hj).start) ∧ ∃ h : 0 < ts.length, (ts[0]'h).start = 0
def LocOk (ts : List LT) (loc : Nat) : Prop := ∀ (h : lineNo ts loc - 1 < ts.length), ∀ l, (ts[lineNo ts loc - 1]'h).cols = some l → (ts[lineNo ts loc - 1]'h).first ≤ loc - (ts[lineNo ts loc - 1]'h).start → loc - (ts[lineNo ts loc - 1]'h).start - (ts[lineNo ts loc - 1]'h).first < l.length

/-- No number of the tables is greater than 2^30. -/
def TabBd (ts : List LT) : Prop := ∀ t ∈ ts, t.first ≤ 1073741824 ∧ t.start ≤ 1073741824 ∧ ∀ l, t.cols = some l → ∀ c ∈ l, c ≤ 1073741824

theorem lineNo_is {ts : List LT} {loc r : Nat} (hr : r ≤ ts.length) (h1 : ∀ (j : Nat) (hj : j < ts.length), j < r → (ts[j]'hj).start ≤ loc) (h2 : ∀ (j : Nat) (hj : j < ts.length), r ≤ j → loc < (ts[j]'hj).start) : lineNo ts loc = r := by
  unfold lineNo
  induction ts generalizing r with
  | nil => simp at hr; simp [hr]
  | cons t ts ih =>
    cases r with
    | zero =>
      have := h2 0 (by simp) (Nat.le_refl _)
      simp at this
      rw [List.takeWhile_cons, if_neg (by simp; omega)]
      rfl
    | succ r =>
      have h0 := h1 0 (by simp) (by omega)
      simp at h0
      rw [List.takeWhile_cons, if_pos (by simpa using h0), List.length_cons]
      have := ih (r := r) (by simp at hr; omega) (fun j hj hjr => by have := h1 (j + 1) (by simp; omega) (by omega); simpa using this) (fun j hj hjr => by have := h2 (j + 1) (by simp; omega) (by omega); simpa using this)
      omega

theorem lineNo_pos {ts : List LT} (h : TabOk ts) (loc : Nat) : 1 ≤ lineNo ts loc := by
  obtain ⟨_, hl, h0⟩ := h
  cases ts with
  | nil => simp at hl
  | cons t ts =>
    simp at h0
    unfold lineNo
    rw [List.takeWhile_cons, if_pos (by simp; omega), List.length_cons]
    omega
theorem lineNo_le (ts : List LT) (loc : Nat) : lineNo ts loc ≤ ts.length := (List.takeWhile_sublist _).length_le
theorem lineNo_start {ts : List LT} {loc j : Nat} (hj : j < ts.length) (h : j < lineNo ts loc) : (ts[j]'hj).start ≤ loc := by
  unfold lineNo at h
  induction ts generalizing j with
  | nil => simp at hj
  | cons t ts ih =>
    rw [List.takeWhile_cons] at h
    split at h
    · rename_i ht
      cases j with
      | zero => simpa using ht
      | succ j => simp at h; simpa using ih (by simpa using hj) h
    · simp at h

/-- A line's columns lie below block B. -/
def ColAt (w : World) (B : Nat) (cv : Value) : Option (List Nat) → Prop
  | none => cv = .slice none 0 0
  | some l => ∃ k c : Nat, cv = .slice (some ⟨k, 0, none⟩) l.length c ∧ k < B ∧ ∀ (i : Nat) (hi : i < l.length), w.cell? ⟨k, i, none⟩ = some (.int .i32 ((l[i]'hi : Nat) : Int))
/-- The tables lie below block B. -/
def TabAt (w : World) (B : Nat) (tv : Value) (ts : List LT) : Prop :=
  ∃ tb cap : Nat, tv = .slice (some ⟨tb, 0, none⟩) ts.length cap ∧ tb < B ∧ ∀ (j : Nat) (hj : j < ts.length), ∃ cv, w.cell? ⟨tb, j * 3, none⟩ = some cv ∧ w.cell? ⟨tb, j * 3 + 1, none⟩ = some (.int .i32 ((ts[j]'hj).first : Int)) ∧ w.cell? ⟨tb, j * 3 + 2, none⟩ = some (.int .i32 ((ts[j]'hj).start : Int)) ∧ ColAt w B cv (ts[j]'hj).cols

theorem ColAt.below {w w' : World} {B : Nat} {cv : Value} {o : Option (List Nat)} (h : ColAt w B cv o) (hb : Below B w w') : ColAt w' B cv o := by
  cases o with
  | none => exact h
  | some l =>
    obtain ⟨k, c, h1, h2, h3⟩ := h
    exact ⟨k, c, h1, h2, fun i hi => (hb.cell (p := ⟨k, i, none⟩) h2).trans (h3 i hi)⟩
theorem TabAt.below {w w' : World} {B : Nat} {tv : Value} {ts : List LT} (h : TabAt w B tv ts) (hb : Below B w w') : TabAt w' B tv ts := by
  obtain ⟨tb, cap, h1, h2, h3⟩ := h
  refine ⟨tb, cap, h1, h2, fun j hj => ?_⟩
  obtain ⟨cv, a1, a2, a3, a4⟩ := h3 j hj
  exact ⟨cv, (hb.cell (p := ⟨tb, _, none⟩) h2).trans a1, (hb.cell (p := ⟨tb, _, none⟩) h2).trans a2, (hb.cell (p := ⟨tb, _, none⟩) h2).trans a3, a4.below hb⟩

/-- The builder ahead of a mapping that does not begin a line. -/
def Bd.topped (u : Bd) : Bd := if u.lsm = false ∧ 0 < u.gcol ∧ u.has = true then u.emit u.cover else u
theorem upd_le (s : ByteArray) (f pos : Nat) {d : Bd} {N : Nat} (h : d.le N) : (upd s f pos d).le (N + 2 * f) := by
  induction f generalizing pos d N with
  | zero => simpa [upd] using h
  | succ f ih =>
    unfold upd
    split
    · exact (ih _ (h.step s pos _)).mono (by omega)
    · exact h.mono (by omega)

theorem Bd.le.topped {N : Nat} {u : Bd} (h : u.le N) : u.topped.le (N + 1) := by
  obtain ⟨h1, h2, h3, h4, h5, h6, h7⟩ := h
  have hs := segb_len (lastB u.sm) u.st u.cover
  unfold Bd.topped Bd.le
  split
  · simp only [Bd.emit, Bd.cover, List.length_append] at hs ⊢
    omega
  · omega

/-- A mapping is added to the builder: the output so far, a place of the source. -/
def Bd.add (d : Bd) (ts : List LT) (ob : List UInt8) (tail : ByteArray) (loc : Nat) : Bd :=
  if d.ploc = (loc : Int) then d else
    let u : Bd := { upd tail tail.size 0 { d with ploc := loc, plen := ob.length } with lu := ob.length }
    let e : Bd := if u.lsm = false ∧ 0 < u.gcol ∧ u.has = true then u.emit u.cover else u
    { e.emit { gl := e.st.gl, gc := e.gcol, si := 0, ol := ((lineNo ts loc - 1 : Nat) : Int), oc := (colOf (ts.getD (lineNo ts loc - 1) ⟨none, 0, 0⟩) loc : Nat), on := 0 } with lsm := true }
end Go.Proofs.YtnokiikgnplpmaaDoor
namespace Go.Proofs.YtnokiikgnplpmaaDoor

/-- The state of the making: the columns of the line (none: no letter beyond ASCII yet), where the first such letter is, where the line begins, up to which byte the columns are told, the column, and the lines so far. -/
structure TS where
  cols : Option (List Nat)
  first : Nat
  lbo : Nat
  cbo : Nat
  col : Nat
  out : List LT
def TS.zero : TS := ⟨none, 0, 0, 0, 0, []⟩
def TS.mark (t : TS) (i : Nat) : TS := if t.col = 0 then { t with lbo := i } else t
def TS.opn (t : TS) (i c : Nat) : TS := if 127 < c ∧ t.cols = none then { t with cbo := i - t.lbo, first := i - t.lbo, cols := some [] } else t
def TS.fill (t : TS) (i : Nat) : TS :=
  match t.cols with
  | none => t
  | some l => { t with cols := some (l ++ List.replicate (i - t.lbo + 1 - t.cbo) t.col), cbo := t.cbo + (i - t.lbo + 1 - t.cbo) }
def TS.row (t : TS) : LT := ⟨t.cols, t.first, t.lbo⟩
def TS.newline (t : TS) : TS := { t with out := t.out ++ [t.row], cbo := 0, first := 0, cols := none, col := 0 }
def TS.eat (t : TS) (s : ByteArray) (i c : Nat) : TS := if isNl c then (if c = 13 ∧ lfAt s (i + 1) = true then { t with col := t.col + 1 } else t.newline) else { t with col := t.col + if c ≤ 65535 then 1 else 2 }
def TS.step (t : TS) (s : ByteArray) (i c : Nat) : TS := (((t.mark i).opn i c).fill i).eat s i c
/-- All runes from a place on; f bounds how many. -/
def tabRun (s : ByteArray) : Nat → Nat → TS → TS
  | 0, _, t => t
  | f + 1, pos, t => if pos < s.size then tabRun s f (pos + (Utf8.decode s pos).2) (t.step s pos (Utf8.decode s pos).1) else t
def TS.finish (t : TS) (s : ByteArray) : TS := (t.mark s.size).fill s.size
def tabsOf (s : ByteArray) : List LT := ((tabRun s s.size 0 TS.zero).finish s).out ++ [((tabRun s s.size 0 TS.zero).finish s).row]

/-- What holds of the state ahead of byte i: nothing is greater than the place; the lines so far begin at rising places. -/
structure TS.Ok (t : TS) (i : Nat) : Prop where
  lbo : t.lbo ≤ i
  col : t.col ≤ 2 * i
  first : t.first ≤ i
  cbo : t.cbo ≤ i
  bd : ∀ l, t.cols = some l → (∀ x ∈ l, x ≤ 2 * i) ∧ l.length ≤ i
  rel : ∀ l, t.cols = some l → l.length + t.first = t.cbo
  len : t.out.length ≤ i
  rows : ∀ r ∈ t.out, r.first ≤ i ∧ r.start ≤ i ∧ ∀ l, r.cols = some l → (∀ x ∈ l, x ≤ 2 * i) ∧ l.length ≤ i

theorem TS.Ok.mono {t : TS} {i j : Nat} (h : t.Ok i) (hj : i ≤ j) : t.Ok j :=
  ⟨by have := h.lbo; omega, by have := h.col; omega, by have := h.first; omega, by have := h.cbo; omega, fun l hl => ⟨fun x hx => by have := (h.bd l hl).1 x hx; omega, by have := (h.bd l hl).2; omega⟩, h.rel, by have := h.len; omega,
    fun r hr => ⟨by have := (h.rows r hr).1; omega, by have := (h.rows r hr).2.1; omega, fun l hl => ⟨fun x hx => by have := ((h.rows r hr).2.2 l hl).1 x hx; omega, by have := ((h.rows r hr).2.2 l hl).2; omega⟩⟩⟩
theorem TS.Ok.mark {t : TS} {i : Nat} (h : t.Ok i) : (t.mark i).Ok i := by
  unfold TS.mark
  split
  · exact ⟨Nat.le_refl _, h.col, h.first, h.cbo, h.bd, h.rel, h.len, h.rows⟩
  · exact h
theorem TS.Ok.opn {t : TS} {i : Nat} (h : t.Ok i) (c : Nat) : (t.opn i c).Ok i := by
  unfold TS.opn
  split
  · exact ⟨h.lbo, h.col, Nat.sub_le _ _, Nat.sub_le _ _, fun l hl => by cases hl; simp, fun l hl => by cases hl; simp, h.len, h.rows⟩
  · exact h
theorem TS.Ok.fill {t : TS} {i : Nat} (h : t.Ok i) : (t.fill i).Ok (i + 1) ∧ (t.fill i).col = t.col ∧ (t.fill i).out = t.out := by
  unfold TS.fill
  split
  · exact ⟨h.mono (by omega), rfl, rfl⟩
  · rename_i l hl
    have h1 := h.bd l hl
    have h2 := h.rel l hl
    have h3 := h.lbo
    have h4 := h.col
    have h5 := h.first
    have h6 := h.cbo
    have h7 := h.len
    refine ⟨⟨by simp only; omega, by simp only; omega, by simp only; omega, by simp only; omega, fun l' hl' => ?_, fun l' hl' => ?_, by simp only; omega, (h.mono (Nat.le_succ i)).rows⟩, rfl, rfl⟩
    · simp only [Option.some.injEq] at hl'
      subst hl'
      refine ⟨fun x hx => ?_, ?_⟩
      · rcases List.mem_append.1 hx with q | q
        · have := h1.1 x q; omega
        · have := (List.mem_replicate.1 q).2; omega
      · rw [List.length_append, List.length_replicate]; omega
    · simp only [Option.some.injEq] at hl'
      subst hl'
      rw [List.length_append, List.length_replicate]
      simp only
      omega
theorem TS.Ok.step {t : TS} {i : Nat} (h : t.Ok i) (s : ByteArray) (c : Nat) : (t.step s i c).Ok (i + 1) := by
  obtain ⟨h1, h2, h3⟩ := (h.mark.opn c).fill
  have hc := (h.mark.opn c).col
  have hl := (h.mark.opn c).len
  unfold TS.step
  generalize ((t.mark i).opn i c).fill i = u at *
  generalize (t.mark i).opn i c = v at *
  unfold TS.eat
  split
  · split
    · exact ⟨h1.lbo, by simp only; omega, h1.first, h1.cbo, h1.bd, h1.rel, h1.len, h1.rows⟩
    · unfold TS.newline
      refine ⟨h1.lbo, by simp, by simp, by simp, fun l hl => by simp at hl, fun l hl => by simp at hl, ?_, fun r hr => ?_⟩
      · simp only [List.length_append, List.length_singleton, h3]; omega
      · rcases List.mem_append.1 hr with q | q
        · exact h1.rows r q
        · simp only [List.mem_singleton] at q
          subst q
          exact ⟨h1.first, h1.lbo, fun l hl => h1.bd l hl⟩
  · refine ⟨h1.lbo, ?_, h1.first, h1.cbo, h1.bd, h1.rel, h1.len, h1.rows⟩
    simp only
    split <;> omega
theorem TS.Ok.zero : TS.zero.Ok 0 := ⟨Nat.le_refl _, Nat.le_refl _, Nat.le_refl _, Nat.le_refl _, (fun l hl => by cases hl), (fun l hl => by cases hl), Nat.le_refl _, (fun r hr => by cases hr)⟩
end Go.Proofs.YtnokiikgnplpmaaDoor
namespace Go.Proofs.YtnokiikgnplpmaaDoor

/-- Columns tell column c at distance d. -/
def KnC : Option (List Nat) → Nat → Nat → Nat → Prop
  | none, _, d, c => c = d
  | some l, f, d, c => (f ≤ d → l[d - f]? = some c) ∧ (¬ f ≤ d → c = d)
/-- A line's table tells column c at place p. -/
def Knows (r : LT) (p c : Nat) : Prop := r.start ≤ p ∧ KnC r.cols r.first (p - r.start) c
theorem Knows.colOf {r : LT} {p c : Nat} (h : Knows r p c) : colOf r p = c := by
  obtain ⟨h1, h2⟩ := h
  unfold Go.Proofs.YtnokiikgnplpmaaDoor.colOf
  cases hc : r.cols with
  | none => rw [hc] at h2; exact h2.symm
  | some l =>
    rw [hc] at h2
    simp only
    split
    · rename_i q
      have := h2.1 q
      simp [List.getD, this]
    · rename_i q
      exact (h2.2 q).symm
theorem Knows.loc {r : LT} {p c : Nat} (h : Knows r p c) (l : List Nat) (hl : r.cols = some l) (hf : r.first ≤ p - r.start) : p - r.start - r.first < l.length := by
  obtain ⟨h1, h2⟩ := h
  rw [hl] at h2
  exact (List.getElem?_eq_some_iff.1 (h2.1 hf)).1

/-- What holds ahead of byte i. -/
structure TS.Inv (t : TS) (i : Nat) : Prop where
  lt : ∀ r ∈ t.out, r.start < i
  srt : t.out.Pairwise fun a b => a.start < b.start
  zero : t.col = 0 → t.cols = none
  lb : 0 < t.col → t.lbo < i ∧ ∀ r ∈ t.out, r.start < t.lbo
  h0 : (t.out = [] → (t.col = 0 → i = 0) ∧ (0 < t.col → t.lbo = 0)) ∧ (∀ h : 0 < t.out.length, (t.out[0]'h).start = 0)
  none_ : t.cols = none → 0 < t.col → t.col = i - t.lbo
  some_ : ∀ l, t.cols = some l → l.length + t.first = t.cbo ∧ t.cbo ≤ i - t.lbo

/-- What holds behind the filling of the columns at byte i. -/
structure TS.Mid (t : TS) (i : Nat) : Prop where
  lb : t.lbo ≤ i ∧ ∀ r ∈ t.out, r.start < t.lbo
  srt : t.out.Pairwise fun a b => a.start < b.start
  h0 : (t.out = [] → t.lbo = 0) ∧ (∀ h : 0 < t.out.length, (t.out[0]'h).start = 0)
  none_ : t.cols = none → t.col = i - t.lbo
  some_ : ∀ l, t.cols = some l → l.length + t.first = t.cbo ∧ t.cbo = i - t.lbo + 1
  knows : Knows t.row i t.col

theorem TS.Inv.zero0 : TS.zero.Inv 0 :=
  ⟨(fun r hr => by cases hr), List.Pairwise.nil, (fun _ => rfl), (fun h => by simp [TS.zero] at h), ⟨(fun _ => ⟨fun _ => rfl, fun h => by simp [TS.zero] at h⟩), (fun h => by simp [TS.zero] at h)⟩, (fun _ h => by simp [TS.zero] at h), (fun l h => by cases h)⟩

/-- Ahead of a rune: the line's beginning is marked. -/
structure TS.Hd (t : TS) (i : Nat) : Prop where
  lb : t.lbo ≤ i ∧ ∀ r ∈ t.out, r.start < t.lbo
  srt : t.out.Pairwise fun a b => a.start < b.start
  h0 : (t.out = [] → t.lbo = 0) ∧ (∀ h : 0 < t.out.length, (t.out[0]'h).start = 0)
  none_ : t.cols = none → t.col = i - t.lbo
  some_ : ∀ l, t.cols = some l → l.length + t.first = t.cbo ∧ t.cbo ≤ i - t.lbo
theorem TS.Inv.mark {t : TS} {i : Nat} (h : t.Inv i) : (t.mark i).Hd i := by
  unfold TS.mark
  split
  · rename_i hc
    exact ⟨⟨Nat.le_refl _, h.lt⟩, h.srt, ⟨fun e => (h.h0.1 e).1 hc, h.h0.2⟩, fun _ => by simp only; omega, (fun l hl => by have hl' : t.cols = some l := hl; rw [h.zero hc] at hl'; cases hl')⟩
  · rename_i hc
    have hc' : 0 < t.col := by omega
    have h1 := h.lb hc'
    exact ⟨⟨by omega, h1.2⟩, h.srt, ⟨fun e => (h.h0.1 e).2 hc', h.h0.2⟩, fun e => h.none_ e hc', h.some_⟩
theorem TS.Hd.opn {t : TS} {i : Nat} (h : t.Hd i) (c : Nat) : (t.opn i c).Hd i ∧ ((t.opn i c).cols = none → c ≤ 127) := by
  unfold TS.opn
  split
  · exact ⟨⟨h.lb, h.srt, h.h0, (fun e => by cases e), (fun l hl => by cases hl; simp)⟩, (fun e => by cases e)⟩
  · rename_i hc
    exact ⟨h, fun e => Nat.le_of_not_lt fun q => hc ⟨q, e⟩⟩
theorem TS.Hd.fill {t : TS} {i : Nat} (h : t.Hd i) : (t.fill i).Mid i := by
  unfold TS.fill
  split
  · rename_i hc
    refine ⟨h.lb, h.srt, h.h0, h.none_, (fun l hl => by rw [hc] at hl; cases hl), h.lb.1, ?_⟩
    show KnC t.cols t.first (i - t.lbo) t.col
    rw [hc]
    exact h.none_ hc
  · rename_i l hl
    have h2 := h.some_ l hl
    have h3 := h.lb.1
    refine ⟨h.lb, h.srt, h.h0, (fun e => by simp at e), fun l' hl' => ?_, h.lb.1, ?_⟩
    · simp only [Option.some.injEq] at hl'
      subst hl'
      simp only [List.length_append, List.length_replicate]
      omega
    · show KnC (some (l ++ List.replicate (i - t.lbo + 1 - t.cbo) t.col)) t.first (i - t.lbo) t.col
      refine ⟨fun _ => ?_, fun q => by omega⟩
      rw [List.getElem?_append_right (by omega), List.getElem?_replicate, if_pos (by omega)]
theorem fill_col (t : TS) (i : Nat) : (t.fill i).col = t.col := by unfold TS.fill; split <;> rfl
theorem fill_out (t : TS) (i : Nat) : (t.fill i).out = t.out := by unfold TS.fill; split <;> rfl
theorem fill_lbo (t : TS) (i : Nat) : (t.fill i).lbo = t.lbo := by unfold TS.fill; split <;> rfl
theorem fill_none (t : TS) (i : Nat) : (t.fill i).cols = none → t.cols = none := by
  unfold TS.fill
  split
  · exact fun h => h
  · intro h; simp at h
theorem opn_col (t : TS) (i c : Nat) : (t.opn i c).col = t.col := by unfold TS.opn; split <;> rfl
theorem opn_out (t : TS) (i c : Nat) : (t.opn i c).out = t.out := by unfold TS.opn; split <;> rfl
theorem opn_lbo (t : TS) (i c : Nat) : (t.opn i c).lbo = t.lbo := by unfold TS.opn; split <;> rfl
theorem mark_col' (t : TS) (i : Nat) : (t.mark i).col = t.col := by unfold TS.mark; split <;> rfl
theorem mark_out' (t : TS) (i : Nat) : (t.mark i).out = t.out := by unfold TS.mark; split <;> rfl
theorem newline_rows {t : TS} {i j : Nat} (h : t.Mid i) (hj : i < j) : t.newline.Inv j := by
  have hl := h.lb
  refine ⟨fun r hr => ?_, ?_, fun _ => rfl, (fun q => by simp [TS.newline] at q), ⟨(fun e => by simp [TS.newline] at e), fun hh => ?_⟩, (fun _ q => by simp [TS.newline] at q), (fun l q => by cases q)⟩
  · rcases List.mem_append.1 hr with q | q
    · have := hl.2 r q; omega
    · simp only [List.mem_singleton] at q
      subst q
      show t.lbo < j
      omega
  · show (t.out ++ [t.row]).Pairwise _
    rw [List.pairwise_append]
    exact ⟨h.srt, List.pairwise_singleton _ _, fun a ha b hb => by simp only [List.mem_singleton] at hb; subst hb; exact hl.2 a ha⟩
  · by_cases ho : t.out = []
    · simp only [TS.newline, ho, List.nil_append, List.getElem_cons_zero, TS.row]
      exact h.h0.1 ho
    · have hp : 0 < t.out.length := List.length_pos_iff.2 ho
      simp only [TS.newline]
      rw [List.getElem_append_left hp]
      exact h.h0.2 hp
theorem TS.Mid.eat {t : TS} {i wd : Nat} (h : t.Mid i) (s : ByteArray) (c : Nat) (hw : 1 ≤ wd) (ha : t.cols = none → c ≤ 127) (hwa : c ≤ 127 → wd = 1) : (t.eat s i c).Inv (i + wd) := by
  have hl := h.lb
  unfold TS.eat
  have key : ∀ k, 1 ≤ k → (t.cols = none → k = 1) → ({ t with col := t.col + k } : TS).Inv (i + wd) := fun k hk hk1 => by
    refine ⟨fun r hr => by have := hl.2 r hr; omega, h.srt, fun q => by simp only at q; omega, fun _ => ⟨by simp only; omega, hl.2⟩, ⟨fun e => ⟨fun q => by simp only at q; omega, fun _ => h.h0.1 e⟩, h.h0.2⟩, fun e _ => ?_, fun l hl' => ?_⟩
    · have e' : t.cols = none := e
      have h1 := h.none_ e'
      have h2 := hwa (ha e')
      have h3 := hk1 e'
      simp only
      omega
    · have := h.some_ l hl'
      simp only
      omega
  split
  · split
    · exact key 1 (Nat.le_refl _) (fun _ => rfl)
    · exact newline_rows h (by omega)
  · refine key _ (by split <;> omega) (fun e => ?_)
    have := ha e
    rw [if_pos (by omega)]
theorem width_ascii (s : ByteArray) (pos : Nat) (h : pos < s.size) (h1 : (Utf8.decode s pos).1 ≤ 127) : (Utf8.decode s pos).2 = 1 := by
  by_cases ha : (s[pos]'h).toNat < 128
  · rw [decode_ascii s pos h ha]
  · have := (decode_high s pos h (by omega)).1
    omega
theorem TS.Inv.mid {t : TS} {i : Nat} (h : t.Inv i) (c : Nat) : (((t.mark i).opn i c).fill i).Mid i ∧ ((((t.mark i).opn i c).fill i).cols = none → c ≤ 127) :=
  ⟨(h.mark.opn c).1.fill, fun e => (h.mark.opn c).2 (fill_none _ _ e)⟩
theorem TS.Inv.step {t : TS} {s : ByteArray} {pos : Nat} (h : t.Inv pos) (hp : pos < s.size) : (t.step s pos (Utf8.decode s pos).1).Inv (pos + (Utf8.decode s pos).2) :=
  (h.mid _).1.eat s _ (width_pos s pos hp) (h.mid _).2 (width_ascii s pos hp)

/-- In the state, line k knows column c at place p, and all later lines begin behind p. -/
def TS.GK (t : TS) (k p c : Nat) : Prop :=
  (k = t.out.length ∧ 0 < t.col ∧ Knows t.row p c) ∨ (∃ h : k < t.out.length, Knows (t.out[k]'h) p c ∧ (∀ (j : Nat) (hj : j < t.out.length), k < j → p < (t.out[j]'hj).start) ∧ (0 < t.col → p < t.lbo))
theorem Knows.opn {t : TS} {i p c k : Nat} (h : Knows t.row p k) (hp : p < i) (hl : t.lbo ≤ p) : Knows (t.opn i c).row p k := by
  unfold TS.opn
  split
  · rename_i q
    obtain ⟨h1, h2⟩ := h
    refine ⟨hl, ?_⟩
    have h2' : KnC t.cols t.first (p - t.lbo) k := h2
    rw [q.2] at h2'
    exact ⟨fun q => by simp only [TS.row] at q; omega, fun _ => h2'⟩
  · exact h
theorem Knows.fill {t : TS} {i p k : Nat} (h : Knows t.row p k) : Knows (t.fill i).row p k := by
  unfold TS.fill
  split
  · exact h
  · rename_i l hl
    obtain ⟨h1, h2⟩ := h
    refine ⟨h1, ?_⟩
    have h2' : KnC t.cols t.first (p - t.lbo) k := h2
    rw [hl] at h2'
    refine ⟨fun q => ?_, h2'.2⟩
    have q2 := h2'.1 q
    have := (List.getElem?_eq_some_iff.1 q2).1
    show (l ++ _)[p - t.lbo - t.first]? = _
    rw [List.getElem?_append_left this]
    exact q2
/-- Behind the filling at i. -/
def TS.GM (t : TS) (k p c : Nat) : Prop :=
  (k = t.out.length ∧ Knows t.row p c) ∨ (∃ h : k < t.out.length, Knows (t.out[k]'h) p c ∧ (∀ (j : Nat) (hj : j < t.out.length), k < j → p < (t.out[j]'hj).start) ∧ p < t.lbo)
theorem TS.GK.fill {t : TS} {i k p c : Nat} (h : t.GK k p c) (hp : p < i) (u : TS) (hu : u = t.mark i ∨ ∃ c', u = (t.mark i).opn i c') : (u.fill i).GM k p c := by
  have ho : u.out = t.out := by rcases hu with rfl | ⟨c', rfl⟩; exact mark_out' _ _; rw [opn_out, mark_out']
  have hlb : u.lbo = (t.mark i).lbo := by rcases hu with rfl | ⟨c', rfl⟩; rfl; rw [opn_lbo]
  rcases h with ⟨h1, h2, h3⟩ | ⟨h1, h2, h3, h4⟩
  · left
    have hm : t.mark i = t := by unfold TS.mark; rw [if_neg (by omega)]
    refine ⟨by rw [fill_out, ho]; exact h1, Knows.fill ?_⟩
    rcases hu with rfl | ⟨c', rfl⟩
    · rw [hm]; exact h3
    · rw [hm]; exact h3.opn hp h3.1
  · right
    refine ⟨by rw [fill_out, ho]; exact h1, ?_, fun j hj hk => ?_, ?_⟩
    · have e : (u.fill i).out[k]'(by rw [fill_out, ho]; exact h1) = t.out[k]'h1 := by simp only [fill_out, ho]
      rw [e]; exact h2
    · have hj' : j < t.out.length := by rw [fill_out, ho] at hj; exact hj
      have e : (u.fill i).out[j]'hj = t.out[j]'hj' := by simp only [fill_out, ho]
      rw [e]; exact h3 j hj' hk
    · rw [fill_lbo, hlb]
      unfold TS.mark
      split
      · exact hp
      · exact h4 (by omega)
theorem TS.GM.newline {t : TS} {k p c : Nat} (h : t.GM k p c) : t.newline.GK k p c := by
  right
  have hlen : t.newline.out.length = t.out.length + 1 := by simp [TS.newline]
  rcases h with ⟨rfl, h3⟩ | ⟨h1, h2, h3, h4⟩
  · refine ⟨by omega, ?_, fun j hj hk => by omega, fun q => by simp [TS.newline] at q⟩
    have e : t.newline.out[t.out.length]'(by omega) = t.row := by simp [TS.newline]
    rw [e]; exact h3
  · refine ⟨by omega, ?_, fun j hj hk => ?_, fun q => by simp [TS.newline] at q⟩
    · have e : t.newline.out[k]'(by omega) = t.out[k]'h1 := by simp only [TS.newline]; exact List.getElem_append_left h1
      rw [e]; exact h2
    · by_cases hj' : j < t.out.length
      · have e : t.newline.out[j]'hj = t.out[j]'hj' := by simp only [TS.newline]; exact List.getElem_append_left hj'
        rw [e]; exact h3 j hj' hk
      · obtain rfl : j = t.out.length := by omega
        have e : t.newline.out[t.out.length]'hj = t.row := by simp [TS.newline]
        rw [e]; exact h4
theorem TS.GM.eat {t : TS} {k p c : Nat} (h : t.GM k p c) (s : ByteArray) (i r : Nat) : (t.eat s i r).GK k p c := by
  have key : ∀ q, 1 ≤ q → ({ t with col := t.col + q } : TS).GK k p c := fun q hq => by
    rcases h with ⟨h1, h3⟩ | ⟨h1, h2, h3, h4⟩
    · exact .inl ⟨h1, by simp only; omega, h3⟩
    · exact .inr ⟨h1, h2, h3, fun _ => h4⟩
  unfold TS.eat
  split
  · split
    · exact key 1 (Nat.le_refl _)
    · exact h.newline
  · exact key _ (by split <;> omega)
theorem gk_run (s : ByteArray) (k p c : Nat) : ∀ (f i : Nat) (t : TS), t.Inv i → p < i → t.GK k p c → s.size ≤ i + f → i ≤ s.size → ((tabRun s f i t).finish s).newline.GK k p c := by
  intro f
  induction f with
  | zero =>
    intro i t hi hp hg h1 h2
    obtain rfl : i = s.size := by omega
    exact (hg.fill hp (t.mark s.size) (.inl rfl)).newline
  | succ f ih =>
    intro i t hi hp hg h1 h2
    unfold tabRun
    split
    · rename_i hs
      have hw := width_pos s i hs
      have hle : i + (Utf8.decode s i).2 ≤ s.size := decode_end s i hs
      exact ih _ _ (hi.step hs) (by omega) ((hg.fill hp _ (.inr ⟨_, rfl⟩)).eat s i _) (by omega) hle
    · obtain rfl : i = s.size := by omega
      exact (hg.fill hp (t.mark s.size) (.inl rfl)).newline
theorem inv_run (s : ByteArray) : ∀ (f i : Nat) (t : TS), t.Inv i → s.size ≤ i + f → i ≤ s.size → ((tabRun s f i t).finish s).Mid s.size := by
  intro f
  induction f with
  | zero =>
    intro i t hi h1 h2
    obtain rfl : i = s.size := by omega
    exact hi.mark.fill
  | succ f ih =>
    intro i t hi h1 h2
    unfold tabRun
    split
    · rename_i hs
      have hw := width_pos s i hs
      exact ih _ _ (hi.step hs) (by omega) (decode_end s i hs)
    · obtain rfl : i = s.size := by omega
      exact hi.mark.fill
theorem tabs_newline (s : ByteArray) : tabsOf s = ((tabRun s s.size 0 TS.zero).finish s).newline.out := rfl
theorem tabs_ok (s : ByteArray) : TabOk (tabsOf s) := by
  have h := newline_rows (inv_run s s.size 0 TS.zero TS.Inv.zero0 (by omega) (by omega)) (Nat.lt_succ_self s.size)
  have hl : 0 < (tabsOf s).length := by unfold tabsOf; simp
  rw [tabs_newline] at hl ⊢
  refine ⟨fun i j hi hj hij => ?_, hl, h.h0.2 hl⟩
  exact List.pairwise_iff_getElem.1 h.srt i j hi hj hij
/-- What the tables tell of a place: its line is the number of lines that are done there, its column the one that is told there. -/
theorem tabs_place (s : ByteArray) (f i : Nat) (t : TS) (hi : t.Inv i) (h1 : s.size ≤ i + f) (h2 : i ≤ s.size) (hr : tabRun s s.size 0 TS.zero = tabRun s f i t) :
    lineNo (tabsOf s) i = t.out.length + 1 ∧ LocOk (tabsOf s) i ∧ colOf ((tabsOf s).getD t.out.length ⟨none, 0, 0⟩) i = t.col := by
  have hok := tabs_ok s
  have hg : ((tabRun s f i t).finish s).newline.GK t.out.length i t.col := by
    by_cases hs : i < s.size
    · obtain ⟨f, rfl⟩ : ∃ g, f = g + 1 := ⟨f - 1, by omega⟩
      have hw := width_pos s i hs
      have hm := hi.mid (Utf8.decode s i).1
      unfold tabRun
      rw [if_pos hs]
      refine gk_run s _ i _ f _ _ (hi.step hs) (by omega) (TS.GM.eat (.inl ⟨by rw [fill_out, opn_out, mark_out'], ?_⟩) s i _) (by omega) (decode_end s i hs)
      have := hm.1.knows
      rwa [fill_col, opn_col, mark_col'] at this
    · obtain rfl : i = s.size := by omega
      have e : tabRun s f s.size t = t := by cases f with
        | zero => rfl
        | succ f => simp [tabRun]
      rw [e]
      refine TS.GM.newline (.inl ⟨by unfold TS.finish; rw [fill_out, mark_out'], ?_⟩)
      have := hi.mark.fill.knows
      rwa [fill_col, mark_col'] at this
  rw [← hr] at hg
  rcases hg with ⟨_, q, _⟩ | ⟨hk, a1, a2, a3⟩
  · simp [TS.newline] at q
  · have hk' : t.out.length < (tabsOf s).length := hk
    have a1' : Knows ((tabsOf s)[t.out.length]'hk') i t.col := a1
    have a2' : ∀ (j : Nat) (hj : j < (tabsOf s).length), t.out.length < j → i < ((tabsOf s)[j]'hj).start := a2
    have hn : lineNo (tabsOf s) i = t.out.length + 1 := lineNo_is (by omega) (fun j hj hjr => by
      rcases Nat.lt_or_ge j t.out.length with q | q
      · have := hok.1 j t.out.length hj hk' q
        have := a1'.1
        omega
      · obtain rfl : j = t.out.length := by omega
        exact a1'.1) (fun j hj hjr => a2' j hj (by omega))
    refine ⟨hn, ?_, ?_⟩
    · intro h l hl hf
      have e : lineNo (tabsOf s) i - 1 = t.out.length := by omega
      have e2 : (tabsOf s)[lineNo (tabsOf s) i - 1]'h = (tabsOf s)[t.out.length]'hk' := by simp only [e]
      rw [e2] at hl hf ⊢
      exact a1'.loc l hl hf
    · have e : (tabsOf s).getD t.out.length ⟨none, 0, 0⟩ = (tabsOf s)[t.out.length]'hk' := by simp [List.getD, List.getElem?_eq_getElem hk']
      rw [e]
      exact a1'.colOf
/-- No number of the tables is greater than twice the source's size. -/
theorem tabs_bd (s : ByteArray) (hs : s.size ≤ 536870911) : TabBd (tabsOf s) ∧ (tabsOf s).length ≤ s.size + 2 := by
  have key : ∀ (f i : Nat) (t : TS), t.Ok i → i ≤ s.size → (tabRun s f i t).Ok s.size := by
    intro f
    induction f with
    | zero => intro i t h hi; exact h.mono hi
    | succ f ih =>
      intro i t h hi
      unfold tabRun
      split
      · rename_i hp
        have hw := width_pos s i hp
        exact ih _ _ ((h.step s _).mono (by omega)) (decode_end s i hp)
      · exact h.mono hi
  have h := (key s.size 0 TS.zero TS.Ok.zero (by omega)).mark.fill
  have hl := h.1.len
  refine ⟨fun r hr => ?_, by unfold tabsOf TS.finish; rw [List.length_append, List.length_singleton]; omega⟩
  unfold tabsOf at hr
  rcases List.mem_append.1 hr with q | q
  · have := h.1.rows r q
    exact ⟨by omega, by omega, fun l hl x hx => by have := (this.2.2 l hl).1 x hx; omega⟩
  · simp only [List.mem_singleton] at q
    subst q
    exact ⟨by have := h.1.first; show (TS.finish _ s).first ≤ _; unfold TS.finish; omega, by have := h.1.lbo; show (TS.finish _ s).lbo ≤ _; unfold TS.finish; omega, fun l hl x hx => by have := (h.1.bd l hl).1 x hx; omega⟩
end Go.Proofs.YtnokiikgnplpmaaDoor
namespace Go.Proofs.YtnokiikgnplpmaaDoor

/-- Runes that a text holds: each one is a scalar value. -/
def okR (rs : List Nat) : Prop := ∀ r ∈ rs, Utf8.valid (r : Int) = true
theorem okR.app {a b : List Nat} (ha : okR a) (hb : okR b) : okR (a ++ b) := valid_app ha hb
theorem okR.len {rs : List Nat} (h : okR rs) : rs.length ≤ (txt rs).size := by rw [txt_size]; exact encs_ge rs h

/-- At a place at which runes begin, the next one is read. -/
theorem decode_txt (pre : List Nat) (r : Nat) (post : List Nat) (hr : Utf8.valid (r : Int) = true) : Utf8.decode (txt (pre ++ r :: post)) (encs pre).length = (r, (enc r).length) := by
  have hsz : (encs (pre ++ r :: post)).length = (encs pre).length + ((enc r).length + (encs post).length) := by rw [encs_app, encs_cons]; simp
  apply decode_enc _ _ _ hr
  · rw [txt_size, hsz]; omega
  · intro k hk
    rw [get_txt _ _ (by rw [hsz]; omega)]
    have : encs (pre ++ r :: post) = encs pre ++ (enc r ++ encs post) := by rw [encs_app, encs_cons]
    simp only [this]
    rw [List.getElem_append_right (by omega), List.getElem_append_left (by omega)]
    simp [List.getD, hk]
/-- The first byte of runes is a line feed if the first rune is one. -/
theorem lf_txt (pre post : List Nat) (hv : okR post) : lfAt (txt (pre ++ post)) (encs pre).length = decide (post.head? = some 10) := by
  have hsz : (encs (pre ++ post)).length = (encs pre).length + (encs post).length := by rw [encs_app]; simp
  cases post with
  | nil => simp [lfAt, txt_size]
  | cons r post =>
    have hr := hv r (by simp)
    have hl := enc_len r hr
    have hp : (encs pre).length < (txt (pre ++ r :: post)).size := by rw [txt_size, hsz, encs_cons, List.length_append]; omega
    have hb : btn (txt (pre ++ r :: post)) (encs pre).length = ((enc r).getD 0 0).toNat := by
      unfold btn
      rw [get_txt _ _ (by rw [← txt_size]; exact hp)]
      have : encs (pre ++ r :: post) = encs pre ++ (enc r ++ encs post) := by rw [encs_app, encs_cons]
      simp only [this]
      rw [List.getElem_append_right (by omega), List.getElem_append_left (by omega)]
      simp [List.getD, show 0 < (enc r).length by omega]
    unfold lfAt
    rw [hb]
    simp only [hp, true_and, List.head?_cons, Option.some.injEq]
    rw [decide_eq_decide]
    have hle := valid_le r hr
    by_cases h1 : r < 128
    · rw [enc1 r hr h1]
      simp only [List.getD_cons_zero]
      rw [u8n r (by omega)]
    by_cases h2 : r < 2048
    · rw [enc2 r hr h1 h2]
      simp only [List.getD_cons_zero]
      rw [u8n _ (by omega)]
      constructor <;> intro h <;> omega
    by_cases h3 : r < 65536
    · rw [enc3 r hr h1 h2 h3]
      simp only [List.getD_cons_zero]
      rw [u8n _ (by omega)]
      constructor <;> intro h <;> omega
    · rw [enc4 r hr h1 h2 h3]
      simp only [List.getD_cons_zero]
      rw [u8n _ (by omega)]
      constructor <;> intro h <;> omega

/-- What AdvanceString counts of runes ahead of another one. -/
def advK : List Nat → Option Nat → Nat × Nat → Nat × Nat
  | [], _, p => p
  | c :: rs, nx, p => if isNlR c then (if c = 13 ∧ (rs.head?.or nx) = some 10 then advK rs nx (p.1, p.2 + 1) else advK rs nx (p.1 + 1, 0)) else advK rs nx (p.1, p.2 + unitsR c)
theorem advK_I : ∀ (rs : List Nat) (nx : Option Nat) (p : Nat × Nat), (rs.getLast? = some 13 → nx ≠ some 10) → advK rs nx p = advI rs p := by
  intro rs
  induction rs with
  | nil => intro nx p _; rfl
  | cons c rs ih =>
    intro nx p h
    have h2 : rs.getLast? = some 13 → nx ≠ some 10 := by
      cases rs with
      | nil => intro q; simp at q
      | cons e rs => intro q; exact h (by rw [List.getLast?_cons_cons]; exact q)
    unfold advK advI
    have e : (c = 13 ∧ (rs.head?.or nx) = some 10) ↔ (c = 13 ∧ rs.head? = some 10) := by
      cases rs with
      | nil =>
        simp only [List.head?_nil, Option.none_or]
        constructor
        · rintro ⟨rfl, q⟩; exact absurd q (h rfl)
        · rintro ⟨_, q⟩; cases q
      | cons e rs => simp
    simp only [e, ih nx _ h2]
theorem isNl_R (c : Nat) : isNl c = decide (isNlR c) := rfl

/-- The tables' making, from a place of a source of runes to a later one. -/
theorem tab_go (post : List Nat) (hpo : okR post) : ∀ (mid pre : List Nat) (t : TS) (f : Nat), okR mid → t.Inv (encs pre).length → mid.length ≤ f →
    ∃ t', t'.Inv (encs (pre ++ mid)).length ∧ tabRun (txt (pre ++ (mid ++ post))) f (encs pre).length t = tabRun (txt (pre ++ (mid ++ post))) (f - mid.length) (encs (pre ++ mid)).length t' ∧ (t'.out.length, t'.col) = advK mid post.head? (t.out.length, t.col) := by
  intro mid
  induction mid with
  | nil => intro pre t f _ hi _; exact ⟨t, by simpa using hi, by simp, rfl⟩
  | cons c mid ih =>
    intro pre t f hv hi hf
    obtain ⟨f, rfl⟩ : ∃ g, f = g + 1 := ⟨f - 1, by simp at hf; omega⟩
    have hc := hv c (by simp)
    have hvm : okR mid := fun x hx => hv x (by simp [hx])
    have hd := decode_txt pre c (mid ++ post) hc
    have hl := enc_len c hc
    have hsz : (encs pre).length < (txt (pre ++ (c :: mid ++ post))).size := by rw [txt_size, encs_app, List.cons_append, encs_cons]; simp only [List.length_append]; omega
    have hst := hi.step hsz
    have epre : pre ++ (c :: mid ++ post) = (pre ++ [c]) ++ (mid ++ post) := by simp
    have elen : (encs pre).length + (enc c).length = (encs (pre ++ [c])).length := by rw [encs_app, encs_one, List.length_append]
    rw [List.cons_append] at hst
    rw [hd] at hst
    simp only at hst
    rw [elen] at hst
    obtain ⟨t', h1, h2, h3⟩ := ih (pre ++ [c]) _ f hvm hst (by simp at hf; omega)
    refine ⟨t', by simpa using h1, ?_, ?_⟩
    · rw [tabRun, if_pos hsz]
      rw [List.cons_append, hd]
      simp only
      rw [elen]
      have e2 : pre ++ c :: (mid ++ post) = (pre ++ [c]) ++ (mid ++ post) := by simp
      have e3 : pre ++ c :: mid = (pre ++ [c]) ++ mid := by simp
      have e4 : f + 1 - (c :: mid).length = f - mid.length := by simp
      rw [e3, e4]
      simp only [e2] at h2 ⊢
      exact h2
    · rw [h3]
      have hlf : lfAt (txt (pre ++ c :: (mid ++ post))) ((encs pre).length + 1) = decide ((mid ++ post).head? = some 10) ∨ c ≠ 13 := by
        by_cases h13 : c = 13
        · left
          subst h13
          have := lf_txt (pre ++ [13]) (mid ++ post) (hvm.app hpo)
          rw [← elen] at this
          have e2 : (pre ++ [13]) ++ (mid ++ post) = pre ++ 13 :: (mid ++ post) := by simp
          rw [e2] at this
          exact this
        · exact .inr h13
      have hhd : (mid ++ post).head? = mid.head?.or post.head? := by cases mid <;> simp
      have key : ∀ u : TS, u.out.length = t.out.length → u.col = t.col → ((u.eat (txt (pre ++ c :: (mid ++ post))) (encs pre).length c).out.length, (u.eat (txt (pre ++ c :: (mid ++ post))) (encs pre).length c).col) = (if isNlR c then (if c = 13 ∧ (mid.head?.or post.head?) = some 10 then (t.out.length, t.col + 1) else (t.out.length + 1, 0)) else (t.out.length, t.col + unitsR c)) := by
        intro u hu1 hu2
        unfold TS.eat
        rw [isNl_R]
        by_cases hn : isNlR c
        · rw [if_pos (by simpa using hn), if_pos hn]
          by_cases hq : c = 13 ∧ (mid.head?.or post.head?) = some 10
          · rw [if_pos hq, if_pos ?_]
            · rw [hu1, hu2]
            · refine ⟨hq.1, ?_⟩
              rcases hlf with h | h
              · rw [h, hhd]; simpa using hq.2
              · exact absurd hq.1 h
          · rw [if_neg hq, if_neg ?_]
            · simp [TS.newline, hu1]
            · rintro ⟨q1, q2⟩
              apply hq
              refine ⟨q1, ?_⟩
              rcases hlf with h | h
              · rw [h, hhd] at q2; simpa using q2
              · exact absurd q1 h
        · rw [if_neg (by simpa using hn), if_neg hn, hu1, hu2]
          unfold unitsR
          rfl
      have hk := key (((t.mark (encs pre).length).opn (encs pre).length c).fill (encs pre).length) (by rw [fill_out, opn_out, mark_out']) (by rw [fill_col, opn_col, mark_col'])
      unfold TS.step
      rw [hk]
      conv => rhs; unfold advK
      split
      · split <;> rfl
      · rfl
/-- What the tables of a source of runes tell of a place. -/
theorem tab_txt (pre post : List Nat) (h1 : okR pre) (h2 : okR post) : ∃ l c, (l, c) = advK pre post.head? (0, 0) ∧ lineNo (tabsOf (txt (pre ++ post))) (encs pre).length = l + 1 ∧ LocOk (tabsOf (txt (pre ++ post))) (encs pre).length ∧ colOf ((tabsOf (txt (pre ++ post))).getD l ⟨none, 0, 0⟩) (encs pre).length = c := by
  have hlen := (h1.app h2).len
  have hpl := encs_ge post h2
  have hsz : (txt (pre ++ post)).size = (encs pre).length + (encs post).length := by rw [txt_size, encs_app, List.length_append]
  rw [List.length_append] at hlen
  obtain ⟨t', a1, a2, a3⟩ := tab_go post h2 pre [] TS.zero (txt (pre ++ post)).size h1 (by simpa [encs] using TS.Inv.zero0) (by omega)
  simp only [List.nil_append] at a1 a2 a3
  have a2' : tabRun (txt (pre ++ post)) (txt (pre ++ post)).size 0 TS.zero = tabRun (txt (pre ++ post)) ((txt (pre ++ post)).size - pre.length) (encs pre).length t' := a2
  have hpg := encs_ge pre h1
  obtain ⟨b1, b2, b3⟩ := tabs_place (txt (pre ++ post)) _ _ t' a1 (by omega) (by omega) a2'
  exact ⟨t'.out.length, t'.col, a3, b1, b2, b3⟩

/-- The places of a text at which runes begin. -/
def posR (s : ByteArray) : Nat → Nat → List Nat
  | 0, _ => []
  | f + 1, pos => if pos < s.size then pos :: posR s f (pos + (Utf8.decode s pos).2) else []
/-- Can a text be divided at a place? -/
def apartAt (s : ByteArray) (p : Nat) : Bool := apartB (s.extract 0 p) (s.extract p s.size)
/-- The places of a text at which something can begin. -/
def placesL (s : ByteArray) : List Nat := ((posR s s.size 0).filter fun p => apartAt s p) ++ [s.size]
theorem posR_end (s : ByteArray) (f pos : Nat) (h : ¬ pos < s.size) : posR s f pos = [] := by cases f <;> simp [posR, h]
theorem posR_txt (rs : List Nat) (hv : okR rs) : ∀ (f : Nat) (post pre : List Nat), rs = pre ++ post → ∀ p ∈ posR (txt rs) f (encs pre).length, ∃ a b, rs = a ++ b ∧ p = (encs a).length := by
  intro f
  induction f with
  | zero => intro post pre _ p hp; simp [posR] at hp
  | succ f ih =>
    intro post pre he p hp
    unfold posR at hp
    split at hp
    · rename_i hs
      cases post with
      | nil => exfalso; rw [he] at hs; simp [txt_size] at hs
      | cons c post =>
        have hc := hv c (by rw [he]; simp)
        have hd := decode_txt pre c post hc
        rcases List.mem_cons.1 hp with rfl | hp
        · exact ⟨pre, c :: post, he, rfl⟩
        · rw [he] at hp
          rw [hd] at hp
          have elen : (encs pre).length + (enc c).length = (encs (pre ++ [c])).length := by rw [encs_app, encs_one, List.length_append]
          simp only at hp
          rw [elen, ← he] at hp
          exact ih post (pre ++ [c]) (by rw [he]; simp) p hp
    · simp at hp
theorem txt_cut (pre post : List Nat) : (txt (pre ++ post)).extract 0 (encs pre).length = txt pre ∧ (txt (pre ++ post)).extract (encs pre).length (txt (pre ++ post)).size = txt post := by
  have hsz : (txt (pre ++ post)).size = (encs pre).length + (encs post).length := by rw [txt_size, encs_app, List.length_append]
  constructor
  · apply ByteArray.ext
    rw [ByteArray.data_extract]
    apply Array.ext'
    simp [txt, encs_app]
  · apply ByteArray.ext
    rw [ByteArray.data_extract]
    apply Array.ext'
    rw [hsz]
    simp [txt, encs_app]
theorem apart_last (pre post : List Nat) (h : apartB (txt pre) (txt post) = true) : pre.getLast? = some 13 → post.head? ≠ some 10 := by
  intro h1 h2
  obtain ⟨l, rfl⟩ : ∃ l, pre = l ++ [13] := by
    rcases List.eq_nil_or_concat pre with rfl | ⟨l, x, rfl⟩
    · simp at h1
    · exact ⟨l, by simpa using h1⟩
  cases post with
  | nil => simp at h2
  | cons y t =>
    simp at h2
    subst h2
    have e1 : encs (l ++ [13]) = encs l ++ [13] := by rw [encs_app]; rfl
    have e2 : encs (10 :: t) = 10 :: encs t := by rw [encs_cons]; rfl
    have z1 : (txt (l ++ [13])).size = (encs l).length + 1 := by rw [txt_size, e1]; simp
    have z2 : (txt (10 :: t)).size = (encs t).length + 1 := by rw [txt_size, e2]; simp
    have g1 : (txt (l ++ [13])).get! ((txt (l ++ [13])).size - 1) = 13 := by
      rw [get_txt _ _ (by rw [z1, e1]; simp)]
      simp only [e1, z1]
      simp
    have g2 : (txt (10 :: t)).get! 0 = 10 := by
      rw [get_txt _ _ (by rw [e2]; simp)]
      simp only [e2]
      simp
    unfold apartB at h
    rw [g1, g2, z1, z2] at h
    simp at h
/-- A place of a source of runes divides it between two runes, no CR ahead of a LF. -/
theorem placesL_txt (rs : List Nat) (hv : okR rs) (p : Nat) (hp : p ∈ placesL (txt rs)) : ∃ a b, rs = a ++ b ∧ p = (encs a).length ∧ (a.getLast? = some 13 → b.head? ≠ some 10) := by
  unfold placesL at hp
  rcases List.mem_append.1 hp with q | q
  · rw [List.mem_filter] at q
    obtain ⟨a, b, h1, h2⟩ := posR_txt rs hv _ rs [] rfl p (by simpa [encs] using q.1)
    refine ⟨a, b, h1, h2, ?_⟩
    have h3 := q.2
    unfold apartAt at h3
    rw [h1, h2, (txt_cut a b).1, (txt_cut a b).2] at h3
    exact apart_last a b h3
  · simp only [List.mem_singleton] at q
    refine ⟨rs, [], by simp, by rw [q, txt_size], fun _ => by simp⟩
theorem placesL_le (s : ByteArray) : (placesL s).length ≤ s.size + 1 := by
  have key : ∀ f pos, (posR s f pos).length ≤ f := by
    intro f
    induction f with
    | zero => intro pos; simp [posR]
    | succ f ih =>
      intro pos
      unfold posR
      split
      · have := ih (pos + (Utf8.decode s pos).2); simp only [List.length_cons]; omega
      · simp
  have h1 := key s.size 0
  have h2 := List.length_filter_le (fun p => apartAt s p) (posR s s.size 0)
  unfold placesL
  rw [List.length_append, List.length_singleton]
  omega
/-- The line and the column at a place of a source of runes. -/
theorem tab_place (rs : List Nat) (hv : okR rs) (p : Nat) (hp : p ∈ placesL (txt rs)) : ∃ a b, rs = a ++ b ∧ p = (encs a).length ∧ (a.getLast? = some 13 → b.head? ≠ some 10) ∧ lineNo (tabsOf (txt rs)) p = (advI a (0, 0)).1 + 1 ∧ LocOk (tabsOf (txt rs)) p ∧ colOf ((tabsOf (txt rs)).getD (advI a (0, 0)).1 ⟨none, 0, 0⟩) p = (advI a (0, 0)).2 := by
  obtain ⟨a, b, rfl, rfl, h⟩ := placesL_txt rs hv p hp
  obtain ⟨l, c, h1, h2, h3, h4⟩ := tab_txt a b (fun x hx => hv x (by simp [hx])) (fun x hx => hv x (by simp [hx]))
  rw [advK_I a b.head? (0, 0) h] at h1
  refine ⟨a, b, rfl, rfl, h, ?_⟩
  rw [← h1]
  exact ⟨h2, h3, h4⟩
end Go.Proofs.YtnokiikgnplpmaaDoor
namespace Go.Proofs.YtnokiikgnplpmaaDoor
open Go.RowKit

/-- The runes of a turn's text: no CR ends them. -/
def stepR (t : ByteArray) : List Nat := if (validL t).getLast? = some 13 then validL t ++ [120] else validL t
/-- The place of a turn's number. -/
def stepP (s : ByteArray) (n : Int) : Nat := (placesL s).getD (n % ((placesL s).length : Int)).toNat 0
def mkSteps (s : ByteArray) (tl : List (ByteArray × Int)) : List (List Nat × Nat) := tl.map fun x => (stepR x.1, stepP s x.2)
/-- The cells of steps. -/
def stpC (x : List Nat × Nat) : List Value := [.string (txt x.1), .int .i64 (x.2 : Int), .string ByteArray.empty]
def stpsC (l : List (List Nat × Nat)) : List Value := l.flatMap stpC
/-- All their runes. -/
def allR (l : List (List Nat × Nat)) : List Nat := l.flatMap fun x => x.1
/-- The bulk of turns. -/
def tsz (tl : List (ByteArray × Int)) : Nat := (tl.map fun x => x.1.size + 1).sum

theorem stepR_ok (t : ByteArray) : okR (stepR t) := by
  unfold stepR
  split
  · exact valid_app (validL_valid t) (by intro r hr; simp at hr; subst hr; exact valid_120)
  · exact validL_valid t
theorem stepR_last (t : ByteArray) : (stepR t).getLast? ≠ some 13 := by
  unfold stepR
  split
  · simp
  · rename_i h; exact h
theorem stepR_len (t : ByteArray) : (encs (stepR t)).length ≤ t.size + 1 := by
  have := validL_len t
  unfold stepR
  split
  · rw [encs_app, List.length_append, show (encs [120]).length = 1 from rfl]; omega
  · omega
theorem placesL_pos (s : ByteArray) : 0 < (placesL s).length := by unfold placesL; simp
theorem stepP_mem (s : ByteArray) (n : Int) : stepP s n ∈ placesL s := by
  have h := placesL_pos s
  have h1 := Int.emod_nonneg n (b := ((placesL s).length : Int)) (by omega)
  have h2 := Int.emod_lt_of_pos n (b := ((placesL s).length : Int)) (by omega)
  unfold stepP
  have hlt : (n % ((placesL s).length : Int)).toNat < (placesL s).length := by omega
  rw [List.getD_eq_getElem?_getD, List.getElem?_eq_getElem hlt]
  exact List.getElem_mem hlt
theorem allR_snoc (l : List (List Nat × Nat)) (x : List Nat × Nat) : allR (l ++ [x]) = allR l ++ x.1 := by simp [allR]
theorem stpsC_snoc (l : List (List Nat × Nat)) (x : List Nat × Nat) : stpsC (l ++ [x]) = stpsC l ++ stpC x := by simp [stpsC]
theorem stpsC_len (l : List (List Nat × Nat)) : (stpsC l).length = l.length * 3 := by
  induction l with
  | nil => rfl
  | cons x l ih =>
    have e : stpsC (x :: l) = stpC x ++ stpsC l := by simp [stpsC]
    rw [e, List.length_append, ih, List.length_cons]
    simp [stpC]
    omega
theorem stpsC_at (l : List (List Nat × Nat)) (i j : Nat) (h : i < l.length) (hj : j < 3) : (stpsC l)[i * 3 + j]? = (stpC (l[i]'h))[j]? := by
  induction l generalizing i with
  | nil => simp at h
  | cons x l ih =>
    have e : stpsC (x :: l) = stpC x ++ stpsC l := by simp [stpsC]
    rw [e]
    cases i with
    | zero => rw [List.getElem?_append_left (by simp [stpC]; omega), Nat.zero_mul, Nat.zero_add]; rfl
    | succ i =>
      rw [List.getElem?_append_right (by simp [stpC]; omega), show (i + 1) * 3 + j - (stpC x).length = i * 3 + j by simp [stpC]; omega]
      exact ih i (by simpa using h)
theorem mkSteps_take (s : ByteArray) (tl : List (ByteArray × Int)) (j : Nat) (h : j < tl.length) : mkSteps s (tl.take (j + 1)) = mkSteps s (tl.take j) ++ [(stepR (tl[j]'h).1, stepP s (tl[j]'h).2)] := by
  rw [List.take_succ_eq_append_getElem h]
  simp only [mkSteps, List.map_append, List.map_cons, List.map_nil]
theorem tsz_take (tl : List (ByteArray × Int)) (j : Nat) (h : j < tl.length) : tsz (tl.take (j + 1)) = tsz (tl.take j) + ((tl[j]'h).1.size + 1) := by
  rw [List.take_succ_eq_append_getElem h]
  simp only [tsz, List.map_append, List.sum_append, List.map_cons, List.map_nil, List.sum_cons, List.sum_nil, Nat.add_zero]
theorem tsz_le (tl : List (ByteArray × Int)) (j : Nat) : tsz (tl.take j) ≤ tsz tl := by
  have e : tsz tl = tsz (tl.take j) + tsz (tl.drop j) := by
    conv => lhs; rw [← List.take_append_drop j tl]
    simp only [tsz, List.map_append, List.sum_append]
  omega
theorem tsz_len (tl : List (ByteArray × Int)) : tl.length ≤ tsz tl := by
  induction tl with
  | nil => simp
  | cons x tl ih => simp only [tsz, List.map_cons, List.sum_cons, List.length_cons] at *; omega
theorem allR_len (s : ByteArray) (tl : List (ByteArray × Int)) : (encs (allR (mkSteps s tl))).length ≤ tsz tl := by
  induction tl with
  | nil => simp [mkSteps, allR, encs]
  | cons x tl ih =>
    have e : allR (mkSteps s (x :: tl)) = stepR x.1 ++ allR (mkSteps s tl) := by simp [allR, mkSteps]
    have := stepR_len x.1
    rw [e, encs_app, List.length_append]
    simp only [tsz, List.map_cons, List.sum_cons] at *
    omega
theorem allR_ok (s : ByteArray) (tl : List (ByteArray × Int)) : okR (allR (mkSteps s tl)) := by
  induction tl with
  | nil => intro r hr; simp [mkSteps, allR] at hr
  | cons x tl ih =>
    have e : allR (mkSteps s (x :: tl)) = stepR x.1 ++ allR (mkSteps s tl) := by simp [allR, mkSteps]
    rw [e]
    exact (stepR_ok x.1).app ih
/-- The last byte of runes is a CR if the last rune is one. -/
theorem last_byte (rs : List Nat) (hv : okR rs) (h : 0 < (txt rs).size) : ((txt rs)[(txt rs).size - 1]'(by omega)).toNat = 13 ↔ rs.getLast? = some 13 := by
  rcases List.eq_nil_or_concat rs with rfl | ⟨l, x, rfl⟩
  · simp [txt_size, encs] at h
  · have hx := hv x (by simp)
    have hl := enc_len x hx
    have e1 : encs (l.concat x) = encs l ++ enc x := by rw [List.concat_eq_append, encs_app, encs_one]
    have z1 : (txt (l.concat x)).size = (encs l).length + (enc x).length := by rw [txt_size, e1]; simp
    have g : (txt (l.concat x))[(txt (l.concat x)).size - 1]'(by omega) = (enc x).getD ((enc x).length - 1) 0 := by
      rw [← get_bang _ _ (by omega), get_txt _ _ (by rw [← txt_size]; omega)]
      simp only [e1]
      rw [List.getElem_append_right (by omega)]
      have : (txt (l.concat x)).size - 1 - (encs l).length = (enc x).length - 1 := by omega
      simp only [this]
      simp [List.getD, show (enc x).length - 1 < (enc x).length by omega]
    rw [g]
    have e3 : (l.concat x).getLast? = some x := by simp
    rw [e3]
    simp only [Option.some.injEq]
    have hle := valid_le x hx
    by_cases h1 : x < 128
    · rw [enc1 x hx h1]
      simp only [List.length_singleton, Nat.sub_self, List.getD_cons_zero]
      rw [u8n x (by omega)]
    by_cases h2 : x < 2048
    · rw [enc2 x hx h1 h2]
      simp only [List.length_cons, List.length_nil, List.getD_cons_succ, List.getD_cons_zero, Nat.zero_add, Nat.add_sub_cancel]
      rw [u8n _ (by omega)]
      constructor <;> intro h <;> omega
    by_cases h3 : x < 65536
    · rw [enc3 x hx h1 h2 h3]
      simp only [List.length_cons, List.length_nil, List.getD_cons_succ, List.getD_cons_zero, Nat.zero_add, Nat.add_sub_cancel]
      rw [u8n _ (by omega)]
      constructor <;> intro h <;> omega
    · rw [enc4 x hx h1 h2 h3]
      simp only [List.length_cons, List.length_nil, List.getD_cons_succ, List.getD_cons_zero, Nat.zero_add, Nat.add_sub_cancel]
      rw [u8n _ (by omega)]
      constructor <;> intro h <;> omega
end Go.Proofs.YtnokiikgnplpmaaDoor
namespace Go.Proofs.YtnokiikgnplpmaaDoor
open Go.RowKit

theorem info_int : (Tryd.prog.info? 3).map (fun i => (i.zero, i.size, i.bytes)) = some (some (.int .i64 0), 1, 8) := by kernel_rfl
/-- The cells of numbers. -/
def i64s (l : List Nat) : List Value := l.map fun (x : Nat) => Value.int .i64 (x : Int)
theorem i64s_snoc (l : List Nat) (x : Nat) : i64s (l ++ [x]) = i64s l ++ [Value.int .i64 (x : Int)] := by simp [i64s]

/-- A contract that leaves the world alone, told the other way round. -/
theorem calls_flip {P : Program} {f : FuncId} {args : Array Value} {w : World} {v : Value} (h : Calls P f args w fun e w' => e = .returned v ∧ w = w') : Calls P f args w fun e w' => e = .returned v ∧ w' = w := h.mono fun _ _ ⟨he, hm⟩ => ⟨he, hm.symm⟩

theorem bdrewN {B : Nat} {w W : World} (h : Below B w W) (m : Nat) : Below B w (W.drewN m) := ⟨h.os, h.tape, h.output, h.size, h.block⟩
theorem bgrown {a w w' : World} {B : Nat} {row : Option Nat} (h : Below B a w) (hB : B ≤ a.heap.size) (hg : w.grownBy w' row) (hr : ∀ k, row = some k → B ≤ k) : Below B a w' :=
  ⟨hg.os.trans h.os, hg.tape.trans h.tape, hg.output.trans h.output, Nat.le_trans h.size hg.size, fun k hk => (hg.block k (by have := h.size; omega) (fun q => by have := hr k q.symm; omega)).trans (h.block k hk)⟩
theorem own_notiter {w : World} {base e size n : Nat} {v : Value} {xs : List Value} (h : w.ownsRow base e size v n xs) {k : Nat} {s : ByteArray} {p : Nat} (hk : w.heap[k]? = some (.stringIter s p)) : v.ownBlock ≠ some k := by
  intro e
  rcases h.2 with ⟨rfl, _⟩ | ⟨g, cap, cur, rfl, hgb, hh, r⟩
  · simp [Value.ownBlock] at e
  · simp [Value.ownBlock] at e
    subst e
    rw [hk] at hh
    cases hh

set_option maxHeartbeats 2000000 in
set_option maxRecDepth 100000 in
theorem places_any (s : ByteArray) (w : World) (hs : s.size ≤ 16777216) :
    Calls Tryd.prog 28 #[.string s] w fun e w' => ∃ v, e = .returned v ∧ w'.ownsRow w.heap.size 3 1 v (placesL s).length (i64s (placesL s)) ∧ Below w.heap.size w w' := by
  obtain ⟨iI, hiI, hI0, hI1, hI2⟩ := info_parts info_int
  generalize hL : placesL s = L
  have HL := Lib.hid hL
  clear hL
  go_enter Tryd.func28, Tryd.ntmps28
  go_wp2_with fail
  go_loopg [3] s.size (fun f s3 wr => ∃ (pos : Nat) (acc : List Nat), wr.heap[w.heap.size]? = some (.stringIter s pos) ∧ wr.ownsRow w.heap.size 3 1 s3 acc.length (i64s acc) ∧ Hid (acc ++ ((posR s f pos).filter fun p => apartAt s p) ++ [s.size] = L) ∧ s.size ≤ pos + f ∧ pos ≤ s.size ∧ acc.length ≤ pos ∧ Below w.heap.size w wr)
  case atStart =>
    exact ⟨0, [], World.iter_heap _ _ _, ⟨by simp [i64s], .inl ⟨rfl, rfl⟩⟩, Lib.hid (by rw [← HL.out]; rfl), by omega, by omega, Nat.le_refl _, balloc (Below.refl _ _) _⟩
  case round =>
    obtain ⟨pos, acc, hit, hown, hrun, hfu, hps, hac, hbw⟩ := hrel
    have hkz : w.heap.size < wr.heap.size := (Array.getElem?_eq_some_iff.1 hit).1
    obtain ⟨A3, c3, rfl, _⟩ := own_form hown
    by_cases hp : pos < s.size
    · obtain ⟨f, rfl⟩ : ∃ f, gk = f + 1 := ⟨gk - 1, by omega⟩
      have hnx : ∀ ty, (Instr.next (.pointer (some ⟨w.heap.size, 0, none⟩)) true ty).run Tryd.prog wr = _ := fun ty => Lib.run_next_any_at wr w.heap.size s pos ty hit hp
      have hwd := width1 s pos hp
      have hwe := decode_end s pos hp
      have hO1 := Lib.hid (own_iter hown hit (pos + (Utf8.decode s pos).2))
      have hB1 : Hid (Below w.heap.size w (wr.iterAt w.heap.size s (pos + (Utf8.decode s pos).2))) := Lib.hid ((Kep.iterAt (X := fun _ => False) (Kep.of_below hbw) (.inr (by omega)) s _).below (Nat.le_refl _) (fun _ _ q => q))
      have hI1 := Lib.hid (Lib.iterAt_heap wr w.heap.size s pos (pos + (Utf8.decode s pos).2) hit)
      have hr1 : posR s (f + 1) pos = pos :: posR s f (pos + (Utf8.decode s pos).2) := by simp [posR, hp]
      have hst := hrun.out
      rw [hr1, List.filter_cons] at hst
      have HST := Lib.hid hst
      generalize wr.iterAt w.heap.size s (pos + (Utf8.decode s pos).2) = W2 at *
      generalize (Utf8.decode s pos).2 = wd at *
      clear hr1 hrun hit hbw hown hst hkz
      have z1 : (s.extract 0 pos).size ≤ 1125899906842624 := by rw [ByteArray.size_extract]; omega
      have z2 : (s.extract pos s.size).size ≤ 1125899906842624 := by rw [ByteArray.size_extract]; omega
      go_upto_region 5 with fail
      rcases hb : apartAt s pos with _ | _
      · have hap : ∀ W, Calls Tryd.prog 44 #[.string (s.extract 0 pos), .string (s.extract pos s.size)] W fun e w' => e = .returned (.bool false) ∧ w' = W := fun W => by
          have h := calls_flip (apart_any (s.extract 0 pos) (s.extract pos s.size) W z1 z2)
          rw [show apartB (s.extract 0 pos) (s.extract pos s.size) = false from hb] at h
          exact h
        have HS2 : Hid (acc ++ ((posR s f (pos + wd)).filter fun p => apartAt s p) ++ [s.size] = L) := Lib.hid (by rw [← HST.out, hb]; rfl)
        clear hb
        go_quiet ((go_at_call 44; refine Calls.quiet_of_same (hap _)))
        go_wp2_with fail
        go_roundg f
        case measure => omega
        case rel => exact ⟨pos + wd, acc, hI1.out, hO1.out, HS2, by omega, by omega, by omega, bdrewN hB1.out _⟩
      · have hap : ∀ W, Calls Tryd.prog 44 #[.string (s.extract 0 pos), .string (s.extract pos s.size)] W fun e w' => e = .returned (.bool true) ∧ w' = W := fun W => by
          have h := calls_flip (apart_any (s.extract 0 pos) (s.extract pos s.size) W z1 z2)
          rw [show apartB (s.extract 0 pos) (s.extract pos s.size) = true from hb] at h
          exact h
        have HS2 : Hid ((acc ++ [pos]) ++ ((posR s f (pos + wd)).filter fun p => apartAt s p) ++ [s.size] = L) := Lib.hid (by rw [← HST.out, hb]; simp)
        clear hb
        go_quiet ((go_at_call 44; refine Calls.quiet_of_same (hap _)))
        have hbz : w.heap.size ≤ W2.heap.size := hB1.out.size
        have HI3 : Hid ((W2.drewN nq).heap[w.heap.size]? = _) := hI1
        have HO3 : Hid ((W2.drewN nq).ownsRow w.heap.size 3 1 (.slice A3 acc.length c3) acc.length (i64s acc)) := hO1
        have HB3 := Lib.hid (bdrewN hB1.out nq)
        have hbz3 : w.heap.size ≤ (W2.drewN nq).heap.size := hbz
        generalize W2.drewN nq = W3 at *
        clear hI1 hO1 hB1
        go_wp2_with (at_builtin; refine wpList_append_own_at _ rfl (.tmp 17) (.tmp 19) _ rfl w.heap.size 3 iI _ 1 8 Tryd.underlying69 hiI hI0 hI1 hI2 rfl (by omega) (.slice A3 acc.length c3) acc.length (i64s acc) rfl (HO3.out.alloc _) ⟨W3.heap.size, 0, none⟩ 1 1 [.int .i64 (pos : Int)] rfl rfl (cell_one_new _ _ _) (by intro u hu; simp at hu; subst hu; rfl) (by unfold maxLen; omega) (by omega) (by simp; omega) ?_; intro v2 w2 hown2 hg2 hnil2 hat2; have O2 := Lib.hid hown2; have G2 := Lib.hid hg2; clear hnil2 hat2 hown2 hg2)
        go_roundg f
        case measure => omega
        case rel =>
          refine ⟨pos + wd, acc ++ [pos], ?_, ?_, HS2, by omega, by omega, by simp; omega, bgrown (balloc HB3.out _) (Nat.le_refl _) G2.out (fun k hk => (own_lt HO3.out hk).1)⟩
          · have hlt : w.heap.size < W3.heap.size := (Array.getElem?_eq_some_iff.1 HI3.out).1
            rw [G2.out.block _ (by simp; omega) (fun e => own_notiter HO3.out HI3.out e.symm), Below.heap_alloc _ _ _ hlt]
            exact HI3.out
          · rw [i64s_snoc]
            simpa using O2.out
    · have hnx : ∀ ty, (Instr.next (.pointer (some ⟨w.heap.size, 0, none⟩)) true ty).run Tryd.prog wr = _ := fun ty => Lib.run_next_end_at wr w.heap.size s pos ty hit hp
      have e := hrun.out
      rw [posR_end s gk pos hp] at e
      have E : Hid (acc ++ [s.size] = L) := Lib.hid (by simpa using e)
      have HO := Lib.hid hown
      have HB := Lib.hid hbw
      have hbz := hbw.size
      clear hrun e hown hbw hit
      go_wp2_with (at_builtin; refine wpList_append_own_at _ rfl (.tmp 21) (.tmp 24) _ rfl w.heap.size 3 iI _ 1 8 Tryd.underlying69 hiI hI0 hI1 hI2 rfl (by omega) (.slice A3 acc.length c3) acc.length (i64s acc) rfl (HO.out.alloc _) ⟨wr.heap.size, 0, none⟩ 1 1 [.int .i64 (s.size : Int)] rfl rfl (cell_one_new _ _ _) (by intro u hu; simp at hu; subst hu; rfl) (by unfold maxLen; omega) (by omega) (by simp; omega) ?_; intro v2 w2 hown2 hg2 hnil2 hat2; have O2 := Lib.hid hown2; have G2 := Lib.hid hg2; clear hnil2 hat2 hown2 hg2)
      go_ret
      refine ⟨v2, rfl, ?_, bgrown (balloc HB.out _) (Nat.le_refl _) G2.out (fun k hk => (own_lt HO.out hk).1)⟩
      rw [← E.out, i64s_snoc]
      simpa using O2.out
end Go.Proofs.YtnokiikgnplpmaaDoor
namespace Go.Proofs.YtnokiikgnplpmaaDoor
open Go.RowKit

theorem info_step : (Tryd.prog.info? 40).map (fun i => (i.zero, i.size, i.bytes)) = some (some (.agg #[.string ByteArray.empty, .int .i64 0, .string ByteArray.empty]), 3, 40) := by kernel_rfl
/-- Turns in memory, below block B. -/
def TurnsAt (w : World) (B : Nat) (v : Value) (tl : List (ByteArray × Int)) : Prop :=
  ∃ R c : Nat, v = .slice (some ⟨R, 0, none⟩) tl.length c ∧ R < B ∧ ∀ (j : Nat) (hj : j < tl.length), w.cell? ⟨R, j * 2, none⟩ = some (.string (tl[j]'hj).1) ∧ w.cell? ⟨R, j * 2 + 1, none⟩ = some (.int .i64 (tl[j]'hj).2)
theorem TurnsAt.below {w w' : World} {B : Nat} {v : Value} {tl : List (ByteArray × Int)} (h : TurnsAt w B v tl) (hb : Below B w w') : TurnsAt w' B v tl := by
  obtain ⟨R, c, h1, h2, h3⟩ := h
  exact ⟨R, c, h1, h2, fun j hj => ⟨(hb.cell (p := ⟨R, _, none⟩) h2).trans (h3 j hj).1, (hb.cell (p := ⟨R, _, none⟩) h2).trans (h3 j hj).2⟩⟩

theorem own_mono {w : World} {base base' e size n : Nat} {v : Value} {xs : List Value} (h : w.ownsRow base e size v n xs) (hb : base' ≤ base) : w.ownsRow base' e size v n xs := by
  obtain ⟨h1, h2⟩ := h
  refine ⟨h1, ?_⟩
  rcases h2 with h2 | ⟨g, cap, cur, hv, hgb, r⟩
  · exact .inl h2
  · exact .inr ⟨g, cap, cur, hv, Nat.le_trans hb hgb, r⟩

set_option maxHeartbeats 4000000 in
set_option maxRecDepth 100000 in
theorem made_any (s : ByteArray) (tl : List (ByteArray × Int)) (v : Value) (w : World) (hs : s.size ≤ 16777216) (hz : tsz tl ≤ 16777216) (ht : TurnsAt w w.heap.size v tl) :
    Calls Tryd.prog 13 #[.string s, v] w fun e w' => ∃ u, e = .returned (.tuple #[u, .string (txt (allR (mkSteps s tl)))]) ∧ w'.ownsRow w.heap.size 40 3 u tl.length (stpsC (mkSteps s tl)) ∧ Below w.heap.size w w' := by
  obtain ⟨iS, hiS, hS0, hS1, hS2⟩ := info_parts info_step
  have ks : ∀ (W : World) (x y : ByteArray), x.size + y.size ≤ 9223372036854775807 → (Op.stringOp .add x y).run Tryd.prog W = .ok (.string (x ++ y)) W := fun W x y h => run_string_add_sum W x y h
  obtain ⟨R, c, rfl, hR, hcl⟩ := ht
  have HCL := Lib.hid hcl
  have htl := tsz_len tl
  have hpl := placesL_le s
  have hpp := placesL_pos s
  clear hcl
  go_enter Tryd.func13, Tryd.ntmps13
  go_wp2_with fail
  refine (places_any s _ hs).mono ?_
  rintro e W0 ⟨v8, rfl, hown8, hb8⟩
  obtain ⟨A8, c8, rfl, hA8⟩ := own_form hown8
  obtain ⟨k8, rfl, hA8'⟩ := hA8 hpp
  have hk8 : k8 < W0.heap.size := (own_lt hown8 rfl).2
  have HA8 := Lib.hid hA8'
  have HB8 := Lib.hid hb8
  have hz0 := hb8.size
  clear hown8 hA8 hA8' hb8
  generalize hnp : (placesL s).length = np at *
  have HNP := Lib.hid hnp
  clear hnp
  go_wp2_with fail
  go_loopg [6, 7, 16] tl.length (fun f s6 s7 s16 wr => ∃ j : Nat, j + f = tl.length ∧ s16 = .int .i64 (j : Int) ∧ wr.ownsRow W0.heap.size 40 3 s6 j (stpsC (mkSteps s (tl.take j))) ∧ s7 = .string (txt (allR (mkSteps s (tl.take j)))) ∧ Below W0.heap.size W0 wr)
  case atStart =>
    exact ⟨0, by omega, rfl, World.ownsRow_nil _ _ _ _, rfl, Below.refl _ _⟩
  case round =>
    obtain ⟨j, hj, rfl, hown, rfl, hbw⟩ := hrel
    have hbz := hbw.size
    by_cases hlt : j < tl.length
    · obtain ⟨f, rfl⟩ : ∃ f, gk = f + 1 := ⟨gk - 1, by omega⟩
      have c0 : wr.cell? ⟨R, j * 2, none⟩ = some (.string (tl[j]'hlt).1) := (hbw.cell (p := ⟨R, _, none⟩) (Nat.lt_of_lt_of_le hR hz0)).trans ((HB8.out.cell (p := ⟨R, _, none⟩) hR).trans (HCL.out j hlt).1)
      have c1 : wr.cell? ⟨R, j * 2 + 1, none⟩ = some (.int .i64 (tl[j]'hlt).2) := (hbw.cell (p := ⟨R, _, none⟩) (Nat.lt_of_lt_of_le hR hz0)).trans ((HB8.out.cell (p := ⟨R, _, none⟩) hR).trans (HCL.out j hlt).2)
      have hst := mkSteps_take s tl j hlt
      have hal1 : (encs (allR (mkSteps s (tl.take j)))).length + (encs (stepR (tl[j]'hlt).1)).length ≤ 16777216 := by
        have h1 := allR_len s (tl.take j)
        have h2 := stepR_len (tl[j]'hlt).1
        have h3 := tsz_take tl j hlt
        have h4 := tsz_le tl (j + 1)
        omega
      have hts : (tl[j]'hlt).1.size ≤ 16777216 := by
        have h3 := tsz_take tl j hlt
        have h4 := tsz_le tl (j + 1)
        omega
      have hSR : Hid (stepR (tl[j]'hlt).1 = if (validL (tl[j]'hlt).1).getLast? = some 13 then validL (tl[j]'hlt).1 ++ [120] else validL (tl[j]'hlt).1) := Lib.hid rfl
      obtain ⟨p, hp⟩ : ∃ p : Nat, (tl[j]'hlt).2 % (np : Int) = (p : Int) := ⟨((tl[j]'hlt).2 % (np : Int)).toNat, by have := Int.emod_nonneg (tl[j]'hlt).2 (b := (np : Int)) (by omega); omega⟩
      have hplt : p < np := by have := Int.emod_lt_of_pos (tl[j]'hlt).2 (b := (np : Int)) (by omega); omega
      have hSP : Hid (stepP s (tl[j]'hlt).2 = (placesL s).getD p 0) := Lib.hid (by unfold stepP; rw [HNP.out, hp]; simp)
      have hcp : wr.cell? ⟨k8, p, none⟩ = some (.int .i64 ((placesL s).getD p 0 : Nat)) := by
        refine (hbw.cell (p := ⟨k8, p, none⟩) hk8).trans (HA8.out p _ ?_)
        have hp' : p < (placesL s).length := by rw [HNP.out]; exact hplt
        simp [i64s, List.getD_eq_getElem?_getD, List.getElem?_eq_getElem hp']
      have hpla : ∀ W, Calls Tryd.prog 15 #[.int .i64 (tl[j]'hlt).2, .int .i64 (np : Int)] W fun e w' => e = .returned (.int .i64 (p : Int)) ∧ W = w' := fun W => by
        have h := place_any (tl[j]'hlt).2 (np : Int) W (by omega) (by omega)
        rw [hp] at h
        exact h
      have HPLA := Lib.hid hpla
      have HST := Lib.hid hst
      have HO := Lib.hid hown
      have HB := Lib.hid hbw
      have hvl := Lib.hid (validL_valid (tl[j]'hlt).1)
      have hvz := validL_len (tl[j]'hlt).1
      have hva := fun W => valid_any (tl[j]'hlt).1 W (by omega)
      have HVA := Lib.hid hva
      clear hpla hst hown hbw hva hp
      generalize validL (tl[j]'hlt).1 = vr at *
      generalize stepR (tl[j]'hlt).1 = sr at *
      generalize stepP s (tl[j]'hlt).2 = sp at *
      generalize (placesL s).getD p 0 = pl at *
      generalize (tl[j]'hlt).1 = tx at *
      generalize (tl[j]'hlt).2 = z at *
      obtain ⟨ar, har⟩ : ∃ ar, ar = allR (mkSteps s (tl.take j)) := ⟨_, rfl⟩
      rw [← har] at hal1 ⊢
      have HAR : Hid (allR (mkSteps s (tl.take j)) = ar) := Lib.hid har.symm
      clear har
      have hsum : (txt ar).size + (txt sr).size ≤ 9223372036854775807 := by rw [txt_size, txt_size]; omega
      go_wp2_with fail
      refine (HVA.out _).mono ?_
      rintro e W2 ⟨rfl, hb2⟩
      have X1 := (Blk.new wr 25 #[.string tx, .int .i64 z]).kep (Kep.of_below (X := fun _ => False) hb2) (fun q => q)
      have x1 : W2.cell? ⟨wr.heap.size, 1, none⟩ = some (.int .i64 z) := X1.cell 1
      have B2 := Lib.hid (bthen (balloc HB.out _) hb2)
      have O2 := Lib.hid ((HO.out.alloc (.cells #[.string tx, .int .i64 z] 25)).kept_below hb2)
      have hz2 : wr.heap.size < W2.heap.size := X1.lt
      have cp2 : W2.cell? ⟨k8, p, none⟩ = some (.int .i64 (pl : Nat)) := by
        rw [← hcp]
        refine (hb2.cell (p := ⟨k8, p, none⟩) (by simp; omega)).trans ?_
        exact Below.cell (balloc (Below.refl wr.heap.size wr) _) (by simp only; omega)
      clear hcp c0 c1 hb2 HB HO X1 HVA
      have hsz := txt_size vr
      have hts2 : (txt vr).size ≤ 16777216 := by omega
      have HSZ := Lib.hid hsz
      clear hsz
      obtain ⟨bb, hbb⟩ : ∃ bb, bb = decide (vr.getLast? = some 13) := ⟨_, rfl⟩
      have HBB := Lib.hid hbb
      clear hbb
      go_upto_region 8 with fail
      go_cut [32] (fun s32 wx => s32 = .bool bb ∧ W2 = wx)
      case first =>
        by_cases hv0 : (txt vr).size = 0
        · have t1 : (txt vr).toList.isEmpty = true := by rw [toList_empty]; simp [hv0]
          have E : Hid (bb = false) := Lib.hid (by
            rw [HBB.out]
            apply decide_eq_false
            intro q
            have : vr ≠ [] := by rintro rfl; simp at q
            have hl := okR.len (rs := vr) hvl.out
            have := List.length_pos_iff.2 this
            omega)
          clear hv0
          go_wp2_with fail
          go_meet
          exact ⟨by rw [E.out], rfl⟩
        · have t1 : (txt vr).toList.isEmpty = false := by rw [toList_empty]; simp [hv0]
          have p1 : 0 < (txt vr).size := by omega
          have hlb := last_byte vr hvl.out p1
          by_cases h13 : vr.getLast? = some 13
          · have E : Hid (bb = true) := Lib.hid (by rw [HBB.out]; exact decide_eq_true h13)
            have n3 : ((((txt vr)[(txt vr).size - 1]'(by omega)).toNat : Int) == 13) = true := by simp [hlb.2 h13]
            clear hv0 hlb h13
            go_wp2_with fail
            go_meet
            exact ⟨by rw [E.out], rfl⟩
          · have E : Hid (bb = false) := Lib.hid (by rw [HBB.out]; exact decide_eq_false h13)
            have n3 : ((((txt vr)[(txt vr).size - 1]'(by omega)).toNat : Int) == 13) = false := by
              have : ¬ ((txt vr)[(txt vr).size - 1]'(by omega)).toNat = 13 := fun q => h13 (hlb.1 q)
              simp
              omega
            clear hv0 hlb h13
            go_wp2_with fail
            go_meet
            exact ⟨by rw [E.out], rfl⟩
      case rest =>
      obtain ⟨rfl, rfl⟩ := hcut
      go_upto_if 32 with fail
      go_cut [11] (fun s11 wx => s11 = .string (txt sr) ∧ W2 = wx)
      case first =>
        rcases bb with _ | _
        · have h13 : ¬ vr.getLast? = some 13 := fun q => by have := HBB.out; rw [decide_eq_true q] at this; cases this
          have E : Hid (sr = vr) := Lib.hid (by rw [hSR.out, if_neg h13])
          clear h13
          go_wp2_with fail
          go_meet
          exact ⟨by rw [E.out], rfl⟩
        · have h13 : vr.getLast? = some 13 := of_decide_eq_true HBB.out.symm
          have E : Hid (txt vr ++ ⟨#[120]⟩ = txt sr) := Lib.hid (by rw [hSR.out, if_pos h13, ← txt_x, txt_app])
          have hs2 : (txt vr).size + (⟨#[120]⟩ : ByteArray).size ≤ 9223372036854775807 := by
            have : (⟨#[120]⟩ : ByteArray).size = 1 := rfl
            omega
          clear h13
          go_wp2_with fail
          go_meet
          exact ⟨by rw [← E.out], rfl⟩
      case rest =>
      obtain ⟨rfl, rfl⟩ := hcut
      go_wp2_with fail
      refine (HPLA.out _).mono ?_
      rintro e w' ⟨rfl, rfl⟩
      go_wp2_with (at_builtin; refine wpList_append_own_at _ rfl (.tmp 35) (.tmp 46) _ rfl W0.heap.size 40 iS _ 3 40 Tryd.underlying26 hiS hS0 hS1 hS2 rfl (by omega) u6 j (stpsC (mkSteps s (tl.take j))) rfl (O2.out.alloc _) ⟨W2.heap.size, 0, none⟩ 1 1 [.string (txt sr), .int .i64 (pl : Int), .string ByteArray.empty] rfl rfl (World.news_of_block (cs := #[.string (txt sr), .int .i64 (pl : Int), .string ByteArray.empty]) (t := 40) (fr := (0, 0)) (heap_alloc_new _ _)) (by intro u hu; simp at hu; rcases hu with rfl | rfl | rfl <;> rfl) (by unfold maxLen; omega) (by omega) (by simp; omega) ?_; intro v2 w2 hown2 hg2 hnil2 hat2; have O3 := Lib.hid hown2; have G3 := Lib.hid hg2; clear hnil2 hat2 hown2 hg2)
      go_roundg f
      case measure => omega
      case rel =>
        refine ⟨j + 1, by omega, by go_num, ?_, ?_, bgrown (balloc B2.out _) (Nat.le_refl _) G3.out (fun k hk => (own_lt O2.out hk).1)⟩
        · rw [HST.out, stpsC_snoc, hSP.out]
          exact O3.out
        · rw [HST.out, allR_snoc, ← txt_app, HAR.out]
    · obtain rfl : j = tl.length := by omega
      have HO := Lib.hid hown
      have HB := Lib.hid hbw
      clear hown hbw
      rw [List.take_length] at HO
      rw [List.take_length]
      go_wp2_with fail
      go_ret2
      exact ⟨_, rfl, own_mono HO.out hz0, HB8.out.trans (HB.out.mono hz0)⟩
end Go.Proofs.YtnokiikgnplpmaaDoor
namespace Go.Proofs.YtnokiikgnplpmaaDoor
open Go.RowKit

/-- A place in memory. -/
def pl (L C : Nat) : Array Value := #[.int .i64 (L : Int), .int .i64 (C : Int)]
theorem Blk.iterAt {w : World} {g : Nat} {t : TypeId} {cs : Array Value} (h : Blk w g t cs) {k : Nat} {s : ByteArray} {p : Nat} (hk : w.heap[k]? = some (.stringIter s p)) (p' : Nat) : Blk (w.iterAt k s p') g t cs := by
  unfold Blk at h ⊢
  rw [Lib.iterAt_other _ _ _ _ _ (by rintro rfl; rw [hk] at h; cases h)]
  exact h

set_option maxHeartbeats 2000000 in
set_option maxRecDepth 100000 in
theorem specAdv_any (s : ByteArray) (L C : Nat) (w : World) (hs : s.size ≤ 1125899906842624) (hL : L ≤ 1152921504606846976) (hC : C ≤ 1152921504606846976) :
    Calls Tryd.prog 17 #[.agg #[.int .i64 (L : Int), .int .i64 (C : Int)], .string s] w fun e w' => e = .returned (.agg #[.int .i64 ((advS 0 (runes s s.size 0) (L, C)).1 : Int), .int .i64 ((advS 0 (runes s s.size 0) (L, C)).2 : Int)]) ∧ Below w.heap.size w w' := by
  generalize hR : advS 0 (runes s s.size 0) (L, C) = R
  go_enter Tryd.func17, Tryd.ntmps17
  go_wp2_with fail
  go_loopg [5] s.size (fun f s5 wr => ∃ (pos L1 C1 was : Nat), s5 = .int .i32 (was : Int) ∧ was ≤ 2147483647 ∧ wr.heap[w.heap.size + 2]? = some (.stringIter s pos) ∧ Hid (advS was (runes s f pos) (L1, C1) = R) ∧ s.size ≤ pos + f ∧ f ≤ s.size ∧ L1 + f ≤ L + s.size ∧ C1 + 2 * f ≤ C + 2 * s.size ∧ Blk wr w.heap.size 42 (pl L1 C1) ∧ Blk wr (w.heap.size + 1) 42 (pl 0 0) ∧ Below w.heap.size w wr)
  case atStart =>
    refine ⟨0, L, C, 0, rfl, by omega, ?_, Lib.hid hR, by omega, Nat.le_refl _, Nat.le_refl _, Nat.le_refl _, ?_, ?_, ?_⟩
    · have := World.iter_heap ((w.alloc (Obj.cells #[Value.int IntKind.i64 ↑L, Value.int IntKind.i64 ↑C] 42)).alloc (Obj.cells #[Value.int IntKind.i64 0, Value.int IntKind.i64 0] 42)) s 0
      simpa using this
    · exact ((Blk.new w 42 (pl L C)).alloc _).alloc _
    · have := (Blk.new (w.alloc (.cells (pl L C) 42)) 42 (pl 0 0)).alloc (.stringIter s 0)
      rw [show (w.alloc (.cells (pl L C) 42)).heap.size = w.heap.size + 1 by simp] at this
      exact this
    · exact balloc (balloc (balloc (Below.refl _ _) _) _) _
  case round =>
    obtain ⟨pos, L1, C1, was, rfl, hwas, hit, hadv, hfu, hfs, hl1, hc1, hbl, hrb, hkp⟩ := hrel
    have hkz : w.heap.size + 2 < wr.heap.size := (Array.getElem?_eq_some_iff.1 hit).1
    by_cases hp : pos < s.size
    · obtain ⟨f, rfl⟩ : ∃ f, gk = f + 1 := ⟨gk - 1, by omega⟩
      have hnx : ∀ ty, (Instr.next (.pointer (some ⟨w.heap.size + 2, 0, none⟩)) true ty).run Tryd.prog wr = _ := fun ty => Lib.run_next_any_at wr (w.heap.size + 2) s pos ty hit hp
      have hwd := width1 s pos hp
      have hcle := decode_le s pos
      have hB1 := hbl.iterAt hit (pos + (Utf8.decode s pos).2)
      have hR1 := hrb.iterAt hit (pos + (Utf8.decode s pos).2)
      have hK1 : Below w.heap.size w (wr.iterAt (w.heap.size + 2) s (pos + (Utf8.decode s pos).2)) := (Kep.iterAt (X := fun _ => False) (Kep.of_below hkp) (.inr (by omega)) s _).below (Nat.le_refl _) (fun _ _ q => q)
      have hI1 := Lib.iterAt_heap wr (w.heap.size + 2) s pos (pos + (Utf8.decode s pos).2) hit
      have hrun : runes s (f + 1) pos = (Utf8.decode s pos).1 :: runes s f (pos + (Utf8.decode s pos).2) := by simp [runes, hp]
      have hst := hadv.out
      rw [hrun, advS_cons] at hst
      generalize wr.iterAt (w.heap.size + 2) s (pos + (Utf8.decode s pos).2) = W1 at *
      generalize (Utf8.decode s pos).2 = wd at *
      generalize (Utf8.decode s pos).1 = c at *
      clear hrun hadv hit hkp hbl hrb hkz
      have hw1 : w.heap.size < W1.heap.size := hB1.lt
      have g0 : W1.cell? ⟨w.heap.size, 0, none⟩ = some (.int .i64 (L1 : Int)) := hB1.cell 0
      have g1 : W1.cell? ⟨w.heap.size, 1, none⟩ = some (.int .i64 (C1 : Int)) := hB1.cell 1
      have gf0 := hB1.frozen 0
      have gf1 := hB1.frozen 1
      have HB1 := Lib.hid hB1
      have HR1 := Lib.hid hR1
      have HK1 := Lib.hid hK1
      have HI1 := Lib.hid hI1
      have keepI1 : Hid (∀ i u, (W1.setCell ⟨w.heap.size, i, none⟩ u).heap[w.heap.size + 2]? = some (.stringIter s (pos + wd))) := Lib.hid fun i u => (Below.heap_setCell W1 ⟨w.heap.size, i, none⟩ u (w.heap.size + 2) (by simp)).trans HI1.out
      have keepI : Hid (∀ i j u v, ((W1.setCell ⟨w.heap.size, i, none⟩ u).setCell ⟨w.heap.size, j, none⟩ v).heap[w.heap.size + 2]? = some (.stringIter s (pos + wd))) := Lib.hid fun i j u v => (Below.heap_setCell _ ⟨w.heap.size, j, none⟩ v (w.heap.size + 2) (by simp)).trans (keepI1.out i u)
      clear hB1 hK1 hI1 hR1
      by_cases hcw : c = 10 ∧ was = 13
      · rw [if_pos hcw] at hst
        have E := Lib.hid hst
        obtain ⟨rfl, rfl⟩ := hcw
        clear hst
        go_wp2_with fail
        go_roundg f
        case measure => omega
        case rel => exact ⟨pos + wd, L1, C1, _, rfl, by omega, HI1.out, E, by omega, by omega, by omega, by omega, HB1.out, HR1.out, HK1.out⟩
      · rw [if_neg hcw] at hst
        by_cases hn : isNlR c
        · rw [if_pos hn] at hst
          have E := Lib.hid hst
          clear hst
          have hn4 : Hid (c = 13 ∨ c = 10 ∨ c = 8232 ∨ c = 8233) := Lib.hid hn
          clear hn
          rcases hn4.out with rfl | rfl | rfl | rfl
          · clear hcw
            go_wp2_with fail
            go_roundg f
            case measure => omega
            case rel => exact ⟨pos + wd, L1 + 1, 0, _, rfl, by omega, keepI.out 0 1 _ _, E, by omega, by omega, by omega, by omega, (HB1.out.set_ 0 _).set_ 1 _, (HR1.out.far (by simp) _).far (by simp) _, (HK1.out.setCell (Nat.le_refl _) _).setCell (Nat.le_refl _) _⟩
          · have w13 : ((was : Int) == 13) = false := by simp at hcw; simp; omega
            clear hcw
            go_wp2_with fail
            go_roundg f
            case measure => omega
            case rel => exact ⟨pos + wd, L1 + 1, 0, _, rfl, by omega, keepI.out 0 1 _ _, E, by omega, by omega, by omega, by omega, (HB1.out.set_ 0 _).set_ 1 _, (HR1.out.far (by simp) _).far (by simp) _, (HK1.out.setCell (Nat.le_refl _) _).setCell (Nat.le_refl _) _⟩
          · clear hcw
            go_wp2_with fail
            go_roundg f
            case measure => omega
            case rel => exact ⟨pos + wd, L1 + 1, 0, _, rfl, by omega, keepI.out 0 1 _ _, E, by omega, by omega, by omega, by omega, (HB1.out.set_ 0 _).set_ 1 _, (HR1.out.far (by simp) _).far (by simp) _, (HK1.out.setCell (Nat.le_refl _) _).setCell (Nat.le_refl _) _⟩
          · clear hcw
            go_wp2_with fail
            go_roundg f
            case measure => omega
            case rel => exact ⟨pos + wd, L1 + 1, 0, _, rfl, by omega, keepI.out 0 1 _ _, E, by omega, by omega, by omega, by omega, (HB1.out.set_ 0 _).set_ 1 _, (HR1.out.far (by simp) _).far (by simp) _, (HK1.out.setCell (Nat.le_refl _) _).setCell (Nat.le_refl _) _⟩
        · rw [if_neg hn] at hst
          have E := Lib.hid hst
          have c13 : ((c : Int) == 13) = false := by have : ¬ c = 13 := fun q => hn (.inl q); simp; omega
          have c10 : ((c : Int) == 10) = false := by have : ¬ c = 10 := fun q => hn (.inr (.inl q)); simp; omega
          have c28 : ((c : Int) == 8232) = false := by have : ¬ c = 8232 := fun q => hn (.inr (.inr (.inl q))); simp; omega
          have c29 : ((c : Int) == 8233) = false := by have : ¬ c = 8233 := fun q => hn (.inr (.inr (.inr q))); simp; omega
          clear hst hn hcw
          by_cases hbig : c ≤ 65535
          · have hu : Hid (unitsR c = 1) := Lib.hid (by unfold unitsR; rw [if_pos hbig])
            have hle : ¬ (c : Int) > 65535 := by omega
            go_wp2_with fail
            go_roundg f
            case measure => omega
            case rel => exact ⟨pos + wd, L1, C1 + 1, _, rfl, by omega, keepI1.out 1 _, by rw [← hu.out]; exact E, by omega, by omega, by omega, by omega, HB1.out.set_ 1 _, HR1.out.far (by simp) _, HK1.out.setCell (Nat.le_refl _) _⟩
          · have hu : Hid (unitsR c = 2) := Lib.hid (by unfold unitsR; rw [if_neg hbig])
            have hle : (c : Int) > 65535 := by omega
            go_wp2_with fail
            go_roundg f
            case measure => omega
            case rel => exact ⟨pos + wd, L1, C1 + 2, _, rfl, by omega, keepI1.out 1 _, by rw [← hu.out]; exact E, by omega, by omega, by omega, by omega, HB1.out.set_ 1 _, HR1.out.far (by simp) _, HK1.out.setCell (Nat.le_refl _) _⟩
    · have hnx : ∀ ty, (Instr.next (.pointer (some ⟨w.heap.size + 2, 0, none⟩)) true ty).run Tryd.prog wr = _ := fun ty => Lib.run_next_end_at wr (w.heap.size + 2) s pos ty hit hp
      have e := hadv.out
      rw [runes_end s gk pos hp] at e
      have E := Lib.hid e
      have g0 : wr.cell? ⟨w.heap.size, 0, none⟩ = some (.int .i64 (L1 : Int)) := hbl.cell 0
      have g1 : wr.cell? ⟨w.heap.size, 1, none⟩ = some (.int .i64 (C1 : Int)) := hbl.cell 1
      have r0 : wr.cell? ⟨w.heap.size + 1, 0, none⟩ = some (.int .i64 0) := hrb.cell 0
      have r1 : wr.cell? ⟨w.heap.size + 1, 1, none⟩ = some (.int .i64 0) := hrb.cell 1
      have rf0 := hrb.frozen 0
      have rf1 := hrb.frozen 1
      have hz1 : w.heap.size + 1 < wr.heap.size := hrb.lt
      have HK := Lib.hid hkp
      have HRB := Lib.hid hrb
      clear hadv e hbl hkp hrb
      go_wp2_with fail
      have q0 : (wr.setCell ⟨w.heap.size + 1, 0, none⟩ (.int .i64 (L1 : Int))).cell? ⟨w.heap.size + 1, 0, none⟩ = some (.int .i64 (L1 : Int)) := (HRB.out.set_ 0 _).cell 0
      have q1 : ((wr.setCell ⟨w.heap.size + 1, 0, none⟩ (.int .i64 (L1 : Int))).setCell ⟨w.heap.size + 1, 1, none⟩ (.int .i64 (C1 : Int))).cell? ⟨w.heap.size + 1, 1, none⟩ = some (.int .i64 (C1 : Int)) := ((HRB.out.set_ 0 _).set_ 1 _).cell 1
      refine bodyPost_ret (v := .agg #[.int .i64 (L1 : Int), .int .i64 (C1 : Int)]) (by simp [results, Tryd.results17, go_sem, q0, q1]) rfl ⟨?_, ?_⟩
      · rw [← E.out]
        rfl
      · exact (HK.out.setCell (by simp) _).setCell (by simp) _
theorem specT_any (rs : List Nat) (L C : Nat) (w : World) (hv : okR rs) (hs : (txt rs).size ≤ 1125899906842624) (hL : L ≤ 1152921504606846976) (hC : C ≤ 1152921504606846976) :
    Calls Tryd.prog 17 #[.agg #[.int .i64 (L : Int), .int .i64 (C : Int)], .string (txt rs)] w fun e w' => e = .returned (.agg #[.int .i64 ((advI rs (L, C)).1 : Int), .int .i64 ((advI rs (L, C)).2 : Int)]) ∧ Below w.heap.size w w' := by
  have h := specAdv_any (txt rs) L C w hs hL hC
  rw [runes_txt rs hv, ← advI_S] at h
  exact h
end Go.Proofs.YtnokiikgnplpmaaDoor

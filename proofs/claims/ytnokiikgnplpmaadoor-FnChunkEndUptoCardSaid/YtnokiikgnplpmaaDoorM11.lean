/-
  The contract of sourcemap.GenerateLineOffsetTables. Conditions: the source has at most 2^24 bytes.
-/
import Derived.Test.YtnokiikgnplpmaaDoorM9
namespace Go.Proofs.YtnokiikgnplpmaaDoor
open Go.RowKit

theorem info_lot : (Tryd.prog.info? 112).map (fun i => (i.zero, i.size, i.bytes)) = some (some (.agg #[.slice none 0 0, .int .i32 0, .int .i32 0]), 3, 32) := by kernel_rfl
theorem info_i32 : (Tryd.prog.info? 21).map (fun i => (i.zero, i.size, i.bytes)) = some (some (.int .i32 0), 1, 4) := by kernel_rfl

/-- The state of the making, in memory. -/
def TabIn (w : World) (base : Nat) (v5 v10 : Value) (t : TS) : Prop := ColOwn w base v5 t.cols ∧ RowsIn w base v5 v10 t.out ∧ (v5.ownBlock = none ∨ v5.ownBlock ≠ v10.ownBlock)

theorem RowsIn.kep {X : Nat → Prop} {w w' : World} {base : Nat} {v5 v10 : Value} {rs : List LT} (h : RowsIn w base v5 v10 rs) (k : Kep X w w') (hx : ∀ i, X i → (v5.ownBlock = some i ∧ v10.ownBlock ≠ some i) ∨ w.heap.size ≤ i) : RowsIn w' base v5 v10 rs := by
  obtain ⟨cvs, h1, h2, h3, h4⟩ := h
  refine ⟨cvs, h1, h2, own_kep' h3 k (fun g hg q => ?_), fun j k1 k2 => (h4 j k1 k2).kep k (fun i hi => ?_) (.inl rfl) (.inl rfl)⟩
  · rcases hx g q with e | e
    · exact e.2 hg
    · have := (own_lt h3 hg).2; omega
  · rcases hx i hi with e | e
    · exact .inl e.1
    · exact .inr (.inr e)
theorem ColOwn.kep {X : Nat → Prop} {w w' : World} {base : Nat} {v : Value} {o : Option (List Nat)} (h : ColOwn w base v o) (k : Kep X w w') (hx : ∀ g, v.ownBlock = some g → ¬ X g) : ColOwn w' base v o := by
  cases o with
  | none => exact h
  | some l => exact ⟨h.1, own_kep' h.2 k hx⟩
theorem own_cells {w : World} {base n : Nat} {e : TypeId} {size : Nat} {v : Value} {xs : List Value} (h : w.ownsRow base e size v n xs) {g : Nat} (hg : v.ownBlock = some g) : ∃ cs, w.heap[g]? = some (.cells cs e (0, 0)) := by
  obtain ⟨_, h2⟩ := h
  rcases h2 with ⟨rfl, _⟩ | ⟨g', cap, cur, rfl, h3, h4, h5⟩
  · simp [Value.ownBlock] at hg
  · simp [Value.ownBlock] at hg
    subst hg
    exact ⟨cur, h4⟩
/-- A step of the text's reader changes no row. -/
theorem TabIn.iterAt {w : World} {base : Nat} {v5 v10 : Value} {t : TS} (h : TabIn w base v5 v10 t) {k : Nat} {s : ByteArray} {p : Nat} (hk : w.heap[k]? = some (.stringIter s p)) (p' : Nat) : TabIn (w.iterAt k s p') base v5 v10 t := by
  obtain ⟨h1, h2, h3⟩ := h
  have kp : Kep (fun i => i = k) w (w.iterAt k s p') := ⟨rfl, rfl, rfl, by rw [Lib.iterAt_size]; exact Nat.le_refl _, fun i _ hx => Lib.iterAt_other w k i s p' hx⟩
  refine ⟨?_, ?_, h3⟩
  · cases hc : t.cols with
    | none => rw [hc] at h1; exact h1
    | some l =>
      rw [hc] at h1
      exact ⟨h1.1, own_kep' h1.2 kp (fun g hg e => by obtain ⟨cs, q⟩ := own_cells h1.2 hg; subst e; rw [hk] at q; cases q)⟩
  · obtain ⟨cvs, r1, r2, r3, r4⟩ := h2
    refine ⟨cvs, r1, r2, own_kep' r3 kp (fun g hg e => by obtain ⟨cs, q⟩ := own_cells r3 hg; subst e; rw [hk] at q; cases q), fun j k1 k2 => ?_⟩
    have hf := r4 j k1 k2
    cases hc : (t.out[j]'k2).cols with
    | none => rw [hc] at hf; exact hf
    | some l =>
      rw [hc] at hf
      obtain ⟨q, c, a1, a2, a3, a4, a5, a6⟩ := hf
      refine ⟨q, c, a1, a2, by rw [Lib.iterAt_size]; exact a3, a4, a5, fun i hi => ?_⟩
      have hne : q ≠ k := by
        rintro rfl
        have := a6 i hi
        simp [World.cell?, hk] at this
      rw [← a6 i hi]
      exact World.cell?_of_block (w := w) (Lib.iterAt_other w k q s p' hne)


/-- The same lines, the columns' row another one. -/
theorem RowsIn.turn {X : Nat → Prop} {w w' : World} {base : Nat} {v5 u5 v10 : Value} {rs : List LT} (h : RowsIn w base v5 v10 rs) (k : Kep X w w') (hx : ∀ i, X i → (v5.ownBlock = some i ∧ v10.ownBlock ≠ some i) ∨ w.heap.size ≤ i) (h5 : u5.ownBlock = v5.ownBlock ∨ u5.ownBlock = none ∨ ∃ i, w.heap.size ≤ i ∧ u5.ownBlock = some i) : RowsIn w' base u5 v10 rs := by
  obtain ⟨cvs, h1, h2, h3, h4⟩ := h
  refine ⟨cvs, h1, h2, own_kep' h3 k (fun g hg q => ?_), fun j k1 k2 => (h4 j k1 k2).kep k (fun i hi => ?_) h5 (.inl rfl)⟩
  · rcases hx g q with e | e
    · exact e.2 hg
    · have := (own_lt h3 hg).2; omega
  · rcases hx i hi with e | e
    · exact .inl e.1
    · exact .inr (.inr e)
theorem RowsIn.lt {w : World} {base : Nat} {v5 v10 : Value} {rs : List LT} (h : RowsIn w base v5 v10 rs) {k : Nat} (hk : v10.ownBlock = some k) : k < w.heap.size := by
  obtain ⟨cvs, h1, h2, h3, h4⟩ := h
  exact (own_lt h3 hk).2
/-- One column more. -/
theorem TabIn.push {w w' : World} {base g2 c2 H : Nat} {v5 v10 : Value} {o : Obj} {t : TS} {l : List Nat} (h : TabIn w base v5 v10 t) (hown : w'.ownsRow base 21 1 (.slice (some ⟨g2, 0, none⟩) (l.length + 1) c2) (l.length + 1) (i32s l ++ [.int .i32 (t.col : Int)])) (hg : (w.alloc o).grownBy w' v5.ownBlock)
    (hat : v5.ownBlock = some g2 ∨ g2 = H) (hH : H = w.heap.size + 1) : TabIn w' base (.slice (some ⟨g2, 0, none⟩) (l.length + 1) c2) v10 { t with cols := some (l ++ [t.col]), cbo := t.cbo + 1 } := by
  have kp : Kep (fun k => v5.ownBlock = some k) w w' := ((Kep.refl (fun k => v5.ownBlock = some k) w).alloc o).then (Kep.of_grown hg) (fun i hi => .inl hi)
  have hne : v10.ownBlock ≠ some g2 := by
    rcases hat with e | e
    · rcases h.2.2 with q | q
      · rw [q] at e; cases e
      · rw [← e]; exact fun q2 => q q2.symm
    · intro q
      have := h.2.1.lt q
      omega
  refine ⟨⟨⟨g2, c2, by simp⟩, by simpa [i32s_snoc] using hown⟩, h.2.1.turn kp (fun i hi => .inl ⟨hi, fun q => ?_⟩) ?_, .inr (fun e => hne e.symm)⟩
  · rcases h.2.2 with e | e
    · rw [e] at hi; cases hi
    · exact e (hi.trans q.symm)
  · rcases hat with e | e
    · exact .inl e.symm
    · exact .inr (.inr ⟨g2, by omega, rfl⟩)
theorem mark_first (t : TS) (i : Nat) : (t.mark i).first = t.first := by unfold TS.mark; split <;> rfl
theorem mark_cbo (t : TS) (i : Nat) : (t.mark i).cbo = t.cbo := by unfold TS.mark; split <;> rfl
theorem mark_col (t : TS) (i : Nat) : (t.mark i).col = t.col := by unfold TS.mark; split <;> rfl
theorem mark_cols (t : TS) (i : Nat) : (t.mark i).cols = t.cols := by unfold TS.mark; split <;> rfl
theorem mark_out (t : TS) (i : Nat) : (t.mark i).out = t.out := by unfold TS.mark; split <;> rfl
theorem TabIn.mark {w : World} {base : Nat} {v5 v10 : Value} {t : TS} (h : TabIn w base v5 v10 t) (i : Nat) : TabIn w base v5 v10 (t.mark i) := by
  unfold TabIn
  rw [mark_cols, mark_out]
  exact h
/-- What a value of columns is. -/
theorem ColOwn.form {w : World} {base : Nat} {v : Value} {o : Option (List Nat)} (h : ColOwn w base v o) : (o = none ∧ v = .slice none 0 0) ∨ ∃ l k c, o = some l ∧ v = .slice (some ⟨k, 0, none⟩) l.length c := by
  cases o with
  | none => exact .inl ⟨rfl, h⟩
  | some l => obtain ⟨⟨k, c, h1⟩, _⟩ := h; exact .inr ⟨l, k, c, rfl, h1⟩
theorem TabIn.kep0 {w w' : World} {base : Nat} {v5 v10 : Value} {t : TS} (h : TabIn w base v5 v10 t) (k : Kep (fun _ => False) w w') : TabIn w' base v5 v10 t := ⟨h.1.kep k (fun _ _ q => q), h.2.1.kep k (fun _ q => q.elim), h.2.2⟩

theorem TabIn.it5 {w : World} {base k : Nat} {v5 v10 : Value} {t : TS} {s : ByteArray} {p : Nat} (h : TabIn w base v5 v10 t) (hk : w.heap[k]? = some (.stringIter s p)) : v5.ownBlock ≠ some k := by
  intro e
  have h1 := h.1
  cases hc : t.cols with
  | none => rw [hc] at h1; rw [show v5 = _ from h1] at e; cases e
  | some l => rw [hc] at h1; obtain ⟨cs, q⟩ := own_cells h1.2 e; rw [hk] at q; cases q
theorem TabIn.it10 {w : World} {base k : Nat} {v5 v10 : Value} {t : TS} {s : ByteArray} {p : Nat} (h : TabIn w base v5 v10 t) (hk : w.heap[k]? = some (.stringIter s p)) : v10.ownBlock ≠ some k := by
  intro e
  obtain ⟨cvs, r1, r2, r3, r4⟩ := h.2.1
  obtain ⟨cs, q⟩ := own_cells r3 e
  rw [hk] at q
  cases q
theorem TabIn.ge5 {w : World} {base k : Nat} {v5 v10 : Value} {t : TS} (h : TabIn w base v5 v10 t) (e : v5.ownBlock = some k) : base ≤ k := by
  have h1 := h.1
  cases hc : t.cols with
  | none => rw [hc] at h1; rw [show v5 = _ from h1] at e; cases e
  | some l => rw [hc] at h1; exact (own_lt h1.2 e).1
theorem TabIn.ge10 {w : World} {base k : Nat} {v5 v10 : Value} {t : TS} (h : TabIn w base v5 v10 t) (e : v10.ownBlock = some k) : base ≤ k := by
  obtain ⟨cvs, r1, r2, r3, r4⟩ := h.2.1
  exact (own_lt r3 e).1
theorem it_grown {w w' : World} {k : Nat} {o : Obj} {v : Value} {b : Obj} (hk : w.heap[k]? = some b) (hg : (w.alloc o).grownBy w' v.ownBlock) (hne : v.ownBlock ≠ some k) : w'.heap[k]? = some b := by
  have hlt : k < w.heap.size := (Array.getElem?_eq_some_iff.1 hk).1
  rw [hg.block k (by simp; omega) (fun e => hne e.symm), Below.heap_alloc _ _ _ hlt]
  exact hk
theorem tab_grown {a w w' : World} {B : Nat} {row : Option Nat} (h : Below B a w) (hB : B ≤ a.heap.size) (hg : w.grownBy w' row) (hr : ∀ k, row = some k → B ≤ k) : Below B a w' :=
  ⟨hg.os.trans h.os, hg.tape.trans h.tape, hg.output.trans h.output, Nat.le_trans h.size hg.size, fun k hk => (hg.block k (by have := h.size; omega) (fun q => by have := hr k q.symm; omega)).trans (h.block k hk)⟩
/-- A line's columns, when the line is done. -/
theorem ColOwn.fin {w : World} {base : Nat} {v5 u10 : Value} {o : Option (List Nat)} (h : ColOwn w base v5 o) (hne : v5.ownBlock = none ∨ v5.ownBlock ≠ u10.ownBlock) : Fin w base (.slice none 0 0) u10 v5 o := by
  cases o with
  | none => exact h
  | some l =>
    obtain ⟨⟨k, c, rfl⟩, h2⟩ := h
    have h3 := own_lt h2 (k := k) rfl
    refine ⟨k, c, rfl, h3.1, h3.2, by simp [Value.ownBlock], fun e => ?_, fun i hi => ?_⟩
    · rcases hne with q | q
      · cases q
      · exact q e.symm
    · rw [h2.cellAt i (by omega)]
      simp [i32s, List.getElem?_eq_getElem hi]
/-- A line more. -/
theorem TabIn.line {w w' : World} {base g2 c2 : Nat} {v5 v10 : Value} {t : TS} {cvs : List Value} (h : TabIn w base v5 v10 t) (hc : cvs.length = t.out.length) (hf : ∀ (j : Nat) (h1 : j < cvs.length) (h2 : j < t.out.length), Fin w base v5 v10 (cvs[j]'h1) (t.out[j]'h2).cols)
    (hown : w'.ownsRow base 112 3 (.slice (some ⟨g2, 0, none⟩) (t.out.length + 1) c2) (t.out.length + 1) (rowsC cvs t.out ++ [v5, .int .i32 (t.first : Int), .int .i32 (t.lbo : Int)]))
    (kp : Kep (fun k => v10.ownBlock = some k) w w') (hat : v10.ownBlock = some g2 ∨ w.heap.size ≤ g2) : TabIn w' base (.slice none 0 0) (.slice (some ⟨g2, 0, none⟩) (t.out.length + 1) c2) t.newline := by
  have hlen : (t.out ++ [t.row]).length = t.out.length + 1 := by simp
  have h10 : (Value.slice (some ⟨g2, 0, none⟩) (t.out.length + 1) c2).ownBlock = v10.ownBlock ∨ ∃ i, w.heap.size ≤ i ∧ (Value.slice (some ⟨g2, 0, none⟩) (t.out.length + 1) c2).ownBlock = some i := by
    rcases hat with e | e
    · exact .inl e.symm
    · exact .inr ⟨g2, e, rfl⟩
  have n5 : ∀ k, v10.ownBlock = some k → v5.ownBlock = some k ∨ v10.ownBlock = some k ∨ w.heap.size ≤ k := fun k hk => .inr (.inl hk)
  have hnew : Fin w' base (.slice none 0 0) (.slice (some ⟨g2, 0, none⟩) (t.out.length + 1) c2) v5 t.cols := by
    have q := h.1.fin (u10 := v10) h.2.2
    exact q.kep kp (fun k hk => .inr (.inl hk)) (.inl rfl) h10
  refine ⟨rfl, ⟨cvs ++ [v5], ?_, ⟨g2, c2, ?_⟩, ?_, fun j h1 h2 => ?_⟩, .inl rfl⟩
  · simp [TS.newline, hc]
  · simp [TS.newline]
  · have e := rowsC_snoc cvs t.out v5 t.row hc
    have e2 : t.newline.out = t.out ++ [t.row] := rfl
    rw [e2, e, hlen]
    exact hown
  · have e2 : t.newline.out = t.out ++ [t.row] := rfl
    by_cases hj : j < cvs.length
    · have a1 : (cvs ++ [v5])[j]'h1 = cvs[j]'hj := List.getElem_append_left hj
      have a2 : (t.newline.out[j]'h2) = t.out[j]'(by omega) := by
        simp only [e2]
        exact List.getElem_append_left (by omega)
      rw [a1, a2]
      exact (hf j hj (by omega)).kep kp n5 (.inr (.inl rfl)) h10
    · have hj2 : j = t.out.length := by simp at h1; omega
      subst hj2
      have a1 : (cvs ++ [v5])[t.out.length]'h1 = v5 := by
        rw [List.getElem_append_right (by omega)]
        simp
      have a2 : (t.newline.out[t.out.length]'h2) = t.row := by
        simp only [e2]
        rw [List.getElem_append_right (Nat.le_refl _)]
        simp
      rw [a1, a2]
      exact hnew
theorem tabRun_end (s : ByteArray) (f pos : Nat) (t : TS) (h : ¬ pos < s.size) : tabRun s f pos t = t := by
  cases f with
  | zero => rfl
  | succ f => simp [tabRun, h]
/-- Lines that are done are the tables of a source. -/
theorem TabIn.tab {w : World} {base : Nat} {v10 : Value} {t : TS} (h : TabIn w base (.slice none 0 0) v10 t) : TabAt w w.heap.size v10 t.out := by
  obtain ⟨cvs, r1, ⟨k, c, rfl⟩, r3, r4⟩ := h.2.1
  have hk := (own_lt r3 (k := k) rfl).2
  refine ⟨k, c, rfl, hk, fun j hj => ⟨cvs[j]'(by omega), ?_, ?_, ?_, ?_⟩⟩
  · have := rowsC_at cvs t.out r1 j 0 (by omega) hj (by omega)
    rw [r3.cellAt (j * 3) (by omega)]
    exact this
  · have := rowsC_at cvs t.out r1 j 1 (by omega) hj (by omega)
    rw [r3.cellAt (j * 3 + 1) (by omega)]
    exact this
  · have := rowsC_at cvs t.out r1 j 2 (by omega) hj (by omega)
    rw [r3.cellAt (j * 3 + 2) (by omega)]
    exact this
  · have hf := r4 j (by omega) hj
    cases hc : (t.out[j]'hj).cols with
    | none => rw [hc] at hf; exact hf
    | some l =>
      rw [hc] at hf
      obtain ⟨q, c, a1, a2, a3, a4, a5, a6⟩ := hf
      exact ⟨q, c, a1, a3, a6⟩
def TS.more (t : TS) (l : List Nat) (j : Nat) : TS := { t with cols := some (l ++ List.replicate j t.col), cbo := t.cbo + j }
theorem TS.more_zero {t : TS} {l : List Nat} (h : t.cols = some l) : t = t.more l 0 := by
  unfold TS.more
  cases t
  cases h
  simp
theorem TS.more_succ (t : TS) (l : List Nat) (j : Nat) : { t.more l j with cols := some ((l ++ List.replicate j t.col) ++ [(t.more l j).col]), cbo := (t.more l j).cbo + 1 } = t.more l (j + 1) := by
  simp [TS.more, List.replicate_succ', Nat.add_assoc]
theorem TS.fill_more {t : TS} {l : List Nat} (h : t.cols = some l) (i : Nat) : t.more l (i - t.lbo + 1 - t.cbo) = t.fill i := by
  unfold TS.fill
  rw [h]
  rfl

set_option maxHeartbeats 8000000 in
set_option maxRecDepth 100000 in
theorem tabs_any (s : ByteArray) (ln : Nat) (w : World) (hs : s.size ≤ 16777216) (hln : ln ≤ 1000) :
    Calls Tryd.prog 30 #[.string s, .int .i32 (ln : Int)] w fun e w' => ∃ tv, e = .returned tv ∧ TabAt w' w'.heap.size tv (tabsOf s) ∧ Below w.heap.size w w' := by
  obtain ⟨iT, hiT, hT0, hT1, hT2⟩ := info_parts info_lot
  obtain ⟨iI, hiI, hI0, hI1, hI2⟩ := info_parts info_i32
  generalize hTT : tabRun s s.size 0 TS.zero = T
  have HTT := Lib.hid hTT
  have heql := fun (a : Option Addr) (n c : Nat) (W : World) => Lib.run_eql_slice_nil (P := Tryd.prog) W 110 21 a n c 0 0 Tryd.underlying110
  have hneq := fun (a : Option Addr) (n c : Nat) (W : World) => run_neq_slice_nil_any (P := Tryd.prog) W 110 21 a n c 0 0 Tryd.underlying110
  go_enter Tryd.func30, Tryd.ntmps30
  go_wp2_with (at_make; refine wpList_make_own _ rfl _ _ 75 rfl w.heap.size 112 iT _ 3 Tryd.underlying75 hiT hT0 hT1 .i64 .i32 _ ln rfl rfl rfl (by rw [hT2]; omega) (by unfold maxLen; omega) (Nat.le_refl _) ?_; intro W1 hown1 hg1; have O1 := Lib.hid hown1; have G1 := Lib.hid hg1; clear hown1 hg1)
  go_loopg [5, 6, 7, 8, 9, 10] s.size (fun f s5 s6 s7 s8 s9 s10 wr => ∃ (pos : Nat) (t : TS), wr.heap[W1.heap.size]? = some (.stringIter s pos) ∧ s6 = .int .i32 (t.first : Int) ∧ s7 = .int .i64 (t.lbo : Int) ∧ s8 = .int .i64 (t.cbo : Int) ∧ s9 = .int .i32 (t.col : Int) ∧ Hid (tabRun s f pos t = T) ∧ s.size ≤ pos + f ∧ pos ≤ s.size ∧ t.Ok pos ∧ TabIn wr w.heap.size s5 s10 t ∧ Below w.heap.size w wr)
  case atStart =>
    refine ⟨0, TS.zero, World.iter_heap _ _ _, rfl, rfl, rfl, rfl, HTT, by omega, by omega, TS.Ok.zero, ⟨rfl, ⟨[], rfl, ⟨_, _, rfl⟩, O1.out.alloc _, fun j h1 => absurd h1 (by simp)⟩, .inl rfl⟩, ?_⟩
    exact balloc ⟨G1.out.os, G1.out.tape, G1.out.output, G1.out.size, fun k hk => G1.out.block k hk (by simp)⟩ _
  case round =>
    obtain ⟨pos, t, hit, rfl, rfl, rfl, rfl, hrun, hfu, hps, hok, hin, hbw⟩ := hrel
    have hkz : W1.heap.size < wr.heap.size := (Array.getElem?_eq_some_iff.1 hit).1
    by_cases hp : pos < s.size
    · obtain ⟨f, rfl⟩ : ∃ f, gk = f + 1 := ⟨gk - 1, by omega⟩
      have hnx : ∀ ty, (Instr.next (.pointer (some ⟨W1.heap.size, 0, none⟩)) true ty).run Tryd.prog wr = _ := fun ty => Lib.run_next_any_at wr W1.heap.size s pos ty hit hp
      have hwd := width1 s pos hp
      have hwe := decode_end s pos hp
      have hcle := decode_le s pos
      have hIn1 := Lib.hid (hin.iterAt hit (pos + (Utf8.decode s pos).2))
      have hB1 : Hid (Below w.heap.size w (wr.iterAt W1.heap.size s (pos + (Utf8.decode s pos).2))) := Lib.hid ((Kep.iterAt (X := fun _ => False) (Kep.of_below hbw) (.inr (by have := G1.out.size; omega)) s _).below (Nat.le_refl _) (fun _ _ q => q))
      have hI1 := Lib.hid (Lib.iterAt_heap wr W1.heap.size s pos (pos + (Utf8.decode s pos).2) hit)
      have hrun1 : tabRun s (f + 1) pos t = tabRun s f (pos + (Utf8.decode s pos).2) (t.step s pos (Utf8.decode s pos).1) := by simp [tabRun, hp]
      have hst := hrun.out
      rw [hrun1] at hst
      have HST := Lib.hid hst
      have HOS := Lib.hid (hok.step s (Utf8.decode s pos).1)
      generalize wr.iterAt W1.heap.size s (pos + (Utf8.decode s pos).2) = W2 at *
      generalize (Utf8.decode s pos).2 = wd at *
      generalize (Utf8.decode s pos).1 = c at *
      clear hrun1 hrun hit hbw hin hst
      have HOK := Lib.hid hok
      have o1 := hok.lbo
      have o2 := hok.col
      have o3 := hok.cbo
      have o4 := hok.first
      clear hok
      go_upto_if 24 with fail
      go_cut [7] (fun s7 wx => s7 = .int .i64 ((t.mark pos).lbo : Int) ∧ W2 = wx)
      case first =>
        by_cases hc0 : t.col = 0
        · have E : Hid ((t.mark pos).lbo = pos) := Lib.hid (by unfold TS.mark; rw [if_pos hc0])
          have h0 : ((t.col : Int) == 0) = true := by simp; omega
          clear hc0
          go_wp2_with fail
          go_meet
          exact ⟨by rw [E.out], rfl⟩
        · have E : Hid ((t.mark pos).lbo = t.lbo) := Lib.hid (by unfold TS.mark; rw [if_neg hc0])
          have h0 : ((t.col : Int) == 0) = false := by simp; omega
          clear hc0
          go_wp2_with fail
          go_meet
          exact ⟨by rw [E.out], rfl⟩
      case rest =>
      obtain ⟨rfl, rfl⟩ := hcut
      rw [← mark_first t pos, ← mark_cbo t pos, ← mark_col t pos]
      have HIN := Lib.hid (hIn1.out.mark pos)
      have HOK1 := Lib.hid HOK.out.mark
      have HST1 : Hid (tabRun s f (pos + wd) ((((t.mark pos).opn pos c).fill pos).eat s pos c) = T) := HST
      have HOS1 : Hid (((((t.mark pos).opn pos c).fill pos).eat s pos c).Ok (pos + 1)) := HOS
      clear HOS
      generalize t.mark pos = t1 at *
      have o1 := HOK1.out.lbo
      have o2 := HOK1.out.col
      have o3 := HOK1.out.cbo
      have o4 := HOK1.out.first
      clear HOK HST hIn1
      obtain ⟨bo, hbo⟩ : ∃ bo, bo = decide (127 < c ∧ t1.cols = none) := ⟨_, rfl⟩
      have HBO := Lib.hid hbo
      clear hbo
      go_upto_region 12 with fail
      go_cut [31] (fun s31 wx => s31 = .bool bo ∧ W2 = wx)
      case first =>
        rcases HIN.out.1.form with ⟨hn, rfl⟩ | ⟨l, k5, c5, hn, rfl⟩
        · by_cases h7 : 127 < c
          · have h7' : (127 : Int) < (c : Int) := by omega
            have E : Hid (bo = true) := Lib.hid (by rw [HBO.out, hn]; simp [h7])
            clear hn h7
            go_wp2_with fail
            all_goals go_meet
            all_goals exact ⟨by rw [E.out], rfl⟩
          · have h7' : ¬ (127 : Int) < (c : Int) := by omega
            have E : Hid (bo = false) := Lib.hid (by rw [HBO.out]; simp [h7])
            clear hn h7
            go_wp2_with fail
            all_goals go_meet
            all_goals exact ⟨by rw [E.out], rfl⟩
        · have E : Hid (bo = false) := Lib.hid (by rw [HBO.out, hn]; simp)
          by_cases h7 : 127 < c
          · have h7' : (127 : Int) < (c : Int) := by omega
            clear hn h7
            go_wp2_with fail
            all_goals go_meet
            all_goals exact ⟨by rw [E.out], rfl⟩
          · have h7' : ¬ (127 : Int) < (c : Int) := by omega
            clear hn h7
            go_wp2_with fail
            all_goals go_meet
            all_goals exact ⟨by rw [E.out], rfl⟩
      case rest =>
      obtain ⟨rfl, rfl⟩ := hcut
      go_upto_if 31 with fail
      go_cut [5, 6, 8] (fun s5 s6 s8 wx => ∃ t2 : TS, Hid (t2 = t1.opn pos c) ∧ s6 = .int .i32 (t2.first : Int) ∧ s8 = .int .i64 (t2.cbo : Int) ∧ TabIn wx w.heap.size s5 u10 t2 ∧ wx.heap[W1.heap.size]? = some (.stringIter s (pos + wd)) ∧ Below w.heap.size w wx)
      case first =>
        rcases bo with _ | _
        · have E : Hid (t1 = t1.opn pos c) := Lib.hid (by unfold TS.opn; rw [if_neg (of_decide_eq_false HBO.out.symm)])
          go_wp2_with fail
          go_meet
          exact ⟨t1, E, rfl, rfl, HIN.out, hI1.out, hB1.out⟩
        · have hb := of_decide_eq_true HBO.out.symm
          have E : Hid ({ t1 with cbo := pos - t1.lbo, first := pos - t1.lbo, cols := some [] } = t1.opn pos c) := Lib.hid (by unfold TS.opn; rw [if_pos hb])
          have hn := hb.2
          have hnil : u5 = .slice none 0 0 := by have := HIN.out.1; rw [hn] at this; exact this
          subst hnil
          have hzz : w.heap.size ≤ W2.heap.size := hB1.out.size
          clear hb hn
          go_wp2_with fail
          go_meet
          refine ⟨{ t1 with cbo := pos - t1.lbo, first := pos - t1.lbo, cols := some [] }, E, by go_num, by go_num, ⟨⟨⟨_, _, rfl⟩, ⟨rfl, .inr ⟨W2.heap.size, 0, #[], rfl, hzz, heap_alloc_new _ _, Nat.le_refl _, by unfold maxLen; omega, rfl, rfl⟩⟩⟩, HIN.out.2.1.turn ((Kep.refl (fun _ => False) W2).alloc _) (fun _ q => q.elim) (.inr (.inr ⟨W2.heap.size, Nat.le_refl _, rfl⟩)), .inr (fun e => ?_)⟩, ?_, balloc hB1.out _⟩
          · have := HIN.out.2.1.lt e.symm
            simp at this
          · rw [Below.heap_alloc _ _ _ (by have := (Array.getElem?_eq_some_iff.1 hI1.out).1; exact this)]
            exact hI1.out
      case rest =>
      obtain ⟨t2, ht2, rfl, rfl, hIN2, hI2, hB2⟩ := hcut
      have e9 : t1.col = t2.col := by rw [ht2.out]; unfold TS.opn; split <;> rfl
      have e7 : t1.lbo = t2.lbo := by rw [ht2.out]; unfold TS.opn; split <;> rfl
      rw [e9, e7]
      have HOK2 : Hid (t2.Ok pos) := Lib.hid (by rw [ht2.out]; exact HOK1.out.opn c)
      have HST2 : Hid (tabRun s f (pos + wd) ((t2.fill pos).eat s pos c) = T) := Lib.hid (by rw [ht2.out]; exact HST1.out)
      have HOS2 : Hid (((t2.fill pos).eat s pos c).Ok (pos + 1)) := Lib.hid (by rw [ht2.out]; exact HOS1.out)
      clear HOS1
      obtain ⟨W3, hW3⟩ : ∃ W3, W3 = wc := ⟨_, rfl⟩
      rw [← hW3] at hIN2 hI2 hB2
      rw [← hW3]
      clear hW3 e9 e7 ht2 HOK1 HST1 HIN hI1 hB1 HBO
      have o1 := HOK2.out.lbo
      have o2 := HOK2.out.col
      have o3 := HOK2.out.cbo
      have o4 := HOK2.out.first
      have HIN2 := Lib.hid hIN2
      have HI2 := Lib.hid hI2
      have HB2 := Lib.hid hB2
      clear hIN2 hI2 hB2
      obtain ⟨bc, hbc⟩ : ∃ bc, bc = t2.cols.isSome := ⟨_, rfl⟩
      have HBC := Lib.hid hbc
      clear hbc
      go_upto_region 16 with fail
      go_cut [39] (fun s39 wx => s39 = .bool bc ∧ W3 = wx)
      case first =>
        rcases HIN2.out.1.form with ⟨hn, hv⟩ | ⟨l, k5, c5, hn, hv⟩
        · have E : Hid (bc = false) := Lib.hid (by rw [HBC.out, hn]; rfl)
          subst hv
          clear hn
          go_wp2_with fail
          go_meet
          exact ⟨by rw [E.out], rfl⟩
        · have E : Hid (bc = true) := Lib.hid (by rw [HBC.out, hn]; rfl)
          subst hv
          clear hn
          go_wp2_with fail
          go_meet
          exact ⟨by rw [E.out], rfl⟩
      case rest =>
      obtain ⟨rfl, rfl⟩ := hcut
      go_upto_if 39 with fail
      go_cut [5, 8] (fun s5 s8 wx => ∃ t3 : TS, Hid (t3 = t2.fill pos) ∧ s8 = .int .i64 (t3.cbo : Int) ∧ TabIn wx w.heap.size s5 u10 t3 ∧ wx.heap[W1.heap.size]? = some (.stringIter s (pos + wd)) ∧ Below w.heap.size w wx)
      case first =>
        rcases bc with _ | _
        · have E : Hid (t2 = t2.fill pos) := Lib.hid (by
            have h := HBC.out
            unfold TS.fill
            cases hc : t2.cols with
            | none => rfl
            | some l => rw [hc] at h; cases h)
          go_wp2_with fail
          go_meet
          exact ⟨t2, E, rfl, HIN2.out, HI2.out, HB2.out⟩
        · obtain ⟨l0, hl0⟩ : ∃ l0, t2.cols = some l0 := by
            have h := HBC.out
            cases hc : t2.cols with
            | none => rw [hc] at h; cases h
            | some l => exact ⟨l, rfl⟩
          have hl0n := (HOK2.out.bd l0 hl0).2
          have HL0 := Lib.hid hl0
          clear hl0
          obtain ⟨m, hm⟩ : ∃ m, m = pos - t2.lbo + 1 - t2.cbo := ⟨_, rfl⟩
          have HM : Hid (t2.more l0 m = t2.fill pos) := Lib.hid (by rw [hm]; exact TS.fill_more HL0.out pos)
          go_wp2_with fail
          go_loopg [5, 8] m (fun g s5 s8 wr2 => ∃ j : Nat, j + g = m ∧ s8 = .int .i64 ((t2.cbo + j : Nat) : Int) ∧ TabIn wr2 w.heap.size s5 u10 (t2.more l0 j) ∧ wr2.heap[W1.heap.size]? = some (.stringIter s (pos + wd)) ∧ Below w.heap.size w wr2)
          case atStart =>
            refine ⟨0, by omega, rfl, ?_, HI2.out, HB2.out⟩
            rw [← TS.more_zero HL0.out]
            exact HIN2.out
          case round =>
            obtain ⟨j, hj, rfl, hin3, hi3, hb3⟩ := hrel
            have HIN3 := Lib.hid hin3
            have HI3 := Lib.hid hi3
            have HB3 := Lib.hid hb3
            clear hin3 hi3 hb3
            by_cases hg0 : gk = 0
            · have hle : ¬ ((t2.cbo + j : Nat) : Int) ≤ (pos : Int) - (t2.lbo : Int) := by omega
              have hjm : j = m := by omega
              go_wp2_with fail
              go_meet
              subst hjm
              exact ⟨t2.more l0 j, HM, by simp only [TS.more]; go_num, HIN3.out, HI3.out, HB3.out⟩
            · have hle : ((t2.cbo + j : Nat) : Int) ≤ (pos : Int) - (t2.lbo : Int) := by omega
              obtain ⟨g, rfl⟩ : ∃ g, gk = g + 1 := ⟨gk - 1, by omega⟩
              have hcol : (t2.more l0 j).col = t2.col := rfl
              have HC := Lib.hid HIN3.out.1
              have hlen : (l0 ++ List.replicate j t2.col).length ≤ 33554436 := by rw [List.length_append, List.length_replicate]; omega
              have hbz := HB3.out.size
              go_wp2_with (at_builtin; refine wpList_append_lies _ rfl (.tmp 48) (.tmp 50) _ rfl w.heap.size 21 iI _ 1 4 Tryd.underlying110 hiI hI0 hI1 hI2 rfl (by omega) u5 (l0 ++ List.replicate j t2.col).length (i32s (l0 ++ List.replicate j t2.col)) rfl (HC.out.2.alloc _) ⟨wr.heap.size, 0, none⟩ 1 1 [.int .i32 (t2.col : Int)] rfl rfl (World.news_of_block (cs := #[.int .i32 (t2.col : Int)]) (t := 21) (fr := (0, 0)) (heap_alloc_new _ _)) (by intro u hu; simp at hu; subst hu; rfl) (by omega) (by unfold maxLen; omega) (by omega) (by simp; omega) (wr.heap.size + 1) (by simp) ?_; intro g2 cp2 w2 hown2 hg2 hat2 hlt2; have O2 := Lib.hid hown2; have G2 := Lib.hid hg2; have A2 := Lib.hid hat2; clear hown2 hg2 hat2 hlt2)
              go_roundg g
              case measure => omega
              case rel =>
                refine ⟨j + 1, by omega, by go_num, ?_, it_grown HI3.out G2.out (HIN3.out.it5 HI3.out), tab_grown (balloc HB3.out _) (Nat.le_refl _) G2.out (fun k hk => HIN3.out.ge5 hk)⟩
                rw [← TS.more_succ]
                have q := HIN3.out.push O2.out G2.out A2.out rfl
                rw [List.length_append, List.length_replicate] at q
                exact q
      case rest =>
      obtain ⟨t3, ht3, rfl, hIN3, hI3, hB3⟩ := hcut
      have f6 : t2.first = t3.first := by rw [ht3.out]; unfold TS.fill; split <;> rfl
      have f7 : t2.lbo = t3.lbo := by rw [ht3.out]; unfold TS.fill; split <;> rfl
      have f9 : t2.col = t3.col := by rw [ht3.out]; unfold TS.fill; split <;> rfl
      rw [f6, f7, f9]
      have HOK3 : Hid (t3.Ok (pos + 1)) := Lib.hid (by rw [ht3.out]; exact HOK2.out.fill.1)
      have HST3 : Hid (tabRun s f (pos + wd) (t3.eat s pos c) = T) := Lib.hid (by rw [ht3.out]; exact HST2.out)
      have HOS3 : Hid ((t3.eat s pos c).Ok (pos + wd)) := Lib.hid (by rw [ht3.out]; exact HOS2.out.mono (by omega))
      clear HOS2
      obtain ⟨W4, hW4⟩ : ∃ W4, W4 = wc := ⟨_, rfl⟩
      rw [← hW4] at hIN3 hI3 hB3
      rw [← hW4]
      clear hW4 f6 f7 f9 ht3 HOK2 HST2 HIN2 HI2 HB2 HBC
      have o1 := HOK3.out.lbo
      have o2 := HOK3.out.col
      have o3 := HOK3.out.cbo
      have o4 := HOK3.out.first
      have o5 := HOK3.out.len
      have HIN3 := Lib.hid hIN3
      have HI3 := Lib.hid hI3
      have HB3 := Lib.hid hB3
      clear hIN3 hI3 hB3
      by_cases hnl : isNl c = true
      · have hnc : c = 13 ∨ c = 10 ∨ c = 8232 ∨ c = 8233 := by simpa [isNl] using hnl
        have Hnl := Lib.hid hnl
        have HC := Lib.hid hnc
        clear hnl hnc
        by_cases hcl : c = 13 ∧ lfAt s (pos + 1) = true
        · have E : Hid (t3.eat s pos c = { t3 with col := t3.col + 1 }) := Lib.hid (by unfold TS.eat; rw [if_pos Hnl.out, if_pos hcl])
          have hlf : pos + 1 < s.size ∧ btn s (pos + 1) = 10 := by simpa [lfAt] using hcl.2
          obtain ⟨rfl, hlf0⟩ := hcl
          have hlf1 := hlf.1
          have hix : ((s.get! (pos + 1)).toNat : Int) = 10 := by
            have := hlf.2
            unfold btn at this
            omega
          clear hlf0 hlf
          go_upto_region 29 with fail
          go_cut [79] (fun s79 wx => s79 = .bool true ∧ W4 = wx)
          case first =>
            go_wp2_with fail
            go_meet
            refine ⟨?_, rfl⟩
            have e2 : (s[pos + 1]'hlf1).toNat = 10 := by rw [← get_at' s (pos + 1) hlf1]; omega
            simp [e2]
          case rest =>
          obtain ⟨rfl, rfl⟩ := hcut
          go_wp2_with fail
          go_roundg f
          case measure => omega
          case rel =>
            refine ⟨pos + wd, t3.eat s pos 13, HI3.out, by rw [E.out], by rw [E.out], by rw [E.out], by rw [E.out]; go_num, HST3, by omega, by omega, HOS3.out, by rw [E.out]; exact HIN3.out, HB3.out⟩
        · have E : Hid (t3.eat s pos c = t3.newline) := Lib.hid (by unfold TS.eat; rw [if_pos Hnl.out, if_neg hcl])
          have HL := Lib.hid hcl
          clear hcl
          go_upto_if 59 with fail
          go_cut [59] (fun s59 wx => s59 = .bool true ∧ W4 = wx)
          case first =>
            rcases HC.out with rfl | rfl | rfl | rfl
            all_goals go_wp2_with fail
            all_goals go_meet
            all_goals exact ⟨rfl, rfl⟩
          case rest =>
          obtain ⟨rfl, rfl⟩ := hcut
          go_upto_region 29 with fail
          go_cut [79] (fun s79 wx => s79 = .bool false ∧ W4 = wx)
          case first =>
            by_cases hc13 : c = 13
            · subst hc13
              have hnlf : ¬ lfAt s (pos + 1) = true := fun q => HL.out ⟨rfl, q⟩
              by_cases hp1 : pos + 1 < s.size
              · have hb10 : ¬ (s[pos + 1]'hp1).toNat = 10 := fun q => hnlf (by simp [lfAt, hp1, btn, get_at' s (pos + 1) hp1, q])
                have HB10 := Lib.hid hb10
                clear hnlf hb10
                go_wp2_with fail
                go_meet
                refine ⟨?_, rfl⟩
                have := HB10.out
                simp
                omega
              · clear hnlf
                go_wp2_with fail
                go_meet
                exact ⟨rfl, rfl⟩
            · have h1 : ((c : Int) == 13) = false := by simp; omega
              go_wp2_with fail
              go_meet
              exact ⟨rfl, rfl⟩
          case rest =>
          obtain ⟨rfl, rfl⟩ := hcut
          obtain ⟨cvs, r1, ⟨k10, c10, r2⟩, r3, r4⟩ := HIN3.out.2.1
          have R1 := Lib.hid r1
          have R3 := Lib.hid r3
          have R4 := Lib.hid r4
          clear r1 r3 r4
          obtain ⟨a5, n5, c5, h5⟩ : ∃ a n c, u5 = .slice a n c := by
            rcases HIN3.out.1.form with ⟨_, h⟩ | ⟨_, _, _, _, h⟩
            · exact ⟨_, _, _, h⟩
            · exact ⟨_, _, _, h⟩
          subst h5 r2
          have hbz := HB3.out.size
          go_wp2_with (at_builtin; refine wpList_append_lies _ rfl (.tmp 82) (.tmp 88) _ rfl w.heap.size 112 iT _ 3 32 Tryd.underlying75 hiT hT0 hT1 hT2 rfl (by omega) (.slice (some ⟨k10, 0, none⟩) t3.out.length c10) t3.out.length (rowsC cvs t3.out) rfl (R3.out.alloc _) ⟨W4.heap.size, 0, none⟩ 1 1 [.slice a5 n5 c5, .int .i32 (t3.first : Int), .int .i32 (t3.lbo : Int)] rfl rfl (World.news_of_block (cs := #[.slice a5 n5 c5, .int .i32 (t3.first : Int), .int .i32 (t3.lbo : Int)]) (t := 112) (fr := (0, 0)) (heap_alloc_new _ _)) (by intro u hu; simp at hu; rcases hu with rfl | rfl | rfl <;> rfl) (by omega) (by unfold maxLen; omega) (by omega) (by simp; omega) (W4.heap.size + 1) (by simp) ?_; intro g2 cp2 w2 hown2 hg2 hat2 hlt2; have O2 := Lib.hid hown2; have G2 := Lib.hid hg2; have A2 := Lib.hid hat2; clear hown2 hg2 hat2 hlt2)
          go_roundg f
          case measure => omega
          case rel =>
            refine ⟨pos + wd, t3.eat s pos c, it_grown HI3.out G2.out (HIN3.out.it10 HI3.out), by rw [E.out]; rfl, by rw [E.out]; rfl, by rw [E.out]; rfl, by rw [E.out]; rfl, HST3, by omega, by omega, HOS3.out, ?_, tab_grown (balloc HB3.out _) (Nat.le_refl _) G2.out (fun k hk => HIN3.out.ge10 hk)⟩
            rw [E.out]
            refine HIN3.out.line R1.out R4.out O2.out (((Kep.refl _ W4).alloc _).then (Kep.of_grown G2.out) (fun i hi => .inl hi)) ?_
            rcases A2.out with q | q
            · exact .inl q
            · exact .inr (by omega)
      · have Hnl := Lib.hid hnl
        have hn1 : ((c : Int) == 13) = false := by simp [isNl] at hnl; simp; omega
        have hn2 : ((c : Int) == 10) = false := by simp [isNl] at hnl; simp; omega
        have hn3 : ((c : Int) == 8232) = false := by simp [isNl] at hnl; simp; omega
        have hn4 : ((c : Int) == 8233) = false := by simp [isNl] at hnl; simp; omega
        clear hnl
        by_cases h6 : c ≤ 65535
        · have E : Hid (t3.eat s pos c = { t3 with col := t3.col + 1 }) := Lib.hid (by unfold TS.eat; rw [if_neg Hnl.out, if_pos h6])
          go_wp2_with fail
          go_roundg f
          case measure => omega
          case rel =>
            refine ⟨pos + wd, t3.eat s pos c, HI3.out, by rw [E.out], by rw [E.out], by rw [E.out], by rw [E.out]; go_num, HST3, by omega, by omega, HOS3.out, by rw [E.out]; exact HIN3.out, HB3.out⟩
        · have E : Hid (t3.eat s pos c = { t3 with col := t3.col + 2 }) := Lib.hid (by unfold TS.eat; rw [if_neg Hnl.out, if_neg h6])
          go_wp2_with fail
          go_roundg f
          case measure => omega
          case rel =>
            refine ⟨pos + wd, t3.eat s pos c, HI3.out, by rw [E.out], by rw [E.out], by rw [E.out], by rw [E.out]; go_num, HST3, by omega, by omega, HOS3.out, by rw [E.out]; exact HIN3.out, HB3.out⟩
    · have hnx : ∀ ty, (Instr.next (.pointer (some ⟨W1.heap.size, 0, none⟩)) true ty).run Tryd.prog wr = _ := fun ty => Lib.run_next_end_at wr W1.heap.size s pos ty hit hp
      have hT := hrun.out
      rw [tabRun_end s gk pos t hp] at hT
      subst hT
      have hpe : pos = s.size := by omega
      subst hpe
      have HOK := Lib.hid hok
      have o1 := hok.lbo
      have o2 := hok.col
      have o3 := hok.cbo
      have o4 := hok.first
      have HIN0 := Lib.hid hin
      have HB0 := Lib.hid hbw
      clear hok hin hbw hrun hit
      go_upto_if 91 with fail
      go_cut [7] (fun s7 wx => s7 = .int .i64 ((t.mark s.size).lbo : Int) ∧ wr = wx)
      case first =>
        by_cases hc0 : t.col = 0
        · have E : Hid ((t.mark s.size).lbo = s.size) := Lib.hid (by unfold TS.mark; rw [if_pos hc0])
          have h0 : ((t.col : Int) == 0) = true := by simp; omega
          clear hc0
          go_wp2_with fail
          go_meet
          exact ⟨by rw [E.out], rfl⟩
        · have E : Hid ((t.mark s.size).lbo = t.lbo) := Lib.hid (by unfold TS.mark; rw [if_neg hc0])
          have h0 : ((t.col : Int) == 0) = false := by simp; omega
          clear hc0
          go_wp2_with fail
          go_meet
          exact ⟨by rw [E.out], rfl⟩
      case rest =>
      obtain ⟨rfl, rfl⟩ := hcut
      rw [← mark_first t s.size, ← mark_cbo t s.size, ← mark_col t s.size]
      have HIN2 := Lib.hid (HIN0.out.mark s.size)
      have HOK2 := Lib.hid HOK.out.mark
      obtain ⟨FT, hFT⟩ : ∃ FT, FT = t.finish s := ⟨_, rfl⟩
      have HF1 : Hid (FT = (t.mark s.size).fill s.size) := Lib.hid hFT
      have HF0 := Lib.hid hFT
      clear hFT
      generalize t.mark s.size = t2 at *
      have o1 := HOK2.out.lbo
      have o2 := HOK2.out.col
      have o3 := HOK2.out.cbo
      have o4 := HOK2.out.first
      clear HOK HIN0
      obtain ⟨bc, hbc⟩ : ∃ bc, bc = t2.cols.isSome := ⟨_, rfl⟩
      have HBC := Lib.hid hbc
      clear hbc
      go_upto_region 38 with fail
      go_cut [95] (fun s95 wx => s95 = .bool bc ∧ wr = wx)
      case first =>
        rcases HIN2.out.1.form with ⟨hn, hv⟩ | ⟨l, k5, c5, hn, hv⟩
        · have E : Hid (bc = false) := Lib.hid (by rw [HBC.out, hn]; rfl)
          subst hv
          clear hn
          go_wp2_with fail
          go_meet
          exact ⟨by rw [E.out], rfl⟩
        · have E : Hid (bc = true) := Lib.hid (by rw [HBC.out, hn]; rfl)
          subst hv
          clear hn
          go_wp2_with fail
          go_meet
          exact ⟨by rw [E.out], rfl⟩
      case rest =>
      obtain ⟨rfl, rfl⟩ := hcut
      go_upto_if 95 with fail
      go_cut [5] (fun s5 wx => TabIn wx w.heap.size s5 u10 FT ∧ Below w.heap.size w wx)
      case first =>
        rcases bc with _ | _
        · have E : Hid (t2 = FT) := Lib.hid (by
            have h := HBC.out
            rw [HF1.out]
            unfold TS.fill
            cases hc : t2.cols with
            | none => rfl
            | some l => rw [hc] at h; cases h)
          go_wp2_with fail
          go_meet
          exact ⟨by rw [← E.out]; exact HIN2.out, HB0.out⟩
        · obtain ⟨l0, hl0⟩ : ∃ l0, t2.cols = some l0 := by
            have h := HBC.out
            cases hc : t2.cols with
            | none => rw [hc] at h; cases h
            | some l => exact ⟨l, rfl⟩
          have hl0n := (HOK2.out.bd l0 hl0).2
          have HL0 := Lib.hid hl0
          clear hl0
          obtain ⟨m, hm⟩ : ∃ m, m = s.size - t2.lbo + 1 - t2.cbo := ⟨_, rfl⟩
          have HM : Hid (t2.more l0 m = FT) := Lib.hid (by rw [hm, HF1.out]; exact TS.fill_more HL0.out s.size)
          go_wp2_with fail
          go_loopg [5, 8] m (fun g s5 s8 wr2 => ∃ j : Nat, j + g = m ∧ s8 = .int .i64 ((t2.cbo + j : Nat) : Int) ∧ TabIn wr2 w.heap.size s5 u10 (t2.more l0 j) ∧ Below w.heap.size w wr2)
          case atStart =>
            refine ⟨0, by omega, rfl, ?_, HB0.out⟩
            rw [← TS.more_zero HL0.out]
            exact HIN2.out
          case round =>
            obtain ⟨j, hj, rfl, hin3, hb3⟩ := hrel
            have HIN3 := Lib.hid hin3
            have HB3 := Lib.hid hb3
            clear hin3 hb3
            by_cases hg0 : gk = 0
            · have hle : ¬ ((t2.cbo + j : Nat) : Int) ≤ (s.size : Int) - (t2.lbo : Int) := by omega
              have hjm : j = m := by omega
              go_wp2_with fail
              go_meet
              subst hjm
              exact ⟨by rw [← HM.out]; exact HIN3.out, HB3.out⟩
            · have hle : ((t2.cbo + j : Nat) : Int) ≤ (s.size : Int) - (t2.lbo : Int) := by omega
              obtain ⟨g, rfl⟩ : ∃ g, gk = g + 1 := ⟨gk - 1, by omega⟩
              have hcol : (t2.more l0 j).col = t2.col := rfl
              have HC := Lib.hid HIN3.out.1
              have hlen : (l0 ++ List.replicate j t2.col).length ≤ 33554436 := by rw [List.length_append, List.length_replicate]; omega
              have hbz := HB3.out.size
              go_wp2_with (at_builtin; refine wpList_append_lies _ rfl (.tmp 105) (.tmp 107) _ rfl w.heap.size 21 iI _ 1 4 Tryd.underlying110 hiI hI0 hI1 hI2 rfl (by omega) u5 (l0 ++ List.replicate j t2.col).length (i32s (l0 ++ List.replicate j t2.col)) rfl (HC.out.2.alloc _) ⟨wr.heap.size, 0, none⟩ 1 1 [.int .i32 (t2.col : Int)] rfl rfl (World.news_of_block (cs := #[.int .i32 (t2.col : Int)]) (t := 21) (fr := (0, 0)) (heap_alloc_new _ _)) (by intro u hu; simp at hu; subst hu; rfl) (by omega) (by unfold maxLen; omega) (by omega) (by simp; omega) (wr.heap.size + 1) (by simp) ?_; intro g2 cp2 w2 hown2 hg2 hat2 hlt2; have O2 := Lib.hid hown2; have G2 := Lib.hid hg2; have A2 := Lib.hid hat2; clear hown2 hg2 hat2 hlt2)
              go_roundg g
              case measure => omega
              case rel =>
                refine ⟨j + 1, by omega, by go_num, ?_, tab_grown (balloc HB3.out _) (Nat.le_refl _) G2.out (fun k hk => HIN3.out.ge5 hk)⟩
                rw [← TS.more_succ]
                have q := HIN3.out.push O2.out G2.out A2.out rfl
                rw [List.length_append, List.length_replicate] at q
                exact q
      case rest =>
      obtain ⟨hIN3, hB3⟩ := hcut
      have f6 : t2.first = FT.first := by rw [HF1.out]; unfold TS.fill; split <;> rfl
      have f7 : t2.lbo = FT.lbo := by rw [HF1.out]; unfold TS.fill; split <;> rfl
      rw [f6, f7]
      have HOK3 : Hid (FT.Ok (s.size + 1)) := Lib.hid (by rw [HF1.out]; exact HOK2.out.fill.1)
      have o1 := HOK3.out.lbo
      have o4 := HOK3.out.first
      have o5 := HOK3.out.len
      have HIN3 := Lib.hid hIN3
      have HB3 := Lib.hid hB3
      clear hIN3 hB3 HF1 HOK2 HIN2 HBC f6 f7
      obtain ⟨W4, hW4⟩ : ∃ W4, W4 = wc := ⟨_, rfl⟩
      rw [← hW4] at HIN3 HB3
      rw [← hW4]
      clear hW4
      obtain ⟨cvs, r1, ⟨k10, c10, r2⟩, r3, r4⟩ := HIN3.out.2.1
      have R1 := Lib.hid r1
      have R3 := Lib.hid r3
      have R4 := Lib.hid r4
      clear r1 r3 r4
      obtain ⟨a5, n5, c5, h5⟩ : ∃ a n c, u5 = .slice a n c := by
        rcases HIN3.out.1.form with ⟨_, h⟩ | ⟨_, _, _, _, h⟩
        · exact ⟨_, _, _, h⟩
        · exact ⟨_, _, _, h⟩
      subst h5 r2
      have hbz := HB3.out.size
      go_wp2_with (at_builtin; refine wpList_append_lies _ rfl (.tmp 109) (.tmp 115) _ rfl w.heap.size 112 iT _ 3 32 Tryd.underlying75 hiT hT0 hT1 hT2 rfl (by omega) (.slice (some ⟨k10, 0, none⟩) FT.out.length c10) FT.out.length (rowsC cvs FT.out) rfl (R3.out.alloc _) ⟨W4.heap.size, 0, none⟩ 1 1 [.slice a5 n5 c5, .int .i32 (FT.first : Int), .int .i32 (FT.lbo : Int)] rfl rfl (World.news_of_block (cs := #[.slice a5 n5 c5, .int .i32 (FT.first : Int), .int .i32 (FT.lbo : Int)]) (t := 112) (fr := (0, 0)) (heap_alloc_new _ _)) (by intro u hu; simp at hu; rcases hu with rfl | rfl | rfl <;> rfl) (by omega) (by unfold maxLen; omega) (by omega) (by simp; omega) (W4.heap.size + 1) (by simp) ?_; intro g2 cp2 w2 hown2 hg2 hat2 hlt2; have O2 := Lib.hid hown2; have G2 := Lib.hid hg2; have A2 := Lib.hid hat2; clear hown2 hg2 hat2 hlt2)
      go_ret
      refine ⟨_, rfl, ?_, tab_grown (balloc HB3.out _) (Nat.le_refl _) G2.out (fun k hk => HIN3.out.ge10 hk)⟩
      have q := HIN3.out.line R1.out R4.out O2.out (((Kep.refl _ W4).alloc _).then (Kep.of_grown G2.out) (fun i hi => .inl hi)) (by
        rcases A2.out with q | q
        · exact .inl q
        · exact .inr (by omega))
      have q2 := q.tab
      have e : tabsOf s = FT.newline.out := by
        unfold tabsOf
        rw [HTT.out, HF0.out]
        rfl
      rw [e]
      exact q2
end Go.Proofs.YtnokiikgnplpmaaDoor

/-
  The bytes of a builder are tokens whose reading ends in the builder's own state; and a builder keeps count of the place in the output: plain. Conditions: as each lemma says.
-/
import Derived.Test.YtnokiikgnplpmaaDoorToks
import Derived.Test.YtnokiikgnplpmaaDoorChunkP
import Derived.Test.YtnokiikgnplpmaaDoorTabRunes
namespace Go.Proofs.YtnokiikgnplpmaaDoor
open Go.RowKit

/-- The builder's bytes are tokens whose reading ends in the builder's state. -/
structure BTok (d : Bd) (toks : List (Option (List Int))) : Prop where
  sm : d.sm = tokB true toks
  ok : rok qz toks
  l : (rgo qz toks).1.l = d.st.gl
  c : (rgo qz toks).1.c = d.st.gc
  s : (rgo qz toks).1.s = d.st.si
  fl : (rgo qz toks).1.fl = d.st.ol
  fc : (rgo qz toks).1.fc = d.st.oc
  nm : (rgo qz toks).2 = 0

/-- Does a segment stand last? -/
def segLast (toks : List (Option (List Int))) : Bool := match toks.getLast? with | none => false | some none => false | some (some _) => true
theorem lastB_app (a : List UInt8) (x : UInt8) : lastB (a ++ [x]) = x.toNat := by simp [lastB]
theorem nums_last (ns : List Int) (h : ns ≠ []) (hb : ∀ n ∈ ns, -17179869184 < n ∧ n < 17179869184) : ∃ t d, nums ns = t ++ [UInt8.ofNat (sg d)] ∧ d < 32 := by
  rcases List.eq_nil_or_concat ns with rfl | ⟨l, n, rfl⟩
  · exact absurd rfl h
  · obtain ⟨l1, d, e, hd, _⟩ := nd_small n (hb n (by simp)).1 (hb n (by simp)).2
    refine ⟨nums l ++ l1.map (fun d => UInt8.ofNat (sg d)), d, ?_, hd⟩
    rw [List.concat_eq_append, nums_app]
    have : nums [n] = l1.map (fun d => UInt8.ofNat (sg d)) ++ [UInt8.ofNat (sg d)] := by simp [nums, nb, e]
    rw [this, List.append_assoc]
theorem tokB_snoc (toks : List (Option (List Int))) (t : Option (List Int)) : tokB true (toks ++ [t]) = tokB true toks ++ tokB (!segLast toks) [t] := by
  rw [tokB_app]
  congr 1
  unfold segLast
  cases toks.getLast? with
  | none => rfl
  | some x => cases x <;> rfl
/-- Behind which bytes a comma stands. -/
theorem comma_tok (toks : List (Option (List Int))) (h : rok qz toks) : comma (lastB (tokB true toks)) = segLast toks := by
  rcases List.eq_nil_or_concat toks with rfl | ⟨l, t, rfl⟩
  · rfl
  · rw [List.concat_eq_append] at h ⊢
    rw [tokB_snoc]
    have hs : segLast (l ++ [t]) = (match t with | none => false | some _ => true) := by simp [segLast]; cases t <;> rfl
    rw [hs]
    cases t with
    | none =>
      have e : tokB (!segLast l) [none] = [59] := rfl
      rw [e, lastB_app]
      rfl
    | some ns =>
      have key : ∀ (q : Seg × Int) (a : List (Option (List Int))), rok q (a ++ [some ns]) → nOk ns := by
        intro q a
        induction a generalizing q with
        | nil => intro h; exact h.2.1
        | cons u a ih => cases u with
          | none => intro h; exact ih _ h.2
          | some m => intro h; exact ih _ h.2.2
      have hn := key qz l h
      obtain ⟨t, d, e, hd⟩ := nums_last ns (by rintro rfl; rcases hn.1 with q | q <;> simp at q) hn.2
      have e2 : tokB true l ++ tokB (!segLast l) [some ns] = (tokB true l ++ ((if !segLast l then [] else [44]) ++ t)) ++ [UInt8.ofNat (sg d)] := by
        have : tokB (!segLast l) [some ns] = (if !segLast l then [] else [44]) ++ (nums ns ++ []) := rfl
        rw [this, e]
        simp [List.append_assoc]
      rw [e2, lastB_app]
      have h1 := sg_ne d
      have h2 := sg_lt d (by omega)
      rw [u8n _ (by omega)]
      unfold comma
      simp
      omega
theorem rgo_snoc (q : Seg × Int) (toks : List (Option (List Int))) (t : Option (List Int)) : rgo q (toks ++ [t]) = match t with | none => rsemi (rgo q toks) | some ns => rstep (rgo q toks) ns := by
  rw [rgo_app]
  cases t <;> rfl

/-- The numbers of a mapping that is added. -/
def delt (p c : St) : List Int := [c.gc - p.gc, c.si - p.si, c.ol - p.ol, c.oc - p.oc]
theorem BTok.emit {d : Bd} {toks : List (Option (List Int))} {N : Nat} (h : BTok d toks) (hle : d.le N) (hN : N ≤ 8589934592) (c : St) (h0 : c.gl = d.st.gl) (h1 : 0 ≤ c.gc ∧ c.gc ≤ N) (h2 : c.si = 0) (h3 : 0 ≤ c.ol ∧ c.ol ≤ N) (h4 : 0 ≤ c.oc ∧ c.oc ≤ N) : BTok (d.emit c) (toks ++ [some (delt d.st c)]) := by
  obtain ⟨l1, l2, l3, l4, l5, l6, l7⟩ := hle
  have hn : nOk (delt d.st c) := ⟨.inl rfl, fun n hn => by
    simp only [delt, List.mem_cons, List.not_mem_nil, or_false] at hn
    rcases hn with rfl | rfl | rfl | rfl <;> omega⟩
  have hst : rstep (rgo qz toks) (delt d.st c) = (⟨d.st.gl, c.gc, c.si, c.ol, c.oc, 0, false⟩, 0) := by
    have e1 := h.l
    have e2 := h.c
    have e3 := h.s
    have e4 := h.fl
    have e5 := h.fc
    have e6 := h.nm
    unfold rstep
    rw [e1, e2, e3, e4, e5, e6]
    have a1 : d.st.gc + (c.gc - d.st.gc) = c.gc := by omega
    have a2 : d.st.si + (c.si - d.st.si) = c.si := by omega
    have a3 : d.st.ol + (c.ol - d.st.ol) = c.ol := by omega
    have a4 : d.st.oc + (c.oc - d.st.oc) = c.oc := by omega
    simp [delt, a1, a2, a3, a4]
  have hgo : rgo qz (toks ++ [some (delt d.st c)]) = (⟨d.st.gl, c.gc, c.si, c.ol, c.oc, 0, false⟩, 0) := by rw [rgo_snoc]; exact hst
  refine ⟨?_, ?_, by rw [hgo]; exact h0.symm, by rw [hgo]; rfl, by rw [hgo]; rfl, by rw [hgo]; rfl, by rw [hgo]; rfl, by rw [hgo]⟩
  · rw [tokB_snoc]
    show d.sm ++ segb (lastB d.sm) d.st c = _
    rw [h.sm]
    congr 1
    unfold segb
    rw [comma_tok toks h.ok]
    have : tokB (!segLast toks) [some (delt d.st c)] = (if !segLast toks then [] else [44]) ++ (nums (delt d.st c) ++ []) := rfl
    rw [this]
    cases segLast toks <;> simp [delt, nums]
  · refine rok_app h.ok ⟨rok_end h.ok, hn, ?_⟩
    show sOk _
    rw [hst]
    unfold sOk
    simp only
    omega
where
  rok_end {q : Seg × Int} {a : List (Option (List Int))} (h : rok q a) : sOk (rgo q a) := by
    induction a generalizing q with
    | nil => exact h
    | cons u a ih => cases u with
      | none => exact ih h.2
      | some m => exact ih h.2.2
theorem rok_end {q : Seg × Int} {a : List (Option (List Int))} (h : rok q a) : sOk (rgo q a) := BTok.emit.rok_end h
theorem BTok.semi {d : Bd} {toks : List (Option (List Int))} {N : Nat} (h : BTok d toks) (hle : d.le N) (hN : N ≤ 8589934592) (f : Bd → Bd) (hf : (f d).sm = d.sm ++ [59] ∧ (f d).st = { d.st with gl := d.st.gl + 1, gc := 0 }) : BTok (f d) (toks ++ [none]) := by
  obtain ⟨l1, l2, l3, l4, l5, l6, l7⟩ := hle
  have hgo : rgo qz (toks ++ [none]) = rsemi (rgo qz toks) := by rw [rgo_snoc]
  have e1 := h.l
  have e2 := h.c
  have e3 := h.s
  have e4 := h.fl
  have e5 := h.fc
  have e6 := h.nm
  refine ⟨?_, ?_, ?_, ?_, ?_, ?_, ?_, ?_⟩
  · rw [tokB_snoc, hf.1, h.sm]
    rfl
  · refine rok_app h.ok ⟨rok_end h.ok, ?_⟩
    have := rok_end h.ok
    unfold sOk at this
    show sOk (rsemi _)
    unfold sOk rsemi
    simp only
    omega
  · rw [hgo, hf.2]
    show (rgo qz toks).1.l + 1 = d.st.gl + 1
    omega
  · rw [hgo, hf.2]
    rfl
  · rw [hgo, hf.2]
    exact e3
  · rw [hgo, hf.2]
    exact e4
  · rw [hgo, hf.2]
    exact e5
  · rw [hgo]
    exact e6
theorem BTok.same {d d' : Bd} {toks : List (Option (List Int))} (h : BTok d toks) (h1 : d'.sm = d.sm) (h2 : d'.st = d.st) : BTok d' toks :=
  ⟨by rw [h1]; exact h.sm, h.ok, by rw [h2]; exact h.l, by rw [h2]; exact h.c, by rw [h2]; exact h.s, by rw [h2]; exact h.fl, by rw [h2]; exact h.fc, h.nm⟩
theorem BTok.cover {d : Bd} {toks : List (Option (List Int))} {N : Nat} (h : BTok d toks) (hle : d.le N) (hN : N ≤ 8589934592) : BTok (d.emit d.cover) (toks ++ [some (delt d.st d.cover)]) := by
  obtain ⟨l1, l2, l3, l4, l5, l6, l7⟩ := hle
  exact h.emit ⟨l1, l2, l3, l4, l5, l6, l7⟩ hN d.cover rfl ⟨by show (0 : Int) ≤ 0; omega, by show (0 : Int) ≤ N; omega⟩ l4 l5 l6
/-- What a line's end adds. -/
theorem BTok.newline {d : Bd} {toks : List (Option (List Int))} {N : Nat} (h : BTok d toks) (hle : d.le N) (hN : N ≤ 8589934591) : ∃ t, BTok d.newline (toks ++ t) := by
  rw [newline_eq]
  unfold Bd.covered
  split
  · have h1 := h.cover hle (by omega)
    have hl : (d.emit d.cover).le (N + 1) := by
      have hs := segb_len (lastB d.sm) d.st d.cover
      obtain ⟨l1, l2, l3, l4, l5, l6, l7⟩ := hle
      unfold Bd.le
      simp only [Bd.emit, Bd.cover, List.length_append] at hs ⊢
      exact ⟨by omega, by omega, by omega, l4, by omega, by omega, by omega⟩
    refine ⟨[some (delt d.st d.cover)] ++ [none], ?_⟩
    rw [← List.append_assoc]
    exact h1.semi hl (by omega) (fun e => { e with st := { e.st with gl := e.st.gl + 1, gc := 0 }, gcol := 0, sm := e.sm ++ [59], lsm := false }) ⟨rfl, rfl⟩
  · exact ⟨[none], h.semi hle (by omega) (fun e => { e with st := { e.st with gl := e.st.gl + 1, gc := 0 }, gcol := 0, sm := e.sm ++ [59], lsm := false }) ⟨rfl, rfl⟩⟩
theorem BTok.step {d : Bd} {toks : List (Option (List Int))} {N : Nat} (h : BTok d toks) (hle : d.le N) (hN : N ≤ 8589934591) (s : ByteArray) (pos c : Nat) : ∃ t, BTok (d.step s pos c) (toks ++ t) := by
  unfold Bd.step
  split
  · split
    · exact ⟨[], by simpa using h⟩
    · exact h.newline hle hN
  · exact ⟨[], by rw [List.append_nil]; exact h.same rfl rfl⟩
theorem BTok.upd {s : ByteArray} : ∀ (f pos : Nat) {d : Bd} {toks : List (Option (List Int))} {N : Nat}, BTok d toks → d.le N → N + 2 * f ≤ 8589934591 → ∃ t, BTok (upd s f pos d) (toks ++ t) := by
  intro f
  induction f with
  | zero => intro pos d toks N h _ _; exact ⟨[], by simpa [Go.Proofs.YtnokiikgnplpmaaDoor.upd] using h⟩
  | succ f ih =>
    intro pos d toks N h hle hN
    unfold Go.Proofs.YtnokiikgnplpmaaDoor.upd
    split
    · obtain ⟨t, h1⟩ := h.step hle (by omega) s pos (Utf8.decode s pos).1
      obtain ⟨t2, h2⟩ := ih (pos + (Utf8.decode s pos).2) h1 (hle.step s pos _) (by omega)
      exact ⟨t ++ t2, by rw [← List.append_assoc]; exact h2⟩
    · exact ⟨[], by simpa using h⟩
theorem le_emit {d : Bd} {N : Nat} (h : d.le N) (c : St) (h0 : c.gl = d.st.gl) (h1 : 0 ≤ c.gc ∧ c.gc ≤ N) (h2 : c.si = 0) (h3 : 0 ≤ c.ol ∧ c.ol ≤ N) (h4 : 0 ≤ c.oc ∧ c.oc ≤ N) : (d.emit c).le (N + 1) := by
  obtain ⟨l1, l2, l3, l4, l5, l6, l7⟩ := h
  have hs := segb_len (lastB d.sm) d.st c
  unfold Bd.le
  simp only [Bd.emit, List.length_append] at hs ⊢
  exact ⟨by omega, by omega, by omega, h2, by omega, by omega, by omega⟩
theorem BTok.add {d : Bd} {toks : List (Option (List Int))} {N : Nat} (h : BTok d toks) (hle : d.le N) (ts : List LT) (ob : List UInt8) (tail : ByteArray) (loc : Nat) (hts : TabBd ts) (hl : ts.length ≤ N) (hN0 : 1073741824 ≤ N) (hloc : loc ≤ 1073741824) (hN : N + 2 * tail.size ≤ 8589934590) : ∃ t, BTok (d.add ts ob tail loc) (toks ++ t) := by
  unfold Bd.add
  split
  · exact ⟨[], by simpa using h⟩
  · have hle1 : ({ d with ploc := (loc : Int), plen := ob.length } : Bd).le N := hle
    obtain ⟨t1, h1⟩ := BTok.upd (s := tail) tail.size 0 (h.same (d' := { d with ploc := (loc : Int), plen := ob.length }) rfl rfl) hle1 (by omega)
    have hle2 := upd_le tail tail.size 0 hle1
    have h2 : BTok ({ Go.Proofs.YtnokiikgnplpmaaDoor.upd tail tail.size 0 { d with ploc := (loc : Int), plen := ob.length } with lu := ob.length } : Bd) (toks ++ t1) := h1.same rfl rfl
    have hle3 : ({ Go.Proofs.YtnokiikgnplpmaaDoor.upd tail tail.size 0 { d with ploc := (loc : Int), plen := ob.length } with lu := ob.length } : Bd).le (N + 2 * tail.size) := hle2
    have hc := colOf_le hts (lineNo ts loc - 1) loc hloc
    have hn := lineNo_le ts loc
    generalize ({ Go.Proofs.YtnokiikgnplpmaaDoor.upd tail tail.size 0 { d with ploc := (loc : Int), plen := ob.length } with lu := ob.length } : Bd) = u at *
    simp only
    obtain ⟨t2, h3, hle4⟩ : ∃ t2, BTok (if u.lsm = false ∧ 0 < u.gcol ∧ u.has = true then u.emit u.cover else u) (toks ++ t1 ++ t2) ∧ (if u.lsm = false ∧ 0 < u.gcol ∧ u.has = true then u.emit u.cover else u).le (N + 2 * tail.size + 1) := by
      split
      · obtain ⟨l1, l2, l3, l4, l5, l6, l7⟩ := hle3
        exact ⟨_, h2.cover ⟨l1, l2, l3, l4, l5, l6, l7⟩ (by omega), le_emit ⟨l1, l2, l3, l4, l5, l6, l7⟩ _ rfl ⟨by show (0 : Int) ≤ 0; omega, by show (0 : Int) ≤ _; omega⟩ l4 l5 l6⟩
      · exact ⟨[], by simpa using h2, hle3.mono (by omega)⟩
    generalize (if u.lsm = false ∧ 0 < u.gcol ∧ u.has = true then u.emit u.cover else u) = e at *
    obtain ⟨l1, l2, l3, l4, l5, l6, l7⟩ := hle4
    have h4 := h3.emit ⟨l1, l2, l3, l4, l5, l6, l7⟩ (by omega) { gl := e.st.gl, gc := e.gcol, si := 0, ol := ((lineNo ts loc - 1 : Nat) : Int), oc := (colOf (ts.getD (lineNo ts loc - 1) ⟨none, 0, 0⟩) loc : Nat), on := 0 } rfl ⟨by simp only; omega, by simp only; omega⟩ rfl ⟨by simp only; omega, by simp only; omega⟩ ⟨by simp only; omega, by simp only; omega⟩
    refine ⟨t1 ++ t2 ++ [some (delt e.st { gl := e.st.gl, gc := e.gcol, si := 0, ol := ((lineNo ts loc - 1 : Nat) : Int), oc := (colOf (ts.getD (lineNo ts loc - 1) ⟨none, 0, 0⟩) loc : Nat), on := 0 })], ?_⟩
    have h5 := h4.same (d' := { e.emit { gl := e.st.gl, gc := e.gcol, si := 0, ol := ((lineNo ts loc - 1 : Nat) : Int), oc := (colOf (ts.getD (lineNo ts loc - 1) ⟨none, 0, 0⟩) loc : Nat), on := 0 } with lsm := true }) rfl rfl
    simpa [List.append_assoc] using h5

/-- The last mapping, and the state behind it. -/
theorem last_seg (toks : List (Option (List Int))) (q : Seg × Int) (x : Seg) (h : (rsegs q toks).getLast? = some x) : (rgo q toks).1.s = x.s ∧ (rgo q toks).1.fl = x.fl ∧ (rgo q toks).1.fc = x.fc ∧ x.l ≤ (rgo q toks).1.l ∧ (x.l < (rgo q toks).1.l → (rgo q toks).1.c = 0) ∧ (¬ x.l < (rgo q toks).1.l → (rgo q toks).1.c = x.c) := by
  induction toks using snoc_ind with
  | h0 => simp [rsegs] at h
  | hs l t ih =>
    rw [rsegs_app] at h
    rw [rgo_snoc]
    cases t with
    | none =>
      have e : rsegs (rgo q l) [none] = [] := rfl
      rw [e, List.append_nil] at h
      obtain ⟨h1, h2, h3, h4, h5, h6⟩ := ih h
      refine ⟨h1, h2, h3, ?_, fun _ => rfl, fun q => ?_⟩
      · show x.l ≤ (rgo _ l).1.l + 1
        omega
      · exfalso
        apply q
        show x.l < (rgo _ l).1.l + 1
        omega
    | some ns =>
      have e : rsegs (rgo q l) [some ns] = [(rstep (rgo q l) ns).1] := rfl
      rw [e] at h
      simp at h
      subst h
      simp
end Go.Proofs.YtnokiikgnplpmaaDoor

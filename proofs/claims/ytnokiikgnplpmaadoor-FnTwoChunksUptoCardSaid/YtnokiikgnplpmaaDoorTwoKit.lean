/-
  Two chunks: how long a builder's bytes are; what Join makes of them. Conditions: as each lemma says.
-/
import Derived.Test.YtnokiikgnplpmaaDoorM21
import Derived.Test.YtnokiikgnplpmaaDoorChunkAll
import Derived.Test.YtnokiikgnplpmaaDoorM17
import Derived.Test.YtnokiikgnplpmaaDoorM16
import Derived.Test.YtnokiikgnplpmaaDoorNamKit
namespace Go.Proofs.YtnokiikgnplpmaaDoor
open Go.RowKit

theorem joinU_any (ftoks dtoks : List (Option (List Int))) (s : Seg) (sl B : Nat) (w : World) (hT : B64 B w) (hB : B ≤ w.heap.size) (hf : rok qz ftoks) (hq : Bd0 (rgo qz ftoks)) (hpn : (rgo qz ftoks).2 ≤ 4294967296)
    (ht : Tight qz dtoks) (hne : rsegs qz dtoks ≠ []) (hs : (0 ≤ s.c ∧ s.c ≤ 4294967296) ∧ (0 ≤ s.s ∧ s.s ≤ 4294967296) ∧ (0 ≤ s.fl ∧ s.fl ≤ 4294967296) ∧ (0 ≤ s.fc ∧ s.fc ≤ 4294967296) ∧ (0 ≤ s.nm ∧ s.nm ≤ 4294967296)) (hsl : s.l = (sl : Int)) (hsl3 : sl ≤ 3)
    (hsz : (tokB true ftoks).length + (tokB true dtoks).length ≤ 3000000000) (q : Seg × Int) (hqe : rgo qz ftoks = q) (first : Int) (hfi : offV (foff true dtoks) = first) :
    Calls Tryd.prog 20 #[.string (strB (tokB true ftoks)), .agg #[.int .i64 q.1.l, .int .i64 q.1.c, .int .i64 q.1.s, .int .i64 q.1.fl, .int .i64 q.1.fc, .int .i64 q.2], .agg #[.int .i64 s.l, .int .i64 s.c, .int .i64 s.s, .int .i64 s.fl, .int .i64 s.fc, .int .i64 s.nm], .string (strB (tokB true dtoks)), .int .i64 first] w fun e w' =>
      ∃ toks, JoinTk ftoks dtoks s toks ∧ (tokB true toks).length ≤ 3000000100 ∧ e = .returned (.string (strB (tokB true toks))) ∧ Below w.heap.size w w' := by
  obtain ⟨k, n0, n1, n2, n3, tl, rest, hdt, htl⟩ := tok_head dtoks ht.1 hne
  obtain ⟨b1, b2, b3, b4, b5, b6⟩ := id hq
  obtain ⟨s1, s2, s3, s4, s5⟩ := id hs
  have hnames := ht.names qz_bd
  have hn4 : ∀ n ∈ [n0, n1, n2, n3], -17179869184 < n ∧ n < 17179869184 := by
    intro n hn
    exact (ht.1 ([n0, n1, n2, n3] ++ tl) (by rw [hdt]; simp)).2 n (List.mem_append_left _ hn)
  have hlen : (tokB true dtoks).length = k + ((nums [n0, n1, n2, n3]).length + (qB tl rest).length) := by rw [hdt, dt_bytes]; simp
  have hl : (rgo qz ftoks).1.l + (sl + k : Nat) < 1099511627776 := by omega
  have hj := join_read ftoks hf s sl k n0 n1 n2 n3 tl rest (by rw [← hdt]; exact ht) htl hq hpn hs (by omega)
  have hby := join_bytes ftoks hf (rgo qz ftoks).1 s (rgo qz ftoks).2 sl k n0 n1 n2 n3 tl rest htl hl
  have hnm := dt_name k n0 n1 n2 n3 tl rest htl (s.nm - (rgo qz ftoks).2) (by omega) (fun ns hn h5 => hnames ns (by rw [hdt, List.mem_append]; exact .inr hn) h5)
  rw [← hdt, hfi] at hnm
  have hfirst : first = -1 ∨ 0 ≤ first ∧ first < 4000000000 := by
    rw [← hfi]
    cases h : foff true dtoks with
    | none => exact .inl rfl
    | some j =>
      right
      obtain ⟨A, x, Bt, e1, e2, _⟩ := bump_some 0 dtoks true j h
      have : j ≤ (tokB true dtoks).length := by rw [e1, ← e2]; simp only [List.length_append]; omega
      unfold offV
      simp only
      omega
  subst hqe
  have hcall := join_any (tokB true ftoks) (tokB true dtoks) (qB tl rest) (qB' (s.nm - (rgo qz ftoks).2) tl rest) ⟨(rgo qz ftoks).1.l, (rgo qz ftoks).1.c, (rgo qz ftoks).1.s, (rgo qz ftoks).1.fl, (rgo qz ftoks).1.fc, (rgo qz ftoks).2⟩ ⟨(sl : Int), s.c, s.s, s.fl, s.fc, s.nm⟩ sl k n0 n1 n2 n3 first B w hT hB
    (by rw [hdt, dt_bytes]) hn4 ⟨by simp only; omega, by simp only; omega, by simp only; omega, by simp only; omega, by simp only; omega⟩ ⟨by simp only; omega, by simp only; omega, by simp only; omega, by simp only; omega, by simp only; omega⟩
    ⟨by simp only; omega, by simp only; omega, by simp only; omega, by simp only; omega, by simp only; omega, by simp only; omega⟩ rfl hsl3 hfirst hnm hsz
  have hlen2 : (tokB true (ftoks ++ jtoks (rgo qz ftoks).1 s (s.nm - (rgo qz ftoks).2) sl k n0 n1 n2 n3 tl rest)).length ≤ 3000000100 := by
    rw [← hby]
    have hq1 : (qB' (s.nm - (rgo qz ftoks).2) tl rest).length ≤ (qB tl rest).length + 13 := by
      rcases hnm with ⟨_, e⟩ | ⟨A, x, Bt, e1, e2, _⟩
      · rw [e]; omega
      · have := nb_short (x + (s.nm - (rgo qz ftoks).2))
        rw [e1, e2]
        simp only [List.length_append]
        omega
    have hs9 := segb_len (lastB (tokB true ftoks ++ (List.replicate sl 59 ++ List.replicate k 59))) (pOf ⟨(rgo qz ftoks).1.l, (rgo qz ftoks).1.c, (rgo qz ftoks).1.s, (rgo qz ftoks).1.fl, (rgo qz ftoks).1.fc, (rgo qz ftoks).2⟩ k sl) (sOf ⟨(sl : Int), s.c, s.s, s.fl, s.fc, s.nm⟩ k n0 n1 n2 n3)
    simp only [List.length_append, List.length_replicate]
    omega
  rw [hby] at hcall
  rw [hsl]
  refine hcall.mono ?_
  rintro e w' ⟨rfl, hb⟩
  refine ⟨_, ⟨hj.1, ?_, ?_, ?_⟩, hlen2, rfl, hb⟩
  · rw [hj.2, ← hdt, hsl]
  · intro h
    unfold jtoks
    rw [segLast_app _ _ (by simp [bump_ne]), segLast_app _ _ (bump_ne _ _ _), bump_last]
    rw [hdt, segLast_app _ _ (by simp)] at h
    cases rest with
    | nil => rfl
    | cons u r => exact h
  · rintro rfl rfl
    obtain rfl : sl = 0 := by simp only at hsl; omega
    have e : rgo qz [] = (⟨0, 0, 0, 0, 0, 0, false⟩, 0) := rfl
    rw [e, List.nil_append]
    simp only [Int.sub_self]
    rw [jtoks_zero k n0 n1 n2 n3 tl rest, hdt]

/-- A builder's bytes are at most so many, and no name was told. -/
def PS (d : Bd) (n : Nat) : Prop := d.sm.length ≤ n ∧ d.st.on = 0
theorem PS.emit {d : Bd} {n : Nat} (h : PS d n) (c : St) : PS (d.emit c) (n + 53) := by
  have hs := segb_len (lastB d.sm) d.st c
  have := h.1
  refine ⟨?_, h.2⟩
  simp only [Bd.emit, List.length_append]
  omega
theorem PS.newline {d : Bd} {n : Nat} (h : PS d n) : PS d.newline (n + 54) := by
  rw [newline_eq]
  unfold Bd.covered
  split
  · have := (h.emit d.cover).1
    refine ⟨?_, h.2⟩
    simp only [List.length_append, List.length_singleton]
    omega
  · have := h.1
    refine ⟨?_, h.2⟩
    simp only [List.length_append, List.length_singleton]
    omega
theorem PS.mono {d : Bd} {n m : Nat} (h : PS d n) (hm : n ≤ m) : PS d m := ⟨Nat.le_trans h.1 hm, h.2⟩
theorem PS.upd (s : ByteArray) (f pos : Nat) {d : Bd} {n : Nat} (h : PS d n) : PS (Go.Proofs.YtnokiikgnplpmaaDoor.upd s f pos d) (n + 54 * f) := by
  induction f generalizing pos d n with
  | zero => exact h
  | succ f ih =>
    unfold Go.Proofs.YtnokiikgnplpmaaDoor.upd
    split
    · have h1 : PS (d.step s pos (Utf8.decode s pos).1) (n + 54) := by
        unfold Bd.step
        split
        · split
          · exact h.mono (by omega)
          · exact h.newline
        · exact ⟨Nat.le_trans h.1 (by omega), h.2⟩
      exact (ih _ h1).mono (by omega)
    · exact h.mono (by omega)
theorem PS.add {d : Bd} {n : Nat} (h : PS d n) (ts : List LT) (ob : List UInt8) (tail : ByteArray) (loc : Nat) : PS (d.add ts ob tail loc) (n + 54 * tail.size + 106) := by
  unfold Bd.add
  split
  · exact h.mono (by omega)
  · have h1 : PS ({ d with ploc := (loc : Int), plen := ob.length } : Bd) n := h
    have h2 : PS ({ Go.Proofs.YtnokiikgnplpmaaDoor.upd tail tail.size 0 { d with ploc := (loc : Int), plen := ob.length } with lu := ob.length } : Bd) (n + 54 * tail.size) := PS.upd tail tail.size 0 h1
    generalize ({ Go.Proofs.YtnokiikgnplpmaaDoor.upd tail tail.size 0 { d with ploc := (loc : Int), plen := ob.length } with lu := ob.length } : Bd) = u at *
    simp only
    have h3 : PS (if u.lsm = false ∧ 0 < u.gcol ∧ u.has = true then u.emit u.cover else u) (n + 54 * tail.size + 53) := by
      split
      · exact h2.emit _
      · exact h2.mono (by omega)
    have h4 := h3.emit { gl := (if u.lsm = false ∧ 0 < u.gcol ∧ u.has = true then u.emit u.cover else u).st.gl, gc := (if u.lsm = false ∧ 0 < u.gcol ∧ u.has = true then u.emit u.cover else u).gcol, si := 0, ol := ((lineNo ts loc - 1 : Nat) : Int), oc := (colOf (ts.getD (lineNo ts loc - 1) ⟨none, 0, 0⟩) loc : Nat), on := 0 }
    exact ⟨Nat.le_trans h4.1 (by omega), h4.2⟩
theorem cgo_PS (ts : List LT) (l : List (List Nat × Nat)) : (cgo ts l).1.lu ≤ (cgo ts l).2.length ∧ PS (cgo ts l).1 (54 * (cgo ts l).1.lu + 106 * l.length) := by
  induction l using snoc_ind with
  | h0 => exact ⟨Nat.le_refl _, Nat.zero_le _, rfl⟩
  | hs l x ih =>
    obtain ⟨h1, h2⟩ := ih
    rw [cgo_snoc]
    unfold cstep
    have ha := h2.add ts ((cgo ts l).2 ++ encs x.1) (tailOf ((cgo ts l).2 ++ encs x.1) (cgo ts l).1.lu) x.2
    have hu := add_lu (cgo ts l).1 ts ((cgo ts l).2 ++ encs x.1) (tailOf ((cgo ts l).2 ++ encs x.1) (cgo ts l).1.lu) x.2
    have hz := tail_size ((cgo ts l).2 ++ encs x.1) (cgo ts l).1.lu
    have hlen : ((cgo ts l).2 ++ encs x.1).length = (cgo ts l).2.length + (encs x.1).length := List.length_append
    generalize (cgo ts l).2 ++ encs x.1 = ob at *
    generalize tailOf ob (cgo ts l).1.lu = tl at *
    rw [List.length_append, List.length_singleton]
    by_cases hq : (cgo ts l).1.ploc = (x.2 : Int)
    · have e : (cgo ts l).1.add ts ob tl x.2 = (cgo ts l).1 := by unfold Bd.add; rw [if_pos hq]
      rw [e]
      exact ⟨by simp only; omega, h2.mono (by simp only; omega)⟩
    · rw [if_neg hq] at hu
      rw [hu]
      exact ⟨Nat.le_refl _, ha.mono (by omega)⟩
theorem cend_PS (ts : List LT) (l : List (List Nat × Nat)) (rest : List Nat) : PS (cend ts l rest) (54 * ((encs (allR l)).length + (encs rest).length) + 106 * l.length) := by
  obtain ⟨h1, h2⟩ := cgo_PS ts l
  have hout := cgo_out ts l
  have hz := tail_size ((cgo ts l).2 ++ encs rest) (cgo ts l).1.lu
  have hu := PS.upd (tailOf ((cgo ts l).2 ++ encs rest) (cgo ts l).1.lu) (tailOf ((cgo ts l).2 ++ encs rest) (cgo ts l).1.lu).size 0 h2
  have hlen : ((cgo ts l).2 ++ encs rest).length = (encs (allR l)).length + (encs rest).length := by rw [hout, List.length_append]
  have h1' : (cgo ts l).1.lu ≤ (encs (allR l)).length := by rw [← hout]; exact h1
  have h3 : PS (cend ts l rest) _ := hu
  exact h3.mono (by omega)
theorem foff_none (toks : List (Option (List Int))) (q : Seg × Int) (fr : Bool) (h : ∀ x ∈ rsegs q toks, x.nd = false) : foff fr toks = none := by
  induction toks generalizing q fr with
  | nil => rfl
  | cons t r ih => cases t with
    | none => show (foff true r).map _ = none; rw [ih (rsemi q) true h]; rfl
    | some ns =>
      have h1 := h (rstep q ns).1 (by simp [rsegs])
      have h5 : ¬ ns.length = 5 := by
        unfold rstep at h1
        simpa using h1
      conv => lhs; unfold foff
      rw [if_neg h5, ih (rstep q ns) false (fun x hx => h x (by simp [rsegs, hx]))]
      rfl
theorem rok_nok (toks : List (Option (List Int))) (q : Seg × Int) (h : rok q toks) : ∀ ns, some ns ∈ toks → nOk ns := by
  induction toks generalizing q with
  | nil => intro ns hn; simp at hn
  | cons t r ih => cases t with
    | none => intro ns hn; exact ih _ h.2 ns (by simpa using hn)
    | some ms =>
      intro ns hn
      rcases List.mem_cons.1 hn with e | hn
      · injection e with e; subst e; exact h.2.1
      · exact ih _ h.2.2 ns hn
/-- What a chunk's tokens are for Join. -/
theorem CI.tight {F : Int → Int → Prop} {d : Bd} {toks : List (Option (List Int))} (h : CI F d toks) (hle : d.le 8589934590) : Tight qz toks ∧ Bd0 (rgo qz toks) ∧ rgo qz toks = (⟨d.st.gl, d.st.gc, d.st.si, d.st.ol, d.st.oc, (rgo qz toks).1.nm, (rgo qz toks).1.nd⟩, 0) ∧ offV (foff true toks) = -1 := by
  obtain ⟨l1, l2, l3, l4, l5, l6, l7⟩ := hle
  have e1 := h.tok.l
  have e2 := h.tok.c
  have e3 := h.tok.s
  have e4 := h.tok.fl
  have e5 := h.tok.fc
  have e6 := h.tok.nm
  refine ⟨⟨rok_nok toks qz h.tok.ok, h.bd, by rw [e1]; omega⟩, ?_, ?_, ?_⟩
  · unfold Bd0
    rw [e1, e2, e3, e4, e5, e6]
    omega
  · rw [← e1, ← e2, ← e3, ← e4, ← e5, ← e6]
  · rw [foff_none toks qz true (fun x hx => (h.seg x hx).2.2.1)]
    rfl
end Go.Proofs.YtnokiikgnplpmaaDoor

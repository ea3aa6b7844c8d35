/-
  A builder keeps count of the place in the output: plain. Conditions: as each lemma says.
-/
import Derived.Test.YtnokiikgnplpmaaDoorChunkTok
namespace Go.Proofs.YtnokiikgnplpmaaDoor
open Go.RowKit

theorem advI_lf (r : List Nat) (p : Nat × Nat) : advI (10 :: r) p = advI r (p.1 + 1, 0) := by
  conv => lhs; unfold advI
  rw [if_pos (show isNlR 10 from .inr (.inl rfl)), if_neg (by simp)]
theorem newline_gl (d : Bd) : d.newline.st.gl = d.st.gl + 1 ∧ d.newline.gcol = 0 := by
  rw [newline_eq]
  exact ⟨by rw [covered_gl], rfl⟩
/-- The count goes along with the place behind the text. -/
theorem upd_go : ∀ (mid pre : List Nat) (f L : Nat) (d : Bd), okR mid → mid.length ≤ f → d.st.gl = (L : Int) →
    (upd (txt (pre ++ mid)) f (encs pre).length d).st.gl = ((advI mid (L, d.gcol)).1 : Int) ∧ (upd (txt (pre ++ mid)) f (encs pre).length d).gcol = (advI mid (L, d.gcol)).2 := by
  intro mid
  induction mid with
  | nil =>
    intro pre f L d _ _ hL
    have e : upd (txt (pre ++ [])) f (encs pre).length d = d := upd_end _ _ _ _ (by rw [List.append_nil, txt_size]; omega)
    rw [e]
    exact ⟨hL, rfl⟩
  | cons c mid ih =>
    intro pre f L d hv hf hL
    obtain ⟨f, rfl⟩ : ∃ g, f = g + 1 := ⟨f - 1, by simp at hf; omega⟩
    have hc := hv c (by simp)
    have hvm : okR mid := fun x hx => hv x (by simp [hx])
    have hd := decode_txt pre c mid hc
    have hl := enc_len c hc
    have hsz : (encs pre).length < (txt (pre ++ c :: mid)).size := by rw [txt_size, encs_app, encs_cons]; simp only [List.length_append]; omega
    have elen : (encs pre).length + (enc c).length = (encs (pre ++ [c])).length := by rw [encs_app, encs_one, List.length_append]
    have epre : pre ++ c :: mid = (pre ++ [c]) ++ mid := by simp
    have key : ∀ d1 : Bd, ∀ L1 : Nat, d1.st.gl = (L1 : Int) → d.step (txt (pre ++ c :: mid)) (encs pre).length c = d1 → advI (c :: mid) (L, d.gcol) = advI mid (L1, d1.gcol) →
        (upd (txt (pre ++ c :: mid)) (f + 1) (encs pre).length d).st.gl = ((advI (c :: mid) (L, d.gcol)).1 : Int) ∧ (upd (txt (pre ++ c :: mid)) (f + 1) (encs pre).length d).gcol = (advI (c :: mid) (L, d.gcol)).2 := by
      intro d1 L1 h1 h2 h3
      have e : upd (txt (pre ++ c :: mid)) (f + 1) (encs pre).length d = upd (txt (pre ++ c :: mid)) f (encs (pre ++ [c])).length d1 := by
        conv => lhs; unfold upd
        rw [if_pos hsz, hd]
        simp only
        rw [h2, elen]
      rw [e, h3]
      have := ih (pre ++ [c]) f L1 d1 hvm (by simp at hf; omega) h1
      rw [← epre] at this
      exact this
    by_cases hn : isNlR c
    · have hn' : isNl c = true := by rw [isNl_R]; simpa using hn
      by_cases hq : c = 13 ∧ mid.head? = some 10
      · have hlf : lfAt (txt (pre ++ c :: mid)) ((encs pre).length + 1) = true := by
          have := lf_txt (pre ++ [c]) mid hvm
          rw [← elen, ← epre] at this
          rw [hq.1] at this ⊢
          rw [show (enc 13).length = 1 from rfl] at this
          rw [this]
          simpa using hq.2
        refine key d L hL ?_ ?_
        · unfold Bd.step
          rw [if_pos hn', if_pos ⟨hq.1, hlf⟩]
        · cases mid with
          | nil => simp at hq
          | cons y r =>
            have hy : y = 10 := by simpa using hq.2
            subst hy
            conv => lhs; unfold advI
            rw [if_pos hn, if_pos hq, advI_lf, advI_lf]
      · have hlf : ¬ (c = 13 ∧ lfAt (txt (pre ++ c :: mid)) ((encs pre).length + 1) = true) := by
          rintro ⟨h13, h2⟩
          apply hq
          refine ⟨h13, ?_⟩
          have := lf_txt (pre ++ [c]) mid hvm
          rw [← elen, ← epre] at this
          rw [h13] at this h2
          rw [show (enc 13).length = 1 from rfl] at this
          rw [this] at h2
          simpa using h2
        refine key d.newline (L + 1) ?_ ?_ ?_
        · rw [(newline_gl d).1, hL]; rfl
        · unfold Bd.step
          rw [if_pos hn', if_neg hlf]
        · rw [(newline_gl d).2]
          conv => lhs; unfold advI
          rw [if_pos hn, if_neg hq]
    · have hn' : ¬ isNl c = true := by rw [isNl_R]; simpa using hn
      refine key { d with gcol := d.gcol + if c ≤ 65535 then 1 else 2 } L hL ?_ ?_
      · unfold Bd.step
        rw [if_neg hn']
      · conv => lhs; unfold advI
        rw [if_neg hn]
        rfl
theorem upd_all (b : List Nat) (hv : okR b) (L : Nat) (d : Bd) (hL : d.st.gl = (L : Int)) : (upd (txt b) (txt b).size 0 d).st.gl = ((advI b (L, d.gcol)).1 : Int) ∧ (upd (txt b) (txt b).size 0 d).gcol = (advI b (L, d.gcol)).2 := by
  have := upd_go b [] (txt b).size L d hv hv.len hL
  simpa [encs] using this
theorem tail_txt (a b : List Nat) : tailOf (encs (a ++ b)) (encs a).length = txt b := by
  unfold tailOf txt
  rw [encs_app, List.drop_left]
theorem add_place (d : Bd) (ts : List LT) (ob : List UInt8) (tail : ByteArray) (loc : Nat) (h : ¬ d.ploc = (loc : Int)) :
    (d.add ts ob tail loc).st.gl = (upd tail tail.size 0 { d with ploc := (loc : Int), plen := ob.length }).st.gl ∧ (d.add ts ob tail loc).gcol = (upd tail tail.size 0 { d with ploc := (loc : Int), plen := ob.length }).gcol ∧ (d.add ts ob tail loc).lu = ob.length ∧ (d.add ts ob tail loc).ploc = (loc : Int) := by
  have hp : ∀ (s : ByteArray) (f pos : Nat) (e : Bd), (upd s f pos e).ploc = e.ploc := by
    intro s f
    induction f with
    | zero => intro pos e; rfl
    | succ f ih =>
      intro pos e
      unfold upd
      split
      · rw [ih]
        unfold Bd.step
        split
        · split
          · rfl
          · unfold Bd.newline; simp only; split <;> rfl
        · rfl
      · rfl
  unfold Bd.add
  rw [if_neg h]
  simp only
  split
  · exact ⟨rfl, rfl, rfl, hp _ _ _ _⟩
  · exact ⟨rfl, rfl, rfl, hp _ _ _ _⟩
theorem last_ne {a : List Nat} (h : a.getLast? ≠ some 13) : lastR 0 a ≠ 13 := by
  unfold lastR
  rw [List.getLastD_eq_getLast?]
  cases hx : a.getLast? with
  | none => simp
  | some y => rw [hx] at h; simpa using h
theorem allR_last (l : List (List Nat × Nat)) (h : ∀ x ∈ l, x.1.getLast? ≠ some 13) : (allR l).getLast? ≠ some 13 := by
  induction l using snoc_ind with
  | h0 => simp [allR]
  | hs l x ih =>
    rw [allR_snoc, List.getLast?_append]
    cases hx : x.1.getLast? with
    | none => simpa using ih (fun y hy => h y (by simp [hy]))
    | some y =>
      have := h x (by simp)
      rw [hx] at this
      simpa using this
/-- What holds of the builder behind steps. -/
theorem cgo_inv (ts : List LT) (hts : TabBd ts) (hl : ts.length ≤ 1073741824) (l : List (List Nat × Nat)) (hp : ∀ x ∈ l, x.2 ≤ 1073741824) (hv : ∀ x ∈ l, okR x.1) (hlast : ∀ x ∈ l, x.1.getLast? ≠ some 13) (hz : (encs (allR l)).length + l.length ≤ 1073741824) :
    ∃ toks a b, BTok (cgo ts l).1 toks ∧ allR l = a ++ b ∧ (cgo ts l).1.lu = (encs a).length ∧ (cgo ts l).1.st.gl = ((advI a (0, 0)).1 : Int) ∧ (cgo ts l).1.gcol = (advI a (0, 0)).2 ∧ a.getLast? ≠ some 13 := by
  induction l using snoc_ind with
  | h0 => exact ⟨[], [], [], ⟨rfl, by unfold rok sOk qz; simp, rfl, rfl, rfl, rfl, rfl, rfl⟩, rfl, rfl, rfl, rfl, by simp⟩
  | hs l x ih =>
    have hz' : (encs (allR l)).length + (encs x.1).length + (l.length + 1) ≤ 1073741824 := by
      rw [allR_snoc, encs_app, List.length_append, List.length_append, List.length_singleton] at hz
      exact hz
    obtain ⟨toks, a, b, h1, h2, h3, h4, h5, h6⟩ := ih (fun y hy => hp y (by simp [hy])) (fun y hy => hv y (by simp [hy])) (fun y hy => hlast y (by simp [hy])) (by omega)
    obtain ⟨hlu, hle⟩ := cgo_le ts hts 1073741824 (Nat.le_refl _) hl l (fun y hy => hp y (by simp [hy]))
    have hout := cgo_out ts l
    have hob : (cgo ts l).2 ++ encs x.1 = encs (a ++ (b ++ x.1)) := by rw [hout, h2, ← encs_app, List.append_assoc]
    have htl : tailOf ((cgo ts l).2 ++ encs x.1) (cgo ts l).1.lu = txt (b ++ x.1) := by rw [hob, h3, tail_txt]
    have hla : (allR (l ++ [x])).getLast? ≠ some 13 := allR_last _ hlast
    have hal : allR (l ++ [x]) = a ++ (b ++ x.1) := by rw [allR_snoc, h2, List.append_assoc]
    rw [cgo_snoc]
    unfold cstep
    rw [htl]
    have hbz : (txt (b ++ x.1)).size ≤ (encs (allR l)).length + (encs x.1).length := by
      rw [txt_size, h2]
      simp only [encs_app, List.length_append]
      omega
    have hluz : (cgo ts l).1.lu ≤ (encs (allR l)).length := by rw [← hout]; exact hlu
    obtain ⟨t, hb⟩ := h1.add hle ts ((cgo ts l).2 ++ encs x.1) (txt (b ++ x.1)) x.2 hts (by omega) (by omega) (hp x (by simp)) (by omega)
    have hvb : okR (b ++ x.1) := by
      refine okR.app (fun r hr => ?_) (hv x (by simp))
      have hall : okR (allR l) := by
        intro r hr
        unfold allR at hr
        obtain ⟨y, hy, hr⟩ := List.mem_flatMap.1 hr
        exact hv y (by simp [hy]) r hr
      exact hall r (by rw [h2]; simp [hr])
    by_cases hq : (cgo ts l).1.ploc = (x.2 : Int)
    · have e : (cgo ts l).1.add ts ((cgo ts l).2 ++ encs x.1) (txt (b ++ x.1)) x.2 = (cgo ts l).1 := by unfold Bd.add; rw [if_pos hq]
      rw [e] at hb ⊢
      exact ⟨_, a, b ++ x.1, hb, hal, h3, h4, h5, h6⟩
    · obtain ⟨p1, p2, p3, p4⟩ := add_place (cgo ts l).1 ts ((cgo ts l).2 ++ encs x.1) (txt (b ++ x.1)) x.2 hq
      have hu := upd_all (b ++ x.1) hvb (advI a (0, 0)).1 { (cgo ts l).1 with ploc := (x.2 : Int), plen := ((cgo ts l).2 ++ encs x.1).length } h4
      have happ : advI (a ++ (b ++ x.1)) (0, 0) = advI (b ++ x.1) (advI a (0, 0)) := advI_append a (b ++ x.1) (0, 0) (fun q => absurd q (last_ne h6))
      have e5 : ((advI a (0, 0)).1, (cgo ts l).1.gcol) = advI a (0, 0) := by rw [h5]
      refine ⟨_, a ++ (b ++ x.1), [], hb, by rw [hal, List.append_nil], ?_, ?_, ?_, by rw [← hal]; exact hla⟩
      · rw [p3, hob]
      · rw [p1, hu.1, happ]
        show ((advI (b ++ x.1) ((advI a (0, 0)).1, (cgo ts l).1.gcol)).1 : Int) = _
        rw [e5]
      · rw [p2, hu.2, happ]
        show (advI (b ++ x.1) ((advI a (0, 0)).1, (cgo ts l).1.gcol)).2 = _
        rw [e5]
/-- What holds of the builder at the end. -/
theorem cend_inv (ts : List LT) (hts : TabBd ts) (hl : ts.length ≤ 1073741824) (l : List (List Nat × Nat)) (rest : List Nat) (hp : ∀ x ∈ l, x.2 ≤ 1073741824) (hv : ∀ x ∈ l, okR x.1) (hlast : ∀ x ∈ l, x.1.getLast? ≠ some 13) (hr : okR rest) (hz : (encs (allR l)).length + (encs rest).length + l.length ≤ 1073741824) :
    ∃ toks, BTok (cend ts l rest) toks ∧ (cend ts l rest).st.gl = ((advI (allR l ++ rest) (0, 0)).1 : Int) ∧ (cend ts l rest).gcol = (advI (allR l ++ rest) (0, 0)).2 := by
  obtain ⟨toks, a, b, h1, h2, h3, h4, h5, h6⟩ := cgo_inv ts hts hl l hp hv hlast (by omega)
  obtain ⟨hlu, hle⟩ := cgo_le ts hts 1073741824 (Nat.le_refl _) hl l hp
  have hout := cgo_out ts l
  have hob : (cgo ts l).2 ++ encs rest = encs (a ++ (b ++ rest)) := by rw [hout, h2, ← encs_app, List.append_assoc]
  have htl : tailOf ((cgo ts l).2 ++ encs rest) (cgo ts l).1.lu = txt (b ++ rest) := by rw [hob, h3, tail_txt]
  have hall : okR (allR l) := by
    intro r hr
    unfold allR at hr
    obtain ⟨y, hy, hr⟩ := List.mem_flatMap.1 hr
    exact hv y hy r hr
  have hvb : okR (b ++ rest) := okR.app (fun r hr => hall r (by rw [h2]; simp [hr])) hr
  have hbz : (txt (b ++ rest)).size ≤ (encs (allR l)).length + (encs rest).length := by
    rw [txt_size, h2]
    simp only [encs_app, List.length_append]
    omega
  have hluz : (cgo ts l).1.lu ≤ (encs (allR l)).length := by rw [← hout]; exact hlu
  obtain ⟨t, hb⟩ := BTok.upd (s := txt (b ++ rest)) (txt (b ++ rest)).size 0 h1 hle (by omega)
  have hu := upd_all (b ++ rest) hvb (advI a (0, 0)).1 (cgo ts l).1 h4
  have happ : advI (a ++ (b ++ rest)) (0, 0) = advI (b ++ rest) (advI a (0, 0)) := advI_append a (b ++ rest) (0, 0) (fun q => absurd q (last_ne h6))
  have e5 : ((advI a (0, 0)).1, (cgo ts l).1.gcol) = advI a (0, 0) := by rw [h5]
  unfold cend Bd.done
  rw [htl]
  refine ⟨_, hb.same rfl rfl, ?_, ?_⟩
  · rw [h2, List.append_assoc, happ, ← e5]
    exact hu.1
  · rw [h2, List.append_assoc, happ, ← e5]
    exact hu.2
end Go.Proofs.YtnokiikgnplpmaaDoor

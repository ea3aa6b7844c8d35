/-
  What is appended to mappings, as tokens: plain. Conditions: as each lemma says.
-/
import Derived.Test.YtnokiikgnplpmaaDoorM7
import Derived.Test.YtnokiikgnplpmaaDoorM13
namespace Go.Proofs.YtnokiikgnplpmaaDoor
open Go.RowKit

/-- The first name is told by another number. -/
def bump (d : Int) : List (Option (List Int)) → List (Option (List Int))
  | [] => []
  | none :: r => none :: bump d r
  | some ns :: r => if ns.length = 5 then some (ns.take 4 ++ [ns.getD 4 0 + d]) :: r else some ns :: bump d r
theorem bump_cons (d : Int) (ns : List Int) (r : List (Option (List Int))) : bump d (some ns :: r) = if ns.length = 5 then some (ns.take 4 ++ [ns.getD 4 0 + d]) :: r else some ns :: bump d r := by
  conv => lhs; unfold bump
theorem five {ns : List Int} (h : ns.length = 5) : ∃ a b c d e, ns = [a, b, c, d, e] := by
  match ns, h with
  | [a, b, c, d, e], _ => exact ⟨a, b, c, d, e, rfl⟩
theorem four' {ns : List Int} (h : ns.length = 4) : ∃ a b c d, ns = [a, b, c, d] := by
  match ns, h with
  | [a, b, c, d], _ => exact ⟨a, b, c, d, rfl⟩
/-- The bytes, where there is a name. -/
theorem bump_some (d : Int) (toks : List (Option (List Int))) (fr : Bool) (k : Nat) (h : foff fr toks = some k) : ∃ A x B, tokB fr toks = A ++ nb x ++ B ∧ A.length = k ∧ tokB fr (bump d toks) = A ++ nb (x + d) ++ B ∧ (∃ ns, some ns ∈ toks ∧ ns.length = 5 ∧ x = ns.getD 4 0) ∧ (B = [] ∨ ∃ y t, B = y :: t ∧ (y = 44 ∨ y = 59)) := by
  induction toks generalizing fr k with
  | nil => simp [foff] at h
  | cons t r ih => cases t with
    | none =>
      simp only [foff, Option.map_eq_some_iff] at h
      obtain ⟨k', h1, rfl⟩ := h
      obtain ⟨A, x, B, e1, e2, e3, ⟨ns, m1, m2, m3⟩, e5⟩ := ih true k' h1
      refine ⟨59 :: A, x, B, by simp [tokB, e1], by simp [e2], by simp [bump, tokB, e3], ⟨ns, by simp [m1], m2, m3⟩, e5⟩
    | some ns =>
      unfold foff at h
      by_cases h5 : ns.length = 5
      · rw [if_pos h5] at h
        obtain ⟨a, b, c, e, f, rfl⟩ := five h5
        injection h with h
        refine ⟨(if fr then [] else [44]) ++ nums [a, b, c, e], f, tokB false r, ?_, ?_, ?_, ⟨_, by simp, h5, rfl⟩, tokB_false r⟩
        · simp [tokB, nums]
        · rw [← h]; cases fr <;> simp <;> omega
        · simp [bump, tokB, nums]
      · rw [if_neg h5] at h
        simp only [Option.map_eq_some_iff] at h
        obtain ⟨k', h1, rfl⟩ := h
        obtain ⟨A, x, B, e1, e2, e3, ⟨ns', m1, m2, m3⟩, e5⟩ := ih false k' h1
        refine ⟨(if fr then [] else [44]) ++ (nums ns ++ A), x, B, by simp [tokB, e1], ?_, ?_, ⟨ns', by simp [m1], m2, m3⟩, e5⟩
        · simp only [List.length_append, e2]
          cases fr <;> simp <;> omega
        · have : bump d (some ns :: r) = some ns :: bump d r := by rw [bump_cons, if_neg h5]
          rw [this]
          simp [tokB, e3]
theorem bump_none (d : Int) (toks : List (Option (List Int))) (fr : Bool) (h : foff fr toks = none) : bump d toks = toks := by
  induction toks generalizing fr with
  | nil => rfl
  | cons t r ih => cases t with
    | none =>
      simp only [foff, Option.map_eq_none_iff] at h
      simp only [bump, ih true h]
    | some ns =>
      unfold foff at h
      by_cases h5 : ns.length = 5
      · rw [if_pos h5] at h; cases h
      · rw [if_neg h5] at h
        simp only [Option.map_eq_none_iff] at h
        rw [bump_cons, if_neg h5, ih false h]

/-- Two ways to read: behind each other state. -/
def Rel (m : Seg) (nd : Int) (q q' : Seg × Int) : Prop := 0 ≤ q.1.l ∧ q'.1.l = q.1.l + m.l ∧ q'.1.c = (if q.1.l = 0 then q.1.c + m.c else q.1.c) ∧ q'.1.s = q.1.s + m.s ∧ q'.1.fl = q.1.fl + m.fl ∧ q'.1.fc = q.1.fc + m.fc ∧ q'.2 = q.2 + nd
theorem Rel.semi {m : Seg} {nd : Int} {q q' : Seg × Int} (h : Rel m nd q q') : Rel m nd (rsemi q) (rsemi q') := by
  obtain ⟨h0, h1, h2, h3, h4, h5, h6⟩ := h
  unfold Rel rsemi
  simp only
  refine ⟨by omega, by omega, ?_, h3, h4, h5, h6⟩
  rw [if_neg (by omega)]
theorem Rel.step4 {m : Seg} {nd : Int} {q q' : Seg × Int} (h : Rel m nd q q') {ns : List Int} (h4' : ns.length = 4) : Rel m nd (rstep q ns) (rstep q' ns) ∧ (rstep q' ns).1 = mvS m (rstep q ns).1 := by
  obtain ⟨h0, h1, h2, h3, h4, h5, h6⟩ := h
  obtain ⟨a, b, c, d, rfl⟩ := four' h4'
  unfold Rel rstep mvS
  simp
  rw [h2]
  refine ⟨⟨h0, h1, by split <;> omega, by omega, by omega, by omega, h6⟩, h1, by split <;> omega, by omega, by omega, by omega⟩
theorem Rel.step5 {m : Seg} {nd e : Int} {q q' : Seg × Int} (h : Rel m nd q q') {ns : List Int} (h5' : ns.length = 5) (he : nd + e = m.nm) : Rel m m.nm (rstep q ns) (rstep q' (ns.take 4 ++ [ns.getD 4 0 + e])) ∧ (rstep q' (ns.take 4 ++ [ns.getD 4 0 + e])).1 = mvS m (rstep q ns).1 := by
  obtain ⟨h0, h1, h2, h3, h4, h5, h6⟩ := h
  obtain ⟨a, b, c, d, f, rfl⟩ := five h5'
  unfold Rel rstep mvS
  simp
  rw [h2]
  repeat' apply And.intro
  all_goals first | assumption | omega | (split <;> omega)
/-- All numbers of what is read are known not to be great. -/
def Tight (q : Seg × Int) (toks : List (Option (List Int))) : Prop := (∀ ns, some ns ∈ toks → nOk ns) ∧ (∀ x ∈ rsegs q toks, sgBd x) ∧ (rgo q toks).1.l ≤ 8589934592
def Bd0 (q : Seg × Int) : Prop := (0 ≤ q.1.l ∧ q.1.l ≤ 8589934592) ∧ (0 ≤ q.1.c ∧ q.1.c ≤ 8589934592) ∧ (0 ≤ q.1.s ∧ q.1.s ≤ 8589934592) ∧ (0 ≤ q.1.fl ∧ q.1.fl ≤ 8589934592) ∧ (0 ≤ q.1.fc ∧ q.1.fc ≤ 8589934592) ∧ (0 ≤ q.2 ∧ q.2 ≤ 8589934592)
/-- How far mappings are moved: not too far. -/
def MvBd (m : Seg) : Prop := (0 ≤ m.l ∧ m.l ≤ 17179869184) ∧ (0 ≤ m.c ∧ m.c ≤ 4294967296) ∧ (0 ≤ m.s ∧ m.s ≤ 4294967296) ∧ (0 ≤ m.fl ∧ m.fl ≤ 4294967296) ∧ (0 ≤ m.fc ∧ m.fc ≤ 4294967296) ∧ (0 ≤ m.nm ∧ m.nm ≤ 4294967296)
theorem Rel.ok {m : Seg} {nd : Int} {q q' : Seg × Int} (h : Rel m nd q q') (hq : Bd0 q) (hm : MvBd m) (hn : 0 ≤ nd ∧ nd ≤ 8589934592) : sOk q' := by
  obtain ⟨h0, h1, h2, h3, h4, h5, h6⟩ := h
  obtain ⟨b1, b2, b3, b4, b5, b6⟩ := hq
  obtain ⟨m1, m2, m3, m4, m5, m6⟩ := hm
  unfold sOk
  rw [h1, h2, h3, h4, h5, h6]
  refine ⟨by omega, by split <;> omega, by omega, by omega, by omega, by omega⟩
theorem rgo_mono (toks : List (Option (List Int))) (q : Seg × Int) : q.1.l ≤ (rgo q toks).1.l := by
  induction toks generalizing q with
  | nil => exact Int.le_refl _
  | cons t r ih => cases t with
    | none => have := ih (rsemi q); simp only [rgo]; unfold rsemi at *; simp only at this ⊢; omega
    | some ns => have := ih (rstep q ns); simp only [rgo]; unfold rstep at *; simp only at this ⊢; omega
theorem Tight.tail {q : Seg × Int} {t : Option (List Int)} {r : List (Option (List Int))} (h : Tight q (t :: r)) (hq : Bd0 q) : (match t with | none => Tight (rsemi q) r ∧ Bd0 (rsemi q) | some ns => nOk ns ∧ Tight (rstep q ns) r ∧ Bd0 (rstep q ns)) := by
  obtain ⟨h1, h2, h3⟩ := h
  cases t with
  | none =>
    have hm := rgo_mono r (rsemi q)
    refine ⟨⟨fun ns hn => h1 ns (by simp [hn]), h2, h3⟩, ?_⟩
    have h3' : (rgo (rsemi q) r).1.l ≤ 8589934592 := h3
    obtain ⟨b1, b2, b3, b4, b5, b6⟩ := hq
    unfold Bd0
    unfold rsemi at hm h3' ⊢
    simp only at hm h3' ⊢
    refine ⟨by omega, by omega, b3, b4, b5, b6⟩
  | some ns =>
    have hn := h1 ns (by simp)
    have hs : sgBd (rstep q ns).1 := h2 _ (by simp [rsegs])
    refine ⟨hn, ⟨fun ns' hn' => h1 ns' (by simp [hn']), fun x hx => h2 x (by simp [rsegs, hx]), h3⟩, ?_⟩
    obtain ⟨s1, s2, s3, s4, s5, s6, s7⟩ := hs
    refine ⟨s1, s2, s3, s4, s5, ?_⟩
    unfold rstep at s6 ⊢
    simp only at s6 ⊢
    by_cases h5 : ns.length = 5
    · rw [if_pos h5] at s6 ⊢; exact s6
    · rw [if_neg h5]; exact hq.2.2.2.2.2
/-- What is read, when all is moved. -/
theorem moved_read (m : Seg) (hm : MvBd m) (toks : List (Option (List Int))) : ∀ (q q' : Seg × Int), Rel m m.nm q q' → Bd0 q → Tight q toks → rok q' toks ∧ rsegs q' toks = (rsegs q toks).map (mvS m) ∧ Rel m m.nm (rgo q toks) (rgo q' toks) := by
  have hmn : 0 ≤ m.nm ∧ m.nm ≤ 8589934592 := by obtain ⟨_, _, _, _, _, h⟩ := hm; omega
  induction toks with
  | nil => intro q q' h hb _; exact ⟨h.ok hb hm hmn, rfl, h⟩
  | cons t r ih =>
    intro q q' h hb ht
    have h2 := ht.tail hb
    have hok := h.ok hb hm hmn
    cases t with
    | none =>
      obtain ⟨i1, i2, i3⟩ := ih _ _ h.semi h2.2 h2.1
      exact ⟨⟨hok, i1⟩, i2, i3⟩
    | some ns =>
      obtain ⟨n1, n2, n3⟩ := h2
      rcases n1.1 with h4 | h5
      · obtain ⟨e1, e2⟩ := h.step4 h4
        obtain ⟨i1, i2, i3⟩ := ih _ _ e1 n3 n2
        exact ⟨⟨hok, n1, i1⟩, by simp only [rsegs, List.map_cons]; rw [i2, e2], i3⟩
      · obtain ⟨e1, e2⟩ := h.step5 (e := 0) h5 (by omega)
        have e0 : ns.take 4 ++ [ns.getD 4 0 + 0] = ns := by
          obtain ⟨a, b, c, d, f, rfl⟩ := five h5
          simp
        rw [e0] at e1 e2
        obtain ⟨i1, i2, i3⟩ := ih _ _ e1 n3 n2
        exact ⟨⟨hok, n1, i1⟩, by simp only [rsegs, List.map_cons]; rw [i2, e2], i3⟩
/-- .. and the first name is told by another number. -/
theorem bump_read (m : Seg) (hm : MvBd m) (pn d : Int) (hp : 0 ≤ pn ∧ pn ≤ 4294967296) (hd : pn + d = m.nm) (toks : List (Option (List Int))) : ∀ (q q' : Seg × Int), Rel m pn q q' → q.2 = 0 → Bd0 q → Tight q toks → rok q' (bump d toks) ∧ rsegs q' (bump d toks) = (rsegs q toks).map (mvS m) := by
  induction toks with
  | nil => intro q q' h _ hb _; exact ⟨h.ok hb hm (by omega), rfl⟩
  | cons t r ih =>
    intro q q' h h0 hb ht
    have h2 := ht.tail hb
    have hok := h.ok hb hm (by omega)
    cases t with
    | none =>
      obtain ⟨i1, i2⟩ := ih _ _ h.semi h0 h2.2 h2.1
      exact ⟨⟨hok, i1⟩, i2⟩
    | some ns =>
      obtain ⟨n1, n2, n3⟩ := h2
      rw [bump_cons]
      rcases n1.1 with h4 | h5
      · rw [if_neg (by omega)]
        obtain ⟨e1, e2⟩ := h.step4 h4
        have hz : (rstep q ns).2 = 0 := by unfold rstep; simp only; rw [if_neg (by omega)]; exact h0
        obtain ⟨i1, i2⟩ := ih _ _ e1 hz n3 n2
        exact ⟨⟨hok, n1, i1⟩, by simp only [rsegs, List.map_cons]; rw [i2, e2]⟩
      · rw [if_pos h5]
        obtain ⟨e1, e2⟩ := h.step5 h5 hd
        obtain ⟨i1, i2, _⟩ := moved_read m hm r _ _ e1 n3 n2
        refine ⟨⟨hok, ⟨.inr (by simp; omega), fun n hn => ?_⟩, i1⟩, by simp only [rsegs, List.map_cons]; rw [i2, e2]⟩
        rcases List.mem_append.1 hn with hn | hn
        · exact n1.2 n (List.mem_of_mem_take hn)
        · rw [List.mem_singleton] at hn
          have hnm : (rstep q ns).1.nm = q.2 + ns.getD 4 0 := by unfold rstep; simp only; rw [if_pos h5]
          have hs : sgBd (rstep q ns).1 := ht.2.1 _ (by simp [rsegs])
          obtain ⟨_, _, _, _, _, s6, _⟩ := hs
          rw [hnm, h0] at s6
          obtain ⟨_, _, _, _, _, m6⟩ := hm
          omega
/-- Mappings that were written are tight. -/
theorem wtk_tight {l : List Seg} (h : WOk l) : Tight qz (wtk l) := by
  obtain ⟨h1, h2, h3⟩ := wtk_read h
  refine ⟨?_, ?_, ?_⟩
  · have key : ∀ (toks : List (Option (List Int))) (q : Seg × Int), rok q toks → ∀ ns, some ns ∈ toks → nOk ns := by
      intro toks
      induction toks with
      | nil => intro q _ ns hn; simp at hn
      | cons t r ih => cases t with
        | none => intro q hr ns hn; simp at hn; exact ih _ hr.2 ns hn
        | some ms =>
          intro q hr ns hn
          simp at hn
          rcases hn with rfl | hn
          · exact hr.2.1
          · exact ih _ hr.2.2 ns hn
    exact key _ _ h1
  · rw [h3]
    intro x hx
    obtain ⟨i, hi, rfl⟩ := List.mem_iff_getElem.1 hx
    exact (h i hi).1
  · rw [h2]
    have := (wst_bd h).1.1
    omega
theorem qz_bd : Bd0 qz := by unfold Bd0 qz; simp

/-- What the first mapping becomes. -/
def headN (p s : Seg) (sl : Int) (k : Nat) (n0 n1 n2 n3 : Int) : List Int := [(if 0 < k then 0 else s.c) + n0 - (if 0 < sl ∨ 0 < k then 0 else p.c), s.s + n1 - p.s, s.fl + n2 - p.fl, s.fc + n3 - p.fc]
/-- The tokens of what is appended. -/
def jtoks (p s : Seg) (d : Int) (sl k : Nat) (n0 n1 n2 n3 : Int) (tl : List Int) (rest : List (Option (List Int))) : List (Option (List Int)) :=
  List.replicate (sl + k) none ++ bump d (some (headN p s sl k n0 n1 n2 n3 ++ tl) :: rest)
theorem rep_all (k : Nat) (q : Seg × Int) (hq : sOk q) (hl : q.1.l + k < 1099511627776) : rok q (List.replicate k none) := by
  induction k generalizing q with
  | zero => exact hq
  | succ k ih =>
    rw [List.replicate_succ]
    refine ⟨hq, ih (rsemi q) ?_ ?_⟩
    · unfold sOk at hq ⊢
      unfold rsemi
      simp only
      omega
    · unfold rsemi
      simp only
      omega
/-- What is read of mappings and others appended. -/
theorem join_read (ftoks : List (Option (List Int))) (hf : rok qz ftoks) (s : Seg) (sl k : Nat) (n0 n1 n2 n3 : Int) (tl : List Int) (rest : List (Option (List Int)))
    (ht : Tight qz (List.replicate k none ++ some ([n0, n1, n2, n3] ++ tl) :: rest)) (htl : tl.length ≤ 1) (hb : Bd0 (rgo qz ftoks)) (hpn : (rgo qz ftoks).2 ≤ 4294967296)
    (hs : (0 ≤ s.c ∧ s.c ≤ 4294967296) ∧ (0 ≤ s.s ∧ s.s ≤ 4294967296) ∧ (0 ≤ s.fl ∧ s.fl ≤ 4294967296) ∧ (0 ≤ s.fc ∧ s.fc ≤ 4294967296) ∧ (0 ≤ s.nm ∧ s.nm ≤ 4294967296)) (hsl : sl ≤ 4294967296) :
    rok qz (ftoks ++ jtoks (rgo qz ftoks).1 s (s.nm - (rgo qz ftoks).2) sl k n0 n1 n2 n3 tl rest) ∧
    rsegs qz (ftoks ++ jtoks (rgo qz ftoks).1 s (s.nm - (rgo qz ftoks).2) sl k n0 n1 n2 n3 tl rest) = rsegs qz ftoks ++ (rsegs qz (List.replicate k none ++ some ([n0, n1, n2, n3] ++ tl) :: rest)).map (mvS { s with l := (rgo qz ftoks).1.l + sl }) := by
  obtain ⟨q, hq⟩ : ∃ q, q = rgo qz ftoks := ⟨_, rfl⟩
  rw [← hq] at hb hpn ⊢
  obtain ⟨m, hmm⟩ : ∃ m : Seg, m = { s with l := q.1.l + sl } := ⟨_, rfl⟩
  rw [← hmm]
  have hmB : MvBd m := by
    obtain ⟨b1, _⟩ := hb
    rw [hmm]
    unfold MvBd
    simp only
    omega
  -- the state behind the semicolons
  have g1 := rgo_rep k qz
  have g2 := rgo_rep (sl + k) q
  have hk : (k : Int) ≤ 8589934592 := by
    have h1 := ht.2.2
    rw [rgo_app, g1] at h1
    have h2 := rgo_mono (some ([n0, n1, n2, n3] ++ tl) :: rest) ({ qz.1 with l := qz.1.l + k, c := if k = 0 then qz.1.c else 0 }, qz.2)
    unfold qz at h1 h2
    simp only at h1 h2
    omega
  have hsk : sOk q := by
    obtain ⟨b1, b2, b3, b4, b5, b6⟩ := hb
    unfold sOk
    omega
  have hrep : rok q (List.replicate (sl + k) none) := rep_all _ _ hsk (by obtain ⟨b1, _⟩ := hb; omega)
  -- the first mapping
  obtain ⟨Q, hQ⟩ : ∃ Q, Q = rgo qz (List.replicate k none) := ⟨_, rfl⟩
  obtain ⟨Q', hQ'⟩ : ∃ Q', Q' = rgo q (List.replicate (sl + k) none) := ⟨_, rfl⟩
  have hT2 : Tight Q (some ([n0, n1, n2, n3] ++ tl) :: rest) := by
    obtain ⟨t1, t2, t3⟩ := ht
    rw [rsegs_app, rsegs_rep, List.nil_append] at t2
    rw [rgo_app] at t3
    rw [hQ]
    exact ⟨fun ns hn => t1 ns (by simp only [List.mem_append]; exact .inr hn), t2, t3⟩
  have hQe : Q = (⟨(k : Int), 0, 0, 0, 0, 0, false⟩, 0) := by
    rw [hQ, g1]
    unfold qz
    simp
  have hBQ : Bd0 Q := by rw [hQe]; unfold Bd0; simp only; omega
  have hQ'e : Q' = ({ q.1 with l := q.1.l + (sl + k : Nat), c := if sl + k = 0 then q.1.c else 0 }, q.2) := by rw [hQ', g2]
  have hsQ' : sOk Q' := by
    obtain ⟨b1, b2, b3, b4, b5, b6⟩ := hb
    rw [hQ'e]
    unfold sOk
    simp only
    refine ⟨by omega, by split <;> omega, by omega, by omega, by omega, by omega⟩
  obtain ⟨n1', n2', n3'⟩ := hT2.tail hBQ
  have hstep := n3'
  have hseg : sgBd (rstep Q ([n0, n1, n2, n3] ++ tl)).1 := hT2.2.1 _ (by simp [rsegs])
  have hd : q.2 + (s.nm - q.2) = m.nm := by rw [hmm]; simp only; omega
  have heads : rsegs qz (ftoks ++ jtoks q.1 s (s.nm - q.2) sl k n0 n1 n2 n3 tl rest) = rsegs qz ftoks ++ rsegs Q' (bump (s.nm - q.2) (some (headN q.1 s sl k n0 n1 n2 n3 ++ tl) :: rest)) := by
    unfold jtoks
    rw [rsegs_app, rsegs_app, rsegs_rep, List.nil_append, ← hq, ← hQ']
  have origs : rsegs qz (List.replicate k none ++ some ([n0, n1, n2, n3] ++ tl) :: rest) = rsegs Q (some ([n0, n1, n2, n3] ++ tl) :: rest) := by
    rw [rsegs_app, rsegs_rep, List.nil_append, ← hQ]
  rw [heads, origs]
  obtain ⟨b1, b2, b3, b4, b5, b6⟩ := hb
  obtain ⟨hs2, hs3, hs4, hs5, hs6⟩ := hs
  have hc : (if sl + k = 0 then q.1.c else 0) + ((if 0 < k then 0 else s.c) + n0 - (if 0 < (sl : Int) ∨ 0 < k then 0 else q.1.c)) = (if (k : Int) = 0 then n0 + s.c else n0) := by
    by_cases h1 : k = 0
    · by_cases h2 : sl = 0
      · rw [if_pos (by omega), if_neg (by omega), if_neg (by omega), if_pos (by omega)]; omega
      · rw [if_neg (by omega), if_neg (by omega), if_pos (by omega), if_pos (by omega)]; omega
    · rw [if_neg (by omega), if_pos (by omega), if_pos (by omega), if_neg (by omega)]; omega
  have hcb : -17179869184 < (if 0 < k then 0 else s.c) + n0 - (if 0 < (sl : Int) ∨ 0 < k then 0 else q.1.c) ∧ (if 0 < k then 0 else s.c) + n0 - (if 0 < (sl : Int) ∨ 0 < k then 0 else q.1.c) < 17179869184 := by
    have hn0 : 0 ≤ n0 ∧ n0 ≤ 8589934592 := by
      obtain ⟨_, x2, _⟩ := hseg
      rw [hQe] at x2
      simp [rstep] at x2
      exact x2
    have x1 : 0 ≤ (if 0 < k then 0 else s.c) ∧ (if 0 < k then 0 else s.c) ≤ 4294967296 := by split <;> omega
    have x2 : 0 ≤ (if 0 < (sl : Int) ∨ 0 < k then 0 else q.1.c) ∧ (if 0 < (sl : Int) ∨ 0 < k then 0 else q.1.c) ≤ 8589934592 := by split <;> omega
    omega
  have hn123 : (0 ≤ n1 ∧ n1 ≤ 8589934592) ∧ (0 ≤ n2 ∧ n2 ≤ 8589934592) ∧ (0 ≤ n3 ∧ n3 ≤ 8589934592) := by
    obtain ⟨_, _, x3, x4, x5, _⟩ := hseg
    rw [hQe] at x3 x4 x5
    simp [rstep] at x3 x4 x5
    exact ⟨x3, x4, x5⟩
  have key : rok Q' (bump (s.nm - q.2) (some (headN q.1 s sl k n0 n1 n2 n3 ++ tl) :: rest)) ∧ rsegs Q' (bump (s.nm - q.2) (some (headN q.1 s sl k n0 n1 n2 n3 ++ tl) :: rest)) = (rsegs Q (some ([n0, n1, n2, n3] ++ tl) :: rest)).map (mvS m) := by
    have hl4 : (headN q.1 s sl k n0 n1 n2 n3).length = 4 := rfl
    rcases (show tl = [] ∨ ∃ x, tl = [x] by
      match tl, htl with
      | [], _ => exact .inl rfl
      | [x], _ => exact .inr ⟨x, rfl⟩) with rfl | ⟨x, rfl⟩
    · rw [List.append_nil, List.append_nil] at *
      have hrel : Rel m q.2 (rstep Q [n0, n1, n2, n3]) (rstep Q' (headN q.1 s sl k n0 n1 n2 n3)) := by
        rw [hQe, hQ'e, hmm]
        unfold Rel rstep headN
        simp
        refine ⟨by omega, ?_, by omega, by omega, by omega⟩
        simpa using hc
      have heq : (rstep Q' (headN q.1 s sl k n0 n1 n2 n3)).1 = mvS m (rstep Q [n0, n1, n2, n3]).1 := by
        obtain ⟨_, r1, r2, r3, r4, r5, _⟩ := hrel
        refine seg_ext r1 ?_ r3 r4 r5 ?_ ?_
        · rw [r2]; rfl
        · rw [hmm]; simp [rstep, mvS, headN]
        · simp [rstep, mvS, headN]
      have hz : (rstep Q [n0, n1, n2, n3]).2 = 0 := by rw [hQe]; simp [rstep]
      obtain ⟨i1, i2⟩ := bump_read m hmB q.2 (s.nm - q.2) ⟨b6.1, hpn⟩ hd rest _ _ hrel hz n3' n2'
      have e : bump (s.nm - q.2) (some (headN q.1 s sl k n0 n1 n2 n3) :: rest) = some (headN q.1 s sl k n0 n1 n2 n3) :: bump (s.nm - q.2) rest := by
        rw [bump_cons, if_neg (by rw [hl4]; omega)]
      rw [e]
      refine ⟨⟨hsQ', ⟨.inl hl4, fun n hn => ?_⟩, i1⟩, by simp only [rsegs, List.map_cons]; rw [i2, heq]⟩
      unfold headN at hn
      simp only [List.mem_cons, List.not_mem_nil, or_false] at hn
      rcases hn with rfl | rfl | rfl | rfl
      · exact hcb
      · omega
      · omega
      · omega
    · have hx : 0 ≤ x ∧ x ≤ 8589934592 := by
        obtain ⟨_, _, _, _, _, x6, _⟩ := hseg
        rw [hQe] at x6
        simp [rstep] at x6
        exact x6
      have hrel : Rel m m.nm (rstep Q ([n0, n1, n2, n3] ++ [x])) (rstep Q' (headN q.1 s sl k n0 n1 n2 n3 ++ [x + (s.nm - q.2)])) := by
        rw [hQe, hQ'e, hmm]
        unfold Rel rstep headN
        simp
        refine ⟨by omega, ?_, by omega, by omega, by omega, by omega⟩
        simpa using hc
      have heq : (rstep Q' (headN q.1 s sl k n0 n1 n2 n3 ++ [x + (s.nm - q.2)])).1 = mvS m (rstep Q ([n0, n1, n2, n3] ++ [x])).1 := by
        obtain ⟨_, r1, r2, r3, r4, r5, r6⟩ := hrel
        refine seg_ext r1 ?_ r3 r4 r5 ?_ ?_
        · rw [r2]; rfl
        · rw [hmm, hQ'e, hQe]; simp [rstep, mvS, headN]; omega
        · simp [rstep, mvS, headN]
      obtain ⟨i1, i2, _⟩ := moved_read m hmB rest _ _ hrel n3' n2'
      have e : bump (s.nm - q.2) (some (headN q.1 s sl k n0 n1 n2 n3 ++ [x]) :: rest) = some (headN q.1 s sl k n0 n1 n2 n3 ++ [x + (s.nm - q.2)]) :: rest := by
        rw [bump_cons, if_pos (by simp [hl4])]
        unfold headN
        simp
      rw [e]
      refine ⟨⟨hsQ', ⟨.inr (by simp [hl4]), fun n hn => ?_⟩, i1⟩, by simp only [rsegs, List.map_cons]; rw [i2, heq]⟩
      unfold headN at hn
      simp only [List.mem_append, List.mem_cons, List.not_mem_nil, or_false] at hn
      rcases hn with (rfl | rfl | rfl | rfl) | rfl
      · exact hcb
      · omega
      · omega
      · omega
      · omega
  obtain ⟨key1, key2⟩ := key
  refine ⟨?_, by rw [key2]⟩
  unfold jtoks
  refine rok_app hf ?_
  rw [← hq]
  refine rok_app hrep ?_
  rw [← hQ']
  exact key1
end Go.Proofs.YtnokiikgnplpmaaDoor

/-
  The tables of lines of a source tell the line and the column of each place at which a rune begins: plain, no program. Conditions: as each lemma says.
-/
import Derived.Test.YtnokiikgnplpmaaDoorTabGen
namespace Go.Proofs.YtnokiikgnplpmaaDoor

/-- Columns tell column c at distance d. -/
def KnC : Option (List Nat) → Nat → Nat → Nat → Prop
  | none, _, d, c => c = d
  | some l, f, d, c => (f ≤ d → l[d - f]? = some c) ∧ (¬ f ≤ d → c = d)
/-- A line's table tells column c at place p. -/
def Knows (r : LT) (p c : Nat) : Prop := r.start ≤ p ∧ KnC r.cols r.first (p - r.start) c
theorem Knows.colOf {r : LT} {p c : Nat} (h : Knows r p c) : colOf r p = c := by
  obtain ⟨h1, h2⟩ := h
  unfold Go.Proofs.YtnokiikgnplpmaaDoor.colOf
  cases hc : r.cols with
  | none => rw [hc] at h2; exact h2.symm
  | some l =>
    rw [hc] at h2
    simp only
    split
    · rename_i q
      have := h2.1 q
      simp [List.getD, this]
    · rename_i q
      exact (h2.2 q).symm
theorem Knows.loc {r : LT} {p c : Nat} (h : Knows r p c) (l : List Nat) (hl : r.cols = some l) (hf : r.first ≤ p - r.start) : p - r.start - r.first < l.length := by
  obtain ⟨h1, h2⟩ := h
  rw [hl] at h2
  exact (List.getElem?_eq_some_iff.1 (h2.1 hf)).1

/-- What holds ahead of byte i. -/
structure TS.Inv (t : TS) (i : Nat) : Prop where
  lt : ∀ r ∈ t.out, r.start < i
  srt : t.out.Pairwise fun a b => a.start < b.start
  zero : t.col = 0 → t.cols = none
  lb : 0 < t.col → t.lbo < i ∧ ∀ r ∈ t.out, r.start < t.lbo
  h0 : (t.out = [] → (t.col = 0 → i = 0) ∧ (0 < t.col → t.lbo = 0)) ∧ (∀ h : 0 < t.out.length, (t.out[0]'h).start = 0)
  none_ : t.cols = none → 0 < t.col → t.col = i - t.lbo
  some_ : ∀ l, t.cols = some l → l.length + t.first = t.cbo ∧ t.cbo ≤ i - t.lbo

/-- What holds behind the filling of the columns at byte i. -/
structure TS.Mid (t : TS) (i : Nat) : Prop where
  lb : t.lbo ≤ i ∧ ∀ r ∈ t.out, r.start < t.lbo
  srt : t.out.Pairwise fun a b => a.start < b.start
  h0 : (t.out = [] → t.lbo = 0) ∧ (∀ h : 0 < t.out.length, (t.out[0]'h).start = 0)
  none_ : t.cols = none → t.col = i - t.lbo
  some_ : ∀ l, t.cols = some l → l.length + t.first = t.cbo ∧ t.cbo = i - t.lbo + 1
  knows : Knows t.row i t.col

theorem TS.Inv.zero0 : TS.zero.Inv 0 :=
  ⟨(fun r hr => by cases hr), List.Pairwise.nil, (fun _ => rfl), (fun h => by simp [TS.zero] at h), ⟨(fun _ => ⟨fun _ => rfl, fun h => by simp [TS.zero] at h⟩), (fun h => by simp [TS.zero] at h)⟩, (fun _ h => by simp [TS.zero] at h), (fun l h => by cases h)⟩

/-- Ahead of a rune: the line's beginning is marked. -/
structure TS.Hd (t : TS) (i : Nat) : Prop where
  lb : t.lbo ≤ i ∧ ∀ r ∈ t.out, r.start < t.lbo
  srt : t.out.Pairwise fun a b => a.start < b.start
  h0 : (t.out = [] → t.lbo = 0) ∧ (∀ h : 0 < t.out.length, (t.out[0]'h).start = 0)
  none_ : t.cols = none → t.col = i - t.lbo
  some_ : ∀ l, t.cols = some l → l.length + t.first = t.cbo ∧ t.cbo ≤ i - t.lbo
theorem TS.Inv.mark {t : TS} {i : Nat} (h : t.Inv i) : (t.mark i).Hd i := by
  unfold TS.mark
  split
  · rename_i hc
    exact ⟨⟨Nat.le_refl _, h.lt⟩, h.srt, ⟨fun e => (h.h0.1 e).1 hc, h.h0.2⟩, fun _ => by simp only; omega, (fun l hl => by have hl' : t.cols = some l := hl; rw [h.zero hc] at hl'; cases hl')⟩
  · rename_i hc
    have hc' : 0 < t.col := by omega
    have h1 := h.lb hc'
    exact ⟨⟨by omega, h1.2⟩, h.srt, ⟨fun e => (h.h0.1 e).2 hc', h.h0.2⟩, fun e => h.none_ e hc', h.some_⟩
theorem TS.Hd.opn {t : TS} {i : Nat} (h : t.Hd i) (c : Nat) : (t.opn i c).Hd i ∧ ((t.opn i c).cols = none → c ≤ 127) := by
  unfold TS.opn
  split
  · exact ⟨⟨h.lb, h.srt, h.h0, (fun e => by cases e), (fun l hl => by cases hl; simp)⟩, (fun e => by cases e)⟩
  · rename_i hc
    exact ⟨h, fun e => Nat.le_of_not_lt fun q => hc ⟨q, e⟩⟩
theorem TS.Hd.fill {t : TS} {i : Nat} (h : t.Hd i) : (t.fill i).Mid i := by
  unfold TS.fill
  split
  · rename_i hc
    refine ⟨h.lb, h.srt, h.h0, h.none_, (fun l hl => by rw [hc] at hl; cases hl), h.lb.1, ?_⟩
    show KnC t.cols t.first (i - t.lbo) t.col
    rw [hc]
    exact h.none_ hc
  · rename_i l hl
    have h2 := h.some_ l hl
    have h3 := h.lb.1
    refine ⟨h.lb, h.srt, h.h0, (fun e => by simp at e), fun l' hl' => ?_, h.lb.1, ?_⟩
    · simp only [Option.some.injEq] at hl'
      subst hl'
      simp only [List.length_append, List.length_replicate]
      omega
    · show KnC (some (l ++ List.replicate (i - t.lbo + 1 - t.cbo) t.col)) t.first (i - t.lbo) t.col
      refine ⟨fun _ => ?_, fun q => by omega⟩
      rw [List.getElem?_append_right (by omega), List.getElem?_replicate, if_pos (by omega)]
theorem fill_col (t : TS) (i : Nat) : (t.fill i).col = t.col := by unfold TS.fill; split <;> rfl
theorem fill_out (t : TS) (i : Nat) : (t.fill i).out = t.out := by unfold TS.fill; split <;> rfl
theorem fill_lbo (t : TS) (i : Nat) : (t.fill i).lbo = t.lbo := by unfold TS.fill; split <;> rfl
theorem fill_none (t : TS) (i : Nat) : (t.fill i).cols = none → t.cols = none := by
  unfold TS.fill
  split
  · exact fun h => h
  · intro h; simp at h
theorem opn_col (t : TS) (i c : Nat) : (t.opn i c).col = t.col := by unfold TS.opn; split <;> rfl
theorem opn_out (t : TS) (i c : Nat) : (t.opn i c).out = t.out := by unfold TS.opn; split <;> rfl
theorem opn_lbo (t : TS) (i c : Nat) : (t.opn i c).lbo = t.lbo := by unfold TS.opn; split <;> rfl
theorem mark_col' (t : TS) (i : Nat) : (t.mark i).col = t.col := by unfold TS.mark; split <;> rfl
theorem mark_out' (t : TS) (i : Nat) : (t.mark i).out = t.out := by unfold TS.mark; split <;> rfl
theorem newline_rows {t : TS} {i j : Nat} (h : t.Mid i) (hj : i < j) : t.newline.Inv j := by
  have hl := h.lb
  refine ⟨fun r hr => ?_, ?_, fun _ => rfl, (fun q => by simp [TS.newline] at q), ⟨(fun e => by simp [TS.newline] at e), fun hh => ?_⟩, (fun _ q => by simp [TS.newline] at q), (fun l q => by cases q)⟩
  · rcases List.mem_append.1 hr with q | q
    · have := hl.2 r q; omega
    · simp only [List.mem_singleton] at q
      subst q
      show t.lbo < j
      omega
  · show (t.out ++ [t.row]).Pairwise _
    rw [List.pairwise_append]
    exact ⟨h.srt, List.pairwise_singleton _ _, fun a ha b hb => by simp only [List.mem_singleton] at hb; subst hb; exact hl.2 a ha⟩
  · by_cases ho : t.out = []
    · simp only [TS.newline, ho, List.nil_append, List.getElem_cons_zero, TS.row]
      exact h.h0.1 ho
    · have hp : 0 < t.out.length := List.length_pos_iff.2 ho
      simp only [TS.newline]
      rw [List.getElem_append_left hp]
      exact h.h0.2 hp
theorem TS.Mid.eat {t : TS} {i wd : Nat} (h : t.Mid i) (s : ByteArray) (c : Nat) (hw : 1 ≤ wd) (ha : t.cols = none → c ≤ 127) (hwa : c ≤ 127 → wd = 1) : (t.eat s i c).Inv (i + wd) := by
  have hl := h.lb
  unfold TS.eat
  have key : ∀ k, 1 ≤ k → (t.cols = none → k = 1) → ({ t with col := t.col + k } : TS).Inv (i + wd) := fun k hk hk1 => by
    refine ⟨fun r hr => by have := hl.2 r hr; omega, h.srt, fun q => by simp only at q; omega, fun _ => ⟨by simp only; omega, hl.2⟩, ⟨fun e => ⟨fun q => by simp only at q; omega, fun _ => h.h0.1 e⟩, h.h0.2⟩, fun e _ => ?_, fun l hl' => ?_⟩
    · have e' : t.cols = none := e
      have h1 := h.none_ e'
      have h2 := hwa (ha e')
      have h3 := hk1 e'
      simp only
      omega
    · have := h.some_ l hl'
      simp only
      omega
  split
  · split
    · exact key 1 (Nat.le_refl _) (fun _ => rfl)
    · exact newline_rows h (by omega)
  · refine key _ (by split <;> omega) (fun e => ?_)
    have := ha e
    rw [if_pos (by omega)]
theorem width_ascii (s : ByteArray) (pos : Nat) (h : pos < s.size) (h1 : (Utf8.decode s pos).1 ≤ 127) : (Utf8.decode s pos).2 = 1 := by
  by_cases ha : (s[pos]'h).toNat < 128
  · rw [decode_ascii s pos h ha]
  · have := (decode_high s pos h (by omega)).1
    omega
theorem TS.Inv.mid {t : TS} {i : Nat} (h : t.Inv i) (c : Nat) : (((t.mark i).opn i c).fill i).Mid i ∧ ((((t.mark i).opn i c).fill i).cols = none → c ≤ 127) :=
  ⟨(h.mark.opn c).1.fill, fun e => (h.mark.opn c).2 (fill_none _ _ e)⟩
theorem TS.Inv.step {t : TS} {s : ByteArray} {pos : Nat} (h : t.Inv pos) (hp : pos < s.size) : (t.step s pos (Utf8.decode s pos).1).Inv (pos + (Utf8.decode s pos).2) :=
  (h.mid _).1.eat s _ (width_pos s pos hp) (h.mid _).2 (width_ascii s pos hp)

/-- In the state, line k knows column c at place p, and all later lines begin behind p. -/
def TS.GK (t : TS) (k p c : Nat) : Prop :=
  (k = t.out.length ∧ 0 < t.col ∧ Knows t.row p c) ∨ (∃ h : k < t.out.length, Knows (t.out[k]'h) p c ∧ (∀ (j : Nat) (hj : j < t.out.length), k < j → p < (t.out[j]'hj).start) ∧ (0 < t.col → p < t.lbo))
theorem Knows.opn {t : TS} {i p c k : Nat} (h : Knows t.row p k) (hp : p < i) (hl : t.lbo ≤ p) : Knows (t.opn i c).row p k := by
  unfold TS.opn
  split
  · rename_i q
    obtain ⟨h1, h2⟩ := h
    refine ⟨hl, ?_⟩
    have h2' : KnC t.cols t.first (p - t.lbo) k := h2
    rw [q.2] at h2'
    exact ⟨fun q => by simp only [TS.row] at q; omega, fun _ => h2'⟩
  · exact h
theorem Knows.fill {t : TS} {i p k : Nat} (h : Knows t.row p k) : Knows (t.fill i).row p k := by
  unfold TS.fill
  split
  · exact h
  · rename_i l hl
    obtain ⟨h1, h2⟩ := h
    refine ⟨h1, ?_⟩
    have h2' : KnC t.cols t.first (p - t.lbo) k := h2
    rw [hl] at h2'
    refine ⟨fun q => ?_, h2'.2⟩
    have q2 := h2'.1 q
    have := (List.getElem?_eq_some_iff.1 q2).1
    show (l ++ _)[p - t.lbo - t.first]? = _
    rw [List.getElem?_append_left this]
    exact q2
/-- Behind the filling at i. -/
def TS.GM (t : TS) (k p c : Nat) : Prop :=
  (k = t.out.length ∧ Knows t.row p c) ∨ (∃ h : k < t.out.length, Knows (t.out[k]'h) p c ∧ (∀ (j : Nat) (hj : j < t.out.length), k < j → p < (t.out[j]'hj).start) ∧ p < t.lbo)
theorem TS.GK.fill {t : TS} {i k p c : Nat} (h : t.GK k p c) (hp : p < i) (u : TS) (hu : u = t.mark i ∨ ∃ c', u = (t.mark i).opn i c') : (u.fill i).GM k p c := by
  have ho : u.out = t.out := by rcases hu with rfl | ⟨c', rfl⟩; exact mark_out' _ _; rw [opn_out, mark_out']
  have hlb : u.lbo = (t.mark i).lbo := by rcases hu with rfl | ⟨c', rfl⟩; rfl; rw [opn_lbo]
  rcases h with ⟨h1, h2, h3⟩ | ⟨h1, h2, h3, h4⟩
  · left
    have hm : t.mark i = t := by unfold TS.mark; rw [if_neg (by omega)]
    refine ⟨by rw [fill_out, ho]; exact h1, Knows.fill ?_⟩
    rcases hu with rfl | ⟨c', rfl⟩
    · rw [hm]; exact h3
    · rw [hm]; exact h3.opn hp h3.1
  · right
    refine ⟨by rw [fill_out, ho]; exact h1, ?_, fun j hj hk => ?_, ?_⟩
    · have e : (u.fill i).out[k]'(by rw [fill_out, ho]; exact h1) = t.out[k]'h1 := by simp only [fill_out, ho]
      rw [e]; exact h2
    · have hj' : j < t.out.length := by rw [fill_out, ho] at hj; exact hj
      have e : (u.fill i).out[j]'hj = t.out[j]'hj' := by simp only [fill_out, ho]
      rw [e]; exact h3 j hj' hk
    · rw [fill_lbo, hlb]
      unfold TS.mark
      split
      · exact hp
      · exact h4 (by omega)
theorem TS.GM.newline {t : TS} {k p c : Nat} (h : t.GM k p c) : t.newline.GK k p c := by
  right
  have hlen : t.newline.out.length = t.out.length + 1 := by simp [TS.newline]
  rcases h with ⟨rfl, h3⟩ | ⟨h1, h2, h3, h4⟩
  · refine ⟨by omega, ?_, fun j hj hk => by omega, fun q => by simp [TS.newline] at q⟩
    have e : t.newline.out[t.out.length]'(by omega) = t.row := by simp [TS.newline]
    rw [e]; exact h3
  · refine ⟨by omega, ?_, fun j hj hk => ?_, fun q => by simp [TS.newline] at q⟩
    · have e : t.newline.out[k]'(by omega) = t.out[k]'h1 := by simp only [TS.newline]; exact List.getElem_append_left h1
      rw [e]; exact h2
    · by_cases hj' : j < t.out.length
      · have e : t.newline.out[j]'hj = t.out[j]'hj' := by simp only [TS.newline]; exact List.getElem_append_left hj'
        rw [e]; exact h3 j hj' hk
      · obtain rfl : j = t.out.length := by omega
        have e : t.newline.out[t.out.length]'hj = t.row := by simp [TS.newline]
        rw [e]; exact h4
theorem TS.GM.eat {t : TS} {k p c : Nat} (h : t.GM k p c) (s : ByteArray) (i r : Nat) : (t.eat s i r).GK k p c := by
  have key : ∀ q, 1 ≤ q → ({ t with col := t.col + q } : TS).GK k p c := fun q hq => by
    rcases h with ⟨h1, h3⟩ | ⟨h1, h2, h3, h4⟩
    · exact .inl ⟨h1, by simp only; omega, h3⟩
    · exact .inr ⟨h1, h2, h3, fun _ => h4⟩
  unfold TS.eat
  split
  · split
    · exact key 1 (Nat.le_refl _)
    · exact h.newline
  · exact key _ (by split <;> omega)
theorem gk_run (s : ByteArray) (k p c : Nat) : ∀ (f i : Nat) (t : TS), t.Inv i → p < i → t.GK k p c → s.size ≤ i + f → i ≤ s.size → ((tabRun s f i t).finish s).newline.GK k p c := by
  intro f
  induction f with
  | zero =>
    intro i t hi hp hg h1 h2
    obtain rfl : i = s.size := by omega
    exact (hg.fill hp (t.mark s.size) (.inl rfl)).newline
  | succ f ih =>
    intro i t hi hp hg h1 h2
    unfold tabRun
    split
    · rename_i hs
      have hw := width_pos s i hs
      have hle : i + (Utf8.decode s i).2 ≤ s.size := decode_end s i hs
      exact ih _ _ (hi.step hs) (by omega) ((hg.fill hp _ (.inr ⟨_, rfl⟩)).eat s i _) (by omega) hle
    · obtain rfl : i = s.size := by omega
      exact (hg.fill hp (t.mark s.size) (.inl rfl)).newline
theorem inv_run (s : ByteArray) : ∀ (f i : Nat) (t : TS), t.Inv i → s.size ≤ i + f → i ≤ s.size → ((tabRun s f i t).finish s).Mid s.size := by
  intro f
  induction f with
  | zero =>
    intro i t hi h1 h2
    obtain rfl : i = s.size := by omega
    exact hi.mark.fill
  | succ f ih =>
    intro i t hi h1 h2
    unfold tabRun
    split
    · rename_i hs
      have hw := width_pos s i hs
      exact ih _ _ (hi.step hs) (by omega) (decode_end s i hs)
    · obtain rfl : i = s.size := by omega
      exact hi.mark.fill
theorem tabs_newline (s : ByteArray) : tabsOf s = ((tabRun s s.size 0 TS.zero).finish s).newline.out := rfl
theorem tabs_ok (s : ByteArray) : TabOk (tabsOf s) := by
  have h := newline_rows (inv_run s s.size 0 TS.zero TS.Inv.zero0 (by omega) (by omega)) (Nat.lt_succ_self s.size)
  have hl : 0 < (tabsOf s).length := by unfold tabsOf; simp
  rw [tabs_newline] at hl ⊢
  refine ⟨fun i j hi hj hij => ?_, hl, h.h0.2 hl⟩
  exact List.pairwise_iff_getElem.1 h.srt i j hi hj hij
/-- What the tables tell of a place: its line is the number of lines that are done there, its column the one that is told there. -/
theorem tabs_place (s : ByteArray) (f i : Nat) (t : TS) (hi : t.Inv i) (h1 : s.size ≤ i + f) (h2 : i ≤ s.size) (hr : tabRun s s.size 0 TS.zero = tabRun s f i t) :
    lineNo (tabsOf s) i = t.out.length + 1 ∧ LocOk (tabsOf s) i ∧ colOf ((tabsOf s).getD t.out.length ⟨none, 0, 0⟩) i = t.col := by
  have hok := tabs_ok s
  have hg : ((tabRun s f i t).finish s).newline.GK t.out.length i t.col := by
    by_cases hs : i < s.size
    · obtain ⟨f, rfl⟩ : ∃ g, f = g + 1 := ⟨f - 1, by omega⟩
      have hw := width_pos s i hs
      have hm := hi.mid (Utf8.decode s i).1
      unfold tabRun
      rw [if_pos hs]
      refine gk_run s _ i _ f _ _ (hi.step hs) (by omega) (TS.GM.eat (.inl ⟨by rw [fill_out, opn_out, mark_out'], ?_⟩) s i _) (by omega) (decode_end s i hs)
      have := hm.1.knows
      rwa [fill_col, opn_col, mark_col'] at this
    · obtain rfl : i = s.size := by omega
      have e : tabRun s f s.size t = t := by cases f with
        | zero => rfl
        | succ f => simp [tabRun]
      rw [e]
      refine TS.GM.newline (.inl ⟨by unfold TS.finish; rw [fill_out, mark_out'], ?_⟩)
      have := hi.mark.fill.knows
      rwa [fill_col, mark_col'] at this
  rw [← hr] at hg
  rcases hg with ⟨_, q, _⟩ | ⟨hk, a1, a2, a3⟩
  · simp [TS.newline] at q
  · have hk' : t.out.length < (tabsOf s).length := hk
    have a1' : Knows ((tabsOf s)[t.out.length]'hk') i t.col := a1
    have a2' : ∀ (j : Nat) (hj : j < (tabsOf s).length), t.out.length < j → i < ((tabsOf s)[j]'hj).start := a2
    have hn : lineNo (tabsOf s) i = t.out.length + 1 := lineNo_is (by omega) (fun j hj hjr => by
      rcases Nat.lt_or_ge j t.out.length with q | q
      · have := hok.1 j t.out.length hj hk' q
        have := a1'.1
        omega
      · obtain rfl : j = t.out.length := by omega
        exact a1'.1) (fun j hj hjr => a2' j hj (by omega))
    refine ⟨hn, ?_, ?_⟩
    · intro h l hl hf
      have e : lineNo (tabsOf s) i - 1 = t.out.length := by omega
      have e2 : (tabsOf s)[lineNo (tabsOf s) i - 1]'h = (tabsOf s)[t.out.length]'hk' := by simp only [e]
      rw [e2] at hl hf ⊢
      exact a1'.loc l hl hf
    · have e : (tabsOf s).getD t.out.length ⟨none, 0, 0⟩ = (tabsOf s)[t.out.length]'hk' := by simp [List.getD, List.getElem?_eq_getElem hk']
      rw [e]
      exact a1'.colOf
/-- No number of the tables is greater than twice the source's size. -/
theorem tabs_bd (s : ByteArray) (hs : s.size ≤ 536870911) : TabBd (tabsOf s) ∧ (tabsOf s).length ≤ s.size + 2 := by
  have key : ∀ (f i : Nat) (t : TS), t.Ok i → i ≤ s.size → (tabRun s f i t).Ok s.size := by
    intro f
    induction f with
    | zero => intro i t h hi; exact h.mono hi
    | succ f ih =>
      intro i t h hi
      unfold tabRun
      split
      · rename_i hp
        have hw := width_pos s i hp
        exact ih _ _ ((h.step s _).mono (by omega)) (decode_end s i hp)
      · exact h.mono hi
  have h := (key s.size 0 TS.zero TS.Ok.zero (by omega)).mark.fill
  have hl := h.1.len
  refine ⟨fun r hr => ?_, by unfold tabsOf TS.finish; rw [List.length_append, List.length_singleton]; omega⟩
  unfold tabsOf at hr
  rcases List.mem_append.1 hr with q | q
  · have := h.1.rows r q
    exact ⟨by omega, by omega, fun l hl x hx => by have := (this.2.2 l hl).1 x hx; omega⟩
  · simp only [List.mem_singleton] at q
    subst q
    exact ⟨by have := h.1.first; show (TS.finish _ s).first ≤ _; unfold TS.finish; omega, by have := h.1.lbo; show (TS.finish _ s).lbo ≤ _; unfold TS.finish; omega, fun l hl x hx => by have := (h.1.bd l hl).1 x hx; omega⟩
end Go.Proofs.YtnokiikgnplpmaaDoor

/-
  The tables of lines of a source of runes, and places of it: plain, no program. Conditions: as each lemma says.
-/
import Derived.Test.YtnokiikgnplpmaaDoorTabLaw
import Derived.Test.YtnokiikgnplpmaaDoorApart8Fn
namespace Go.Proofs.YtnokiikgnplpmaaDoor

/-- Runes that a text holds: each one is a scalar value. -/
def okR (rs : List Nat) : Prop := ∀ r ∈ rs, Utf8.valid (r : Int) = true
theorem okR.app {a b : List Nat} (ha : okR a) (hb : okR b) : okR (a ++ b) := valid_app ha hb
theorem okR.len {rs : List Nat} (h : okR rs) : rs.length ≤ (txt rs).size := by rw [txt_size]; exact encs_ge rs h

/-- At a place at which runes begin, the next one is read. -/
theorem decode_txt (pre : List Nat) (r : Nat) (post : List Nat) (hr : Utf8.valid (r : Int) = true) : Utf8.decode (txt (pre ++ r :: post)) (encs pre).length = (r, (enc r).length) := by
  have hsz : (encs (pre ++ r :: post)).length = (encs pre).length + ((enc r).length + (encs post).length) := by rw [encs_app, encs_cons]; simp
  apply decode_enc _ _ _ hr
  · rw [txt_size, hsz]; omega
  · intro k hk
    rw [get_txt _ _ (by rw [hsz]; omega)]
    have : encs (pre ++ r :: post) = encs pre ++ (enc r ++ encs post) := by rw [encs_app, encs_cons]
    simp only [this]
    rw [List.getElem_append_right (by omega), List.getElem_append_left (by omega)]
    simp [List.getD, hk]
/-- The first byte of runes is a line feed if the first rune is one. -/
theorem lf_txt (pre post : List Nat) (hv : okR post) : lfAt (txt (pre ++ post)) (encs pre).length = decide (post.head? = some 10) := by
  have hsz : (encs (pre ++ post)).length = (encs pre).length + (encs post).length := by rw [encs_app]; simp
  cases post with
  | nil => simp [lfAt, txt_size]
  | cons r post =>
    have hr := hv r (by simp)
    have hl := enc_len r hr
    have hp : (encs pre).length < (txt (pre ++ r :: post)).size := by rw [txt_size, hsz, encs_cons, List.length_append]; omega
    have hb : btn (txt (pre ++ r :: post)) (encs pre).length = ((enc r).getD 0 0).toNat := by
      unfold btn
      rw [get_txt _ _ (by rw [← txt_size]; exact hp)]
      have : encs (pre ++ r :: post) = encs pre ++ (enc r ++ encs post) := by rw [encs_app, encs_cons]
      simp only [this]
      rw [List.getElem_append_right (by omega), List.getElem_append_left (by omega)]
      simp [List.getD, show 0 < (enc r).length by omega]
    unfold lfAt
    rw [hb]
    simp only [hp, true_and, List.head?_cons, Option.some.injEq]
    rw [decide_eq_decide]
    have hle := valid_le r hr
    by_cases h1 : r < 128
    · rw [enc1 r hr h1]
      simp only [List.getD_cons_zero]
      rw [u8n r (by omega)]
    by_cases h2 : r < 2048
    · rw [enc2 r hr h1 h2]
      simp only [List.getD_cons_zero]
      rw [u8n _ (by omega)]
      constructor <;> intro h <;> omega
    by_cases h3 : r < 65536
    · rw [enc3 r hr h1 h2 h3]
      simp only [List.getD_cons_zero]
      rw [u8n _ (by omega)]
      constructor <;> intro h <;> omega
    · rw [enc4 r hr h1 h2 h3]
      simp only [List.getD_cons_zero]
      rw [u8n _ (by omega)]
      constructor <;> intro h <;> omega

/-- What AdvanceString counts of runes ahead of another one. -/
def advK : List Nat → Option Nat → Nat × Nat → Nat × Nat
  | [], _, p => p
  | c :: rs, nx, p => if isNlR c then (if c = 13 ∧ (rs.head?.or nx) = some 10 then advK rs nx (p.1, p.2 + 1) else advK rs nx (p.1 + 1, 0)) else advK rs nx (p.1, p.2 + unitsR c)
theorem advK_I : ∀ (rs : List Nat) (nx : Option Nat) (p : Nat × Nat), (rs.getLast? = some 13 → nx ≠ some 10) → advK rs nx p = advI rs p := by
  intro rs
  induction rs with
  | nil => intro nx p _; rfl
  | cons c rs ih =>
    intro nx p h
    have h2 : rs.getLast? = some 13 → nx ≠ some 10 := by
      cases rs with
      | nil => intro q; simp at q
      | cons e rs => intro q; exact h (by rw [List.getLast?_cons_cons]; exact q)
    unfold advK advI
    have e : (c = 13 ∧ (rs.head?.or nx) = some 10) ↔ (c = 13 ∧ rs.head? = some 10) := by
      cases rs with
      | nil =>
        simp only [List.head?_nil, Option.none_or]
        constructor
        · rintro ⟨rfl, q⟩; exact absurd q (h rfl)
        · rintro ⟨_, q⟩; cases q
      | cons e rs => simp
    simp only [e, ih nx _ h2]
theorem isNl_R (c : Nat) : isNl c = decide (isNlR c) := rfl

/-- The tables' making, from a place of a source of runes to a later one. -/
theorem tab_go (post : List Nat) (hpo : okR post) : ∀ (mid pre : List Nat) (t : TS) (f : Nat), okR mid → t.Inv (encs pre).length → mid.length ≤ f →
    ∃ t', t'.Inv (encs (pre ++ mid)).length ∧ tabRun (txt (pre ++ (mid ++ post))) f (encs pre).length t = tabRun (txt (pre ++ (mid ++ post))) (f - mid.length) (encs (pre ++ mid)).length t' ∧ (t'.out.length, t'.col) = advK mid post.head? (t.out.length, t.col) := by
  intro mid
  induction mid with
  | nil => intro pre t f _ hi _; exact ⟨t, by simpa using hi, by simp, rfl⟩
  | cons c mid ih =>
    intro pre t f hv hi hf
    obtain ⟨f, rfl⟩ : ∃ g, f = g + 1 := ⟨f - 1, by simp at hf; omega⟩
    have hc := hv c (by simp)
    have hvm : okR mid := fun x hx => hv x (by simp [hx])
    have hd := decode_txt pre c (mid ++ post) hc
    have hl := enc_len c hc
    have hsz : (encs pre).length < (txt (pre ++ (c :: mid ++ post))).size := by rw [txt_size, encs_app, List.cons_append, encs_cons]; simp only [List.length_append]; omega
    have hst := hi.step hsz
    have epre : pre ++ (c :: mid ++ post) = (pre ++ [c]) ++ (mid ++ post) := by simp
    have elen : (encs pre).length + (enc c).length = (encs (pre ++ [c])).length := by rw [encs_app, encs_one, List.length_append]
    rw [List.cons_append] at hst
    rw [hd] at hst
    simp only at hst
    rw [elen] at hst
    obtain ⟨t', h1, h2, h3⟩ := ih (pre ++ [c]) _ f hvm hst (by simp at hf; omega)
    refine ⟨t', by simpa using h1, ?_, ?_⟩
    · rw [tabRun, if_pos hsz]
      rw [List.cons_append, hd]
      simp only
      rw [elen]
      have e2 : pre ++ c :: (mid ++ post) = (pre ++ [c]) ++ (mid ++ post) := by simp
      have e3 : pre ++ c :: mid = (pre ++ [c]) ++ mid := by simp
      have e4 : f + 1 - (c :: mid).length = f - mid.length := by simp
      rw [e3, e4]
      simp only [e2] at h2 ⊢
      exact h2
    · rw [h3]
      have hlf : lfAt (txt (pre ++ c :: (mid ++ post))) ((encs pre).length + 1) = decide ((mid ++ post).head? = some 10) ∨ c ≠ 13 := by
        by_cases h13 : c = 13
        · left
          subst h13
          have := lf_txt (pre ++ [13]) (mid ++ post) (hvm.app hpo)
          rw [← elen] at this
          have e2 : (pre ++ [13]) ++ (mid ++ post) = pre ++ 13 :: (mid ++ post) := by simp
          rw [e2] at this
          exact this
        · exact .inr h13
      have hhd : (mid ++ post).head? = mid.head?.or post.head? := by cases mid <;> simp
      have key : ∀ u : TS, u.out.length = t.out.length → u.col = t.col → ((u.eat (txt (pre ++ c :: (mid ++ post))) (encs pre).length c).out.length, (u.eat (txt (pre ++ c :: (mid ++ post))) (encs pre).length c).col) = (if isNlR c then (if c = 13 ∧ (mid.head?.or post.head?) = some 10 then (t.out.length, t.col + 1) else (t.out.length + 1, 0)) else (t.out.length, t.col + unitsR c)) := by
        intro u hu1 hu2
        unfold TS.eat
        rw [isNl_R]
        by_cases hn : isNlR c
        · rw [if_pos (by simpa using hn), if_pos hn]
          by_cases hq : c = 13 ∧ (mid.head?.or post.head?) = some 10
          · rw [if_pos hq, if_pos ?_]
            · rw [hu1, hu2]
            · refine ⟨hq.1, ?_⟩
              rcases hlf with h | h
              · rw [h, hhd]; simpa using hq.2
              · exact absurd hq.1 h
          · rw [if_neg hq, if_neg ?_]
            · simp [TS.newline, hu1]
            · rintro ⟨q1, q2⟩
              apply hq
              refine ⟨q1, ?_⟩
              rcases hlf with h | h
              · rw [h, hhd] at q2; simpa using q2
              · exact absurd q1 h
        · rw [if_neg (by simpa using hn), if_neg hn, hu1, hu2]
          unfold unitsR
          rfl
      have hk := key (((t.mark (encs pre).length).opn (encs pre).length c).fill (encs pre).length) (by rw [fill_out, opn_out, mark_out']) (by rw [fill_col, opn_col, mark_col'])
      unfold TS.step
      rw [hk]
      conv => rhs; unfold advK
      split
      · split <;> rfl
      · rfl
/-- What the tables of a source of runes tell of a place. -/
theorem tab_txt (pre post : List Nat) (h1 : okR pre) (h2 : okR post) : ∃ l c, (l, c) = advK pre post.head? (0, 0) ∧ lineNo (tabsOf (txt (pre ++ post))) (encs pre).length = l + 1 ∧ LocOk (tabsOf (txt (pre ++ post))) (encs pre).length ∧ colOf ((tabsOf (txt (pre ++ post))).getD l ⟨none, 0, 0⟩) (encs pre).length = c := by
  have hlen := (h1.app h2).len
  have hpl := encs_ge post h2
  have hsz : (txt (pre ++ post)).size = (encs pre).length + (encs post).length := by rw [txt_size, encs_app, List.length_append]
  rw [List.length_append] at hlen
  obtain ⟨t', a1, a2, a3⟩ := tab_go post h2 pre [] TS.zero (txt (pre ++ post)).size h1 (by simpa [encs] using TS.Inv.zero0) (by omega)
  simp only [List.nil_append] at a1 a2 a3
  have a2' : tabRun (txt (pre ++ post)) (txt (pre ++ post)).size 0 TS.zero = tabRun (txt (pre ++ post)) ((txt (pre ++ post)).size - pre.length) (encs pre).length t' := a2
  have hpg := encs_ge pre h1
  obtain ⟨b1, b2, b3⟩ := tabs_place (txt (pre ++ post)) _ _ t' a1 (by omega) (by omega) a2'
  exact ⟨t'.out.length, t'.col, a3, b1, b2, b3⟩

/-- The places of a text at which runes begin. -/
def posR (s : ByteArray) : Nat → Nat → List Nat
  | 0, _ => []
  | f + 1, pos => if pos < s.size then pos :: posR s f (pos + (Utf8.decode s pos).2) else []
/-- Can a text be divided at a place? -/
def apartAt (s : ByteArray) (p : Nat) : Bool := apartB (s.extract 0 p) (s.extract p s.size)
/-- The places of a text at which something can begin. -/
def placesL (s : ByteArray) : List Nat := ((posR s s.size 0).filter fun p => apartAt s p) ++ [s.size]
theorem posR_end (s : ByteArray) (f pos : Nat) (h : ¬ pos < s.size) : posR s f pos = [] := by cases f <;> simp [posR, h]
theorem posR_txt (rs : List Nat) (hv : okR rs) : ∀ (f : Nat) (post pre : List Nat), rs = pre ++ post → ∀ p ∈ posR (txt rs) f (encs pre).length, ∃ a b, rs = a ++ b ∧ p = (encs a).length := by
  intro f
  induction f with
  | zero => intro post pre _ p hp; simp [posR] at hp
  | succ f ih =>
    intro post pre he p hp
    unfold posR at hp
    split at hp
    · rename_i hs
      cases post with
      | nil => exfalso; rw [he] at hs; simp [txt_size] at hs
      | cons c post =>
        have hc := hv c (by rw [he]; simp)
        have hd := decode_txt pre c post hc
        rcases List.mem_cons.1 hp with rfl | hp
        · exact ⟨pre, c :: post, he, rfl⟩
        · rw [he] at hp
          rw [hd] at hp
          have elen : (encs pre).length + (enc c).length = (encs (pre ++ [c])).length := by rw [encs_app, encs_one, List.length_append]
          simp only at hp
          rw [elen, ← he] at hp
          exact ih post (pre ++ [c]) (by rw [he]; simp) p hp
    · simp at hp
theorem txt_cut (pre post : List Nat) : (txt (pre ++ post)).extract 0 (encs pre).length = txt pre ∧ (txt (pre ++ post)).extract (encs pre).length (txt (pre ++ post)).size = txt post := by
  have hsz : (txt (pre ++ post)).size = (encs pre).length + (encs post).length := by rw [txt_size, encs_app, List.length_append]
  constructor
  · apply ByteArray.ext
    rw [ByteArray.data_extract]
    apply Array.ext'
    simp [txt, encs_app]
  · apply ByteArray.ext
    rw [ByteArray.data_extract]
    apply Array.ext'
    rw [hsz]
    simp [txt, encs_app]
theorem apart_last (pre post : List Nat) (h : apartB (txt pre) (txt post) = true) : pre.getLast? = some 13 → post.head? ≠ some 10 := by
  intro h1 h2
  obtain ⟨l, rfl⟩ : ∃ l, pre = l ++ [13] := by
    rcases List.eq_nil_or_concat pre with rfl | ⟨l, x, rfl⟩
    · simp at h1
    · exact ⟨l, by simpa using h1⟩
  cases post with
  | nil => simp at h2
  | cons y t =>
    simp at h2
    subst h2
    have e1 : encs (l ++ [13]) = encs l ++ [13] := by rw [encs_app]; rfl
    have e2 : encs (10 :: t) = 10 :: encs t := by rw [encs_cons]; rfl
    have z1 : (txt (l ++ [13])).size = (encs l).length + 1 := by rw [txt_size, e1]; simp
    have z2 : (txt (10 :: t)).size = (encs t).length + 1 := by rw [txt_size, e2]; simp
    have g1 : (txt (l ++ [13])).get! ((txt (l ++ [13])).size - 1) = 13 := by
      rw [get_txt _ _ (by rw [z1, e1]; simp)]
      simp only [e1, z1]
      simp
    have g2 : (txt (10 :: t)).get! 0 = 10 := by
      rw [get_txt _ _ (by rw [e2]; simp)]
      simp only [e2]
      simp
    unfold apartB at h
    rw [g1, g2, z1, z2] at h
    simp at h
/-- A place of a source of runes divides it between two runes, no CR ahead of a LF. -/
theorem placesL_txt (rs : List Nat) (hv : okR rs) (p : Nat) (hp : p ∈ placesL (txt rs)) : ∃ a b, rs = a ++ b ∧ p = (encs a).length ∧ (a.getLast? = some 13 → b.head? ≠ some 10) := by
  unfold placesL at hp
  rcases List.mem_append.1 hp with q | q
  · rw [List.mem_filter] at q
    obtain ⟨a, b, h1, h2⟩ := posR_txt rs hv _ rs [] rfl p (by simpa [encs] using q.1)
    refine ⟨a, b, h1, h2, ?_⟩
    have h3 := q.2
    unfold apartAt at h3
    rw [h1, h2, (txt_cut a b).1, (txt_cut a b).2] at h3
    exact apart_last a b h3
  · simp only [List.mem_singleton] at q
    refine ⟨rs, [], by simp, by rw [q, txt_size], fun _ => by simp⟩
theorem placesL_le (s : ByteArray) : (placesL s).length ≤ s.size + 1 := by
  have key : ∀ f pos, (posR s f pos).length ≤ f := by
    intro f
    induction f with
    | zero => intro pos; simp [posR]
    | succ f ih =>
      intro pos
      unfold posR
      split
      · have := ih (pos + (Utf8.decode s pos).2); simp only [List.length_cons]; omega
      · simp
  have h1 := key s.size 0
  have h2 := List.length_filter_le (fun p => apartAt s p) (posR s s.size 0)
  unfold placesL
  rw [List.length_append, List.length_singleton]
  omega
/-- The line and the column at a place of a source of runes. -/
theorem tab_place (rs : List Nat) (hv : okR rs) (p : Nat) (hp : p ∈ placesL (txt rs)) : ∃ a b, rs = a ++ b ∧ p = (encs a).length ∧ (a.getLast? = some 13 → b.head? ≠ some 10) ∧ lineNo (tabsOf (txt rs)) p = (advI a (0, 0)).1 + 1 ∧ LocOk (tabsOf (txt rs)) p ∧ colOf ((tabsOf (txt rs)).getD (advI a (0, 0)).1 ⟨none, 0, 0⟩) p = (advI a (0, 0)).2 := by
  obtain ⟨a, b, rfl, rfl, h⟩ := placesL_txt rs hv p hp
  obtain ⟨l, c, h1, h2, h3, h4⟩ := tab_txt a b (fun x hx => hv x (by simp [hx])) (fun x hx => hv x (by simp [hx]))
  rw [advK_I a b.head? (0, 0) h] at h1
  refine ⟨a, b, rfl, rfl, h, ?_⟩
  rw [← h1]
  exact ⟨h2, h3, h4⟩
end Go.Proofs.YtnokiikgnplpmaaDoor

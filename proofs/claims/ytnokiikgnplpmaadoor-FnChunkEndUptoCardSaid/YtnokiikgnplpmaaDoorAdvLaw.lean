/-
  Places behind texts of runes: what the laws need, plain. Conditions: as each lemma says.
-/
import Derived.Test.YtnokiikgnplpmaaDoorAdv
namespace Go.Proofs.YtnokiikgnplpmaaDoor

theorem get_bang (s : ByteArray) (j : Nat) (h : j < s.size) : s.get! j = s[j]'h := by
  simp [ByteArray.get!, getElem!_pos, h]
  rfl
theorem get_out (s : ByteArray) (j : Nat) (h : ¬ j < s.size) : s.get! j = 0 := by
  have h' : ¬ j < s.data.size := h
  simp only [ByteArray.get!]
  rw [getElem!_neg s.data j h']
  rfl
theorem get_txt (rs : List Nat) (j : Nat) (h : j < (encs rs).length) : (txt rs).get! j = (encs rs)[j] := by
  rw [get_bang _ _ (by rw [txt_size]; exact h)]
  simp [txt, ByteArray.getElem_eq_getElem_data]
theorem encs_cons (r : Nat) (rs : List Nat) : encs (r :: rs) = enc r ++ encs rs := by simp [encs]

/-- From a place on at which runes begin, they are read. -/
theorem runes_txt_from (rs : List Nat) (hv : ∀ r ∈ rs, Utf8.valid (r : Int) = true) : ∀ (pre post : List Nat) (f : Nat), rs = pre ++ post → post.length ≤ f → runes (txt rs) f (encs pre).length = post := by
  intro pre post
  induction post generalizing pre with
  | nil =>
    intro f he _
    rw [runes_end]
    rw [txt_size, he]
    simp
  | cons r post ih =>
    intro f he hf
    obtain ⟨f, rfl⟩ : ∃ g, f = g + 1 := ⟨f - 1, by simp at hf; omega⟩
    have hr := hv r (by rw [he]; simp)
    have hl := enc_len r hr
    have hsz : (encs rs).length = (encs pre).length + ((enc r).length + (encs post).length) := by rw [he, encs_app, encs_cons]; simp
    have hd : Utf8.decode (txt rs) (encs pre).length = (r, (enc r).length) := by
      apply decode_enc _ _ _ hr
      · rw [txt_size, hsz]; omega
      · intro k hk
        rw [get_txt _ _ (by rw [hsz]; omega)]
        have : encs rs = encs pre ++ (enc r ++ encs post) := by rw [he, encs_app, encs_cons]
        simp only [this]
        rw [List.getElem_append_right (by omega), List.getElem_append_left (by omega)]
        simp [List.getD, hk]
    unfold runes
    rw [if_pos (by rw [txt_size, hsz]; omega), hd]
    have h2 := ih (pre ++ [r]) f (by rw [he]; simp) (by simp at hf; omega)
    rw [encs_app, encs_one, List.length_append] at h2
    simp only
    rw [h2]
theorem encs_ge (rs : List Nat) (hv : ∀ r ∈ rs, Utf8.valid (r : Int) = true) : rs.length ≤ (encs rs).length := by
  induction rs with
  | nil => simp
  | cons r rs ih =>
    have := enc_len r (hv r (by simp))
    have := ih (fun x hx => hv x (by simp [hx]))
    rw [encs_cons]
    simp only [List.length_cons, List.length_append]
    omega
theorem runes_txt (rs : List Nat) (hv : ∀ r ∈ rs, Utf8.valid (r : Int) = true) : runes (txt rs) (txt rs).size 0 = rs := by
  have := runes_txt_from rs hv [] rs (txt rs).size rfl (by rw [txt_size]; exact encs_ge rs hv)
  simpa [encs] using this
theorem good_valid {r : Nat} (h : good r = true) : Utf8.valid (r : Int) = true := by
  unfold good at h
  rw [Bool.and_eq_true] at h
  exact h.1
theorem validL_valid (s : ByteArray) : ∀ r ∈ validL s, Utf8.valid (r : Int) = true := fun r hr => good_valid (validL_good s r hr)
theorem txt_app (a b : List Nat) : txt a ++ txt b = txt (a ++ b) := by
  unfold txt
  rw [encs_app]
  apply ByteArray.ext
  simp
theorem txt_x : txt [120] = ⟨#[120]⟩ := by decide
theorem valid_120 : Utf8.valid ((120 : Nat) : Int) = true := by decide
theorem valid_app {a b : List Nat} (ha : ∀ r ∈ a, Utf8.valid (r : Int) = true) (hb : ∀ r ∈ b, Utf8.valid (r : Int) = true) : ∀ r ∈ a ++ b, Utf8.valid (r : Int) = true := by
  intro r hr
  rcases List.mem_append.1 hr with h | h
  · exact ha r h
  · exact hb r h
/-- A sign ahead of which nothing reads on. -/
theorem dec_stop (n b0 b1 b2 b3 k : Nat) (hk : 1 ≤ k) (hn : k + 1 = n) (h1 : k = 1 → b1 = 120) (h2 : k = 2 → b2 = 120) (h3 : k = 3 → b3 = 120) : (dec n b0 b1 b2 b3).2 ≤ k := by
  unfold dec
  repeat' split
  all_goals simp_all
  all_goals omega
theorem decode_stop (s : ByteArray) (pos : Nat) (h : pos < s.size) : pos + (Utf8.decode (s ++ ⟨#[120]⟩) pos).2 ≤ s.size := by
  have hsz : (s ++ (⟨#[120]⟩ : ByteArray)).size = s.size + 1 := by simp [ByteArray.size_append]; rfl
  have hlast : (s ++ (⟨#[120]⟩ : ByteArray)).get! s.size = 120 := by
    rw [get_bang _ _ (by rw [hsz]; omega)]
    rw [ByteArray.getElem_append_right (by omega)]
    simp
    rfl
  rw [decode_dec]
  have := dec_stop ((s ++ (⟨#[120]⟩ : ByteArray)).size - pos) ((s ++ (⟨#[120]⟩ : ByteArray)).get! pos).toNat ((s ++ (⟨#[120]⟩ : ByteArray)).get! (pos + 1)).toNat ((s ++ (⟨#[120]⟩ : ByteArray)).get! (pos + 2)).toNat ((s ++ (⟨#[120]⟩ : ByteArray)).get! (pos + 3)).toNat (s.size - pos) (by omega) (by rw [hsz]; omega)
    (fun e => by rw [show pos + 1 = s.size by omega, hlast]; rfl) (fun e => by rw [show pos + 2 = s.size by omega, hlast]; rfl) (fun e => by rw [show pos + 3 = s.size by omega, hlast]; rfl)
  omega
theorem runes_x (s : ByteArray) : ∀ (f pos : Nat), pos ≤ s.size → s.size + 1 ≤ pos + f → ∃ l, runes (s ++ ⟨#[120]⟩) f pos = l ++ [120] := by
  have hsz : (s ++ (⟨#[120]⟩ : ByteArray)).size = s.size + 1 := by simp [ByteArray.size_append]; rfl
  intro f
  induction f with
  | zero => intro pos h1 h2; omega
  | succ f ih =>
    intro pos h1 h2
    unfold runes
    rw [if_pos (by rw [hsz]; omega)]
    by_cases h : pos < s.size
    · have h3 := decode_stop s pos h
      have h4 := width1 (s ++ ⟨#[120]⟩) pos (by rw [hsz]; omega)
      obtain ⟨l, hl⟩ := ih _ h3 (by omega)
      rw [hl]
      exact ⟨_ :: l, rfl⟩
    · obtain rfl : pos = s.size := by omega
      have hlast : (s ++ (⟨#[120]⟩ : ByteArray)).get! s.size = 120 := by
        rw [get_bang _ _ (by rw [hsz]; omega)]
        rw [ByteArray.getElem_append_right (by omega)]
        simp
        rfl
      rw [dec1 _ _ 120 (by omega) (by rw [hlast]; rfl), runes_end _ _ _ (by rw [hsz]; simp)]
      exact ⟨[], rfl⟩

/-- A place comes before another one. -/
def ltP (p q : Nat × Nat) : Prop := p.1 < q.1 ∨ p.1 = q.1 ∧ p.2 < q.2
theorem ltP.trans {a b c : Nat × Nat} (h : ltP a b) (k : ltP b c) : ltP a c := by unfold ltP at *; omega
theorem advI_lt : ∀ (rs : List Nat) (p : Nat × Nat), rs ≠ [] → ltP p (advI rs p) := by
  intro rs
  induction rs with
  | nil => intro p h; exact absurd rfl h
  | cons c rs ih =>
    intro p _
    have step : ∀ q, ltP p q → ltP p (advI rs q) := fun q hq => by
      by_cases hr : rs = []
      · subst hr; exact hq
      · exact hq.trans (ih q hr)
    have hu := unitsR_pos c
    unfold advI
    split
    · split
      · exact step _ (by unfold ltP; simp)
      · exact step _ (by unfold ltP; simp)
    · exact step _ (by unfold ltP; simp; omega)
/-- Places add up. -/
theorem advI_sum : ∀ (rs : List Nat) (L C l c : Nat), advI rs (if l = 0 then (L, C + c) else (L + l, c)) = (if (advI rs (l, c)).1 = 0 then (L, C + (advI rs (l, c)).2) else (L + (advI rs (l, c)).1, (advI rs (l, c)).2)) := by
  intro rs
  induction rs with
  | nil => intro L C l c; rfl
  | cons r rs ih =>
    intro L C l c
    unfold advI
    by_cases hn : isNlR r
    · rw [if_pos hn, if_pos hn]
      by_cases hc : r = 13 ∧ rs.head? = some 10
      · rw [if_pos hc, if_pos hc, ← ih]
        congr 1
        split <;> simp [Nat.add_assoc]
      · rw [if_neg hc, if_neg hc, ← ih]
        congr 1
        split <;> simp_all [Nat.add_assoc]
    · rw [if_neg hn, if_neg hn, ← ih]
      congr 1
      split <;> simp [Nat.add_assoc]
/-- What runes on end a text that no CR ends ahead of a LF. -/
theorem advI_append (rs ss : List Nat) (p : Nat × Nat) (h : lastR 0 rs = 13 → ss.head? ≠ some 10) : advI (rs ++ ss) p = advI ss (advI rs p) := by
  rw [adv_eq (rs ++ ss).length _ 0 p (Nat.le_refl _) (by simp), advS_append, adv_eq rs.length rs 0 p (Nat.le_refl _) (by simp), adv_eq ss.length ss (lastR 0 rs) _ (Nat.le_refl _) h]
theorem advI_S (rs : List Nat) (p : Nat × Nat) : advI rs p = advS 0 rs p := adv_eq rs.length rs 0 p (Nat.le_refl _) (by simp)
end Go.Proofs.YtnokiikgnplpmaaDoor

/-
  Steps that are made of turns: plain. Conditions: as each lemma says.
-/
import Derived.Test.YtnokiikgnplpmaaDoorTabRunes
namespace Go.Proofs.YtnokiikgnplpmaaDoor
open Go.RowKit

/-- The runes of a turn's text: no CR ends them. -/
def stepR (t : ByteArray) : List Nat := if (validL t).getLast? = some 13 then validL t ++ [120] else validL t
/-- The place of a turn's number. -/
def stepP (s : ByteArray) (n : Int) : Nat := (placesL s).getD (n % ((placesL s).length : Int)).toNat 0
def mkSteps (s : ByteArray) (tl : List (ByteArray × Int)) : List (List Nat × Nat) := tl.map fun x => (stepR x.1, stepP s x.2)
/-- The cells of steps. -/
def stpC (x : List Nat × Nat) : List Value := [.string (txt x.1), .int .i64 (x.2 : Int), .string ByteArray.empty]
def stpsC (l : List (List Nat × Nat)) : List Value := l.flatMap stpC
/-- All their runes. -/
def allR (l : List (List Nat × Nat)) : List Nat := l.flatMap fun x => x.1
/-- The bulk of turns. -/
def tsz (tl : List (ByteArray × Int)) : Nat := (tl.map fun x => x.1.size + 1).sum

theorem stepR_ok (t : ByteArray) : okR (stepR t) := by
  unfold stepR
  split
  · exact valid_app (validL_valid t) (by intro r hr; simp at hr; subst hr; exact valid_120)
  · exact validL_valid t
theorem stepR_last (t : ByteArray) : (stepR t).getLast? ≠ some 13 := by
  unfold stepR
  split
  · simp
  · rename_i h; exact h
theorem stepR_len (t : ByteArray) : (encs (stepR t)).length ≤ t.size + 1 := by
  have := validL_len t
  unfold stepR
  split
  · rw [encs_app, List.length_append, show (encs [120]).length = 1 from rfl]; omega
  · omega
theorem placesL_pos (s : ByteArray) : 0 < (placesL s).length := by unfold placesL; simp
theorem stepP_mem (s : ByteArray) (n : Int) : stepP s n ∈ placesL s := by
  have h := placesL_pos s
  have h1 := Int.emod_nonneg n (b := ((placesL s).length : Int)) (by omega)
  have h2 := Int.emod_lt_of_pos n (b := ((placesL s).length : Int)) (by omega)
  unfold stepP
  have hlt : (n % ((placesL s).length : Int)).toNat < (placesL s).length := by omega
  rw [List.getD_eq_getElem?_getD, List.getElem?_eq_getElem hlt]
  exact List.getElem_mem hlt
theorem allR_snoc (l : List (List Nat × Nat)) (x : List Nat × Nat) : allR (l ++ [x]) = allR l ++ x.1 := by simp [allR]
theorem stpsC_snoc (l : List (List Nat × Nat)) (x : List Nat × Nat) : stpsC (l ++ [x]) = stpsC l ++ stpC x := by simp [stpsC]
theorem stpsC_len (l : List (List Nat × Nat)) : (stpsC l).length = l.length * 3 := by
  induction l with
  | nil => rfl
  | cons x l ih =>
    have e : stpsC (x :: l) = stpC x ++ stpsC l := by simp [stpsC]
    rw [e, List.length_append, ih, List.length_cons]
    simp [stpC]
    omega
theorem stpsC_at (l : List (List Nat × Nat)) (i j : Nat) (h : i < l.length) (hj : j < 3) : (stpsC l)[i * 3 + j]? = (stpC (l[i]'h))[j]? := by
  induction l generalizing i with
  | nil => simp at h
  | cons x l ih =>
    have e : stpsC (x :: l) = stpC x ++ stpsC l := by simp [stpsC]
    rw [e]
    cases i with
    | zero => rw [List.getElem?_append_left (by simp [stpC]; omega), Nat.zero_mul, Nat.zero_add]; rfl
    | succ i =>
      rw [List.getElem?_append_right (by simp [stpC]; omega), show (i + 1) * 3 + j - (stpC x).length = i * 3 + j by simp [stpC]; omega]
      exact ih i (by simpa using h)
theorem mkSteps_take (s : ByteArray) (tl : List (ByteArray × Int)) (j : Nat) (h : j < tl.length) : mkSteps s (tl.take (j + 1)) = mkSteps s (tl.take j) ++ [(stepR (tl[j]'h).1, stepP s (tl[j]'h).2)] := by
  rw [List.take_succ_eq_append_getElem h]
  simp only [mkSteps, List.map_append, List.map_cons, List.map_nil]
theorem tsz_take (tl : List (ByteArray × Int)) (j : Nat) (h : j < tl.length) : tsz (tl.take (j + 1)) = tsz (tl.take j) + ((tl[j]'h).1.size + 1) := by
  rw [List.take_succ_eq_append_getElem h]
  simp only [tsz, List.map_append, List.sum_append, List.map_cons, List.map_nil, List.sum_cons, List.sum_nil, Nat.add_zero]
theorem tsz_le (tl : List (ByteArray × Int)) (j : Nat) : tsz (tl.take j) ≤ tsz tl := by
  have e : tsz tl = tsz (tl.take j) + tsz (tl.drop j) := by
    conv => lhs; rw [← List.take_append_drop j tl]
    simp only [tsz, List.map_append, List.sum_append]
  omega
theorem tsz_len (tl : List (ByteArray × Int)) : tl.length ≤ tsz tl := by
  induction tl with
  | nil => simp
  | cons x tl ih => simp only [tsz, List.map_cons, List.sum_cons, List.length_cons] at *; omega
theorem allR_len (s : ByteArray) (tl : List (ByteArray × Int)) : (encs (allR (mkSteps s tl))).length ≤ tsz tl := by
  induction tl with
  | nil => simp [mkSteps, allR, encs]
  | cons x tl ih =>
    have e : allR (mkSteps s (x :: tl)) = stepR x.1 ++ allR (mkSteps s tl) := by simp [allR, mkSteps]
    have := stepR_len x.1
    rw [e, encs_app, List.length_append]
    simp only [tsz, List.map_cons, List.sum_cons] at *
    omega
theorem allR_ok (s : ByteArray) (tl : List (ByteArray × Int)) : okR (allR (mkSteps s tl)) := by
  induction tl with
  | nil => intro r hr; simp [mkSteps, allR] at hr
  | cons x tl ih =>
    have e : allR (mkSteps s (x :: tl)) = stepR x.1 ++ allR (mkSteps s tl) := by simp [allR, mkSteps]
    rw [e]
    exact (stepR_ok x.1).app ih
/-- The last byte of runes is a CR if the last rune is one. -/
theorem last_byte (rs : List Nat) (hv : okR rs) (h : 0 < (txt rs).size) : ((txt rs)[(txt rs).size - 1]'(by omega)).toNat = 13 ↔ rs.getLast? = some 13 := by
  rcases List.eq_nil_or_concat rs with rfl | ⟨l, x, rfl⟩
  · simp [txt_size, encs] at h
  · have hx := hv x (by simp)
    have hl := enc_len x hx
    have e1 : encs (l.concat x) = encs l ++ enc x := by rw [List.concat_eq_append, encs_app, encs_one]
    have z1 : (txt (l.concat x)).size = (encs l).length + (enc x).length := by rw [txt_size, e1]; simp
    have g : (txt (l.concat x))[(txt (l.concat x)).size - 1]'(by omega) = (enc x).getD ((enc x).length - 1) 0 := by
      rw [← get_bang _ _ (by omega), get_txt _ _ (by rw [← txt_size]; omega)]
      simp only [e1]
      rw [List.getElem_append_right (by omega)]
      have : (txt (l.concat x)).size - 1 - (encs l).length = (enc x).length - 1 := by omega
      simp only [this]
      simp [List.getD, show (enc x).length - 1 < (enc x).length by omega]
    rw [g]
    have e3 : (l.concat x).getLast? = some x := by simp
    rw [e3]
    simp only [Option.some.injEq]
    have hle := valid_le x hx
    by_cases h1 : x < 128
    · rw [enc1 x hx h1]
      simp only [List.length_singleton, Nat.sub_self, List.getD_cons_zero]
      rw [u8n x (by omega)]
    by_cases h2 : x < 2048
    · rw [enc2 x hx h1 h2]
      simp only [List.length_cons, List.length_nil, List.getD_cons_succ, List.getD_cons_zero, Nat.zero_add, Nat.add_sub_cancel]
      rw [u8n _ (by omega)]
      constructor <;> intro h <;> omega
    by_cases h3 : x < 65536
    · rw [enc3 x hx h1 h2 h3]
      simp only [List.length_cons, List.length_nil, List.getD_cons_succ, List.getD_cons_zero, Nat.zero_add, Nat.add_sub_cancel]
      rw [u8n _ (by omega)]
      constructor <;> intro h <;> omega
    · rw [enc4 x hx h1 h2 h3]
      simp only [List.length_cons, List.length_nil, List.getD_cons_succ, List.getD_cons_zero, Nat.zero_add, Nat.add_sub_cancel]
      rw [u8n _ (by omega)]
      constructor <;> intro h <;> omega
end Go.Proofs.YtnokiikgnplpmaaDoor

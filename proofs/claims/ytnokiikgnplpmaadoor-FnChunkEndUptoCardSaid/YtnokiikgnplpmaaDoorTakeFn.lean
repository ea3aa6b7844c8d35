/-
  The contracts of spec.digit and spec.take at numbers' digits. Conditions: a number of at most 8 digits.
-/
import Derived.Test.YtnokiikgnplpmaaDoorNumFn
import Derived.Test.YtnokiikgnplpmaaDoorBits
namespace Go.Proofs.YtnokiikgnplpmaaDoor
open Go.RowKit

theorem signs_get : ∀ d : Fin 64, (signs.get! d.val).toNat = sg d.val := by decide +kernel
theorem sg_inj (a b : Nat) (ha : a < 64) (hb : b < 64) (h : sg a = sg b) : a = b := by
  have h1 := ix_sg a ha
  have h2 := ix_sg b hb
  rw [h] at h1
  omega
theorem signs_ix (j : Nat) (h : j < signs.size) : (signs[j]'h).toNat = sg j := by
  have h64 : j < 64 := h
  have := signs_get ⟨j, h64⟩
  simp only at this
  rw [← this]
  simp [ByteArray.get!, getElem!_pos, h]
  rfl

set_option maxHeartbeats 1000000 in
set_option maxRecDepth 100000 in
theorem digit_any (d : Nat) (hd : d < 64) (w : World) :
    Calls Tryd.prog 48 #[.int .u8 (sg d : Int)] w fun e w' => e = .returned (.int .i64 (d : Int)) ∧ w = w' := by
  go_enter Tryd.func48, Tryd.ntmps48
  go_wp2_with fail
  go_loopg [4] d (fun f s4 wr => ∃ j : Nat, j + f = d ∧ s4 = .int .i64 (j : Int) ∧ w = wr)
  case atStart => exact ⟨0, by omega, rfl, rfl⟩
  case round =>
    obtain ⟨j, hj, rfl, rfl⟩ := hrel
    have hsz : (⟨#[65, 66, 67, 68, 69, 70, 71, 72, 73, 74, 75, 76, 77, 78, 79, 80, 81, 82, 83, 84, 85, 86, 87, 88, 89, 90, 97, 98, 99, 100, 101, 102, 103, 104, 105, 106, 107, 108, 109, 110, 111, 112, 113, 114, 115, 116, 117, 118, 119, 120, 121, 122, 48, 49, 50, 51, 52, 53, 54, 55, 56, 57, 43, 47]⟩ : ByteArray).size = 64 := rfl
    have hj64 : j < (⟨#[65, 66, 67, 68, 69, 70, 71, 72, 73, 74, 75, 76, 77, 78, 79, 80, 81, 82, 83, 84, 85, 86, 87, 88, 89, 90, 97, 98, 99, 100, 101, 102, 103, 104, 105, 106, 107, 108, 109, 110, 111, 112, 113, 114, 115, 116, 117, 118, 119, 120, 121, 122, 48, 49, 50, 51, 52, 53, 54, 55, 56, 57, 43, 47]⟩ : ByteArray).size := by rw [hsz]; omega
    have hx : ((⟨#[65, 66, 67, 68, 69, 70, 71, 72, 73, 74, 75, 76, 77, 78, 79, 80, 81, 82, 83, 84, 85, 86, 87, 88, 89, 90, 97, 98, 99, 100, 101, 102, 103, 104, 105, 106, 107, 108, 109, 110, 111, 112, 113, 114, 115, 116, 117, 118, 119, 120, 121, 122, 48, 49, 50, 51, 52, 53, 54, 55, 56, 57, 43, 47]⟩ : ByteArray)[j]'hj64).toNat = sg j := signs_ix j hj64
    by_cases hjd : j = d
    · subst hjd
      have e1 : ((((⟨#[65, 66, 67, 68, 69, 70, 71, 72, 73, 74, 75, 76, 77, 78, 79, 80, 81, 82, 83, 84, 85, 86, 87, 88, 89, 90, 97, 98, 99, 100, 101, 102, 103, 104, 105, 106, 107, 108, 109, 110, 111, 112, 113, 114, 115, 116, 117, 118, 119, 120, 121, 122, 48, 49, 50, 51, 52, 53, 54, 55, 56, 57, 43, 47]⟩ : ByteArray)[j]'hj64).toNat : Int) == (sg j : Int)) = true := by rw [hx]; simp
      clear hx
      go_wp2_with fail
      go_ret
      exact ⟨rfl, rfl⟩
    · have hne : ¬ sg j = sg d := fun q => hjd (sg_inj j d (by omega) hd q)
      have e1 : ((((⟨#[65, 66, 67, 68, 69, 70, 71, 72, 73, 74, 75, 76, 77, 78, 79, 80, 81, 82, 83, 84, 85, 86, 87, 88, 89, 90, 97, 98, 99, 100, 101, 102, 103, 104, 105, 106, 107, 108, 109, 110, 111, 112, 113, 114, 115, 116, 117, 118, 119, 120, 121, 122, 48, 49, 50, 51, 52, 53, 54, 55, 56, 57, 43, 47]⟩ : ByteArray)[j]'hj64).toNat : Int) == (sg d : Int)) = false := by rw [hx]; simp; omega
      obtain ⟨f, rfl⟩ : ∃ f, gk = f + 1 := ⟨gk - 1, by omega⟩
      clear hx hne
      go_wp2_with fail
      go_roundg f
      case measure => omega
      case rel => exact ⟨j + 1, by omega, by go_num, rfl⟩

/-- The first byte of the text at a place, and so on: digits all but the last one of which go on. -/
def DigAt (s : ByteArray) (p : Nat) (l : List Nat) (d : Nat) : Prop := p + l.length < s.size ∧ (∀ (j : Nat) (hj : j < l.length), (s.get! (p + j)).toNat = sg (l[j]'hj)) ∧ (s.get! (p + l.length)).toNat = sg d ∧ (∀ x ∈ l, 32 ≤ x ∧ x < 64) ∧ d < 32
theorem val_app (a b : List Nat) : val (a ++ b) = val a + 32 ^ a.length * val b := by
  induction a with
  | nil => simp [val]
  | cons x a ih =>
    simp only [List.cons_append, val, ih, List.length_cons, Nat.pow_succ, Nat.mul_add]
    rw [Nat.mul_comm (32 ^ a.length) 32, Nat.mul_assoc]
    omega
theorem val_lt (l : List Nat) : val l < 32 ^ l.length := by
  induction l with
  | nil => simp [val]
  | cons x l ih =>
    simp only [val, List.length_cons, Nat.pow_succ]
    omega
theorem get_bang' (s : ByteArray) (j : Nat) (h : j < s.size) : s.get! j = s[j]'h := by
  simp [ByteArray.get!, getElem!_pos, h]
  rfl

set_option maxHeartbeats 2000000 in
set_option maxRecDepth 100000 in
theorem take_any (s : ByteArray) (p : Nat) (l : List Nat) (d : Nat) (h : DigAt s p l d) (hl : l.length ≤ 7) (hs : s.size ≤ 1125899906842624) (w : World) :
    Calls Tryd.prog 35 #[.string s, .int .i64 (p : Int)] w fun e w' => e = .returned (.tuple #[.int .i64 (unvl (val (l ++ [d]))), .int .i64 ((p + l.length + 1 : Nat) : Int), .bool true]) ∧ w = w' := by
  obtain ⟨h1, h2, h3, h4, h5⟩ := h
  have H2 := Lib.hid h2
  have H4 := Lib.hid h4
  have H3 := Lib.hid h3
  clear h2 h4 h3
  go_enter Tryd.func35, Tryd.ntmps35
  go_wp2_with fail
  go_loopg [1, 7, 8] l.length (fun f s1 s7 s8 wr => ∃ j b : Nat, j + f = l.length ∧ s1 = .int .i64 ((p + j : Nat) : Int) ∧ s7 = .int .i64 (val (l.take j) : Int) ∧ s8 = .int .i64 (b : Int) ∧ Hid (b = 32 ^ j) ∧ w = wr)
  case atStart => exact ⟨0, 1, by omega, rfl, rfl, rfl, Lib.hid rfl, rfl⟩
  case round =>
    obtain ⟨j, b, hj, rfl, rfl, rfl, hb, rfl⟩ := hrel
    have hvl := val_lt (l.take j)
    have htl : (l.take j).length = j := by rw [List.length_take]; omega
    rw [htl, ← hb.out] at hvl
    have hb1 : b ≤ 34359738368 := by
      rw [hb.out]
      exact Nat.le_trans (Nat.pow_le_pow_right (by omega) (show j ≤ 7 by omega)) (by decide)
    clear htl
    by_cases hlt : j < l.length
    · obtain ⟨f, rfl⟩ : ∃ f, gk = f + 1 := ⟨gk - 1, by omega⟩
      have hg := H2.out j hlt
      have hxr := H4.out (l[j]'hlt) (List.getElem_mem hlt)
      have hpj : p + j < s.size := by omega
      rw [get_bang' s _ hpj] at hg
      have hgi : (((s[p + j]'hpj).toNat : Nat) : Int) = (sg (l[j]'hlt) : Int) := by rw [hg]
      have hv1 : val (l.take (j + 1)) = val (l.take j) + b * ((l[j]'hlt) % 32) := by
        rw [List.take_succ_eq_append_getElem hlt, val_app, List.length_take, show min j l.length = j by omega, hb.out]
        simp [val]
      have HV := Lib.hid hv1
      have HBB : Hid (b * 32 = 32 ^ (j + 1)) := Lib.hid (by rw [hb.out, Nat.pow_succ])
      have HG := Lib.hid hgi
      clear hv1 hg hb hgi
      generalize val (l.take j) = v at *
      generalize (l[j]'hlt) = x at *
      have q1 : 0 ≤ (x : Int) % 32 * (b : Int) ∧ (x : Int) % 32 * (b : Int) ≤ 1065151889408 := by
        have e : (x : Int) % 32 * (b : Int) = ((x % 32 * b : Nat) : Int) := by simp
        have : x % 32 * b ≤ 31 * 34359738368 := Nat.mul_le_mul (by omega) hb1
        omega
      generalize hM : (1099511627776 : Int) = M at *
      have c0 : (b : Int) < M := by omega
      clear hM
      go_wp2_with fail
      rw [HG.out]
      refine (digit_any x (by omega) _).mono ?_
      rintro e w' ⟨rfl, rfl⟩
      have c1 : ((x : Int) < 32) = False := by simp; omega
      go_wp2_with fail
      go_roundg f
      case measure => omega
      case rel => exact ⟨j + 1, b * 32, by omega, by go_num, by rw [HV.out]; simp [Int.mul_comm], by go_num, HBB, rfl⟩
    · obtain rfl : j = l.length := by omega
      have hpj : p + l.length < s.size := by omega
      have hg := H3.out
      rw [get_bang' s _ hpj] at hg
      have HG : Hid ((((s[p + l.length]'hpj).toNat : Nat) : Int) = (sg d : Int)) := Lib.hid (by rw [hg])
      have HV : Hid (val (l ++ [d]) = val (l.take l.length) + b * d) := Lib.hid (by
        rw [List.take_length, val_app, hb.out]
        simp [val]
        rw [Nat.mod_eq_of_lt h5])
      have q1 : 0 ≤ (d : Int) * (b : Int) ∧ (d : Int) * (b : Int) ≤ 1065151889408 := by
        have e : (d : Int) * (b : Int) = ((d * b : Nat) : Int) := by simp
        have : d * b ≤ 31 * 34359738368 := Nat.mul_le_mul (by omega) hb1
        omega
      clear hg hb
      generalize val (l.take l.length) = v at *
      obtain ⟨V, hV0⟩ : ∃ V, V = val (l ++ [d]) := ⟨_, rfl⟩
      rw [← hV0] at HV
      have HV0 := Lib.hid hV0
      clear hV0
      generalize hM : (1099511627776 : Int) = M at *
      have c0 : (b : Int) < M := by omega
      clear hM
      go_wp2_with fail
      rw [HG.out]
      refine (digit_any d (by omega) _).mono ?_
      rintro e w' ⟨rfl, rfl⟩
      have hdm : (d : Int) % 32 = d := by omega
      have hV : (V : Int) = v + d * b := by rw [HV.out, Nat.mul_comm]; simp
      have HVI := Lib.hid hV
      clear hV
      rcases Nat.mod_two_eq_zero_or_one V with hp | hp
      · have e1 : (((v : Int) + (d : Int) * (b : Int)) % 2 == 1) = false := by rw [← HVI.out]; simp; omega
        have E : Hid (unvl V = ((v : Int) + (d : Int) * (b : Int)) / 2) := Lib.hid (by unfold unvl; rw [if_neg (by omega), ← HVI.out]; simp)
        clear hp
        go_wp2_with fail
        go_ret3
        exact ⟨by rw [← HV0.out, E.out]; rfl, rfl⟩
      · have e1 : (((v : Int) + (d : Int) * (b : Int)) % 2 == 1) = true := by rw [← HVI.out]; simp; omega
        have E : Hid (unvl V = -(((v : Int) + (d : Int) * (b : Int)) / 2)) := Lib.hid (by unfold unvl; rw [if_pos hp, ← HVI.out]; simp)
        clear hp
        go_wp2_with fail
        go_ret3
        exact ⟨by rw [← HV0.out, E.out]; rfl, rfl⟩
end Go.Proofs.YtnokiikgnplpmaaDoor

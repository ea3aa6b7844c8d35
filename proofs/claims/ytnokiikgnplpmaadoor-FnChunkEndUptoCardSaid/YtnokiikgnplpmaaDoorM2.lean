/-
  The contract of laws.apart: no CR ends the first text ahead of a LF. Conditions: the texts have at most 2^47 bytes.
  The contract of spec.Number: a number as text. Conditions: the number is below 2^40 either way, and at most 3 digits are added.
  The contracts of spec.digit and spec.take at numbers' digits. Conditions: a number of at most 8 digits.
  The contract of laws.place and laws.small: a number's rest from 0 on. Conditions: the second number is from 1 to 2^62.
  The contracts of bytes.IndexByte at the table of signs, and of sourcemap.DecodeVLQ. Conditions: as each one says.
  Two variables of a law's own, stored in whatever order: what lies in them. Conditions: as each lemma says.
  The contracts of Index32's methods and of MakeIndex32, and of impl.stateOf. Conditions: the index is below 2^32 - 1.
  The contract of (Place).Plus: places are added. Conditions: the numbers that are added are from 0 to 2^61.
  How a law's row is closed: a call that returned true and changed nothing that was there before leaves what the row asks. Conditions: the law has one bool result, and its specification hands every argument back as it was.
  The table of signs, as a row lists it: from the list to memory, and a world that holds it. Conditions: none.
  An argument that is a slice of rows of five numbers, opened. Conditions: each number is one cell.
  Rows of five numbers, put behind one row: append's own laws joined. Conditions: at most 2^21 rows.
-/
import Derived.Test.YtnokiikgnplpmaaDoorM1
import Derived.Laws.Concat
import Derived.Lib.BytesEntry
import Derived.StillTailTactics
import Derived.Deep.DrawnRows
import Derived.Test.YtnokiikgnplpmaaDoorProg
import Derived.Below
import Derived.ChangeSame
import Derived.Carry
import Derived.ProofKit
import Derived.OpenShut
import Derived.KernelRfl
import Derived.Test.YtnokiikgnplpmaaDoorCards
import Derived.Test.YtnokiikgnplpmaaDoorTie
import Derived.WalkKit
import Derived.SizedLaws
import Derived.Deep.DeepHandedRow
import Derived.Deep.DeepWitnessRowRef
import Derived.Lib.LaidIn
import Derived.Lib.LaidSlice
import Derived.Lib.LaidPrint
import Derived.Test.YtnokiikgnplpmaaDoorRows
import Derived.ChangeSlices
import Derived.Deep.Slices
import Derived.Lib.LaidU8
import Derived.Laws.AppendOwnNone
namespace Go.Proofs.YtnokiikgnplpmaaDoor
open Go.RowKit

/-- Can two texts be divided? -/
def apartB (a b : ByteArray) : Bool := decide (a.size = 0 ∨ b.size = 0 ∨ (a.get! (a.size - 1)).toNat ≠ 13 ∨ (b.get! 0).toNat ≠ 10)

theorem toList_empty (a : ByteArray) : a.toList.isEmpty = decide (a.size = 0) := by
  rw [ByteArray.toList_eq]
  have h : a.data.toList.length = a.size := by rw [Array.length_toList]; rfl
  rw [← h]
  cases a.data.toList <;> simp

set_option maxHeartbeats 1000000 in
theorem apart_any (a b : ByteArray) (w : World) (ha : a.size ≤ 1125899906842624) (hb : b.size ≤ 1125899906842624) :
    Calls Tryd.prog 44 #[.string a, .string b] w fun e w' => e = .returned (.bool (apartB a b)) ∧ w = w' := by
  by_cases h1 : a.size = 0
  · have t1 : a.toList.isEmpty = true := by rw [toList_empty]; simp [h1]
    have e : apartB a b = true := by simp [apartB, h1]
    have E := Lib.hid e
    clear e h1
    go_enter Tryd.func44, Tryd.ntmps44
    go_wp2
    go_ret
    exact ⟨by rw [E.out]; rfl, rfl⟩
  have t1 : a.toList.isEmpty = false := by rw [toList_empty]; simp [h1]
  by_cases h2 : b.size = 0
  · have t2 : b.toList.isEmpty = true := by rw [toList_empty]; simp [h2]
    have e : apartB a b = true := by simp [apartB, h2]
    have E := Lib.hid e
    clear e h1 h2
    go_enter Tryd.func44, Tryd.ntmps44
    go_wp2
    go_ret
    exact ⟨by rw [E.out]; rfl, rfl⟩
  have t2 : b.toList.isEmpty = false := by rw [toList_empty]; simp [h2]
  have p1 : 0 < a.size := by omega
  have p2 : 0 < b.size := by omega
  have g1 := get_bang a (a.size - 1) (by omega)
  have g2 := get_bang b 0 (by omega)
  have l1 := UInt8.toNat_lt (a[a.size - 1]'(by omega))
  have l2 := UInt8.toNat_lt (b[0]'(by omega))
  have e : apartB a b = (!decide ((a[a.size - 1]'(by omega)).toNat = 13) || !decide ((b[0]'(by omega)).toNat = 10)) := by
    simp [apartB, g1, g2, h1, h2]
  have E := Lib.hid e
  clear e g1 g2 h1 h2
  by_cases h3 : (a[a.size - 1]'(by omega)).toNat = 13
  · have n3 : (((a[a.size - 1]'(by omega)).toNat : Int) != 13) = false := by simp [h3]
    by_cases h4 : (b[0]'(by omega)).toNat = 10
    · have n4 : (((b[0]'(by omega)).toNat : Int) != 10) = false := by simp [h4]
      have E2 : Hid (apartB a b = false) := Lib.hid (by rw [E.out]; simp [h3, h4])
      clear h3 h4 E
      go_enter Tryd.func44, Tryd.ntmps44
      go_wp2
      go_ret
      exact ⟨by rw [E2.out]; rfl, rfl⟩
    · have n4 : (((b[0]'(by omega)).toNat : Int) != 10) = true := by simp; omega
      have E2 : Hid (apartB a b = true) := Lib.hid (by rw [E.out]; simp [h3, h4])
      clear h3 h4 E
      go_enter Tryd.func44, Tryd.ntmps44
      go_wp2
      go_ret
      exact ⟨by rw [E2.out]; rfl, rfl⟩
  · have n3 : (((a[a.size - 1]'(by omega)).toNat : Int) != 13) = true := by simp; omega
    have E2 : Hid (apartB a b = true) := Lib.hid (by rw [E.out]; simp [h3])
    clear h3 E
    go_enter Tryd.func44, Tryd.ntmps44
    go_wp2
    go_ret
    exact ⟨by rw [E2.out]; rfl, rfl⟩
end Go.Proofs.YtnokiikgnplpmaaDoor
namespace Go.Proofs.YtnokiikgnplpmaaDoor
open Go.RowKit

/-- The text of digits. -/
def tx (l : List Nat) : ByteArray := ⟨(l.map fun d => UInt8.ofNat (sg d)).toArray⟩
theorem tx_size (l : List Nat) : (tx l).size = l.length := by simp [tx, ByteArray.size]
theorem tx_app (a b : List Nat) : tx a ++ tx b = tx (a ++ b) := by
  unfold tx
  apply ByteArray.ext
  simp

/-- The 64 signs. -/
def signs : ByteArray := ⟨#[65, 66, 67, 68, 69, 70, 71, 72, 73, 74, 75, 76, 77, 78, 79, 80, 81, 82, 83, 84, 85, 86, 87, 88, 89, 90, 97, 98, 99, 100, 101, 102, 103, 104, 105, 106, 107, 108, 109, 110, 111, 112, 113, 114, 115, 116, 117, 118, 119, 120, 121, 122, 48, 49, 50, 51, 52, 53, 54, 55, 56, 57, 43, 47]⟩
theorem signs_fin : ∀ d : Fin 64, signs.extract d.val (d.val + 1) = tx [d.val] := by decide +kernel
theorem signs_at (d : Nat) (h : d < 64) : signs.extract d (d + 1) = tx [d] := signs_fin ⟨d, h⟩

theorem num_last (l X : List Nat) (f y m : Nat) (h : l ++ digs f y m = X) (h1 : y / 32 = 0) (h2 : m = 0) : tx l ++ signs.extract (y % 32) (y % 32 + 1) = tx X := by
  rw [signs_at _ (by omega), tx_app, ← h, h2]
  congr 1
  cases f <;> simp [digs, h1]
theorem num_more (l : List Nat) (d e : Nat) (h : d < 32) (he : e = d + 33) : tx l ++ signs.extract (d + 32) e = tx (l ++ [d + 32]) := by
  rw [he, show d + 33 = d + 32 + 1 by omega, signs_at _ (by omega), tx_app]
theorem num_step (l X : List Nat) (f y m m' : Nat) (h : l ++ digs (f + 1) y m = X) (h1 : ¬ (y / 32 = 0 ∧ m = 0)) (hm : m' = if y / 32 = 0 then m - 1 else m) : l ++ [y % 32 + 32] ++ digs f (y / 32) m' = X := by
  rw [← h, hm]
  conv => rhs; unfold digs
  rw [if_neg h1]
  simp

set_option maxHeartbeats 1000000 in
set_option maxRecDepth 100000 in
theorem number_any (n m : Int) (w : World) (hn1 : -1099511627776 < n) (hn2 : n < 1099511627776) (hm1 : 0 ≤ m) (hm2 : m ≤ 3) :
    Calls Tryd.prog 43 #[.int .i64 n, .int .i64 m] w fun e w' => e = .returned (.string (tx (digs 12 (vl n) m.toNat))) ∧ w' = w := by
  have ks : ∀ (W : World) (x y : ByteArray), x.size + y.size ≤ 9223372036854775807 → (Op.stringOp .add x y).run Tryd.prog W = .ok (.string (x ++ y)) W := fun W x y h => run_string_add_sum W x y h
  obtain ⟨y, hyx⟩ : ∃ y, y = vl n := ⟨_, rfl⟩
  have hy : y < 2199023255553 := by rw [hyx]; unfold vl; split <;> omega
  have Hyx := Lib.hid hyx
  clear hyx
  go_enter Tryd.func43, Tryd.ntmps43
  go_upto_if 11 with fail
  go_cut [5] (fun s5 wx => s5 = .int .i64 (y : Int) ∧ w = wx)
  case first =>
    rcases Int.lt_or_le n 0 with hx | hx
    · have e : -2 * n + 1 = y := by rw [Hyx.out]; unfold vl; rw [if_pos hx]; omega
      have E := Lib.hid e
      clear e
      go_wp2_with fail
      go_meet
      exact ⟨by rw [← E.out], rfl⟩
    · have e : 2 * n = y := by rw [Hyx.out]; unfold vl; rw [if_neg (by omega)]; omega
      have E := Lib.hid e
      clear e
      go_wp2_with fail
      go_meet
      exact ⟨by rw [← E.out], rfl⟩
  case rest =>
    obtain ⟨rfl, rfl⟩ := hcut
    go_wp2_with fail
    go_loopg [1, 5, 6] 12 (fun f s1 s5 s6 wr => ∃ (m1 y1 : Nat) (l : List Nat), s1 = .int .i64 (m1 : Int) ∧ s5 = .int .i64 (y1 : Int) ∧ s6 = .string (tx l) ∧ w = wr ∧ m1 ≤ 3 ∧ m1 ≤ f ∧ y1 < 2199023255553 ∧ l.length + f ≤ 12 ∧ Hid (y1 < 32 ^ (f + 1 - m1)) ∧ Hid (l ++ digs f y1 m1 = digs 12 (vl n) m.toNat))
    case atStart => exact ⟨m.toNat, y, [], by rw [Int.toNat_of_nonneg hm1], rfl, rfl, rfl, by omega, by omega, hy, by simp, Nat.lt_of_lt_of_le hy (Nat.le_trans (show 2199023255553 ≤ 32 ^ 10 by decide) (Nat.pow_le_pow_right (by decide) (by omega))), by rw [← Hyx.out]; rfl⟩
    case round =>
      obtain ⟨m1, y1, l, rfl, rfl, rfl, rfl, hm3, hmf, hy1, hl, hp, hd⟩ := hrel
      have hts := tx_size l
      by_cases h1 : y1 / 32 = 0
      · by_cases h2 : m1 = 0
        · have c1 : ((y1 : Int) / 32 == 0) = true := by simp; omega
          have c2 : ((m1 : Int) == 0) = true := by simp; omega
          go_wp2_with fail
          go_ret
          exact ⟨congrArg (fun b => Ending.returned (Value.string b)) (num_last _ _ _ _ _ hd.out h1 h2), rfl⟩
        · have c1 : ((y1 : Int) / 32 == 0) = true := by simp; omega
          have c2 : ((m1 : Int) == 0) = false := by simp; omega
          obtain ⟨f, rfl⟩ : ∃ f, gk = f + 1 := ⟨gk - 1, by omega⟩
          have E1 := Lib.hid (num_more l (y1 % 32) _ (by omega) rfl)
          have E2 := Lib.hid (num_step l _ f y1 m1 (m1 - 1) hd.out (by omega) (by rw [if_pos h1]))
          go_wp2_with fail
          go_roundg f
          case measure => omega
          case rel => exact ⟨m1 - 1, y1 / 32, l ++ [y1 % 32 + 32], by go_num, by go_num, congrArg Value.string E1.out, rfl, by omega, by omega, by omega, by simp; omega, by rw [h1]; exact Nat.pow_pos (by decide), E2.out⟩
      · have c1 : ((y1 : Int) / 32 == 0) = false := by simp; omega
        have hp1 := hp.out
        have hmf2 : m1 < gk := by
          rcases Nat.lt_or_ge m1 gk with q | q
          · exact q
          · rw [show gk + 1 - m1 = 1 by omega] at hp1
            omega
        obtain ⟨f, rfl⟩ : ∃ f, gk = f + 1 := ⟨gk - 1, by omega⟩
        have E1 := Lib.hid (num_more l (y1 % 32) _ (by omega) rfl)
        have E2 := Lib.hid (num_step l _ f y1 m1 m1 hd.out (by omega) (by rw [if_neg h1]))
        have E3 : Hid (y1 / 32 < 32 ^ (f + 1 - m1)) := by
          refine Lib.hid ?_
          apply Nat.div_lt_of_lt_mul
          rw [show f + 1 + 1 - m1 = (f + 1 - m1) + 1 by omega, Nat.pow_succ] at hp1
          omega
        clear hp1
        go_wp2_with fail
        go_roundg f
        case measure => omega
        case rel => exact ⟨m1, y1 / 32, l ++ [y1 % 32 + 32], by go_num, by go_num, congrArg Value.string E1.out, rfl, by omega, by omega, by omega, by simp; omega, E3.out, E2.out⟩
end Go.Proofs.YtnokiikgnplpmaaDoor
namespace Go.Proofs.YtnokiikgnplpmaaDoor
open Go.RowKit

theorem signs_get : ∀ d : Fin 64, (signs.get! d.val).toNat = sg d.val := by decide +kernel
theorem sg_inj (a b : Nat) (ha : a < 64) (hb : b < 64) (h : sg a = sg b) : a = b := by
  have h1 := ix_sg a ha
  have h2 := ix_sg b hb
  rw [h] at h1
  omega
theorem signs_ix (j : Nat) (h : j < signs.size) : (signs[j]'h).toNat = sg j := by
  have h64 : j < 64 := h
  have := signs_get ⟨j, h64⟩
  simp only at this
  rw [← this]
  simp [ByteArray.get!, getElem!_pos, h]
  rfl

set_option maxHeartbeats 1000000 in
set_option maxRecDepth 100000 in
theorem digit_any (d : Nat) (hd : d < 64) (w : World) :
    Calls Tryd.prog 48 #[.int .u8 (sg d : Int)] w fun e w' => e = .returned (.int .i64 (d : Int)) ∧ w = w' := by
  go_enter Tryd.func48, Tryd.ntmps48
  go_wp2_with fail
  go_loopg [4] d (fun f s4 wr => ∃ j : Nat, j + f = d ∧ s4 = .int .i64 (j : Int) ∧ w = wr)
  case atStart => exact ⟨0, by omega, rfl, rfl⟩
  case round =>
    obtain ⟨j, hj, rfl, rfl⟩ := hrel
    have hsz : (⟨#[65, 66, 67, 68, 69, 70, 71, 72, 73, 74, 75, 76, 77, 78, 79, 80, 81, 82, 83, 84, 85, 86, 87, 88, 89, 90, 97, 98, 99, 100, 101, 102, 103, 104, 105, 106, 107, 108, 109, 110, 111, 112, 113, 114, 115, 116, 117, 118, 119, 120, 121, 122, 48, 49, 50, 51, 52, 53, 54, 55, 56, 57, 43, 47]⟩ : ByteArray).size = 64 := rfl
    have hj64 : j < (⟨#[65, 66, 67, 68, 69, 70, 71, 72, 73, 74, 75, 76, 77, 78, 79, 80, 81, 82, 83, 84, 85, 86, 87, 88, 89, 90, 97, 98, 99, 100, 101, 102, 103, 104, 105, 106, 107, 108, 109, 110, 111, 112, 113, 114, 115, 116, 117, 118, 119, 120, 121, 122, 48, 49, 50, 51, 52, 53, 54, 55, 56, 57, 43, 47]⟩ : ByteArray).size := by rw [hsz]; omega
    have hx : ((⟨#[65, 66, 67, 68, 69, 70, 71, 72, 73, 74, 75, 76, 77, 78, 79, 80, 81, 82, 83, 84, 85, 86, 87, 88, 89, 90, 97, 98, 99, 100, 101, 102, 103, 104, 105, 106, 107, 108, 109, 110, 111, 112, 113, 114, 115, 116, 117, 118, 119, 120, 121, 122, 48, 49, 50, 51, 52, 53, 54, 55, 56, 57, 43, 47]⟩ : ByteArray)[j]'hj64).toNat = sg j := signs_ix j hj64
    by_cases hjd : j = d
    · subst hjd
      have e1 : ((((⟨#[65, 66, 67, 68, 69, 70, 71, 72, 73, 74, 75, 76, 77, 78, 79, 80, 81, 82, 83, 84, 85, 86, 87, 88, 89, 90, 97, 98, 99, 100, 101, 102, 103, 104, 105, 106, 107, 108, 109, 110, 111, 112, 113, 114, 115, 116, 117, 118, 119, 120, 121, 122, 48, 49, 50, 51, 52, 53, 54, 55, 56, 57, 43, 47]⟩ : ByteArray)[j]'hj64).toNat : Int) == (sg j : Int)) = true := by rw [hx]; simp
      clear hx
      go_wp2_with fail
      go_ret
      exact ⟨rfl, rfl⟩
    · have hne : ¬ sg j = sg d := fun q => hjd (sg_inj j d (by omega) hd q)
      have e1 : ((((⟨#[65, 66, 67, 68, 69, 70, 71, 72, 73, 74, 75, 76, 77, 78, 79, 80, 81, 82, 83, 84, 85, 86, 87, 88, 89, 90, 97, 98, 99, 100, 101, 102, 103, 104, 105, 106, 107, 108, 109, 110, 111, 112, 113, 114, 115, 116, 117, 118, 119, 120, 121, 122, 48, 49, 50, 51, 52, 53, 54, 55, 56, 57, 43, 47]⟩ : ByteArray)[j]'hj64).toNat : Int) == (sg d : Int)) = false := by rw [hx]; simp; omega
      obtain ⟨f, rfl⟩ : ∃ f, gk = f + 1 := ⟨gk - 1, by omega⟩
      clear hx hne
      go_wp2_with fail
      go_roundg f
      case measure => omega
      case rel => exact ⟨j + 1, by omega, by go_num, rfl⟩

/-- The first byte of the text at a place, and so on: digits all but the last one of which go on. -/
def DigAt (s : ByteArray) (p : Nat) (l : List Nat) (d : Nat) : Prop := p + l.length < s.size ∧ (∀ (j : Nat) (hj : j < l.length), (s.get! (p + j)).toNat = sg (l[j]'hj)) ∧ (s.get! (p + l.length)).toNat = sg d ∧ (∀ x ∈ l, 32 ≤ x ∧ x < 64) ∧ d < 32
theorem val_app (a b : List Nat) : val (a ++ b) = val a + 32 ^ a.length * val b := by
  induction a with
  | nil => simp [val]
  | cons x a ih =>
    simp only [List.cons_append, val, ih, List.length_cons, Nat.pow_succ, Nat.mul_add]
    rw [Nat.mul_comm (32 ^ a.length) 32, Nat.mul_assoc]
    omega
theorem val_lt (l : List Nat) : val l < 32 ^ l.length := by
  induction l with
  | nil => simp [val]
  | cons x l ih =>
    simp only [val, List.length_cons, Nat.pow_succ]
    omega
theorem get_bang' (s : ByteArray) (j : Nat) (h : j < s.size) : s.get! j = s[j]'h := by
  simp [ByteArray.get!, getElem!_pos, h]
  rfl

set_option maxHeartbeats 2000000 in
set_option maxRecDepth 100000 in
theorem take_any (s : ByteArray) (p : Nat) (l : List Nat) (d : Nat) (h : DigAt s p l d) (hl : l.length ≤ 7) (hs : s.size ≤ 1125899906842624) (w : World) :
    Calls Tryd.prog 35 #[.string s, .int .i64 (p : Int)] w fun e w' => e = .returned (.tuple #[.int .i64 (unvl (val (l ++ [d]))), .int .i64 ((p + l.length + 1 : Nat) : Int), .bool true]) ∧ w = w' := by
  obtain ⟨h1, h2, h3, h4, h5⟩ := h
  have H2 := Lib.hid h2
  have H4 := Lib.hid h4
  have H3 := Lib.hid h3
  clear h2 h4 h3
  go_enter Tryd.func35, Tryd.ntmps35
  go_wp2_with fail
  go_loopg [1, 7, 8] l.length (fun f s1 s7 s8 wr => ∃ j b : Nat, j + f = l.length ∧ s1 = .int .i64 ((p + j : Nat) : Int) ∧ s7 = .int .i64 (val (l.take j) : Int) ∧ s8 = .int .i64 (b : Int) ∧ Hid (b = 32 ^ j) ∧ w = wr)
  case atStart => exact ⟨0, 1, by omega, rfl, rfl, rfl, Lib.hid rfl, rfl⟩
  case round =>
    obtain ⟨j, b, hj, rfl, rfl, rfl, hb, rfl⟩ := hrel
    have hvl := val_lt (l.take j)
    have htl : (l.take j).length = j := by rw [List.length_take]; omega
    rw [htl, ← hb.out] at hvl
    have hb1 : b ≤ 34359738368 := by
      rw [hb.out]
      exact Nat.le_trans (Nat.pow_le_pow_right (by omega) (show j ≤ 7 by omega)) (by decide)
    clear htl
    by_cases hlt : j < l.length
    · obtain ⟨f, rfl⟩ : ∃ f, gk = f + 1 := ⟨gk - 1, by omega⟩
      have hg := H2.out j hlt
      have hxr := H4.out (l[j]'hlt) (List.getElem_mem hlt)
      have hpj : p + j < s.size := by omega
      rw [get_bang' s _ hpj] at hg
      have hgi : (((s[p + j]'hpj).toNat : Nat) : Int) = (sg (l[j]'hlt) : Int) := by rw [hg]
      have hv1 : val (l.take (j + 1)) = val (l.take j) + b * ((l[j]'hlt) % 32) := by
        rw [List.take_succ_eq_append_getElem hlt, val_app, List.length_take, show min j l.length = j by omega, hb.out]
        simp [val]
      have HV := Lib.hid hv1
      have HBB : Hid (b * 32 = 32 ^ (j + 1)) := Lib.hid (by rw [hb.out, Nat.pow_succ])
      have HG := Lib.hid hgi
      clear hv1 hg hb hgi
      generalize val (l.take j) = v at *
      generalize (l[j]'hlt) = x at *
      have q1 : 0 ≤ (x : Int) % 32 * (b : Int) ∧ (x : Int) % 32 * (b : Int) ≤ 1065151889408 := by
        have e : (x : Int) % 32 * (b : Int) = ((x % 32 * b : Nat) : Int) := by simp
        have : x % 32 * b ≤ 31 * 34359738368 := Nat.mul_le_mul (by omega) hb1
        omega
      generalize hM : (1099511627776 : Int) = M at *
      have c0 : (b : Int) < M := by omega
      clear hM
      go_wp2_with fail
      rw [HG.out]
      refine (digit_any x (by omega) _).mono ?_
      rintro e w' ⟨rfl, rfl⟩
      have c1 : ((x : Int) < 32) = False := by simp; omega
      go_wp2_with fail
      go_roundg f
      case measure => omega
      case rel => exact ⟨j + 1, b * 32, by omega, by go_num, by rw [HV.out]; simp [Int.mul_comm], by go_num, HBB, rfl⟩
    · obtain rfl : j = l.length := by omega
      have hpj : p + l.length < s.size := by omega
      have hg := H3.out
      rw [get_bang' s _ hpj] at hg
      have HG : Hid ((((s[p + l.length]'hpj).toNat : Nat) : Int) = (sg d : Int)) := Lib.hid (by rw [hg])
      have HV : Hid (val (l ++ [d]) = val (l.take l.length) + b * d) := Lib.hid (by
        rw [List.take_length, val_app, hb.out]
        simp [val]
        rw [Nat.mod_eq_of_lt h5])
      have q1 : 0 ≤ (d : Int) * (b : Int) ∧ (d : Int) * (b : Int) ≤ 1065151889408 := by
        have e : (d : Int) * (b : Int) = ((d * b : Nat) : Int) := by simp
        have : d * b ≤ 31 * 34359738368 := Nat.mul_le_mul (by omega) hb1
        omega
      clear hg hb
      generalize val (l.take l.length) = v at *
      obtain ⟨V, hV0⟩ : ∃ V, V = val (l ++ [d]) := ⟨_, rfl⟩
      rw [← hV0] at HV
      have HV0 := Lib.hid hV0
      clear hV0
      generalize hM : (1099511627776 : Int) = M at *
      have c0 : (b : Int) < M := by omega
      clear hM
      go_wp2_with fail
      rw [HG.out]
      refine (digit_any d (by omega) _).mono ?_
      rintro e w' ⟨rfl, rfl⟩
      have hdm : (d : Int) % 32 = d := by omega
      have hV : (V : Int) = v + d * b := by rw [HV.out, Nat.mul_comm]; simp
      have HVI := Lib.hid hV
      clear hV
      rcases Nat.mod_two_eq_zero_or_one V with hp | hp
      · have e1 : (((v : Int) + (d : Int) * (b : Int)) % 2 == 1) = false := by rw [← HVI.out]; simp; omega
        have E : Hid (unvl V = ((v : Int) + (d : Int) * (b : Int)) / 2) := Lib.hid (by unfold unvl; rw [if_neg (by omega), ← HVI.out]; simp)
        clear hp
        go_wp2_with fail
        go_ret3
        exact ⟨by rw [← HV0.out, E.out]; rfl, rfl⟩
      · have e1 : (((v : Int) + (d : Int) * (b : Int)) % 2 == 1) = true := by rw [← HVI.out]; simp; omega
        have E : Hid (unvl V = -(((v : Int) + (d : Int) * (b : Int)) / 2)) := Lib.hid (by unfold unvl; rw [if_pos hp, ← HVI.out]; simp)
        clear hp
        go_wp2_with fail
        go_ret3
        exact ⟨by rw [← HV0.out, E.out]; rfl, rfl⟩
end Go.Proofs.YtnokiikgnplpmaaDoor
namespace Go.Proofs.YtnokiikgnplpmaaDoor
open Go.RowKit

theorem tmod_place (n k : Int) (hk : 1 ≤ k) : (n.tmod k + k) % k = n % k := by
  rw [Int.add_emod_right]
  rcases Int.emod_emod_of_dvd n (Int.dvd_refl k) with _
  have h := Int.tmod_eq_emod (a := n) (b := k)
  rw [h]
  split
  · simp
  · have : (k.natAbs : Int) = k := by omega
    rw [this, Int.sub_emod]; simp

theorem tmod_bounds (n k : Int) (hk : 1 ≤ k) : -k < n.tmod k ∧ n.tmod k < k := by
  have h1 := Int.tmod_lt_of_pos n (b := k) (by omega)
  have h2 := Int.lt_tmod_of_pos n (b := k) (by omega)
  omega

theorem place_any (n k : Int) (w : World) (h1 : 1 ≤ k) (h2 : k ≤ 4611686018427387904) :
    Calls Tryd.prog 15 #[.int .i64 n, .int .i64 k] w fun e w' => e = .returned (.int .i64 (n % k)) ∧ w = w' := by
  have hb := tmod_bounds n k h1
  have H := Lib.hid (tmod_place n k h1)
  go_enter Tryd.func15, Tryd.ntmps15
  go_wp2
  go_ret
  exact ⟨by rw [H.out]; rfl, rfl⟩

theorem small_any (n : Int) (w : World) :
    Calls Tryd.prog 42 #[.int .i64 n] w fun e w' => e = .returned (.int .i64 (n % 1048576)) ∧ w = w' := by
  go_enter Tryd.func42, Tryd.ntmps42
  go_wp2_with (go_at_call 15; refine (place_any _ _ _ (by omega) (by omega)).mono ?_; rintro e w' ⟨rfl, rfl⟩)
  go_ret
  exact ⟨rfl, rfl⟩
end Go.Proofs.YtnokiikgnplpmaaDoor
namespace Go.Proofs.YtnokiikgnplpmaaDoor
open Go.RowKit

def tabL : List Int := (List.range 64).map fun j => (sg j : Int)
theorem tabL_len : tabL.length = 64 := by simp [tabL]
theorem tabL_at (i : Nat) (h : i < 64) : tabL.getD i 0 = (sg i : Int) := by simp [tabL, List.getD, h]
theorem tab_fin : ∀ c : Fin 256, Lib.indexByte (Lib.bytesOf tabL) ((c.val : Int).toNat.toUInt8) = ix c.val := by decide +kernel
theorem tab_ix (c : Nat) (h : c < 256) : Lib.indexByte (Lib.bytesOf tabL) ((c : Int).toNat.toUInt8) = ix c := tab_fin ⟨c, h⟩

set_option maxHeartbeats 1000000 in
set_option maxRecDepth 100000 in
theorem index_any (R o cp c : Nat) (w : World) (hc : ∀ j : Nat, j < 64 → w.cell? ⟨R, o + j, none⟩ = some (.int .u8 (sg j : Int))) (h : c < 256) :
    Calls Tryd.prog 61 #[.slice (some ⟨R, o, none⟩) 64 cp, .int .u8 (c : Int)] w fun e w' => e = .returned (.int .i64 (ix c)) ∧ w' = w := by
  have hx := tab_ix c h
  go_enter Tryd.func61, Tryd.ntmps61
  go_wp2
  rw [run_callFunc_extern Tryd.func66 (by kernel_rfl) (by kernel_rfl) (by kernel_rfl) (e := Extern.BytealgIndexByte.indexByte) (by kernel_rfl), Lib.run_indexByteSlice w R o 64 cp tabL tabL_len (fun i hi => by rw [tabL_at i hi]; exact hc i hi) (c : Int), hx]
  simp only [Result.andThen]
  rw [Oper.upon_value]
  go_wp2
  go_ret
  exact ⟨rfl, rfl⟩

theorem val_snoc (l : List Nat) (d : Nat) : val (l ++ [d]) = val l + d % 32 * 2 ^ (5 * l.length) := by
  induction l with
  | nil => simp [val]
  | cons e l ih =>
    simp only [List.cons_append, val, List.length_cons, ih]
    rw [show 5 * (l.length + 1) = 5 * l.length + 5 by omega, Nat.pow_add]
    have : d % 32 * (2 ^ (5 * l.length) * 2 ^ 5) = 32 * (d % 32 * 2 ^ (5 * l.length)) := by rw [← Nat.mul_assoc]; omega
    omega
/-- One digit more: its bits do not meet those that are there. -/
theorem val_or (l : List Nat) (d : Nat) (h : l.length ≤ 11) : bits .or .i64 ((val l : Nat) : Int) ((d % 32 * 2 ^ (5 * l.length) : Nat) : Int) = ((val (l ++ [d]) : Nat) : Int) := by
  have h1 := val_lt l
  have h2 : (32 : Nat) ^ l.length = 2 ^ (5 * l.length) := by rw [show (32 : Nat) = 2 ^ 5 by decide, ← Nat.pow_mul]
  rw [h2] at h1
  have h3 : (2 : Nat) ^ (5 * l.length) ≤ 2 ^ 55 := Nat.pow_le_pow_right (by decide) (by omega)
  have h4 : d % 32 * 2 ^ (5 * l.length) ≤ 31 * 2 ^ 55 := Nat.mul_le_mul (by omega) h3
  rw [i64_or_nat _ _ (by omega) (by omega), or_shift _ _ _ h1, val_snoc]

theorem pair_eq {a b a' b' : Int} (h1 : a = a') (h2 : b = b') : Ending.returned (Value.tuple #[.int .i64 a, .int .i64 b]) = Ending.returned (.tuple #[.int .i64 a', .int .i64 b']) := by rw [h1, h2]
theorem val_bound (l : List Nat) (h : l.length ≤ 12) : val l < 1152921504606846976 := by
  have h1 := val_lt l
  have h2 : (32 : Nat) ^ l.length ≤ 32 ^ 12 := Nat.pow_le_pow_right (by decide) h
  have h3 : (32 : Nat) ^ 12 = 1152921504606846976 := by decide
  omega
theorem val_or' (l : List Nat) (d : Nat) (h : l.length ≤ 11) : bits .or .i64 ((val l : Nat) : Int) (wrap64 ((d : Int) % 32 * 2 ^ (5 * l.length))) = ((val (l ++ [d]) : Nat) : Int) := by
  have h1 := val_bound (l ++ [d]) (by simp; omega)
  rw [val_snoc] at h1
  rw [← val_or l d h]
  have e : ((d : Int) % 32 * 2 ^ (5 * l.length)) = ((d % 32 * 2 ^ (5 * l.length) : Nat) : Int) := by simp
  rw [e, IntWalk.wrap64_in _ (by omega)]

set_option maxHeartbeats 1000000 in
set_option maxRecDepth 100000 in
theorem decode_any (R o n cp i B : Nat) (l : List Nat) (d : Nat) (w : World) (hT : B64 B w) (hn : n ≤ 1152921504606846976) (hi : i + l.length + 1 ≤ n)
    (hc : ∀ j (h : j < (l ++ [d]).length), w.cell? ⟨R, o + (i + j), none⟩ = some (.int .u8 (sg ((l ++ [d])[j]) : Int))) (hl : ∀ y ∈ l, 32 ≤ y ∧ y < 64) (hd : d < 32) (hlen : l.length ≤ 11) :
    Calls Tryd.prog 51 #[.slice (some ⟨R, o, none⟩) n cp, .int .i64 (i : Int)] w fun e w' => e = .returned (.tuple #[.int .i64 (unvl (val (l ++ [d]))), .int .i64 ((i + l.length + 1 : Nat) : Int)]) ∧ ∃ m, w' = w.drewN m := by
  go_enter Tryd.func51, Tryd.ntmps51
  go_wp2_with fail
  obtain ⟨R0, o0, c0, hR0, hG0, hg, htab⟩ := hT
  go_loopg [1, 6, 7] l.length (fun f s1 s6 s7 wr => ∃ (q : Nat) (l1 l2 : List Nat), Hid (w.drewN q = wr) ∧ Hid (l = l1 ++ l2) ∧ l2.length = f ∧ l1.length + f ≤ 11 ∧ l1.length + f = l.length ∧ s1 = .int .i64 ((i + l1.length : Nat) : Int) ∧ s6 = .int .i64 ((5 * l1.length : Nat) : Int) ∧ s7 = .int .i64 ((val l1 : Nat) : Int))
  case atStart => exact ⟨0, [], l, rfl, rfl, rfl, by simpa using hlen, by simp, rfl, rfl, rfl⟩
  case round =>
    obtain ⟨q, l1, l2, hw, hll, hf, hk, hkl, rfl, rfl, rfl⟩ := hrel
    have hcs : ∀ a, wr.cell? a = w.cell? a := fun a => by rw [← hw.out]; rfl
    have hgr := (hcs _).trans hg
    have htr : ∀ j : Nat, j < 64 → wr.cell? ⟨R0, o0 + j, none⟩ = some (.int .u8 (sg j : Int)) := fun j hj => (hcs _).trans (htab j hj)
    clear hg htab
    have hpn : i + l1.length < n := by omega
    have hvl := val_lt l1
    cases l2 with
    | nil =>
      have hcell := (hcs _).trans <| hc l1.length (by simp; omega)
      have hx : (l ++ [d])[l1.length]'(by simp; omega) = d := by
        have e0 := hll.out
        subst e0
        simp
      rw [hx] at hcell
      have hsg := sg_lt d (by omega)
      have hix := ix_sg d (by omega)
      have hor := val_or' l1 d (by omega)
      have hvb := val_bound (l1 ++ [d]) (by simp; omega)
      have he1 : val (l1 ++ [d]) = val (l ++ [d]) := by rw [hll.out]; simp
      generalize val (l1 ++ [d]) = v at *
      have HE := Lib.hid he1
      clear he1
      have ha31 := i64_and31 d (by omega)
      have ha32 : bits .and .i64 (d : Int) 32 = 0 := by
        have := i64_and_nat d 32 (by omega) (by omega)
        rw [(and32 d (by omega)).2 hd] at this
        exact this
      generalize hP : i + l1.length = p at *
      clear hc hcs
      go_wp2_with fail
      go_quiet ((go_at_call 61; refine Calls.quiet_of_same (index_any R0 o0 c0 (sg d) _ (fun j hj => htr j hj) (by omega))))
      rcases Nat.mod_two_eq_zero_or_one v with hv2 | hv2
      · have ha1 := i64_and1 v (by omega)
        rw [hv2] at ha1
        have E : Hid (unvl (val (l ++ [d])) = ((v / 2 : Nat) : Int)) := Lib.hid (by rw [← HE.out]; unfold unvl; rw [if_neg (by omega)])
        go_wp2_with fail
        go_ret2
        exact ⟨pair_eq (a := (v : Int) / 2) (b := (p : Int) + 1) (by rw [E.out]; omega) (by simp at hf; omega), q + nq, by rw [← hw.out]; simp⟩
      · have ha1 := i64_and1 v (by omega)
        rw [hv2] at ha1
        have E : Hid (unvl (val (l ++ [d])) = -((v / 2 : Nat) : Int)) := Lib.hid (by rw [← HE.out]; unfold unvl; rw [if_pos hv2])
        go_wp2_with fail
        go_ret2
        exact ⟨pair_eq (a := -((v : Int) / 2)) (b := (p : Int) + 1) (by rw [E.out]; omega) (by simp at hf; omega), q + nq, by rw [← hw.out]; simp⟩
    | cons e l2 =>
      have hcell := (hcs _).trans <| hc l1.length (by simp; omega)
      have hx : (l ++ [d])[l1.length]'(by simp; omega) = e := by
        have e0 := hll.out
        subst e0
        simp
      rw [hx] at hcell
      have he := hl e (by rw [hll.out]; simp)
      have hsg := sg_lt e he.2
      have hix := ix_sg e he.2
      have hor := val_or' l1 e (by omega)
      have hvb := val_bound (l1 ++ [e]) (by simp; omega)
      generalize hV : val (l1 ++ [e]) = v at *
      have HV := Lib.hid hV
      clear hV
      have ha31 := i64_and31 e (by omega)
      have ha32 : bits .and .i64 (e : Int) 32 = 32 := by
        have := i64_and_nat e 32 (by omega) (by omega)
        rw [and32' e (by omega) (by omega)] at this
        exact this
      generalize hP : i + l1.length = p at *
      clear hc hcs
      go_wp2_with fail
      go_quiet ((go_at_call 61; refine Calls.quiet_of_same (index_any R0 o0 c0 (sg e) _ (fun j hj => htr j hj) (by omega))))
      go_wp2_with fail
      go_roundg l2.length
      case measure => simp at hf; omega
      case rel => exact ⟨q + nq, l1 ++ [e], l2, Lib.hid (by rw [← hw.out]; simp), Lib.hid (by rw [hll.out]; simp), rfl, by simp at hf ⊢; omega, by simp at hf ⊢; omega, by simp; omega, by simp; omega, by rw [HV.out]⟩
end Go.Proofs.YtnokiikgnplpmaaDoor
namespace Go.Proofs.YtnokiikgnplpmaaDoor
open Go.RowKit

theorem spl_new2 (w : World) (o : Obj) (t : TypeId) (cs : Array Value) : Blk ((w.alloc o).alloc (.cells cs t)) (w.heap.size + 1) t cs := by
  have h := Blk.new (w.alloc o) t cs
  rw [show (w.alloc o).heap.size = w.heap.size + 1 by simp] at h
  exact h
/-- Two variables of the law's own. -/
def Out2 (w6 : World) (xs ps : Array Value) (h15 h16 : Nat) (wx : World) : Prop := Blk wx h15 45 xs ∧ Blk wx h16 42 ps ∧ h15 ≠ h16 ∧ w6.heap.size ≤ h15 ∧ w6.heap.size ≤ h16 ∧ Below w6.heap.size w6 wx
def s7 (w : World) (h : Nat) (a b c d e f g : Value) : World := ((((((w.setCell ⟨h, 0, none⟩ a).setCell ⟨h, 1, none⟩ b).setCell ⟨h, 2, none⟩ c).setCell ⟨h, 3, none⟩ d).setCell ⟨h, 4, none⟩ e).setCell ⟨h, 5, none⟩ f).setCell ⟨h, 6, none⟩ g
def s2 (w : World) (h : Nat) (a b : Value) : World := (w.setCell ⟨h, 0, none⟩ a).setCell ⟨h, 1, none⟩ b
theorem s7_size (w : World) (h : Nat) (a b c d e f g : Value) : (s7 w h a b c d e f g).heap.size = w.heap.size := by simp [s7, World.setCell]
theorem s2_size (w : World) (h : Nat) (a b : Value) : (s2 w h a b).heap.size = w.heap.size := by simp [s2, World.setCell]
theorem Blk.s7 {w : World} {h : Nat} {t : TypeId} {z0 z1 z2 z3 z4 z5 z6 : Value} (hb : Blk w h t #[z0, z1, z2, z3, z4, z5, z6]) (a b c d e f g : Value) : Blk (s7 w h a b c d e f g) h t #[a, b, c, d, e, f, g] := by
  have := ((((((hb.set_ 0 a).set_ 1 b).set_ 2 c).set_ 3 d).set_ 4 e).set_ 5 f).set_ 6 g
  unfold Go.Proofs.YtnokiikgnplpmaaDoor.s7
  simpa using this
theorem Blk.s2 {w : World} {h : Nat} {t : TypeId} {z0 z1 : Value} (hb : Blk w h t #[z0, z1]) (a b : Value) : Blk (s2 w h a b) h t #[a, b] := by
  have := (hb.set_ 0 a).set_ 1 b
  unfold Go.Proofs.YtnokiikgnplpmaaDoor.s2
  simpa using this
theorem Blk.far7 {w : World} {h k : Nat} {t : TypeId} {cs : Array Value} (hb : Blk w k t cs) (hne : k ≠ h) (a b c d e f g : Value) : Blk (Go.Proofs.YtnokiikgnplpmaaDoor.s7 w h a b c d e f g) k t cs :=
  ((((((hb.far (p := ⟨h, 0, none⟩) hne a).far (p := ⟨h, 1, none⟩) hne b).far (p := ⟨h, 2, none⟩) hne c).far (p := ⟨h, 3, none⟩) hne d).far (p := ⟨h, 4, none⟩) hne e).far (p := ⟨h, 5, none⟩) hne f).far (p := ⟨h, 6, none⟩) hne g
theorem Blk.far2 {w : World} {h k : Nat} {t : TypeId} {cs : Array Value} (hb : Blk w k t cs) (hne : k ≠ h) (a b : Value) : Blk (Go.Proofs.YtnokiikgnplpmaaDoor.s2 w h a b) k t cs :=
  (hb.far (p := ⟨h, 0, none⟩) hne a).far (p := ⟨h, 1, none⟩) hne b
theorem bel7 {B : Nat} {w6 w : World} (hX : Below B w6 w) {h : Nat} (hh : B ≤ h) (a b c d e f g : Value) : Below B w6 (s7 w h a b c d e f g) :=
  ((((((hX.setCell (p := ⟨h, 0, none⟩) hh a).setCell (p := ⟨h, 1, none⟩) hh b).setCell (p := ⟨h, 2, none⟩) hh c).setCell (p := ⟨h, 3, none⟩) hh d).setCell (p := ⟨h, 4, none⟩) hh e).setCell (p := ⟨h, 5, none⟩) hh f).setCell (p := ⟨h, 6, none⟩) hh g
theorem bel2 {B : Nat} {w6 w : World} (hX : Below B w6 w) {h : Nat} (hh : B ≤ h) (a b : Value) : Below B w6 (s2 w h a b) :=
  (hX.setCell (p := ⟨h, 0, none⟩) hh a).setCell (p := ⟨h, 1, none⟩) hh b

theorem out_1 {w6 w' : World} (hX : Below w6.heap.size w6 w') (S P : Array Value) : Out2 w6 S P w'.heap.size (w'.heap.size + 1) ((w'.alloc (.cells S 45)).alloc (.cells P 42)) :=
  ⟨(Blk.new w' _ _).alloc _, spl_new2 w' _ _ _, by omega, hX.size, by have := hX.size; omega, balloc (balloc hX _) _⟩
theorem out_2 {w6 w' : World} (hX : Below w6.heap.size w6 w') (S P : Array Value) : Out2 w6 S P (w'.heap.size + 1) w'.heap.size ((w'.alloc (.cells P 42)).alloc (.cells S 45)) :=
  ⟨spl_new2 w' _ _ _, (Blk.new w' _ _).alloc _, by omega, by have := hX.size; omega, hX.size, balloc (balloc hX _) _⟩
theorem out_3 {w6 w' : World} (hX : Below w6.heap.size w6 w') (a b c d e f g : Value) (P : Array Value) {z0 z1 z2 z3 z4 z5 z6 : Value} (hA : Blk w' w6.heap.size 45 #[z0, z1, z2, z3, z4, z5, z6]) : Out2 w6 #[a, b, c, d, e, f, g] P w6.heap.size w'.heap.size ((((((((w'.setCell ⟨w6.heap.size, 0, none⟩ a).setCell ⟨w6.heap.size, 1, none⟩ b).setCell ⟨w6.heap.size, 2, none⟩ c).setCell ⟨w6.heap.size, 3, none⟩ d).setCell ⟨w6.heap.size, 4, none⟩ e).setCell ⟨w6.heap.size, 5, none⟩ f).setCell ⟨w6.heap.size, 6, none⟩ g).alloc (.cells P 42)) := by
  have hlt := hA.lt
  have h1 := Blk.new (s7 w' w6.heap.size a b c d e f g) 42 P
  rw [s7_size] at h1
  exact ⟨(hA.s7 a b c d e f g).alloc _, h1, by omega, Nat.le_refl _, hX.size, balloc (bel7 hX (Nat.le_refl _) a b c d e f g) _⟩
theorem out_4 {w6 w' : World} (hX : Below w6.heap.size w6 w') (a b c d e f g p q : Value) {z0 z1 z2 z3 z4 z5 z6 y0 y1 : Value} (hA : Blk w' w6.heap.size 45 #[z0, z1, z2, z3, z4, z5, z6]) (hB : Blk w' (w6.heap.size + 1) 42 #[y0, y1]) : Out2 w6 #[a, b, c, d, e, f, g] #[p, q] w6.heap.size (w6.heap.size + 1) (((((((((w'.setCell ⟨w6.heap.size, 0, none⟩ a).setCell ⟨w6.heap.size, 1, none⟩ b).setCell ⟨w6.heap.size, 2, none⟩ c).setCell ⟨w6.heap.size, 3, none⟩ d).setCell ⟨w6.heap.size, 4, none⟩ e).setCell ⟨w6.heap.size, 5, none⟩ f).setCell ⟨w6.heap.size, 6, none⟩ g).setCell ⟨w6.heap.size + 1, 0, none⟩ p).setCell ⟨w6.heap.size + 1, 1, none⟩ q) :=
  ⟨(hA.s7 a b c d e f g).far2 (by omega) p q, (hB.far7 (by omega) a b c d e f g).s2 p q, by omega, Nat.le_refl _, by omega, bel2 (bel7 hX (Nat.le_refl _) a b c d e f g) (Nat.le_succ _) p q⟩
theorem out_5 {w6 w' : World} (hX : Below w6.heap.size w6 w') (p q : Value) (S : Array Value) {y0 y1 : Value} (hB : Blk w' w6.heap.size 42 #[y0, y1]) : Out2 w6 S #[p, q] w'.heap.size w6.heap.size (((w'.setCell ⟨w6.heap.size, 0, none⟩ p).setCell ⟨w6.heap.size, 1, none⟩ q).alloc (.cells S 45)) := by
  have hlt := hB.lt
  have h1 := Blk.new (s2 w' w6.heap.size p q) 45 S
  rw [s2_size] at h1
  exact ⟨h1, (hB.s2 p q).alloc _, by omega, hX.size, Nat.le_refl _, balloc (bel2 hX (Nat.le_refl _) p q) _⟩
theorem out_6 {w6 w' : World} (hX : Below w6.heap.size w6 w') (a b c d e f g p q : Value) {z0 z1 z2 z3 z4 z5 z6 y0 y1 : Value} (hA : Blk w' (w6.heap.size + 1) 45 #[z0, z1, z2, z3, z4, z5, z6]) (hB : Blk w' w6.heap.size 42 #[y0, y1]) : Out2 w6 #[a, b, c, d, e, f, g] #[p, q] (w6.heap.size + 1) w6.heap.size (((((((((w'.setCell ⟨w6.heap.size + 1, 0, none⟩ a).setCell ⟨w6.heap.size + 1, 1, none⟩ b).setCell ⟨w6.heap.size + 1, 2, none⟩ c).setCell ⟨w6.heap.size + 1, 3, none⟩ d).setCell ⟨w6.heap.size + 1, 4, none⟩ e).setCell ⟨w6.heap.size + 1, 5, none⟩ f).setCell ⟨w6.heap.size + 1, 6, none⟩ g).setCell ⟨w6.heap.size, 0, none⟩ p).setCell ⟨w6.heap.size, 1, none⟩ q) :=
  ⟨(hA.s7 a b c d e f g).far2 (by omega) p q, (hB.far7 (by omega) a b c d e f g).s2 p q, by omega, by omega, Nat.le_refl _, bel2 (bel7 hX (Nat.le_succ _) a b c d e f g) (Nat.le_refl _) p q⟩
end Go.Proofs.YtnokiikgnplpmaaDoor
namespace Go.Proofs.YtnokiikgnplpmaaDoor
open Go.RowKit

theorem valid_no (w : World) : Calls Tryd.prog 33 #[.agg #[.int .u32 0]] w fun e w' => e = .returned (.bool false) ∧ Below w.heap.size w w' := by
  go_enter Tryd.func33, Tryd.ntmps33
  go_wp2
  go_ret
  exact ⟨rfl, by go_grown⟩
theorem valid_yes (i : Int) (w : World) (h : 0 ≤ i ∧ i < 4294967295) : Calls Tryd.prog 33 #[.agg #[.int .u32 (4294967295 - i)]] w fun e w' => e = .returned (.bool true) ∧ Below w.heap.size w w' := by
  have t1 : ((4294967295 - i : Int) != 0) = true := by simp; omega
  go_enter Tryd.func33, Tryd.ntmps33
  go_wp2
  go_ret
  exact ⟨rfl, by go_grown⟩
theorem u32_not (n : Nat) (h : n < 4294967296) : bits .xor .u32 IntKind.u32.max (n : Int) = 4294967295 - (n : Int) := by
  show IntKind.u32.wrap ((BitVec.ofInt 32 IntKind.u32.max ^^^ BitVec.ofInt 32 (n : Int)).toNat : Int) = _
  have e : BitVec.ofInt 32 IntKind.u32.max = BitVec.allOnes 32 := by decide
  rw [e, BitVec.allOnes_xor, BitVec.toNat_not, BitVec.ofInt_natCast, BitVec.toNat_ofNat, Nat.mod_eq_of_lt h, IntKind.wrap_u32]
  omega
theorem index_get (i : Nat) (w : World) (h : i < 4294967295) : Calls Tryd.prog 34 #[.agg #[.int .u32 (4294967295 - (i : Int))]] w fun e w' => e = .returned (.int .u32 (i : Int)) ∧ Below w.heap.size w w' := by
  have hn := u32_not (4294967295 - i) (by omega)
  rw [show (((4294967295 - i : Nat) : Nat) : Int) = 4294967295 - (i : Int) by omega, show (4294967295 - (4294967295 - (i : Int))) = (i : Int) by omega] at hn
  have HN := Lib.hid hn
  clear hn
  go_enter Tryd.func34, Tryd.ntmps34
  go_wp2
  rw [HN.out]
  go_ret
  exact ⟨rfl, by go_grown⟩
theorem make_index (i : Nat) (w : World) (h : i < 4294967295) : Calls Tryd.prog 37 #[.int .u32 (i : Int)] w fun e w' => e = .returned (.agg #[.int .u32 (4294967295 - (i : Int))]) ∧ Below w.heap.size w w' := by
  have HN := Lib.hid (u32_not i (by omega))
  go_enter Tryd.func37, Tryd.ntmps37
  go_wp2
  rw [HN.out]
  exact bodyPost_ret (v := .agg #[.int .u32 (4294967295 - (i : Int))]) (by simp [results, Tryd.results37, go_sem]) rfl ⟨rfl, by go_grown⟩
theorem stateOf_any (a b c d e f : Int) (w : World) : Calls Tryd.prog 39 #[.agg #[.int .i64 a, .int .i64 b, .int .i64 c, .int .i64 d, .int .i64 e, .int .i64 f]] w fun e' w' => e' = .returned (.agg #[.int .i64 a, .int .i64 b, .int .i64 c, .int .i64 d, .int .i64 e, .int .i64 f, .bool false]) ∧ Below w.heap.size w w' := by
  go_enter Tryd.func39, Tryd.ntmps39
  go_wp2
  exact bodyPost_ret (v := .agg #[.int .i64 a, .int .i64 b, .int .i64 c, .int .i64 d, .int .i64 e, .int .i64 f, .bool false]) (by simp [results, Tryd.results39, go_sem]) rfl ⟨rfl, by go_grown⟩
end Go.Proofs.YtnokiikgnplpmaaDoor
namespace Go.Proofs.YtnokiikgnplpmaaDoor
open Go.RowKit

theorem plus_any (a b c d : Int) (w : World) (ha : 0 ≤ a) (ha' : a ≤ 2305843009213693952) (hb : 0 ≤ b) (hb' : b ≤ 2305843009213693952) (hc : 0 ≤ c) (hc' : c ≤ 2305843009213693952) (hd : 0 ≤ d) (hd' : d ≤ 2305843009213693952) :
    Calls Tryd.prog 56 #[.agg #[.int .i64 a, .int .i64 b], .agg #[.int .i64 c, .int .i64 d]] w fun e w' => e = .returned (.agg #[.int .i64 (a + c), .int .i64 (sumC b c d)]) ∧ Below w.heap.size w w' := by
  rcases (show c = 0 ∨ 1 ≤ c by omega) with rfl | h
  · go_enter Tryd.func56, Tryd.ntmps56
    go_wp2
    exact bodyPost_ret (v := .agg #[.int .i64 a, .int .i64 (b + d)]) (by simp [results, Tryd.results56, go_sem]) rfl ⟨by simp [sumC], by go_grown⟩
  · go_enter Tryd.func56, Tryd.ntmps56
    go_wp2
    exact bodyPost_ret (v := .agg #[.int .i64 (a + c), .int .i64 d]) (by simp [results, Tryd.results56, go_sem]) rfl ⟨by simp [sumC]; omega, by go_grown⟩

end Go.Proofs.YtnokiikgnplpmaaDoor
namespace Go.Proofs.YtnokiikgnplpmaaDoor
open Go.RowKit Go.WideShapes Go.ChangeShapes
section
variable {H : Type} {enc : TypeId × Value → H} {P : Program}

theorem post_of_below {f : Func} {s : ChangeSpec} {apart fresh handsOn again : Bool} {W W' : World} {args : Array Value} {v : Value} {ds gs : List (DataW H)} {before pa pv : List MemPlace}
    (hW : DataW.Whole enc P f.params.toList s.vars apart W args.toList ds gs before)
    (hres : ∀ (b : Nat) (sp : Nat → Bool) (hd : Bool), DataW.TrodAll enc P W' b sp hd f.resultTypes.toList (v.resultList f.resultTypes.size) (s.fn H (ds ++ gs)).results [])
    (hargs : ∀ sp : Nat → Bool, (∀ p ∈ before, sp p.block = true) → DataW.TrodAll enc P W' 0 sp true f.params.toList args.toList (s.fn H (ds ++ gs)).args pa)
    (hvars : ∀ sp : Nat → Bool, (∀ p ∈ before, sp p.block = true) → DataW.TrodVars enc P W' sp s.vars (s.fn H (ds ++ gs)).vars pv)
    (hps : before = pa ++ pv) (hb : Below W.heap.size W W')
    (hok : ∀ (j : Nat) (t : TypeId) (r : Value), f.resultTypes[j]? = some t → (v.resultList f.resultTypes.size)[j]? = some r → Value.okWide P W' .any 0 t r) :
    s.post enc P f apart fresh handsOn again W args v W' := by
  have hlt : ∀ p ∈ before, p.block < W.heap.size := fun p hp => hW.lt p hp
  have hold : ∀ p ∈ before, (fun b => decide (b < W.heap.size)) p.block = true := fun p hp => by simpa using hlt p hp
  refine ⟨ds, gs, before, [], pa, pv, hW, hres _ _ _, hargs _ hold, hvars _ hold, World.keptBut_mono (fun p hp => ⟨hp, ?_⟩) (hb.frame (· ∈ before)), fun _ => ?_⟩
  · rw [hps, List.mem_append] at hp
    exact Or.inr hp
  · obtain ⟨_, _, _, _, _, hz, hn⟩ := hW
    refine ⟨hok, _, _, ([] ++ pa) ++ pv, ⟨[] ++ pa, pv, trodAll_append (hargs _ (fun _ _ => rfl)) (hres _ _ _), hvars _ (fun _ _ => rfl), rfl, ?_, ?_⟩, ?_⟩
    · intro b off hp
      have hin : MemPlace.cell b off ∈ before := by rw [hps]; simpa using hp
      rw [hb.frozen (hlt _ hin)]
      exact hz b off hin
    · intro ha
      have := hn ha
      rw [hps] at this
      simpa using this
    · intro p hp _
      rw [hps]
      simpa using hp

/-- All arguments read as they did, where nothing that was there before has turned. -/
theorem trodAll_below {W W' : World} {sp : Nat → Bool} (hl : laidOutB P = true) (hb : Below W.heap.size W W') : ∀ (ts : List TypeId) (vs : List Value) (ds : List (DataW H)) (ps : List MemPlace),
    (ts.all fun t => P.readableRec t && decide (t < P.types.size)) = true → DataW.TrodAll enc P W 0 (fun _ => true) true ts vs ds ps → (∀ x ∈ ps, x.block < W.heap.size) → (∀ x ∈ ps, sp x.block = true) →
    DataW.TrodAll enc P W' 0 sp true ts vs ds ps := by
  intro ts
  induction ts with
  | nil =>
    intro vs ds ps _ h _ _
    obtain ⟨rfl, rfl, rfl⟩ := trodAll_nil h
    exact trodAll_mk0
  | cons t ts ih =>
    intro vs ds ps hr h hlt hsp
    obtain ⟨v, vs, d, ds, p, q, rfl, rfl, rfl, h0, r0⟩ := trodAll_cons h
    simp only [List.all_cons, Bool.and_eq_true, decide_eq_true_eq] at hr
    refine trodAll_cons_mk (WideElems.Trod_stays hl hr.1.1 hr.1.2 h0 (fun x hx => hb.same (hlt x (by simp [hx]))) (fun x hx => hsp x (by simp [hx]))) (ih _ _ _ (by simpa using hr.2) r0 (fun x hx => hlt x (by simp [hx])) (fun x hx => hsp x (by simp [hx])))

theorem trodAll_length {w : World} {b : Nat} {sp : Nat → Bool} {hd : Bool} : ∀ (ts : List TypeId) (vs : List Value) (ds : List (DataW H)) (ps : List MemPlace), DataW.TrodAll enc P w b sp hd ts vs ds ps → ds.length = ts.length := by
  intro ts
  induction ts with
  | nil => intro vs ds ps h; obtain ⟨rfl, rfl, rfl⟩ := trodAll_nil h; rfl
  | cons t ts ih =>
    intro vs ds ps h
    obtain ⟨v, vs, d, ds, p, q, rfl, rfl, rfl, h0, r0⟩ := trodAll_cons h
    simp [ih _ _ _ r0]

/-- A law's post: it returned true, and nothing that was there before has turned. -/
theorem law_post {f : Func} {s : ChangeSpec} {W W' : World} {args : Array Value} {ds gs : List (DataW H)} {before : List MemPlace} {tb : TypeId} (hl : laidOutB P = true)
    (hr : (f.params.toList.all fun t => P.readableRec t && decide (t < P.types.size)) = true) (hres : f.resultTypes = #[tb]) (htb : P.underlying tb = some .bool) (hv : s.vars = [])
    (hfn : ∀ ds : List (DataW H), ds.length = f.params.toList.length → s.fn H ds = { results := [.lit (.bool true)], args := ds })
    (hW : DataW.Whole enc P f.params.toList s.vars false W args.toList ds gs before) (hb : Below W.heap.size W W') :
    s.post enc P f false true false false W args (.bool true) W' := by
  have hW' := hW
  obtain ⟨p, q, hA, hV, rfl, hfz, hnd⟩ := hW
  rw [hv] at hV
  obtain ⟨rfl, rfl⟩ := trodVars_none hV
  have hf := hfn ds (trodAll_length _ _ _ _ hA)
  have e : s.fn H (ds ++ []) = { results := [.lit (.bool true)], args := ds } := by rw [List.append_nil]; exact hf
  have hlt : ∀ x ∈ p, x.block < W.heap.size := fun x hx => hW'.lt x (by simp [hx])
  refine post_of_below (pa := p) (pv := []) hW' (fun _ _ _ => ?_) (fun sp hsp => ?_) (fun sp _ => ?_) rfl hb ?_
  · rw [hres, e]
    exact trodAll_cons_mk (shut_bool htb _) trodAll_mk0
  · rw [e]
    exact trodAll_below hl hb _ _ _ _ hr hA hlt (fun x hx => hsp x (by simp [hx]))
  · rw [hv, e]
    rfl
  · exact ok_one hres rfl (okWide_bool_mk htb _)
end
end Go.Proofs.YtnokiikgnplpmaaDoor
namespace Go.Proofs.YtnokiikgnplpmaaDoor
open Go.RowKit Go.ChangeShapes Go.WideShapes Go.ChangeAt

theorem own : ownKnob Tryd.prog.godebug = none := by kernel_rfl
def tabN : List Nat := (List.range 64).map sg
/-- What the rows list. -/
abbrev laidL : List (String × DataW Unit) := [("mapthread/pub/esbuild/inner/sourcemap.base64", Rows.laid_mapthread_pub_esbuild_inner_sourcemap_base64)]
theorem laid_is : laidL = [("mapthread/pub/esbuild/inner/sourcemap.base64", Lib.sliceData .u8 tabN)] := by kernel_rfl

theorem cell_lt {w : World} {p : Addr} {v : Value} (h : w.cell? p = some v) : p.block < w.heap.size := by
  rcases Nat.lt_or_ge p.block w.heap.size with h1 | h1
  · exact h1
  · simp [World.cell?, Array.getElem?_eq_none h1] at h

theorem b64_of_laid {W : World} (hL : laidMetH Tryd.prog laidL W) : B64 W.heap.size W := by
  rw [laid_is] at hL
  have hr := Lib.laidMet.reads hL (.head _)
  obtain ⟨R, o, c, h1, h2⟩ := Lib.tabSlice_of_reads (P := Tryd.prog) (g := 0) (t := 72) (e := 5) (by kernel_rfl) (by kernel_rfl) (by kernel_rfl) (by kernel_rfl) (by kernel_rfl) (by decide) hr
  have hl : tabN.length = 64 := by simp [tabN]
  rw [hl] at h1 h2
  refine ⟨R, o, c, cell_lt (h2 0 (by decide)), cell_lt h1, h1, fun j hj => ?_⟩
  have := h2 j hj
  simpa [tabN, List.getD, hj] using this

noncomputable def laidWorld (os : Os) : World :=
  let N := (World.settled Tryd.prog os).heap.size
  let w0 := World.holding Tryd.prog os ⟨#[.cells (Lib.intCellsOf .u8 tabN) 5], #[], []⟩
  { w0 with heap := w0.heap.modify 0 fun
      | .cells _ t frozen => .cells #[.slice (some ⟨N, 0, none⟩) 64 64] t frozen
      | o => o }
noncomputable abbrev N0 : Nat := (World.settled Tryd.prog default).heap.size

set_option maxRecDepth 1000000 in
theorem laid_piece (os : Os) (args : Array Value) : LaidIn Tryd.prog ((laidWorld os).forCall (fun _ _ => 0) ⟨#[], args, []⟩).memory [("mapthread/pub/esbuild/inner/sourcemap.base64", Lib.sliceData .u8 tabN)] [0, N0] :=
  Lib.laidIn_slice (t := 72) (e := 5) (te := 5) tabN N0 (by kernel_rfl) (by kernel_rfl) (by kernel_rfl) (by kernel_rfl) (by kernel_rfl) (by kernel_rfl) (by kernel_rfl) (by kernel_rfl) (of_decide_eq_true (by kernel_rfl)) (of_decide_eq_true (by kernel_rfl))
theorem laid_met (os : Os) (args : Array Value) : laidMet Tryd.prog laidL ((laidWorld os).forCall (fun _ _ => 0) ⟨#[], args, []⟩).memory := by
  rw [laid_is]
  exact (laid_piece os args).met
end Go.Proofs.YtnokiikgnplpmaaDoor
namespace Go.Proofs.YtnokiikgnplpmaaDoor
open Go.RowKit Go.WideShapes Go.ChangeShapes
section
variable {H : Type} {enc : TypeId × Value → H} {P : Program} {w : World} {base : Nat} {held : Bool}

theorem bulk_one {H : Type} (d : DataW H) : 1 ≤ Rows.uptoBulk d := by
  cases d with
  | lit l => cases l <;> simp [Rows.uptoBulk]
  | nil => simp [Rows.uptoBulk]
  | ptr d => simp [Rows.uptoBulk]
  | slice elems spare => simp [Rows.uptoBulk]
  | agg parts => simp [Rows.uptoBulk]
  | iface t d => simp [Rows.uptoBulk]
  | map entries => simp [Rows.uptoBulk]
  | held h => simp [Rows.uptoBulk]
theorem bulk_len {H : Type} (l : List (DataW H)) : l.length ≤ Rows.uptoBulkAll l := by
  induction l with
  | nil => simp [Rows.uptoBulkAll]
  | cons x r ih => have := bulk_one x; simp only [Rows.uptoBulkAll, List.length_cons]; omega

/-- Rows of five numbers in memory. -/
def At5 (w : World) (A : Option Addr) (n : Nat) (Z : Nat → Nat → Int) : Prop := 0 < n → ∃ R o, A = some ⟨R, o, none⟩ ∧ ∀ i j, i < n → j < 5 → w.cell? ⟨R, o + i * 5 + j, none⟩ = some (.int .i64 (Z i j))

theorem cells_at {a : Addr} {n : Nat} {cs : List Value} (h : w.cells? base a n = some cs) (j : Nat) (hj : j < n) : w.cell? (a.add j) = cs[j]? := by
  unfold World.cells? at h
  split at h
  · exact mapM_some_get h j j (by simp [hj])
  · cases h

theorem open_rows5 {t e te : TypeId} {r : Reach} {b0 : Nat} {v : Value} {d : DataW H} {p : List MemPlace} (ht : P.underlying t = some (.slice e)) (he : P.underlying e = some (.array 5 te)) (hte : P.underlying te = some (.int .i64)) (hce : P.cellsOf e = 5) (hct : P.cellsOf te = 1)
    (hv : Value.okWide P w r b0 t v) (h : DataW.Trod enc P w base (fun _ => true) held t v d p) :
    ∃ (A : Option Addr) (n cap : Nat) (Z : Nat → Nat → Int), v = .slice A n cap ∧ At5 w A n Z ∧ n ≤ Rows.uptoBulk d ∧ (A = none → n = 0 ∧ cap = 0) := by
  obtain ⟨a0, len, cap, rfl⟩ := okWide_slice ht hv
  obtain ⟨fuel, hf⟩ := h
  rcases Go.Deep.open_slice ht hf with ⟨hcs, hx⟩ | ⟨a, len1, cap1, m, n, D, Pl, hcs, _, hl, _, hm, hx, hel⟩
  · simp [Value.cells] at hcs
    obtain ⟨rfl, rfl, rfl⟩ := hcs
    exact ⟨none, 0, 0, fun _ _ => 0, rfl, fun q => absurd q (Nat.lt_irrefl _), Nat.zero_le _, fun _ => ⟨rfl, rfl⟩⟩
  · simp [Value.cells] at hcs
    obtain ⟨rfl, rfl, rfl⟩ := hcs
    simp only [if_true] at hm
    have each : ∀ i, i < len → ∃ z : Nat → Int, ∀ j, j < 5 → w.cell? (a.add (i * 5 + j)) = some (.int .i64 (z j)) := by
      intro i hi
      obtain ⟨cs', hc', ht'⟩ := hel i (by omega)
      rw [hce] at hc'
      obtain ⟨xs, m', _, _, hlen, hxl, hxs⟩ := DataW.trod_array he ht'
      rw [hce] at hlen
      have hj : ∀ j, j < 5 → ∃ z, cs'[j]? = some (.int .i64 z) := by
        intro j hj
        have h1 := hxs j hj
        rw [hct, Nat.mul_one] at h1
        obtain ⟨y, hy⟩ : ∃ y, xs[j]? = some y := ⟨xs[j], List.getElem?_eq_getElem (by omega)⟩
        rw [hy] at h1
        obtain ⟨z, hz, _, _⟩ := DataW.trod_int hte h1
        refine ⟨z, ?_⟩
        have h2 := congrArg (·[0]?) hz
        simpa using h2
      obtain ⟨z, hz⟩ := Go.Deep.choose_lt hj
      refine ⟨z, fun j hj => ?_⟩
      rw [← Go.Deep.add_add, cells_at hc' j hj, hz j hj]
    obtain ⟨Z, hZ⟩ := Go.Deep.choose_lt each
    have hd : d = .slice ((List.range len).map D) ((List.range (m - len)).map fun j => D (len + j)) := (Prod.mk.inj hx).1
    refine ⟨some a, len, cap, Z, rfl, fun hpos => ?_, ?_, fun q => by cases q⟩
    · obtain ⟨b, o, sp⟩ := a
      have h0 := hZ 0 hpos 0 (by omega)
      have e0 : (Addr.add ⟨b, o, sp⟩ (0 * 5 + 0)) = ⟨b, o, sp⟩ := by simp [Addr.add]
      rw [e0] at h0
      obtain rfl : sp = none := Go.Proofs.cell_spot h0
      refine ⟨b, o, rfl, fun i j hi hj => ?_⟩
      have h1 := hZ i hi j hj
      rw [Addr.add_lit, ← Nat.add_assoc] at h1
      exact h1
    · rw [hd]
      have := bulk_len ((List.range len).map D)
      simp only [Rows.uptoBulk]
      simp at this
      omega
end
end Go.Proofs.YtnokiikgnplpmaaDoor
namespace Go.Proofs.YtnokiikgnplpmaaDoor
open Go.RowKit

/-- One row more, ahead of the others. -/
def consZ (a : Nat → Int) (Z : Nat → Nat → Int) : Nat → Nat → Int
  | 0 => a
  | i + 1 => Z i
def row5 (a : Nat → Int) : List Value := [.int .i64 (a 0), .int .i64 (a 1), .int .i64 (a 2), .int .i64 (a 3), .int .i64 (a 4)]
def rows5 (Z : Nat → Nat → Int) (n : Nat) : List Value := (List.range n).flatMap fun i => row5 (Z i)
theorem rows5_len (Z : Nat → Nat → Int) (n : Nat) : (rows5 Z n).length = n * 5 := by
  induction n with
  | zero => rfl
  | succ n ih =>
    have : rows5 Z (n + 1) = rows5 Z n ++ row5 (Z n) := by simp [rows5, List.range_succ]
    rw [this, List.length_append, ih]
    simp [row5]
    omega
theorem row5_at (a : Nat → Int) (j : Nat) (h : j < 5) : (row5 a)[j]? = some (.int .i64 (a j)) := by
  match j, h with
  | 0, _ => rfl
  | 1, _ => rfl
  | 2, _ => rfl
  | 3, _ => rfl
  | 4, _ => rfl
theorem rows5_at (Z : Nat → Nat → Int) (n i j : Nat) (hi : i < n) (hj : j < 5) : (rows5 Z n)[i * 5 + j]? = some (.int .i64 (Z i j)) := by
  induction n with
  | zero => omega
  | succ n ih =>
    have e : rows5 Z (n + 1) = rows5 Z n ++ row5 (Z n) := by simp [rows5, List.range_succ]
    rw [e]
    rcases Nat.lt_or_ge i n with h | h
    · rw [List.getElem?_append_left (by rw [rows5_len]; omega)]
      exact ih h
    · obtain rfl : i = n := by omega
      rw [List.getElem?_append_right (by rw [rows5_len]; omega), rows5_len, show i * 5 + j - i * 5 = j by omega]
      exact row5_at _ j hj
theorem rows5_one (Z : Nat → Nat → Int) (n : Nat) : ∀ u ∈ rows5 Z n, u.oneCell' = true := by
  intro u hu
  simp only [rows5, List.mem_flatMap] at hu
  obtain ⟨i, _, hu⟩ := hu
  simp only [row5, List.mem_cons, List.not_mem_nil, or_false] at hu
  rcases hu with rfl | rfl | rfl | rfl | rfl <;> rfl
theorem rows5_cons (a : Nat → Int) (Z : Nat → Nat → Int) (n i j : Nat) (hi : i < n + 1) (hj : j < 5) : (row5 a ++ rows5 Z n)[i * 5 + j]? = some (.int .i64 (consZ a Z i j)) := by
  cases i with
  | zero =>
    rw [List.getElem?_append_left (by simp [row5]; omega), Nat.zero_mul, Nat.zero_add]
    exact row5_at a j hj
  | succ i =>
    rw [List.getElem?_append_right (by simp [row5]; omega)]
    rw [show (i + 1) * 5 + j - (row5 a).length = i * 5 + j by simp [row5]; omega]
    exact rows5_at Z n i j (by omega) hj

theorem At5.below {w w' : World} {A : Option Addr} {n : Nat} {Z : Nat → Nat → Int} (h : At5 w A n Z) (hb : Below w.heap.size w w') : At5 w' A n Z := by
  intro hn
  obtain ⟨R, o, hA, hc⟩ := h hn
  have hR : R < w.heap.size := cell_lt' (p := ⟨R, o + 0 * 5 + 0, none⟩) (hc 0 0 hn (by omega))
  exact ⟨R, o, hA, fun i j hi hj => (hb.cell (p := ⟨R, _, none⟩) hR).trans (hc i j hi hj)⟩
theorem info_row : (Tryd.prog.info? 57).map (fun i => (i.zero, i.size, i.bytes)) = some (some (.agg #[.int .i64 0, .int .i64 0, .int .i64 0, .int .i64 0, .int .i64 0]), 5, 40) := by kernel_rfl

/-- append([][5]int{r}, l...) -/
theorem wpList_cons5 {w : World} {ops : Array Oper} {rest : List Oper} {o : Oper} {a : Act} {Q : Exit → Act → World → Prop} (hgd : o.guard = none) (s x : Operand)
    (ho : o.op = .call { callee := .builtin .append, args := #[s, x], argTypes := #[54, 54] }) (g n cap : Nat) (A : Option Addr) (r : Nat → Int) (Z : Nat → Nat → Int)
    (hs : a.eval s = .slice (some ⟨g, 0, none⟩) 1 1) (hblk : Blk w g 57 #[.int .i64 (r 0), .int .i64 (r 1), .int .i64 (r 2), .int .i64 (r 3), .int .i64 (r 4)]) (hx : a.eval x = .slice A n cap) (hA : A = none → n = 0 ∧ cap = 0) (h5 : At5 w A n Z) (hn : n ≤ 1048576)
    (h : ∀ (A2 : Option Addr) (cap2 : Nat) (w2 : World), At5 w2 A2 (1 + n) (consZ r Z) → Below g w w2 → wpList Tryd.prog ops Q rest (a.put o.dst (.slice A2 (1 + n) cap2)) w2) : wpList Tryd.prog ops Q (o :: rest) a w := by
  obtain ⟨i0, hi0, hz0, hz1, hz2⟩ := info_parts info_row
  have hown : w.ownsRow g 57 5 (.slice (some ⟨g, 0, none⟩) 1 1) 1 (row5 r) := ⟨rfl, .inr ⟨g, 1, _, rfl, Nat.le_refl _, hblk, Nat.le_refl _, by unfold maxLen; omega, rfl, rfl⟩⟩
  cases A with
  | none =>
    obtain ⟨rfl, rfl⟩ := hA rfl
    refine wpList_append_own_none hgd s x _ ho g 57 i0 5 Tryd.underlying54 hi0 _ 1 _ hs hown hx ?_
    refine h (some ⟨g, 0, none⟩) 1 w (fun _ => ⟨g, 0, rfl, fun i j hi hj => ?_⟩) (Below.refl _ _)
    obtain rfl : i = 0 := by omega
    rw [Nat.zero_mul, Nat.zero_add, hblk.cell]
    match j, hj with
    | 0, _ => rfl
    | 1, _ => rfl
    | 2, _ => rfl
    | 3, _ => rfl
    | 4, _ => rfl
  | some ad =>
    refine wpList_append_own_at w hgd s x _ ho g 57 i0 _ 5 40 Tryd.underlying54 hi0 hz0 hz1 hz2 rfl (by omega) _ 1 _ hs hown ad n cap (rows5 Z n) hx (rows5_len Z n) (fun j u hu => ?_) (rows5_one Z n) (by unfold maxLen; omega) (by omega) (Nat.le_of_lt hblk.lt) ?_
    · have hj : j < n * 5 := by
        have := (List.getElem?_eq_some_iff.1 hu).1
        rw [rows5_len] at this
        exact this
      obtain ⟨R, oo, hR, hc⟩ := h5 (by omega)
      cases hR
      rw [Addr.add_lit]
      have h1 := hc (j / 5) (j % 5) (by omega) (by omega)
      have h2 := rows5_at Z n (j / 5) (j % 5) (by omega) (by omega)
      rw [show j / 5 * 5 + j % 5 = j by omega] at h2
      rw [show oo + j / 5 * 5 + j % 5 = oo + j by omega] at h1
      rw [h1, ← h2, hu]
    · intro v2 w2 hown2 hg2 _ _
      obtain ⟨k1, k2⟩ := hown2
      rcases k2 with ⟨_, k0⟩ | ⟨g2, cap2, cur, rfl, k3, k4, k5, k6, k7, k8⟩
      · omega
      · refine h (some ⟨g2, 0, none⟩) cap2 w2 (fun _ => ⟨g2, 0, rfl, fun i j hi hj => ?_⟩) ⟨hg2.os, hg2.tape, hg2.output, hg2.size, fun k hk => hg2.block k (by have := hblk.lt; omega) (fun e => by simp [Value.ownBlock] at e; omega)⟩
        rw [cell_of_row w2 g2 _ cur _ (0, 0) k4, ← rows5_cons r Z n i j (by omega) hj, ← k8, List.getElem?_take, Nat.zero_add, if_pos (by omega)]
        simp
end Go.Proofs.YtnokiikgnplpmaaDoor

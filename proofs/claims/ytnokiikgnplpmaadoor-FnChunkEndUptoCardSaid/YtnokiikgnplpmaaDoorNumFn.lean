/-
  The contract of spec.Number: a number as text. Conditions: the number is below 2^40 either way, and at most 3 digits are added.
-/
import Derived.Test.YtnokiikgnplpmaaDoorKit
import Derived.Test.YtnokiikgnplpmaaDoorVlq
import Derived.Laws.Concat
namespace Go.Proofs.YtnokiikgnplpmaaDoor
open Go.RowKit

/-- The text of digits. -/
def tx (l : List Nat) : ByteArray := ⟨(l.map fun d => UInt8.ofNat (sg d)).toArray⟩
theorem tx_size (l : List Nat) : (tx l).size = l.length := by simp [tx, ByteArray.size]
theorem tx_app (a b : List Nat) : tx a ++ tx b = tx (a ++ b) := by
  unfold tx
  apply ByteArray.ext
  simp

/-- The 64 signs. -/
def signs : ByteArray := ⟨#[65, 66, 67, 68, 69, 70, 71, 72, 73, 74, 75, 76, 77, 78, 79, 80, 81, 82, 83, 84, 85, 86, 87, 88, 89, 90, 97, 98, 99, 100, 101, 102, 103, 104, 105, 106, 107, 108, 109, 110, 111, 112, 113, 114, 115, 116, 117, 118, 119, 120, 121, 122, 48, 49, 50, 51, 52, 53, 54, 55, 56, 57, 43, 47]⟩
theorem signs_fin : ∀ d : Fin 64, signs.extract d.val (d.val + 1) = tx [d.val] := by decide +kernel
theorem signs_at (d : Nat) (h : d < 64) : signs.extract d (d + 1) = tx [d] := signs_fin ⟨d, h⟩

theorem num_last (l X : List Nat) (f y m : Nat) (h : l ++ digs f y m = X) (h1 : y / 32 = 0) (h2 : m = 0) : tx l ++ signs.extract (y % 32) (y % 32 + 1) = tx X := by
  rw [signs_at _ (by omega), tx_app, ← h, h2]
  congr 1
  cases f <;> simp [digs, h1]
theorem num_more (l : List Nat) (d e : Nat) (h : d < 32) (he : e = d + 33) : tx l ++ signs.extract (d + 32) e = tx (l ++ [d + 32]) := by
  rw [he, show d + 33 = d + 32 + 1 by omega, signs_at _ (by omega), tx_app]
theorem num_step (l X : List Nat) (f y m m' : Nat) (h : l ++ digs (f + 1) y m = X) (h1 : ¬ (y / 32 = 0 ∧ m = 0)) (hm : m' = if y / 32 = 0 then m - 1 else m) : l ++ [y % 32 + 32] ++ digs f (y / 32) m' = X := by
  rw [← h, hm]
  conv => rhs; unfold digs
  rw [if_neg h1]
  simp

set_option maxHeartbeats 1000000 in
set_option maxRecDepth 100000 in
theorem number_any (n m : Int) (w : World) (hn1 : -1099511627776 < n) (hn2 : n < 1099511627776) (hm1 : 0 ≤ m) (hm2 : m ≤ 3) :
    Calls Tryd.prog 43 #[.int .i64 n, .int .i64 m] w fun e w' => e = .returned (.string (tx (digs 12 (vl n) m.toNat))) ∧ w' = w := by
  have ks : ∀ (W : World) (x y : ByteArray), x.size + y.size ≤ 9223372036854775807 → (Op.stringOp .add x y).run Tryd.prog W = .ok (.string (x ++ y)) W := fun W x y h => run_string_add_sum W x y h
  obtain ⟨y, hyx⟩ : ∃ y, y = vl n := ⟨_, rfl⟩
  have hy : y < 2199023255553 := by rw [hyx]; unfold vl; split <;> omega
  have Hyx := Lib.hid hyx
  clear hyx
  go_enter Tryd.func43, Tryd.ntmps43
  go_upto_if 11 with fail
  go_cut [5] (fun s5 wx => s5 = .int .i64 (y : Int) ∧ w = wx)
  case first =>
    rcases Int.lt_or_le n 0 with hx | hx
    · have e : -2 * n + 1 = y := by rw [Hyx.out]; unfold vl; rw [if_pos hx]; omega
      have E := Lib.hid e
      clear e
      go_wp2_with fail
      go_meet
      exact ⟨by rw [← E.out], rfl⟩
    · have e : 2 * n = y := by rw [Hyx.out]; unfold vl; rw [if_neg (by omega)]; omega
      have E := Lib.hid e
      clear e
      go_wp2_with fail
      go_meet
      exact ⟨by rw [← E.out], rfl⟩
  case rest =>
    obtain ⟨rfl, rfl⟩ := hcut
    go_wp2_with fail
    go_loopg [1, 5, 6] 12 (fun f s1 s5 s6 wr => ∃ (m1 y1 : Nat) (l : List Nat), s1 = .int .i64 (m1 : Int) ∧ s5 = .int .i64 (y1 : Int) ∧ s6 = .string (tx l) ∧ w = wr ∧ m1 ≤ 3 ∧ m1 ≤ f ∧ y1 < 2199023255553 ∧ l.length + f ≤ 12 ∧ Hid (y1 < 32 ^ (f + 1 - m1)) ∧ Hid (l ++ digs f y1 m1 = digs 12 (vl n) m.toNat))
    case atStart => exact ⟨m.toNat, y, [], by rw [Int.toNat_of_nonneg hm1], rfl, rfl, rfl, by omega, by omega, hy, by simp, Nat.lt_of_lt_of_le hy (Nat.le_trans (show 2199023255553 ≤ 32 ^ 10 by decide) (Nat.pow_le_pow_right (by decide) (by omega))), by rw [← Hyx.out]; rfl⟩
    case round =>
      obtain ⟨m1, y1, l, rfl, rfl, rfl, rfl, hm3, hmf, hy1, hl, hp, hd⟩ := hrel
      have hts := tx_size l
      by_cases h1 : y1 / 32 = 0
      · by_cases h2 : m1 = 0
        · have c1 : ((y1 : Int) / 32 == 0) = true := by simp; omega
          have c2 : ((m1 : Int) == 0) = true := by simp; omega
          go_wp2_with fail
          go_ret
          exact ⟨congrArg (fun b => Ending.returned (Value.string b)) (num_last _ _ _ _ _ hd.out h1 h2), rfl⟩
        · have c1 : ((y1 : Int) / 32 == 0) = true := by simp; omega
          have c2 : ((m1 : Int) == 0) = false := by simp; omega
          obtain ⟨f, rfl⟩ : ∃ f, gk = f + 1 := ⟨gk - 1, by omega⟩
          have E1 := Lib.hid (num_more l (y1 % 32) _ (by omega) rfl)
          have E2 := Lib.hid (num_step l _ f y1 m1 (m1 - 1) hd.out (by omega) (by rw [if_pos h1]))
          go_wp2_with fail
          go_roundg f
          case measure => omega
          case rel => exact ⟨m1 - 1, y1 / 32, l ++ [y1 % 32 + 32], by go_num, by go_num, congrArg Value.string E1.out, rfl, by omega, by omega, by omega, by simp; omega, by rw [h1]; exact Nat.pow_pos (by decide), E2.out⟩
      · have c1 : ((y1 : Int) / 32 == 0) = false := by simp; omega
        have hp1 := hp.out
        have hmf2 : m1 < gk := by
          rcases Nat.lt_or_ge m1 gk with q | q
          · exact q
          · rw [show gk + 1 - m1 = 1 by omega] at hp1
            omega
        obtain ⟨f, rfl⟩ : ∃ f, gk = f + 1 := ⟨gk - 1, by omega⟩
        have E1 := Lib.hid (num_more l (y1 % 32) _ (by omega) rfl)
        have E2 := Lib.hid (num_step l _ f y1 m1 m1 hd.out (by omega) (by rw [if_neg h1]))
        have E3 : Hid (y1 / 32 < 32 ^ (f + 1 - m1)) := by
          refine Lib.hid ?_
          apply Nat.div_lt_of_lt_mul
          rw [show f + 1 + 1 - m1 = (f + 1 - m1) + 1 by omega, Nat.pow_succ] at hp1
          omega
        clear hp1
        go_wp2_with fail
        go_roundg f
        case measure => omega
        case rel => exact ⟨m1, y1 / 32, l ++ [y1 % 32 + 32], by go_num, by go_num, congrArg Value.string E1.out, rfl, by omega, by omega, by omega, by simp; omega, E3.out, E2.out⟩
end Go.Proofs.YtnokiikgnplpmaaDoor

/-
  Bits of int and int32 at numbers that are not below 0: plain arithmetic. Conditions: as each lemma says.
-/
import Derived.Laws.BitsAllLaws
import Derived.Laws.BitsLemmas
import Derived.IntWalk
namespace Go.Proofs.YtnokiikgnplpmaaDoor
open Go.RowKit

theorem ofInt_i64 (a : Nat) (ha : a < 9223372036854775808) : (BitVec.ofInt 64 (a : Int)).toNat = a := by
  rw [BitVec.ofInt_natCast, BitVec.toNat_ofNat]; exact Nat.mod_eq_of_lt (by omega)
theorem i64_and_nat (a b : Nat) (ha : a < 9223372036854775808) (hb : b < 9223372036854775808) : bits .and .i64 (a : Int) (b : Int) = ((a &&& b : Nat) : Int) := by
  have hx : a &&& b < 2 ^ 63 := Nat.and_lt_two_pow _ (by omega)
  show IntKind.i64.wrap ((BitVec.ofInt 64 (a : Int) &&& BitVec.ofInt 64 (b : Int)).toNat : Int) = _
  rw [BitVec.toNat_and, ofInt_i64 a ha, ofInt_i64 b hb, IntKind.wrap_i64]
  omega
theorem i64_or_nat (a b : Nat) (ha : a < 9223372036854775808) (hb : b < 9223372036854775808) : bits .or .i64 (a : Int) (b : Int) = ((a ||| b : Nat) : Int) := by
  have hx : a ||| b < 2 ^ 63 := Nat.or_lt_two_pow (by omega) (by omega)
  show IntKind.i64.wrap ((BitVec.ofInt 64 (a : Int) ||| BitVec.ofInt 64 (b : Int)).toNat : Int) = _
  rw [BitVec.toNat_or, ofInt_i64 a ha, ofInt_i64 b hb, IntKind.wrap_i64]
  omega
theorem ofInt_i32 (a : Nat) (ha : a < 2147483648) : (BitVec.ofInt 32 (a : Int)).toNat = a := by
  rw [BitVec.ofInt_natCast, BitVec.toNat_ofNat]; exact Nat.mod_eq_of_lt (by omega)
theorem i32_and_nat (a b : Nat) (ha : a < 2147483648) (hb : b < 2147483648) : bits .and .i32 (a : Int) (b : Int) = ((a &&& b : Nat) : Int) := by
  have hx : a &&& b < 2 ^ 31 := Nat.and_lt_two_pow _ (by omega)
  show IntKind.i32.wrap ((BitVec.ofInt 32 (a : Int) &&& BitVec.ofInt 32 (b : Int)).toNat : Int) = _
  rw [BitVec.toNat_and, ofInt_i32 a ha, ofInt_i32 b hb, IntKind.wrap_i32]
  omega
theorem i32_or_nat (a b : Nat) (ha : a < 2147483648) (hb : b < 2147483648) : bits .or .i32 (a : Int) (b : Int) = ((a ||| b : Nat) : Int) := by
  have hx : a ||| b < 2 ^ 31 := Nat.or_lt_two_pow (by omega) (by omega)
  show IntKind.i32.wrap ((BitVec.ofInt 32 (a : Int) ||| BitVec.ofInt 32 (b : Int)).toNat : Int) = _
  rw [BitVec.toNat_or, ofInt_i32 a ha, ofInt_i32 b hb, IntKind.wrap_i32]
  omega

theorem and31 (x : Nat) : x &&& 31 = x % 32 := Nat.and_two_pow_sub_one_eq_mod x 5
theorem and1 (x : Nat) : x &&& 1 = x % 2 := Nat.and_two_pow_sub_one_eq_mod x 1
theorem or_shift (a b k : Nat) (h : b < 2 ^ k) : b ||| (a * 2 ^ k) = b + a * 2 ^ k := by
  rw [Nat.or_comm, ← Nat.shiftLeft_eq, ← Nat.shiftLeft_add_eq_or_of_lt h, Nat.add_comm]
theorem and32 (d : Nat) (h : d < 64) : (d &&& 32 = 0) ↔ d < 32 := by
  have e : ∀ d : Fin 64, (d.val &&& 32 = 0) ↔ d.val < 32 := by decide
  exact e ⟨d, h⟩
theorem and32' (d : Nat) (h : d < 64) (h' : 32 ≤ d) : d &&& 32 = 32 := by
  have e : ∀ d : Fin 64, 32 ≤ d.val → d.val &&& 32 = 32 := by decide
  exact e ⟨d, h⟩ h'

theorem i64_and31 (y : Nat) (h : y < 9223372036854775808) : bits .and .i64 (y : Int) 31 = ((y % 32 : Nat) : Int) := by
  have := i64_and_nat y 31 h (by omega)
  rw [and31] at this
  exact this
theorem i64_and1 (y : Nat) (h : y < 9223372036854775808) : bits .and .i64 (y : Int) 1 = ((y % 2 : Nat) : Int) := by
  have := i64_and_nat y 1 h (by omega)
  rw [and1] at this
  exact this
theorem i64_or32 (d : Nat) (h : d < 32) : bits .or .i64 (d : Int) 32 = ((d + 32 : Nat) : Int) := by
  have := i64_or_nat d 32 (by omega) (by omega)
  rw [show d ||| 32 = d + 32 from or_shift 1 d 5 (by omega)] at this
  exact this
theorem i64_or1 (k : Nat) (h : k < 1152921504606846976) : bits .or .i64 ((k : Int) * 2) 1 = ((2 * k + 1 : Nat) : Int) := by
  have := i64_or_nat (k * 2) 1 (by omega) (by omega)
  have e : k * 2 ||| 1 = 2 * k + 1 := by
    rw [Nat.or_comm, show k * 2 = k * 2 ^ 1 by omega, or_shift k 1 1 (by omega)]; omega
  rw [e] at this
  rw [show ((k : Int) * 2) = ((k * 2 : Nat) : Int) by omega]
  exact this
end Go.Proofs.YtnokiikgnplpmaaDoor

/-
  The contract of laws.apart: no CR ends the first text ahead of a LF. Conditions: the texts have at most 2^47 bytes.
-/
import Derived.Test.YtnokiikgnplpmaaDoorAdvLaw
import Derived.Test.YtnokiikgnplpmaaDoorKit
namespace Go.Proofs.YtnokiikgnplpmaaDoor
open Go.RowKit

/-- Can two texts be divided? -/
def apartB (a b : ByteArray) : Bool := decide (a.size = 0 ∨ b.size = 0 ∨ (a.get! (a.size - 1)).toNat ≠ 13 ∨ (b.get! 0).toNat ≠ 10)

theorem toList_empty (a : ByteArray) : a.toList.isEmpty = decide (a.size = 0) := by
  rw [ByteArray.toList_eq]
  have h : a.data.toList.length = a.size := by rw [Array.length_toList]; rfl
  rw [← h]
  cases a.data.toList <;> simp

set_option maxHeartbeats 1000000 in
theorem apart_any (a b : ByteArray) (w : World) (ha : a.size ≤ 1125899906842624) (hb : b.size ≤ 1125899906842624) :
    Calls Tryd.prog 44 #[.string a, .string b] w fun e w' => e = .returned (.bool (apartB a b)) ∧ w = w' := by
  by_cases h1 : a.size = 0
  · have t1 : a.toList.isEmpty = true := by rw [toList_empty]; simp [h1]
    have e : apartB a b = true := by simp [apartB, h1]
    have E := Lib.hid e
    clear e h1
    go_enter Tryd.func44, Tryd.ntmps44
    go_wp2
    go_ret
    exact ⟨by rw [E.out]; rfl, rfl⟩
  have t1 : a.toList.isEmpty = false := by rw [toList_empty]; simp [h1]
  by_cases h2 : b.size = 0
  · have t2 : b.toList.isEmpty = true := by rw [toList_empty]; simp [h2]
    have e : apartB a b = true := by simp [apartB, h2]
    have E := Lib.hid e
    clear e h1 h2
    go_enter Tryd.func44, Tryd.ntmps44
    go_wp2
    go_ret
    exact ⟨by rw [E.out]; rfl, rfl⟩
  have t2 : b.toList.isEmpty = false := by rw [toList_empty]; simp [h2]
  have p1 : 0 < a.size := by omega
  have p2 : 0 < b.size := by omega
  have g1 := get_bang a (a.size - 1) (by omega)
  have g2 := get_bang b 0 (by omega)
  have l1 := UInt8.toNat_lt (a[a.size - 1]'(by omega))
  have l2 := UInt8.toNat_lt (b[0]'(by omega))
  have e : apartB a b = (!decide ((a[a.size - 1]'(by omega)).toNat = 13) || !decide ((b[0]'(by omega)).toNat = 10)) := by
    simp [apartB, g1, g2, h1, h2]
  have E := Lib.hid e
  clear e g1 g2 h1 h2
  by_cases h3 : (a[a.size - 1]'(by omega)).toNat = 13
  · have n3 : (((a[a.size - 1]'(by omega)).toNat : Int) != 13) = false := by simp [h3]
    by_cases h4 : (b[0]'(by omega)).toNat = 10
    · have n4 : (((b[0]'(by omega)).toNat : Int) != 10) = false := by simp [h4]
      have E2 : Hid (apartB a b = false) := Lib.hid (by rw [E.out]; simp [h3, h4])
      clear h3 h4 E
      go_enter Tryd.func44, Tryd.ntmps44
      go_wp2
      go_ret
      exact ⟨by rw [E2.out]; rfl, rfl⟩
    · have n4 : (((b[0]'(by omega)).toNat : Int) != 10) = true := by simp; omega
      have E2 : Hid (apartB a b = true) := Lib.hid (by rw [E.out]; simp [h3, h4])
      clear h3 h4 E
      go_enter Tryd.func44, Tryd.ntmps44
      go_wp2
      go_ret
      exact ⟨by rw [E2.out]; rfl, rfl⟩
  · have n3 : (((a[a.size - 1]'(by omega)).toNat : Int) != 13) = true := by simp; omega
    have E2 : Hid (apartB a b = true) := Lib.hid (by rw [E.out]; simp [h3])
    clear h3 E
    go_enter Tryd.func44, Tryd.ntmps44
    go_wp2
    go_ret
    exact ⟨by rw [E2.out]; rfl, rfl⟩
end Go.Proofs.YtnokiikgnplpmaaDoor

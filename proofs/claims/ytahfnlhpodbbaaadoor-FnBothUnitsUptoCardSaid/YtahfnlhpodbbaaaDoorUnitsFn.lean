/-
  The contracts of impl.Decode16, laws.units, spec.digit and spec.IsDigit. Conditions: as each one says.
-/
import Derived.Test.YtahfnlhpodbbaaaDoorDec16Fn
import Derived.Test.YtahfnlhpodbbaaaDoorDec1Fn
namespace Go.Proofs.YtahfnlhpodbbaaaDoor
open Go.RowKit

set_option maxHeartbeats 1000000 in
set_option maxRecDepth 100000 in
/-- No units: no number. -/
theorem decode16_empty (a : Option Addr) (cp : Nat) (w : World) :
    Calls Tryd.prog 18 #[.slice a 0 cp] w fun e w' => e = .returned (.tuple #[.int .i32 0, .int .i64 0, .bool false]) ∧ ∃ m, w' = w.drewN m := by
  go_enter Tryd.func18, Tryd.ntmps18
  go_wp2_with fail
  go_ret3
  exact ⟨rfl, 0, rfl⟩

set_option maxHeartbeats 1000000 in
set_option maxRecDepth 100000 in
/-- A unit that is no digit. -/
theorem decode16_no (R o n cp B c : Nat) (w : World) (hT : B64 B w) (hn : n ≤ 1152921504606846976) (hn0 : 0 < n) (hc : w.cell? ⟨R, o, none⟩ = some (.int .u16 (c : Int))) (hc1 : c < 256) (hc2 : ix c = -1) :
    Calls Tryd.prog 18 #[.slice (some ⟨R, o, none⟩) n cp] w fun e w' => e = .returned (.tuple #[.int .i32 0, .int .i64 0, .bool false]) ∧ ∃ m, w' = w.drewN m := by
  obtain ⟨R0, o0, c0, hR0, hG0, hg, htab⟩ := hT
  have hn1 : ((n : Int) == 0) = false := by simp; omega
  go_enter Tryd.func18, Tryd.ntmps18
  go_wp2_with fail
  go_loopg [6, 7, 8] 0 (fun _ s6 s7 s8 wr => w = wr ∧ s6 = .int .i64 0 ∧ s7 = .int .i64 0 ∧ s8 = .int .i32 0)
  case atStart => exact ⟨rfl, rfl, rfl, rfl⟩
  case round =>
    obtain ⟨rfl, rfl, rfl, rfl⟩ := hrel
    go_wp2_with fail
    go_quiet ((go_at_call 20; refine Calls.quiet_of_same (index_any R0 o0 c0 c _ (fun j hj => htab j hj) (by omega))))
    go_wp2_with fail
    go_ret3
    exact ⟨rfl, nq, rfl⟩

set_option maxHeartbeats 1000000 in
theorem impl16_any (v : Value) (n k : Int) (ok : Bool) (w : World) (hn1 : -2147483648 ≤ n) (hn2 : n ≤ 2147483647)
    (h : Calls Tryd.prog 18 #[v] w fun e w' => e = .returned (.tuple #[.int .i32 n, .int .i64 k, .bool ok]) ∧ ∃ m, w' = w.drewN m) :
    Calls Tryd.prog 14 #[v] w fun e w' => e = .returned (.tuple #[.int .i64 n, .int .i64 k, .bool ok]) ∧ ∃ m, w' = w.drewN m := by
  go_enter Tryd.func14, Tryd.ntmps14
  go_wp2_with fail
  refine h.mono ?_
  rintro e w1 ⟨rfl, m, rfl⟩
  go_wp2_with fail
  go_ret3
  exact ⟨rfl, m, rfl⟩

theorem below_grown {a W W2 : World} {row : Option Nat} (h : Below a.heap.size a W) (hg : W.grownBy W2 row) (hr : ∀ k, row = some k → a.heap.size ≤ k) : Below a.heap.size a W2 :=
  ⟨hg.os.trans h.os, hg.tape.trans h.tape, hg.output.trans h.output, Nat.le_trans h.size hg.size, fun k hk => (hg.block k (by have := h.size; omega) (fun e => by have := hr k e.symm; omega)).trans (h.block k hk)⟩

theorem info_u16 : (Tryd.prog.info? 35).map (fun i => (i.zero, i.size, i.bytes)) = some (some (.int .u16 0), 1, 2) := by kernel_rfl
def u16c (l : List UInt8) : List Value := l.map fun b => Value.int .u16 (b.toNat : Int)
theorem get_byte (s : ByteArray) (i : Nat) (h : i < s.size) : (s[i]'h) = s.data.toList.getD i 0 := by
  have h1 : i < s.data.toList.length := by rw [Array.length_toList]; exact h
  rw [List.getD_eq_getElem?_getD, List.getElem?_eq_getElem h1]
  rfl

set_option maxHeartbeats 1000000 in
set_option maxRecDepth 100000 in
theorem units_any (s : ByteArray) (w : World) (hs : s.size ≤ 70368744177664) :
    Calls Tryd.prog 15 #[.string s] w fun e w' => ∃ v, e = .returned v ∧ w'.ownsRow w.heap.size 35 1 v s.size (u16c s.data.toList) ∧ Below w.heap.size w w' := by
  obtain ⟨i0, hi0, hz0, hz1, hz2⟩ := info_parts info_u16
  go_enter Tryd.func15, Tryd.ntmps15
  go_wp2_with fail
  go_loopg [3, 7] s.size (fun f s3 s7 wr => ∃ i : Nat, i + f = s.size ∧ s7 = .int .i64 (i : Int) ∧ wr.ownsRow w.heap.size 35 1 s3 i (u16c (s.data.toList.take i)) ∧ Below w.heap.size w wr)
  case atStart => exact ⟨0, by omega, rfl, World.ownsRow_nil _ _ _ _, Below.refl _ _⟩
  case round =>
    obtain ⟨i, hi, rfl, ho, hb⟩ := hrel
    by_cases hin : i < s.size
    · obtain ⟨f, rfl⟩ : ∃ f, gk = f + 1 := ⟨gk - 1, by omega⟩
      have hq : (i : Int) < (s.size : Int) := by omega
      have hcs : u16c (s.data.toList.take i) ++ [Value.int .u16 ((s[i]'hin).toNat : Int)] = u16c (s.data.toList.take (i + 1)) := by
        have h1 : i < s.data.toList.length := by rw [Array.length_toList]; exact hin
        rw [List.take_succ_eq_append_getElem h1]
        unfold u16c
        rw [List.map_append]
        rfl
      have HC := Lib.hid hcs
      clear hcs
      have hlt : (s[i]'hin).toNat < 256 := UInt8.toNat_lt _
      have HB := Lib.hid hb
      have hbs := hb.size
      clear hb
      go_wp2_with (at_builtin; refine wpList_append_own_at _ rfl (.tmp 10) (.tmp 15) _ rfl w.heap.size 35 i0 _ 1 2 Tryd.underlying33 hi0 hz0 hz1 hz2 rfl (by omega) u3 i (u16c (s.data.toList.take i)) rfl (ho.alloc _) ⟨wr.heap.size, 0, none⟩ 1 1 [.int .u16 ((s[i]'hin).toNat : Int)] rfl rfl (cell_one_new _ _ _) (by intro u hu; simp at hu; subst hu; rfl) (by unfold maxLen; omega) (by omega) (by simp; omega) ?_; intro v2 w2 hown2 hg2 hnil2 hat2; clear hnil2)
      go_roundg f
      case measure => omega
      case rel => exact ⟨i + 1, by omega, by go_num, by rw [← HC.out]; exact hown2, below_grown (balloc HB.out _) hg2 (fun k hk => (ho.lt k hk).1)⟩
    · have hq : ¬ (i : Int) < (s.size : Int) := by omega
      obtain rfl : i = s.size := by omega
      have hl : s.data.toList.take s.size = s.data.toList := List.take_of_length_le (by rw [Array.length_toList]; exact Nat.le_refl _)
      rw [hl] at ho
      go_wp2_with fail
      go_ret
      exact ⟨_, rfl, ho, hb⟩

theorem signs_get : ∀ d : Fin 64, (signs.data.toList.getD d.val 0).toNat = sg d.val := by decide +kernel
theorem signs_lit (i : Nat) (h : i < 64) : ∀ (h' : i < (⟨#[65, 66, 67, 68, 69, 70, 71, 72, 73, 74, 75, 76, 77, 78, 79, 80, 81, 82, 83, 84, 85, 86, 87, 88, 89, 90, 97, 98, 99, 100, 101, 102, 103, 104, 105, 106, 107, 108, 109, 110, 111, 112, 113, 114, 115, 116, 117, 118, 119, 120, 121, 122, 48, 49, 50, 51, 52, 53, 54, 55, 56, 57, 43, 47]⟩ : ByteArray).size), ((⟨#[65, 66, 67, 68, 69, 70, 71, 72, 73, 74, 75, 76, 77, 78, 79, 80, 81, 82, 83, 84, 85, 86, 87, 88, 89, 90, 97, 98, 99, 100, 101, 102, 103, 104, 105, 106, 107, 108, 109, 110, 111, 112, 113, 114, 115, 116, 117, 118, 119, 120, 121, 122, 48, 49, 50, 51, 52, 53, 54, 55, 56, 57, 43, 47]⟩ : ByteArray)[i]'h').toNat = sg i := by
  intro h'
  have e := get_byte (⟨#[65, 66, 67, 68, 69, 70, 71, 72, 73, 74, 75, 76, 77, 78, 79, 80, 81, 82, 83, 84, 85, 86, 87, 88, 89, 90, 97, 98, 99, 100, 101, 102, 103, 104, 105, 106, 107, 108, 109, 110, 111, 112, 113, 114, 115, 116, 117, 118, 119, 120, 121, 122, 48, 49, 50, 51, 52, 53, 54, 55, 56, 57, 43, 47]⟩ : ByteArray) i h'
  rw [e]
  exact signs_get ⟨i, h⟩

set_option maxHeartbeats 1000000 in
set_option maxRecDepth 100000 in
theorem digit_any (c : Nat) (w : World) :
    Calls Tryd.prog 19 #[.int .u8 (c : Int)] w fun e w' => e = .returned (.int .i64 (ix c)) ∧ w' = w := by
  go_enter Tryd.func19, Tryd.ntmps19
  go_wp2_with fail
  go_loopg [4] 64 (fun f s4 wr => ∃ i : Nat, i + f = 64 ∧ s4 = .int .i64 (i : Int) ∧ w = wr ∧ Hid (∀ j, j < i → sg j ≠ c))
  case atStart => exact ⟨0, by omega, rfl, rfl, Lib.hid (fun j h => by omega)⟩
  case round =>
    obtain ⟨i, hi, rfl, rfl, hne⟩ := hrel
    by_cases hin : i < 64
    · obtain ⟨f, rfl⟩ : ∃ f, gk = f + 1 := ⟨gk - 1, by omega⟩
      have hg := signs_lit i hin
      have hsg := sg_lt i hin
      by_cases he : sg i = c
      · have h1 : ((sg i : Int) == (c : Int)) = true := by simp; omega
        have E : Hid (ix c = i) := Lib.hid (by rw [← he]; exact ix_sg i hin)
        clear he
        go_wp2_with fail
        go_ret
        exact ⟨by rw [E.out]; rfl, rfl⟩
      · have h1 : ((sg i : Int) == (c : Int)) = false := by simp; omega
        have E := Lib.hid he
        clear he
        go_wp2_with fail
        go_roundg f
        case measure => omega
        case rel => exact ⟨i + 1, by omega, by go_num, rfl, Lib.hid (fun j hj => by
          by_cases h : j = i
          · rw [h]; exact E.out
          · exact hne.out j (by omega))⟩
    · obtain rfl : i = 64 := by omega
      have E : Hid (ix c = -1) := Lib.hid (by
        have h1 := ix_lo c
        have h2 := ix_lt c
        by_cases h : 0 ≤ ix c
        · exact absurd (sg_ix c h) (hne.out (ix c).toNat (by omega))
        · omega)
      go_wp2_with fail
      go_ret
      exact ⟨by rw [E.out]; rfl, rfl⟩

set_option maxHeartbeats 1000000 in
set_option maxRecDepth 100000 in
theorem isDigit_any (c : Nat) (w : World) (hc : c < 128) :
    Calls Tryd.prog 16 #[.int .u16 (c : Int)] w fun e w' => e = .returned (.bool (decide (0 ≤ ix c))) ∧ w' = w := by
  go_enter Tryd.func16, Tryd.ntmps16
  go_wp2_with fail
  refine (digit_any c w).mono ?_
  rintro e w1 ⟨rfl, rfl⟩
  go_wp2_with fail
  go_ret
  exact ⟨rfl, rfl⟩
end Go.Proofs.YtahfnlhpodbbaaaDoor

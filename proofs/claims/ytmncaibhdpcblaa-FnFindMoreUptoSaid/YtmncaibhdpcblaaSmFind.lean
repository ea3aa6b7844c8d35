/-
  The contract of (*SourceMap).Find: a binary search. Conditions: the mappings ahead of one of them are not behind the place, all others are.
-/
import Derived.Test.YtmncaibhdpcblaaSegs
import Derived.Test.YtmncaibhdpcblaaOwnKit
namespace Go.Proofs.Ytmncaibhdpcblaa
open Go.RowKit

/-- The cells of a mapping of the package. -/
def Seg.c32 (x : Seg) : List Value := [.int .i32 x.l, .int .i32 x.c, .int .i32 x.s, .int .i32 x.fl, .int .i32 x.fc, .int .u32 0]
/-- A mapping is not behind a place. -/
def Seg.upto (x : Seg) (line col : Int) : Prop := x.l < line ∨ x.l = line ∧ x.c ≤ col
/-- The first m mappings are not behind a place, all others are. -/
def Split (S : Nat → Seg) (n : Nat) (line col : Int) (m : Nat) : Prop := m ≤ n ∧ (∀ i, i < m → (S i).upto line col) ∧ ∀ i, m ≤ i → i < n → ¬ (S i).upto line col
/-- What is found: the last one that is not behind the place, if it is of the line. -/
def foundB (S : Nat → Seg) (line : Int) (m : Nat) : Bool := decide (0 < m ∧ (S (m - 1)).l = line)

def fPtr (S : Nat → Seg) (line : Int) (m R o : Nat) : Value := .pointer (if foundB S line m = true then some ⟨R, o + (m - 1) * 6, none⟩ else none)
theorem fPtr_yes {S : Nat → Seg} {line : Int} {m R o : Nat} (h : foundB S line m = true) : fPtr S line m R o = .pointer (some ⟨R, o + (m - 1) * 6, none⟩) := by unfold fPtr; rw [if_pos h]
theorem fPtr_no {S : Nat → Seg} {line : Int} {m R o : Nat} (h : foundB S line m = false) : fPtr S line m R o = .pointer none := by unfold fPtr; rw [h]; rfl

set_option maxHeartbeats 2000000 in
set_option maxRecDepth 100000 in
theorem smFind_any (S : Nat → Seg) (n g R o cap m : Nat) (A : Option Addr) (line col : Int) (w : World) (hn : n ≤ 2097153) (hl : -2147483648 ≤ line ∧ line ≤ 2147483647) (hv : w.cell? ⟨g, 2, none⟩ = some (.slice A n cap)) (hA : 0 < n → A = some ⟨R, o, none⟩)
    (hc : ∀ i j, i < n → j < 6 → w.cell? ⟨R, o + i * 6 + j, none⟩ = (S i).c32[j]?) (hm : Split S n line col m) :
    Calls Try.prog 15 #[.pointer (some ⟨g, 0, none⟩), .int .i32 line, .int .i32 col] w fun e w' => e = .returned (fPtr S line m R o) ∧ Below w.heap.size w w' := by
  obtain ⟨hm1, hm2, hm3⟩ := hm
  have HC := Lib.hid hc
  have HA := Lib.hid hA
  have HM2 := Lib.hid hm2
  have HM3 := Lib.hid hm3
  clear hc hA hm2 hm3
  go_enter Try.func15, Try.ntmps15
  go_wp2_with fail
  go_loopg [8, 9] n (fun f s8 s9 wr => ∃ (cnt idx : Nat), s8 = .int .i64 (cnt : Int) ∧ s9 = .int .i64 (idx : Int) ∧ cnt ≤ f ∧ idx ≤ m ∧ m ≤ idx + cnt ∧ idx + cnt ≤ n ∧ Below w.heap.size w wr)
  case atStart => exact ⟨n, 0, rfl, rfl, Nat.le_refl _, by omega, by omega, by omega, Below.refl _ _⟩
  case round =>
    obtain ⟨cnt, idx, rfl, rfl, hf, h1, h2, h3, hb⟩ := hrel
    by_cases h0 : 0 < cnt
    · obtain ⟨f, rfl⟩ : ∃ f, gk = f + 1 := ⟨gk - 1, by omega⟩
      obtain rfl := HA.out (by omega)
      have hR : R < w.heap.size := cell_lt' (p := ⟨R, o + (idx + cnt / 2) * 6 + 0, none⟩) (v := .int .i32 (S (idx + cnt / 2)).l) (HC.out (idx + cnt / 2) 0 (by omega) (by omega))
      have hcw : ∀ j, j < 6 → wr.cell? ⟨R, o + (idx + cnt / 2) * 6 + j, none⟩ = (S (idx + cnt / 2)).c32[j]? := fun j hj => (hb.cell (p := ⟨R, _, none⟩) hR).trans (HC.out _ j (by omega) hj)
      have c0 := hcw 0 (by omega)
      have c1 := hcw 1 (by omega)
      have c2 := hcw 2 (by omega)
      have c3 := hcw 3 (by omega)
      have c4 := hcw 4 (by omega)
      have c5 := hcw 5 (by omega)
      simp only [Nat.add_zero, Seg.c32, List.getElem?_cons_zero, List.getElem?_cons_succ] at c0 c1 c2 c3 c4 c5
      have y1 : idx + cnt / 2 < m → (S (idx + cnt / 2)).upto line col := fun q => HM2.out _ q
      have y2 : m ≤ idx + cnt / 2 → ¬ (S (idx + cnt / 2)).upto line col := fun q => HM3.out _ q (by omega)
      unfold Seg.upto at y1 y2
      generalize S (idx + cnt / 2) = x at *
      obtain ⟨a, b, xs, xl, xc, xn, xd⟩ := x
      simp only at c0 c1 c2 c3 c4 c5 y1 y2
      have Y1 := Lib.hid y1
      have Y2 := Lib.hid y2
      have HB := Lib.hid hb
      clear hcw y1 y2 hb HC
      have hq : idx + cnt / 2 < n := by omega
      have hq1 : (0 : Int) ≤ (idx : Int) + (cnt : Int) / 2 := by omega
      rcases (show a < line ∨ (a = line ∧ b ≤ col) ∨ (a = line ∧ col < b) ∨ line < a by omega) with t | ⟨rfl, t⟩ | ⟨rfl, t⟩ | t
      · have e : idx + cnt / 2 < m := by
          rcases Nat.lt_or_ge (idx + cnt / 2) m with q | q
          · exact q
          · exact absurd (Or.inl t) (Y2.out q)
        have E := Lib.hid e
        clear e
        go_wp2_with fail
        go_roundg f
        case measure => omega
        case rel => exact ⟨cnt - cnt / 2 - 1, idx + cnt / 2 + 1, by go_num, by go_num, by omega, E.out, by omega, by omega, balloc HB.out _⟩
      · have e : idx + cnt / 2 < m := by
          rcases Nat.lt_or_ge (idx + cnt / 2) m with q | q
          · exact q
          · exact absurd (Or.inr ⟨rfl, t⟩) (Y2.out q)
        have E := Lib.hid e
        clear e
        go_wp2_with fail
        go_roundg f
        case measure => omega
        case rel => exact ⟨cnt - cnt / 2 - 1, idx + cnt / 2 + 1, by go_num, by go_num, by omega, E.out, by omega, by omega, balloc HB.out _⟩
      · have e : m ≤ idx + cnt / 2 := by
          rcases Nat.lt_or_ge (idx + cnt / 2) m with q | q
          · have := Y1.out q; omega
          · exact q
        have E := Lib.hid e
        clear e
        go_wp2_with fail
        go_roundg f
        case measure => omega
        case rel => exact ⟨cnt / 2, idx, by go_num, rfl, by omega, h1, by have := E.out; omega, by omega, balloc HB.out _⟩
      · have e : m ≤ idx + cnt / 2 := by
          rcases Nat.lt_or_ge (idx + cnt / 2) m with q | q
          · have := Y1.out q; omega
          · exact q
        have E := Lib.hid e
        clear e
        have t2 : ((a : Int) == line) = false := by simp; omega
        go_wp2_with fail
        go_roundg f
        case measure => omega
        case rel => exact ⟨cnt / 2, idx, by go_num, rfl, by omega, h1, by have := E.out; omega, by omega, balloc HB.out _⟩
    · obtain rfl : cnt = 0 := by omega
      obtain rfl : idx = m := by omega
      have HB := Lib.hid hb
      clear hb
      by_cases hz : 0 < idx
      · obtain rfl := HA.out (by omega)
        have c0 : wr.cell? ⟨R, o + (idx - 1) * 6, none⟩ = some (.int .i32 (S (idx - 1)).l) := (HB.out.cell (p := ⟨R, _, none⟩) (cell_lt' (v := .int .i32 (S (idx - 1)).l) (HC.out (idx - 1) 0 (by omega) (by omega)))).trans (HC.out (idx - 1) 0 (by omega) (by omega))
        have hE : foundB S line idx = decide ((S (idx - 1)).l = line) := by unfold foundB; simp [hz]
        have E := Lib.hid hE
        clear hE
        generalize (S (idx - 1)).l = a at *
        by_cases hl2 : a = line
        · have E2 : Hid (foundB S line idx = true) := Lib.hid (by rw [E.out]; exact decide_eq_true hl2)
          subst hl2
          go_wp2_with fail
          go_ret
          exact ⟨by rw [fPtr_yes E2.out]; rfl, HB.out⟩
        · have E2 : Hid (foundB S line idx = false) := Lib.hid (by rw [E.out]; exact decide_eq_false hl2)
          have t2 : (a == line) = false := by simp; omega
          go_wp2_with fail
          go_ret
          exact ⟨by rw [fPtr_no E2.out]; rfl, HB.out⟩
      · obtain rfl : idx = 0 := by omega
        have E2 : Hid (foundB S line 0 = false) := Lib.hid (by unfold foundB; simp)
        go_wp2_with fail
        go_ret
        exact ⟨by rw [fPtr_no E2.out]; rfl, HB.out⟩
end Go.Proofs.Ytmncaibhdpcblaa

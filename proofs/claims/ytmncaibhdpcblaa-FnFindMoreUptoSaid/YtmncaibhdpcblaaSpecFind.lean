/-
  The contract of spec.Find: the last mapping of a line that is not behind a column. Conditions: the mappings are at rising places; those ahead of one of them are not behind the place, all others are.
-/
import Derived.Test.YtmncaibhdpcblaaFindsFn
namespace Go.Proofs.Ytmncaibhdpcblaa
open Go.RowKit

/-- Mappings at rising places. -/
def Rise (S : Nat → Seg) (n : Nat) : Prop := ∀ i j, i < j → j < n → (S i).l < (S j).l ∨ (S i).l = (S j).l ∧ (S i).c < (S j).c
def seg0 : Seg := ⟨0, 0, 0, 0, 0, 0, false⟩
/-- What is found among the first i. -/
def outOf (S : Nat → Seg) (line : Int) (m : Nat) : Seg := if foundB S line m = true then S (m - 1) else seg0
theorem found_eq (S : Nat → Seg) (line : Int) (m : Nat) : foundB S line (m + 1) = decide ((S m).l = line) := by
  unfold foundB; simp

set_option maxHeartbeats 4000000 in
set_option maxRecDepth 100000 in
theorem specFind_any (v : Value) (n m : Nat) (S : Nat → Seg) (line col : Int) (w : World) (hn : n ≤ 2097153) (hv : AtS w v n S) (hr : Rise S n) (hm : Split S n line col m) :
    Calls Try.prog 11 #[v, .agg #[.int .i64 line, .int .i64 col]] w fun e w' => e = .returned (.tuple #[(outOf S line m).val, .bool (foundB S line m)]) ∧ Below w.heap.size w w' := by
  obtain ⟨A, cap, rfl, hc⟩ := hv
  have HC := Lib.hid hc
  have HM := Lib.hid hm
  have HR := Lib.hid hr
  clear hc hm hr
  go_enter Try.func11, Try.ntmps11
  go_wp2_with fail
  go_loopg [7, 12] n (fun f s7 s12 wr => ∃ (i : Nat) (y : Seg), i + f = n ∧ s12 = .int .i64 (i : Int) ∧ s7 = .bool (foundB S line (min i m)) ∧ Hid (y = outOf S line (min i m)) ∧ Blk wr w.heap.size 28 #[.int .i64 line, .int .i64 col] ∧ Blk wr (w.heap.size + 1) 30 #[.int .i64 0, .int .i64 0, .int .i64 0, .int .i64 0, .int .i64 0, .int .i64 0, .bool false] ∧ Blk wr (w.heap.size + 1 + 1) 30 #[.int .i64 y.l, .int .i64 y.c, .int .i64 y.s, .int .i64 y.fl, .int .i64 y.fc, .int .i64 y.nm, .bool y.nd] ∧ Below w.heap.size w wr)
  case atStart =>
    refine ⟨0, seg0, by omega, rfl, ?_, Lib.hid ?_, ((Blk.new w _ _).alloc _).alloc _, ?_, ?_, balloc (balloc (balloc (Below.refl _ _) _) _) _⟩
    · rw [Nat.zero_min]; rfl
    · rw [Nat.zero_min]; rfl
    · exact Blk.alloc (heap_new2 _ _ _) _
    · have := heap_new2 (w.alloc (.cells #[.int .i64 line, .int .i64 col] 28)) (.cells #[.int .i64 0, .int .i64 0, .int .i64 0, .int .i64 0, .int .i64 0, .int .i64 0, .bool false] 30) (.cells #[.int .i64 0, .int .i64 0, .int .i64 0, .int .i64 0, .int .i64 0, .int .i64 0, .bool false] 30)
      rw [show (w.alloc (.cells #[.int .i64 line, .int .i64 col] 28)).heap.size + 1 = w.heap.size + 1 + 1 by simp] at this
      exact this
  case round =>
    obtain ⟨i, y, hi, rfl, rfl, hy, hb0, hb1, hb2, hbw⟩ := hrel
    have hz : w.heap.size + 1 + 1 < wr.heap.size := hb2.lt
    have hz1 : w.heap.size + 1 < wr.heap.size := by omega
    have hz0 : w.heap.size < wr.heap.size := by omega
    by_cases hlt : i < n
    · obtain ⟨R, o, rfl, hcl⟩ := HC.out (by omega)
      obtain ⟨f, rfl⟩ : ∃ f, gk = f + 1 := ⟨gk - 1, by omega⟩
      have hR : R < w.heap.size := cell_lt' (p := ⟨R, o + i * 7 + 0, none⟩) (v := .int .i64 (S i).l) (hcl i 0 hlt (by omega))
      have hcr : ∀ j, j < 7 → wr.cell? ⟨R, o + i * 7 + j, none⟩ = (S i).cells[j]? := fun j hj => (hbw.cell (p := ⟨R, _, none⟩) hR).trans (hcl i j hlt hj)
      have c0 := hcr 0 (by omega)
      have c1 := hcr 1 (by omega)
      have c2 := hcr 2 (by omega)
      have c3 := hcr 3 (by omega)
      have c4 := hcr 4 (by omega)
      have c5 := hcr 5 (by omega)
      have c6 := hcr 6 (by omega)
      simp only [Nat.add_zero, Seg.cells, List.getElem?_cons_zero, List.getElem?_cons_succ] at c0 c1 c2 c3 c4 c5 c6
      have p0 : wr.cell? ⟨w.heap.size, 0, none⟩ = some (.int .i64 line) := hb0.cell 0
      have p1 : wr.cell? ⟨w.heap.size, 1, none⟩ = some (.int .i64 col) := hb0.cell 1
      have y1 : wr.cell? ⟨w.heap.size + 1 + 1, 1, none⟩ = some (.int .i64 y.c) := hb2.cell 1
      have f0 := hb2.frozen 0
      have f1 := hb2.frozen 1
      have f2 := hb2.frozen 2
      have f3 := hb2.frozen 3
      have f4 := hb2.frozen 4
      have f5 := hb2.frozen 5
      have f6 := hb2.frozen 6
      have y0 : wr.cell? ⟨w.heap.size + 1 + 1, 0, none⟩ = some (.int .i64 y.l) := hb2.cell 0
      have y2 : wr.cell? ⟨w.heap.size + 1 + 1, 2, none⟩ = some (.int .i64 y.s) := hb2.cell 2
      have y3 : wr.cell? ⟨w.heap.size + 1 + 1, 3, none⟩ = some (.int .i64 y.fl) := hb2.cell 3
      have y4 : wr.cell? ⟨w.heap.size + 1 + 1, 4, none⟩ = some (.int .i64 y.fc) := hb2.cell 4
      have y5 : wr.cell? ⟨w.heap.size + 1 + 1, 5, none⟩ = some (.int .i64 y.nm) := hb2.cell 5
      have y6 : wr.cell? ⟨w.heap.size + 1 + 1, 6, none⟩ = some (.bool y.nd) := hb2.cell 6
      have HB0 := Lib.hid hb0
      have HB1 := Lib.hid hb1
      have HB2 := Lib.hid hb2
      have HB := Lib.hid hbw
      clear hb0 hb1 hb2 hbw hcr hcl HC
      by_cases him : i < m
      · have hup := HM.out.2.1 i him
        have e1 : min i m = i := by omega
        have e2 : min (i + 1) m = i + 1 := by omega
        by_cases hl : (S i).l = line
        · have hfn : Hid (foundB S line (min (i + 1) m) = true) := Lib.hid (by rw [e2, found_eq]; exact decide_eq_true hl)
          have hout : Hid (outOf S line (min (i + 1) m) = S i) := Lib.hid (by unfold outOf; rw [hfn.out, if_pos rfl, e2]; rfl)
          have hcc : (S i).c ≤ col := by rcases hup with q | q; omega; exact q.2
          have hoc : Hid (foundB S line (min i m) = true → y.c ≤ (S i).c) := Lib.hid (fun q => by
            rw [hy.out]
            unfold outOf
            rw [if_pos q, e1]
            rw [e1] at q
            have h0 := of_decide_eq_true q
            have := HR.out (i - 1) i (by omega) hlt
            omega)
          have HE1 := Lib.hid e1
          clear e1 e2 hup
          generalize hxl : (S i).l = x0 at *
          generalize hxc : (S i).c = x1 at *
          generalize hxs : (S i).s = x2 at *
          generalize hxf : (S i).fl = x3 at *
          generalize hxg : (S i).fc = x4 at *
          generalize hxn : (S i).nm = x5 at *
          generalize hxd : (S i).nd = x6 at *
          subst hl
          have HS : Hid (S i = ⟨x0, x1, x2, x3, x4, x5, x6⟩) := Lib.hid (by rw [← hxl, ← hxc, ← hxs, ← hxf, ← hxg, ← hxn, ← hxd])
          clear hxl hxc hxs hxf hxg hxn hxd
          rcases hfo : foundB S x0 (min i m) with _ | _
          · clear hfo
            go_wp2_with fail
            go_roundg f
            case measure => omega
            case rel => exact ⟨i + 1, ⟨x0, x1, x2, x3, x4, x5, x6⟩, by omega, by go_num, by rw [hfn.out], Lib.hid (by rw [hout.out, HS.out]), (((((((HB0.out.far (by simp only; omega) _).far (by simp only; omega) _).far (by simp only; omega) _).far (by simp only; omega) _).far (by simp only; omega) _).far (by simp only; omega) _).far (by simp only; omega) _).alloc _, (((((((HB1.out.far (by simp only; omega) _).far (by simp only; omega) _).far (by simp only; omega) _).far (by simp only; omega) _).far (by simp only; omega) _).far (by simp only; omega) _).far (by simp only; omega) _).alloc _, (((((((HB2.out.set_ 0 _).set_ 1 _).set_ 2 _).set_ 3 _).set_ 4 _).set_ 5 _).set_ 6 _).alloc _, balloc (((((((HB.out.setCell (by simp only; omega) _).setCell (by simp only; omega) _).setCell (by simp only; omega) _).setCell (by simp only; omega) _).setCell (by simp only; omega) _).setCell (by simp only; omega) _).setCell (by simp only; omega) _) _⟩
          · have hge : y.c ≤ x1 := hoc.out hfo
            clear hfo
            go_wp2_with fail
            go_roundg f
            case measure => omega
            case rel => exact ⟨i + 1, ⟨x0, x1, x2, x3, x4, x5, x6⟩, by omega, by go_num, by rw [hfn.out], Lib.hid (by rw [hout.out, HS.out]), (((((((HB0.out.far (by simp only; omega) _).far (by simp only; omega) _).far (by simp only; omega) _).far (by simp only; omega) _).far (by simp only; omega) _).far (by simp only; omega) _).far (by simp only; omega) _).alloc _, (((((((HB1.out.far (by simp only; omega) _).far (by simp only; omega) _).far (by simp only; omega) _).far (by simp only; omega) _).far (by simp only; omega) _).far (by simp only; omega) _).far (by simp only; omega) _).alloc _, (((((((HB2.out.set_ 0 _).set_ 1 _).set_ 2 _).set_ 3 _).set_ 4 _).set_ 5 _).set_ 6 _).alloc _, balloc (((((((HB.out.setCell (by simp only; omega) _).setCell (by simp only; omega) _).setCell (by simp only; omega) _).setCell (by simp only; omega) _).setCell (by simp only; omega) _).setCell (by simp only; omega) _).setCell (by simp only; omega) _) _⟩
        · have hll : (S i).l < line := by rcases hup with q | q; exact q; exact absurd q.1 hl
          have E0 : Hid (foundB S line (min i m) = false) := Lib.hid (by
            rw [e1]
            apply decide_eq_false
            rintro ⟨q1, q2⟩
            have := HR.out (i - 1) i (by omega) hlt
            omega)
          have E1 : Hid (foundB S line (min (i + 1) m) = foundB S line (min i m)) := Lib.hid (by rw [E0.out, e2, found_eq]; exact decide_eq_false hl)
          have E2 : Hid (outOf S line (min (i + 1) m) = outOf S line (min i m)) := Lib.hid (by unfold outOf; rw [E1.out, E0.out]; rfl)
          clear e1 e2 hup hl
          generalize (S i).l = x0 at *
          generalize (S i).c = x1 at *
          generalize (S i).s = x2 at *
          generalize (S i).fl = x3 at *
          generalize (S i).fc = x4 at *
          generalize (S i).nm = x5 at *
          generalize (S i).nd = x6 at *
          generalize foundB S line (min i m) = fb at *
          have t1 : (x0 == line) = false := by simp; omega
          go_wp2_with fail
          go_roundg f
          case measure => omega
          case rel => exact ⟨i + 1, y, by omega, by go_num, by rw [E1.out], Lib.hid (by rw [hy.out]; exact E2.out.symm), HB0.out.alloc _, HB1.out.alloc _, HB2.out.alloc _, balloc HB.out _⟩
      · have hnu := HM.out.2.2 i (by omega) hlt
        have e1 : min i m = m := by omega
        have e2 : min (i + 1) m = m := by omega
        have E1 : Hid (foundB S line (min (i + 1) m) = foundB S line (min i m)) := Lib.hid (by rw [e1, e2])
        have E2 : Hid (outOf S line (min (i + 1) m) = outOf S line (min i m)) := Lib.hid (by rw [e1, e2])
        unfold Seg.upto at hnu
        clear e1 e2
        generalize (S i).l = x0 at *
        generalize (S i).c = x1 at *
        generalize (S i).s = x2 at *
        generalize (S i).fl = x3 at *
        generalize (S i).fc = x4 at *
        generalize (S i).nm = x5 at *
        generalize (S i).nd = x6 at *
        generalize foundB S line (min i m) = fb at *
        by_cases hl : x0 = line
        · subst hl
          have hcc : ¬ x1 ≤ col := fun q => hnu (.inr ⟨rfl, q⟩)
          clear hnu
          go_wp2_with fail
          go_roundg f
          case measure => omega
          case rel => exact ⟨i + 1, y, by omega, by go_num, by rw [E1.out], Lib.hid (by rw [hy.out]; exact E2.out.symm), HB0.out.alloc _, HB1.out.alloc _, HB2.out.alloc _, balloc HB.out _⟩
        · have t1 : (x0 == line) = false := by simp; omega
          clear hnu
          go_wp2_with fail
          go_roundg f
          case measure => omega
          case rel => exact ⟨i + 1, y, by omega, by go_num, by rw [E1.out], Lib.hid (by rw [hy.out]; exact E2.out.symm), HB0.out.alloc _, HB1.out.alloc _, HB2.out.alloc _, balloc HB.out _⟩
    · obtain rfl : i = n := by omega
      have e1 : min i m = m := by have := HM.out.1; omega
      rw [e1] at hy ⊢
      have G1 := hb1
      have k0 : wr.cell? ⟨w.heap.size + 1, 0, none⟩ = some (.int .i64 0) := hb1.cell 0
      have k1 : wr.cell? ⟨w.heap.size + 1, 1, none⟩ = some (.int .i64 0) := hb1.cell 1
      have k2 : wr.cell? ⟨w.heap.size + 1, 2, none⟩ = some (.int .i64 0) := hb1.cell 2
      have k3 : wr.cell? ⟨w.heap.size + 1, 3, none⟩ = some (.int .i64 0) := hb1.cell 3
      have k4 : wr.cell? ⟨w.heap.size + 1, 4, none⟩ = some (.int .i64 0) := hb1.cell 4
      have k5 : wr.cell? ⟨w.heap.size + 1, 5, none⟩ = some (.int .i64 0) := hb1.cell 5
      have k6 : wr.cell? ⟨w.heap.size + 1, 6, none⟩ = some (.bool false) := hb1.cell 6
      have f0 := hb1.frozen 0
      have f1 := hb1.frozen 1
      have f2 := hb1.frozen 2
      have f3 := hb1.frozen 3
      have f4 := hb1.frozen 4
      have f5 := hb1.frozen 5
      have f6 := hb1.frozen 6
      have y0 : wr.cell? ⟨w.heap.size + 1 + 1, 0, none⟩ = some (.int .i64 y.l) := hb2.cell 0
      have y1 : wr.cell? ⟨w.heap.size + 1 + 1, 1, none⟩ = some (.int .i64 y.c) := hb2.cell 1
      have y2 : wr.cell? ⟨w.heap.size + 1 + 1, 2, none⟩ = some (.int .i64 y.s) := hb2.cell 2
      have y3 : wr.cell? ⟨w.heap.size + 1 + 1, 3, none⟩ = some (.int .i64 y.fl) := hb2.cell 3
      have y4 : wr.cell? ⟨w.heap.size + 1 + 1, 4, none⟩ = some (.int .i64 y.fc) := hb2.cell 4
      have y5 : wr.cell? ⟨w.heap.size + 1 + 1, 5, none⟩ = some (.int .i64 y.nm) := hb2.cell 5
      have y6 : wr.cell? ⟨w.heap.size + 1 + 1, 6, none⟩ = some (.bool y.nd) := hb2.cell 6
      have HB := Lib.hid hbw
      have HB1 := Lib.hid hb1
      clear hb0 hb1 hb2 hbw G1 HC e1
      generalize hfb : foundB S line m = fb at *
      have HFB := Lib.hid hfb
      clear hfb
      go_wp2_with fail
      have S1 := HB1.out.set_ 0 (.int .i64 y.l)
      have p0 : _ = some (Value.int .i64 y.l) := S1.cell 0
      have S2 := S1.set_ 1 (.int .i64 y.c)
      have p1 : _ = some (Value.int .i64 y.c) := S2.cell 1
      have S3 := S2.set_ 2 (.int .i64 y.s)
      have p2 : _ = some (Value.int .i64 y.s) := S3.cell 2
      have S4 := S3.set_ 3 (.int .i64 y.fl)
      have p3 : _ = some (Value.int .i64 y.fl) := S4.cell 3
      have S5 := S4.set_ 4 (.int .i64 y.fc)
      have p4 : _ = some (Value.int .i64 y.fc) := S5.cell 4
      have S6 := S5.set_ 5 (.int .i64 y.nm)
      have p5 : _ = some (Value.int .i64 y.nm) := S6.cell 5
      have S7 := S6.set_ 6 (.bool y.nd)
      have p6 : _ = some (Value.bool y.nd) := S7.cell 6
      refine bodyPost_ret (v := .tuple #[.agg #[.int .i64 y.l, .int .i64 y.c, .int .i64 y.s, .int .i64 y.fl, .int .i64 y.fc, .int .i64 y.nm, .bool y.nd], .bool fb]) (by simp [results, Try.results11, go_sem, p0, p1, p2, p3, p4, p5, p6]) rfl ⟨?_, ?_⟩
      · rw [← hy.out, HFB.out]
        rfl
      · exact (((((((HB.out.setCell (p := ⟨w.heap.size + 1, 0, none⟩) (by simp only; omega) (.int .i64 y.l)).setCell (p := ⟨w.heap.size + 1, 1, none⟩) (by simp only; omega) (.int .i64 y.c)).setCell (p := ⟨w.heap.size + 1, 2, none⟩) (by simp only; omega) (.int .i64 y.s)).setCell (p := ⟨w.heap.size + 1, 3, none⟩) (by simp only; omega) (.int .i64 y.fl)).setCell (p := ⟨w.heap.size + 1, 4, none⟩) (by simp only; omega) (.int .i64 y.fc)).setCell (p := ⟨w.heap.size + 1, 5, none⟩) (by simp only; omega) (.int .i64 y.nm)).setCell (p := ⟨w.heap.size + 1, 6, none⟩) (by simp only; omega) (.bool y.nd))
end Go.Proofs.Ytmncaibhdpcblaa

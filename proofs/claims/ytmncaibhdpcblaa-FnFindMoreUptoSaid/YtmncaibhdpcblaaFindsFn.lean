/-
  The contract of laws.finds. Conditions: as each one says.
-/
import Derived.Test.YtmncaibhdpcblaaImplFind
import Derived.Deep.DrawnRows
namespace Go.Proofs.Ytmncaibhdpcblaa
open Go.RowKit

/-- A mapping as a value. -/
def Seg.val (x : Seg) : Value := .agg #[.int .i64 x.l, .int .i64 x.c, .int .i64 x.s, .int .i64 x.fl, .int .i64 x.fc, .int .i64 x.nm, .bool x.nd]

theorem below_set {B : Nat} {a w : World} {g i : Nat} (h : Below B a w) (hp : B ≤ g) (u : Value) : Below B a (w.setCell ⟨g, i, none⟩ u) := h.setCell hp u
theorem blkNew {w w1 : World} {cs : Array Value} {t : TypeId} (h : Below (w.alloc (.cells cs t)).heap.size (w.alloc (.cells cs t)) w1) : Blk w1 w.heap.size t cs := (Blk.new w t cs).below h
theorem blkNewD {w w1 : World} {cs : Array Value} {t : TypeId} (h : Below (w.alloc (.cells cs t)).drew.heap.size (w.alloc (.cells cs t)).drew w1) : Blk w1 w.heap.size t cs := (Blk.new w t cs).below ⟨h.os, h.tape, h.output, h.size, h.block⟩

theorem implFind_eq (v : Value) (n m : Nat) (S : Nat → Seg) (line col : Int) (x : Seg) (w : World) (hn : n ≤ 2097153) (hv : AtM w v n S) (hS : ∀ i, i < n → (S i).small) (hl : 0 ≤ line ∧ line ≤ 2147483647) (hco : 0 ≤ col ∧ col ≤ 2147483647) (hm : Split S n line col m) (hf : foundB S line m = true) (hy : (S (m - 1)).c5 = x.c5) :
    Calls Try.prog 13 #[v, .int .i64 line, .int .i64 col] w fun e w' => e = .returned (.tuple #[.agg #[.int .i64 x.l, .int .i64 x.c, .int .i64 x.s, .int .i64 x.fl, .int .i64 x.fc], .bool true]) ∧ Below w.heap.size w w' := by
  have h := implFind_yes v n m S line col w hn hv hS hl hco hm hf
  simp only [Seg.c5, List.cons.injEq, Value.int.injEq, true_and, and_true] at hy
  obtain ⟨h1, h2, h3, h4, h5⟩ := hy
  rw [h1, h2, h3, h4, h5] at h
  exact h
theorem handed_one (x : Seg) (g : Nat) (w : World) (h : Blk w g 30 #[.int .i64 x.l, .int .i64 x.c, .int .i64 x.s, .int .i64 x.fl, .int .i64 x.fc, .int .i64 x.nm, .bool x.nd]) :
    Calls Try.prog 14 #[.slice (some ⟨g, 0, none⟩) 1 1] w fun e w' => ∃ g' cap, e = .returned (.slice (some ⟨g', 0, none⟩) 1 cap) ∧ w'.cell? ⟨g', 0, none⟩ = some (.int .i64 x.l) ∧ w'.cell? ⟨g', 1, none⟩ = some (.int .i64 x.c) ∧ w'.cell? ⟨g', 2, none⟩ = some (.int .i64 x.s) ∧ w'.cell? ⟨g', 3, none⟩ = some (.int .i64 x.fl) ∧ w'.cell? ⟨g', 4, none⟩ = some (.int .i64 x.fc) ∧ Below w.heap.size w w' := by
  refine (handed_any (.slice (some ⟨g, 0, none⟩) 1 1) 1 (fun _ => x) w (by omega) ⟨_, _, rfl, fun _ => ⟨g, 0, rfl, fun i j hi hj => ?_⟩⟩).mono ?_
  · obtain rfl : i = 0 := by omega
    rw [Nat.zero_mul, Nat.zero_add, h.cell j]
    simp [Seg.cells]
  · rintro e w1 ⟨v, rfl, ho, hb⟩
    obtain ⟨h1, h2⟩ := ho
    rcases h2 with ⟨_, h0⟩ | ⟨g', cap, cur, rfl, h3, h4, h5, h6, h7, h8⟩
    · cases h0
    · have hc : ∀ j, j < 5 → w1.cell? ⟨g', j, none⟩ = x.c5[j]? := fun j hj => by
        rw [cell_of_row w1 g' j cur _ (0, 0) h4]
        have := c5s_at (fun _ => x) 1 0 j (by omega) hj
        rw [← this, ← h8, List.getElem?_take, Nat.zero_mul, Nat.zero_add, if_pos (by omega)]
        simp
      exact ⟨g', cap, rfl, hc 0 (by omega), hc 1 (by omega), hc 2 (by omega), hc 3 (by omega), hc 4 (by omega), hb⟩

attribute [local go_sem ↓] Go.wp_at_zero Go.wp_at_succ
set_option maxHeartbeats 4000000 in
set_option maxRecDepth 100000 in
theorem finds_yes (v : Value) (n m : Nat) (S : Nat → Seg) (line col : Int) (x : Seg) (w : World) (hn : n ≤ 2097153) (hv : AtS w v n S) (hS : ∀ i, i < n → (S i).small) (hl : 0 ≤ line ∧ line ≤ 2147483647) (hco : 0 ≤ col ∧ col ≤ 2147483647) (hm : Split S n line col m)
    (hx : foundB S line m = true) (hy : (S (m - 1)).c5 = x.c5) :
    Calls Try.prog 12 #[v, .agg #[.int .i64 line, .int .i64 col], x.val, .bool true] w fun e w' => e = .returned (.bool true) ∧ Below w.heap.size w w' := by
  have HV := Lib.hid hv
  have HS := Lib.hid hS
  have HM := Lib.hid hm
  have HL := Lib.hid hl
  have HCO := Lib.hid hco
  have HF := Lib.hid hx
  clear hv hS hm hx hl hco
  unfold Seg.val
  have HY := Lib.hid hy
  clear hy
  go_enter Try.func12, Try.ntmps12
  go_upto_region 1 with fail
  have B0 := Lib.hid (balloc (balloc (Below.refl w.heap.size w) (.cells #[.int .i64 line, .int .i64 col] 28)) (.cells #[.int .i64 x.l, .int .i64 x.c, .int .i64 x.s, .int .i64 x.fl, .int .i64 x.fc, .int .i64 x.nm, .bool x.nd] 30))
  have P0 := Lib.hid ((Blk.new w 28 #[.int .i64 line, .int .i64 col]).alloc (.cells #[.int .i64 x.l, .int .i64 x.c, .int .i64 x.s, .int .i64 x.fl, .int .i64 x.fc, .int .i64 x.nm, .bool x.nd] 30))
  have X0 : Hid (Blk ((w.alloc (.cells #[.int .i64 line, .int .i64 col] 28)).alloc (.cells #[.int .i64 x.l, .int .i64 x.c, .int .i64 x.s, .int .i64 x.fl, .int .i64 x.fc, .int .i64 x.nm, .bool x.nd] 30)) (w.heap.size + 1) 30 #[.int .i64 x.l, .int .i64 x.c, .int .i64 x.s, .int .i64 x.fl, .int .i64 x.fc, .int .i64 x.nm, .bool x.nd]) := Lib.hid (heap_new2 _ _ _)
  generalize (w.alloc (.cells #[.int .i64 line, .int .i64 col] 28)).alloc (.cells #[.int .i64 x.l, .int .i64 x.c, .int .i64 x.s, .int .i64 x.fl, .int .i64 x.fc, .int .i64 x.nm, .bool x.nd] 30) = W0 at *
  have V0 := Lib.hid (HV.out.below B0.out)
  have z0 : w.heap.size + 1 < W0.heap.size := X0.out.lt
  have p0 : W0.cell? ⟨w.heap.size, 0, none⟩ = some (.int .i64 line) := P0.out.cell 0
  have p1 : W0.cell? ⟨w.heap.size, 1, none⟩ = some (.int .i64 col) := P0.out.cell 1
  have Z0 := Lib.hid (Below.refl W0.heap.size W0)
  go_cut [9, 10] (fun s9 s10 wx => ∃ b, s9 = .pointer (some ⟨b, 0, none⟩) ∧ s10 = .bool true ∧ W0.heap.size ≤ b ∧ Blk wx b 39 #[.int .i64 x.l, .int .i64 x.c, .int .i64 x.s, .int .i64 x.fl, .int .i64 x.fc] ∧ Below W0.heap.size W0 wx)
  case first =>
    have n0 := World.new_ne W0 ⟨w.heap.size, 0, none⟩ p0
    have n1 := World.new_ne W0 ⟨w.heap.size, 1, none⟩ p1
    have keepS : Hid (∀ w', Below W0.heap.size W0 w' → w'.cell? ⟨w.heap.size, 0, none⟩ = some (.int .i64 line) ∧ w'.cell? ⟨w.heap.size, 1, none⟩ = some (.int .i64 col) ∧ Hid (Below W0.heap.size W0 w')) := Lib.hid fun w' h => ⟨(h.cell (p := ⟨w.heap.size, 0, none⟩) (by simp only; omega)).trans p0, (h.cell (p := ⟨w.heap.size, 1, none⟩) (by simp only; omega)).trans p1, Lib.hid h⟩
    go_region_held3 (fun w' => w'.cell? ⟨w.heap.size, 0, none⟩ = some (.int .i64 line) ∧ w'.cell? ⟨w.heap.size, 1, none⟩ = some (.int .i64 col) ∧ Hid (Below W0.heap.size W0 w'))
      ((go_split_ands; refine keepS.out _ ?_; repeat (first | (with_reducible exact Hid.out (by assumption)) | (with_reducible refine below_set ?_ (Nat.le_refl _) _) | (with_reducible refine below_set ?_ K1.out _) | (with_reducible refine balloc ?_ _) | (with_reducible refine Below.drew ?_) | (with_reducible refine bthen ?_ hb2) | (with_reducible refine bthen ?_ hb1))))
      (first | (go_at_call 14; go_split_ands; refine (handed_any v n S _ hn (V0.out.below (Hid.out (by assumption)))).mono ?_; rintro e w1 ⟨v1, rfl, ho1, hb1⟩; have K1 : Hid (W0.heap.size ≤ w1.heap.size) := Lib.hid (bthen (Hid.out (by assumption)) hb1).size; (first | (have G := Lib.hid (blkNew hb1)) | (have G := Lib.hid (blkNewD hb1)) | (have G := True.intro))) | (go_at_call 13; refine (implFind_eq v1 n m S line col x _ hn (by first | exact AtM.of_own ho1 | exact (AtM.of_own ho1).below (balloc (Below.refl _ _) _)) HS.out HL.out HCO.out HM.out HF.out HY.out).mono ?_; rintro e w2 ⟨rfl, hb2⟩; (first | (have G2 := G.out.below hb2; have a0 := G2.cell 0; have f0 := G2.frozen 0; have a1 := G2.cell 1; have f1 := G2.frozen 1; have a2 := G2.cell 2; have f2 := G2.frozen 2; have a3 := G2.cell 3; have f3 := G2.frozen 3; have a4 := G2.cell 4; have f4 := G2.frozen 4; have lG := G2.lt; simp only [List.getElem?_toArray, List.getElem?_cons_zero, List.getElem?_cons_succ] at a0 a1 a2 a3 a4) | (have G2 := blkNew hb2; have a0 := G2.cell 0; have f0 := G2.frozen 0; have a1 := G2.cell 1; have f1 := G2.frozen 1; have a2 := G2.cell 2; have f2 := G2.frozen 2; have a3 := G2.cell 3; have f3 := G2.frozen 3; have a4 := G2.cell 4; have f4 := G2.frozen 4; have lG := G2.lt; simp only [List.getElem?_toArray, List.getElem?_cons_zero, List.getElem?_cons_succ] at a0 a1 a2 a3 a4) | (have G2 := blkNewD hb2; have a0 := G2.cell 0; have f0 := G2.frozen 0; have a1 := G2.cell 1; have f1 := G2.frozen 1; have a2 := G2.cell 2; have f2 := G2.frozen 2; have a3 := G2.cell 3; have f3 := G2.frozen 3; have a4 := G2.cell 4; have f4 := G2.frozen 4; have lG := G2.lt; simp only [List.getElem?_toArray, List.getElem?_cons_zero, List.getElem?_cons_succ] at a0 a1 a2 a3 a4) | skip)))
    all_goals go_wp2_with fail
    all_goals go_meet
    all_goals go_split_ands
    all_goals first | exact ⟨_, rfl, rfl, Nat.le_refl _, ((((G2.set_ 0 _).set_ 1 _).set_ 2 _).set_ 3 _).set_ 4 _, Hid.out (by assumption)⟩ | exact ⟨_, rfl, rfl, K1.out, ((((G2.set_ 0 _).set_ 1 _).set_ 2 _).set_ 3 _).set_ 4 _, Hid.out (by assumption)⟩ | exact ⟨_, rfl, rfl, Nat.le_trans K1.out hb2.size, Blk.new _ _ _, Hid.out (by assumption)⟩
  case rest =>
    obtain ⟨b, rfl, rfl, hb, hG, hB⟩ := hcut
    have X1 := X0.out.below hB
    have d0 := X1.cell 0
    have d1 := X1.cell 1
    have d2 := X1.cell 2
    have d3 := X1.cell 3
    have d4 := X1.cell 4
    have d5 := X1.cell 5
    have d6 := X1.cell 6
    have e0 := hG.cell 0
    have e1 := hG.cell 1
    have e2 := hG.cell 2
    have e3 := hG.cell 3
    have e4 := hG.cell 4
    simp only [List.getElem?_toArray, List.getElem?_cons_zero, List.getElem?_cons_succ] at d0 d1 d2 d3 d4 d5 d6 e0 e1 e2 e3 e4
    have HG := Lib.hid hG
    have HB := Lib.hid (bthen B0.out hB)
    clear p0 p1 hG X1
    have hbl : b < wc.heap.size := HG.out.lt
    have hxl : w.heap.size + 1 < wc.heap.size := cell_lt' d0
    have Z1 := Lib.hid (Below.refl wc.heap.size wc)
    have keepT : Hid (∀ w', Below wc.heap.size wc w' → w'.cell? ⟨b, 0, none⟩ = some (.int .i64 x.l) ∧ w'.cell? ⟨b, 1, none⟩ = some (.int .i64 x.c) ∧ w'.cell? ⟨b, 2, none⟩ = some (.int .i64 x.s) ∧ w'.cell? ⟨b, 3, none⟩ = some (.int .i64 x.fl) ∧ w'.cell? ⟨b, 4, none⟩ = some (.int .i64 x.fc) ∧ w'.cell? ⟨w.heap.size + 1, 0, none⟩ = some (.int .i64 x.l) ∧ w'.cell? ⟨w.heap.size + 1, 1, none⟩ = some (.int .i64 x.c) ∧ w'.cell? ⟨w.heap.size + 1, 2, none⟩ = some (.int .i64 x.s) ∧ w'.cell? ⟨w.heap.size + 1, 3, none⟩ = some (.int .i64 x.fl) ∧ w'.cell? ⟨w.heap.size + 1, 4, none⟩ = some (.int .i64 x.fc) ∧ w'.cell? ⟨w.heap.size + 1, 5, none⟩ = some (.int .i64 x.nm) ∧ w'.cell? ⟨w.heap.size + 1, 6, none⟩ = some (.bool x.nd) ∧ Hid (Below wc.heap.size wc w')) := Lib.hid fun w' h => ⟨(h.cell (p := ⟨b, 0, none⟩) hbl).trans e0, (h.cell (p := ⟨b, 1, none⟩) hbl).trans e1, (h.cell (p := ⟨b, 2, none⟩) hbl).trans e2, (h.cell (p := ⟨b, 3, none⟩) hbl).trans e3, (h.cell (p := ⟨b, 4, none⟩) hbl).trans e4, (h.cell (p := ⟨w.heap.size + 1, 0, none⟩) hxl).trans d0, (h.cell (p := ⟨w.heap.size + 1, 1, none⟩) hxl).trans d1, (h.cell (p := ⟨w.heap.size + 1, 2, none⟩) hxl).trans d2, (h.cell (p := ⟨w.heap.size + 1, 3, none⟩) hxl).trans d3, (h.cell (p := ⟨w.heap.size + 1, 4, none⟩) hxl).trans d4, (h.cell (p := ⟨w.heap.size + 1, 5, none⟩) hxl).trans d5, (h.cell (p := ⟨w.heap.size + 1, 6, none⟩) hxl).trans d6, Lib.hid h⟩
    have HBB := Lib.hid hB
    clear hB
    go_wp2_with fail
    go_region_with (go_at_call 14; refine (handed_one x wc.heap.size _ (by exact Blk.new wc _ _)).mono ?_; rintro e w3 ⟨g3, cp3, rfl, q0, q1, q2, q3, q4, hb3⟩; have B3 := Lib.hid (bthen (Below.drew (balloc (Below.refl wc.heap.size wc) _)) hb3); obtain ⟨t0, t1, t2, t3, t4, -, -, -, -, -, -, -, -⟩ := keepT.out w3 B3.out; clear hb3)
    all_goals go_wp2_with fail
    all_goals go_ret
    all_goals exact ⟨rfl, bthen HB.out B3.out⟩

set_option maxHeartbeats 4000000 in
set_option maxRecDepth 100000 in
theorem finds_no (v : Value) (n m : Nat) (S : Nat → Seg) (line col : Int) (x : Seg) (w : World) (hn : n ≤ 2097153) (hv : AtS w v n S) (hS : ∀ i, i < n → (S i).small) (hl : 0 ≤ line ∧ line ≤ 2147483647) (hco : 0 ≤ col ∧ col ≤ 2147483647) (hm : Split S n line col m)
    (hx : foundB S line m = false) :
    Calls Try.prog 12 #[v, .agg #[.int .i64 line, .int .i64 col], x.val, .bool false] w fun e w' => e = .returned (.bool true) ∧ Below w.heap.size w w' := by
  have HV := Lib.hid hv
  have HS := Lib.hid hS
  have HM := Lib.hid hm
  have HL := Lib.hid hl
  have HCO := Lib.hid hco
  have HF := Lib.hid hx
  clear hv hS hm hx hl hco
  unfold Seg.val
  go_enter Try.func12, Try.ntmps12
  go_upto_region 1 with fail
  have B0 := Lib.hid (balloc (balloc (Below.refl w.heap.size w) (.cells #[.int .i64 line, .int .i64 col] 28)) (.cells #[.int .i64 x.l, .int .i64 x.c, .int .i64 x.s, .int .i64 x.fl, .int .i64 x.fc, .int .i64 x.nm, .bool x.nd] 30))
  have P0 := Lib.hid ((Blk.new w 28 #[.int .i64 line, .int .i64 col]).alloc (.cells #[.int .i64 x.l, .int .i64 x.c, .int .i64 x.s, .int .i64 x.fl, .int .i64 x.fc, .int .i64 x.nm, .bool x.nd] 30))
  have X0 : Hid (Blk ((w.alloc (.cells #[.int .i64 line, .int .i64 col] 28)).alloc (.cells #[.int .i64 x.l, .int .i64 x.c, .int .i64 x.s, .int .i64 x.fl, .int .i64 x.fc, .int .i64 x.nm, .bool x.nd] 30)) (w.heap.size + 1) 30 #[.int .i64 x.l, .int .i64 x.c, .int .i64 x.s, .int .i64 x.fl, .int .i64 x.fc, .int .i64 x.nm, .bool x.nd]) := Lib.hid (heap_new2 _ _ _)
  generalize (w.alloc (.cells #[.int .i64 line, .int .i64 col] 28)).alloc (.cells #[.int .i64 x.l, .int .i64 x.c, .int .i64 x.s, .int .i64 x.fl, .int .i64 x.fc, .int .i64 x.nm, .bool x.nd] 30) = W0 at *
  have V0 := Lib.hid (HV.out.below B0.out)
  have z0 : w.heap.size + 1 < W0.heap.size := X0.out.lt
  have p0 : W0.cell? ⟨w.heap.size, 0, none⟩ = some (.int .i64 line) := P0.out.cell 0
  have p1 : W0.cell? ⟨w.heap.size, 1, none⟩ = some (.int .i64 col) := P0.out.cell 1
  have Z0 := Lib.hid (Below.refl W0.heap.size W0)
  go_cut [9, 10] (fun s9 s10 wx => ∃ b, s9 = .pointer (some ⟨b, 0, none⟩) ∧ s10 = .bool false ∧ W0.heap.size ≤ b ∧ Blk wx b 39 #[.int .i64 0, .int .i64 0, .int .i64 0, .int .i64 0, .int .i64 0] ∧ Below W0.heap.size W0 wx)
  case first =>
    have n0 := World.new_ne W0 ⟨w.heap.size, 0, none⟩ p0
    have n1 := World.new_ne W0 ⟨w.heap.size, 1, none⟩ p1
    have keepS : Hid (∀ w', Below W0.heap.size W0 w' → w'.cell? ⟨w.heap.size, 0, none⟩ = some (.int .i64 line) ∧ w'.cell? ⟨w.heap.size, 1, none⟩ = some (.int .i64 col) ∧ Hid (Below W0.heap.size W0 w')) := Lib.hid fun w' h => ⟨(h.cell (p := ⟨w.heap.size, 0, none⟩) (by simp only; omega)).trans p0, (h.cell (p := ⟨w.heap.size, 1, none⟩) (by simp only; omega)).trans p1, Lib.hid h⟩
    go_region_held3 (fun w' => w'.cell? ⟨w.heap.size, 0, none⟩ = some (.int .i64 line) ∧ w'.cell? ⟨w.heap.size, 1, none⟩ = some (.int .i64 col) ∧ Hid (Below W0.heap.size W0 w'))
      ((go_split_ands; refine keepS.out _ ?_; repeat (first | (with_reducible exact Hid.out (by assumption)) | (with_reducible refine below_set ?_ (Nat.le_refl _) _) | (with_reducible refine below_set ?_ K1.out _) | (with_reducible refine balloc ?_ _) | (with_reducible refine Below.drew ?_) | (with_reducible refine bthen ?_ hb2) | (with_reducible refine bthen ?_ hb1))))
      (first | (go_at_call 14; go_split_ands; refine (handed_any v n S _ hn (V0.out.below (Hid.out (by assumption)))).mono ?_; rintro e w1 ⟨v1, rfl, ho1, hb1⟩; have K1 : Hid (W0.heap.size ≤ w1.heap.size) := Lib.hid (bthen (Hid.out (by assumption)) hb1).size; (first | (have G := Lib.hid (blkNew hb1)) | (have G := Lib.hid (blkNewD hb1)) | (have G := True.intro))) | (go_at_call 13; refine (implFind_no v1 n m S line col _ hn (by first | exact AtM.of_own ho1 | exact (AtM.of_own ho1).below (balloc (Below.refl _ _) _)) HS.out HL.out HCO.out HM.out HF.out).mono ?_; rintro e w2 ⟨rfl, hb2⟩; (first | (have G2 := G.out.below hb2; have a0 := G2.cell 0; have f0 := G2.frozen 0; have a1 := G2.cell 1; have f1 := G2.frozen 1; have a2 := G2.cell 2; have f2 := G2.frozen 2; have a3 := G2.cell 3; have f3 := G2.frozen 3; have a4 := G2.cell 4; have f4 := G2.frozen 4; have lG := G2.lt; simp only [List.getElem?_toArray, List.getElem?_cons_zero, List.getElem?_cons_succ] at a0 a1 a2 a3 a4) | (have G2 := blkNew hb2; have a0 := G2.cell 0; have f0 := G2.frozen 0; have a1 := G2.cell 1; have f1 := G2.frozen 1; have a2 := G2.cell 2; have f2 := G2.frozen 2; have a3 := G2.cell 3; have f3 := G2.frozen 3; have a4 := G2.cell 4; have f4 := G2.frozen 4; have lG := G2.lt; simp only [List.getElem?_toArray, List.getElem?_cons_zero, List.getElem?_cons_succ] at a0 a1 a2 a3 a4) | (have G2 := blkNewD hb2; have a0 := G2.cell 0; have f0 := G2.frozen 0; have a1 := G2.cell 1; have f1 := G2.frozen 1; have a2 := G2.cell 2; have f2 := G2.frozen 2; have a3 := G2.cell 3; have f3 := G2.frozen 3; have a4 := G2.cell 4; have f4 := G2.frozen 4; have lG := G2.lt; simp only [List.getElem?_toArray, List.getElem?_cons_zero, List.getElem?_cons_succ] at a0 a1 a2 a3 a4) | skip)))
    all_goals go_wp2_with fail
    all_goals go_meet
    all_goals go_split_ands
    all_goals first | exact ⟨_, rfl, rfl, Nat.le_refl _, ((((G2.set_ 0 _).set_ 1 _).set_ 2 _).set_ 3 _).set_ 4 _, Hid.out (by assumption)⟩ | exact ⟨_, rfl, rfl, K1.out, ((((G2.set_ 0 _).set_ 1 _).set_ 2 _).set_ 3 _).set_ 4 _, Hid.out (by assumption)⟩ | exact ⟨_, rfl, rfl, Nat.le_trans K1.out hb2.size, Blk.new _ _ _, Hid.out (by assumption)⟩
  case rest =>
    obtain ⟨b, rfl, rfl, hb, hG, hB⟩ := hcut
    have HB := Lib.hid (bthen B0.out hB)
    clear p0 p1 hG hB
    go_wp2_with fail
    go_ret
    exact ⟨rfl, HB.out⟩
end Go.Proofs.Ytmncaibhdpcblaa

/-
  The contract of impl.Find: what is found at a place. Conditions: at most 2^21 mappings, whose numbers are from 0 to 2^31 - 1; those ahead of one of them are not behind the place, all others are.
-/
import Derived.Test.YtmncaibhdpcblaaHandFn
import Derived.Test.YtmncaibhdpcblaaSmFind
import Derived.StillTailTactics
namespace Go.Proofs.Ytmncaibhdpcblaa
open Go.RowKit

def c6s (S : Nat → Seg) (n : Nat) : List Value := (List.range n).flatMap fun i => (S i).c32
theorem c6s_succ (S : Nat → Seg) (n : Nat) : c6s S (n + 1) = c6s S n ++ (S n).c32 := by simp [c6s, List.range_succ]
theorem c6s_at (S : Nat → Seg) (n i j : Nat) (hi : i < n) (hj : j < 6) : (c6s S n)[i * 6 + j]? = (S i).c32[j]? := by
  have hlen : ∀ n, (c6s S n).length = n * 6 := by
    intro n
    induction n with
    | zero => rfl
    | succ n ih => rw [c6s_succ, List.length_append, ih]; simp [Seg.c32]; omega
  induction n with
  | zero => omega
  | succ n ih =>
    rw [c6s_succ]
    rcases Nat.lt_or_ge i n with h | h
    · rw [List.getElem?_append_left (by rw [hlen]; omega)]
      exact ih h
    · obtain rfl : i = n := by omega
      rw [List.getElem?_append_right (by rw [hlen]; omega), hlen, show i * 6 + j - i * 6 = j by omega]
theorem c6_one (x : Seg) : ∀ u ∈ x.c32, u.oneCell' = true := by
  intro u hu
  simp only [Seg.c32, List.mem_cons, List.not_mem_nil, or_false] at hu
  rcases hu with rfl | rfl | rfl | rfl | rfl | rfl <;> rfl
/-- The numbers of a mapping are small. -/
def Seg.small (x : Seg) : Prop := (0 ≤ x.l ∧ x.l ≤ 2147483647) ∧ (0 ≤ x.c ∧ x.c ≤ 2147483647) ∧ (0 ≤ x.s ∧ x.s ≤ 2147483647) ∧ (0 ≤ x.fl ∧ x.fl ≤ 2147483647) ∧ (0 ≤ x.fc ∧ x.fc ≤ 2147483647)
/-- Mappings as they are handed over, in memory. -/
def AtM (w : World) (v : Value) (n : Nat) (S : Nat → Seg) : Prop := ∃ A cap, v = .slice A n cap ∧ (0 < n → ∃ R o, A = some ⟨R, o, none⟩ ∧ ∀ i j, i < n → j < 5 → w.cell? ⟨R, o + i * 5 + j, none⟩ = (S i).c5[j]?)
theorem AtM.of_own {w : World} {base n : Nat} {e : TypeId} {v : Value} {S : Nat → Seg} (h : w.ownsRow base e 5 v n (c5s S n)) : AtM w v n S := by
  obtain ⟨h1, h2⟩ := h
  rcases h2 with ⟨rfl, rfl⟩ | ⟨g, cap, cur, rfl, h3, h4, h5, h6, h7, h8⟩
  · exact ⟨_, _, rfl, fun q => absurd q (Nat.lt_irrefl _)⟩
  · refine ⟨_, cap, rfl, fun _ => ⟨g, 0, rfl, fun i j hi hj => ?_⟩⟩
    rw [cell_of_row w g _ cur e (0, 0) h4, ← c5s_at S n i j hi hj, ← h8, List.getElem?_take, Nat.zero_add, if_pos (by omega)]
    simp
theorem AtM.below {w w' : World} {v : Value} {n : Nat} {S : Nat → Seg} (h : AtM w v n S) (hb : Below w.heap.size w w') : AtM w' v n S := by
  obtain ⟨A, cap, rfl, h⟩ := h
  refine ⟨A, cap, rfl, fun hn => ?_⟩
  obtain ⟨R, o, rfl, h2⟩ := h hn
  have hR : R < w.heap.size := cell_lt' (p := ⟨R, o + 0 * 5 + 0, none⟩) (v := .int .i64 (S 0).l) (h2 0 0 hn (by omega))
  exact ⟨R, o, rfl, fun i j hi hj => (hb.cell (p := ⟨R, _, none⟩) hR).trans (h2 i j hi hj)⟩

/-- What is handed back. -/
def fMap (S : Nat → Seg) (line : Int) (m : Nat) : Array Value := if foundB S line m = true then (S (m - 1)).c5.toArray else #[.int .i64 0, .int .i64 0, .int .i64 0, .int .i64 0, .int .i64 0]
theorem fMap_yes {S : Nat → Seg} {line : Int} {m : Nat} (h : foundB S line m = true) : fMap S line m = #[.int .i64 (S (m - 1)).l, .int .i64 (S (m - 1)).c, .int .i64 (S (m - 1)).s, .int .i64 (S (m - 1)).fl, .int .i64 (S (m - 1)).fc] := by unfold fMap; rw [if_pos h]; rfl
theorem fMap_no {S : Nat → Seg} {line : Int} {m : Nat} (h : foundB S line m = false) : fMap S line m = #[.int .i64 0, .int .i64 0, .int .i64 0, .int .i64 0, .int .i64 0] := by unfold fMap; rw [h]; rfl

theorem info_m32 : (Try.prog.info? 54).map (fun i => (i.zero, i.size, i.bytes)) = some (some (.agg #[.int .i32 0, .int .i32 0, .int .i32 0, .int .i32 0, .int .i32 0, .int .u32 0]), 6, 24) := by kernel_rfl
def nilS : Value := .slice none 0 0

set_option maxHeartbeats 2000000 in
set_option maxRecDepth 100000 in
theorem implFind_any (v : Value) (n m : Nat) (S : Nat → Seg) (line col : Int) (w : World) (hn : n ≤ 2097153) (hv : AtM w v n S) (hS : ∀ i, i < n → (S i).small) (hl : 0 ≤ line ∧ line ≤ 2147483647) (hco : 0 ≤ col ∧ col ≤ 2147483647) (hm : Split S n line col m) :
    Calls Try.prog 13 #[v, .int .i64 line, .int .i64 col] w fun e w' => e = .returned (.tuple #[.agg (fMap S line m), .bool (foundB S line m)]) ∧ Below w.heap.size w w' := by
  obtain ⟨i0, hi0, hz0, hz1, hz2⟩ := info_parts info_m32
  obtain ⟨A, cap, rfl, hc⟩ := hv
  have HC := Lib.hid hc
  have HS := Lib.hid hS
  have HM := Lib.hid hm
  clear hc hS hm
  go_enter Try.func13, Try.ntmps13
  go_wp2_with fail
  go_loopg [15] n (fun f s15 wr => ∃ (i : Nat) (vM : Value), i + f = n ∧ s15 = .int .i64 (i : Int) ∧ Blk wr w.heap.size 39 #[.int .i64 0, .int .i64 0, .int .i64 0, .int .i64 0, .int .i64 0] ∧ Blk wr (w.heap.size + 1) 49 #[nilS, nilS, vM, nilS] ∧ wr.ownsRow (w.heap.size + 2) 54 6 vM i (c6s S i) ∧ Below w.heap.size w wr)
  case atStart =>
    refine ⟨0, nilS, by omega, rfl, (Blk.new w _ _).alloc _, ?_, World.ownsRow_nil _ _ _ _, balloc (balloc (Below.refl _ _) _) _⟩
    exact heap_new2 _ _ _
  case round =>
    obtain ⟨i, vM, hi, rfl, hb0, hb1, hown, hbw⟩ := hrel
    have hz : w.heap.size + 1 < wr.heap.size := hb1.lt
    have q2 : wr.cell? ⟨w.heap.size + 1, 2, none⟩ = some vM := hb1.cell 2
    have qf := hb1.frozen 2
    by_cases hlt : i < n
    · obtain ⟨R, o, rfl, hcl⟩ := HC.out (by omega)
      obtain ⟨f, rfl⟩ : ∃ f, gk = f + 1 := ⟨gk - 1, by omega⟩
      have hR : R < w.heap.size := cell_lt' (p := ⟨R, o + i * 5 + 0, none⟩) (v := .int .i64 (S i).l) (hcl i 0 hlt (by omega))
      have hcr : ∀ j, j < 5 → wr.cell? ⟨R, o + i * 5 + j, none⟩ = (S i).c5[j]? := fun j hj => (hbw.cell (p := ⟨R, _, none⟩) hR).trans (hcl i j hlt hj)
      have c0 := hcr 0 (by omega)
      have c1 := hcr 1 (by omega)
      have c2 := hcr 2 (by omega)
      have c3 := hcr 3 (by omega)
      have c4 := hcr 4 (by omega)
      simp only [Nat.add_zero, Seg.c5, List.getElem?_cons_zero, List.getElem?_cons_succ] at c0 c1 c2 c3 c4
      have hbs := hbw.size
      have hE : (S i).c32 = [.int .i32 (S i).l, .int .i32 (S i).c, .int .i32 (S i).s, .int .i32 (S i).fl, .int .i32 (S i).fc, .int .u32 0] := rfl
      have hSu := c6s_succ S i
      rw [hE] at hSu
      have HSU := Lib.hid hSu
      have h1c := c6_one (S i)
      rw [hE] at h1c
      have H1 := Lib.hid h1c
      have HO := Lib.hid hown
      have HB := Lib.hid hbw
      have HB0 := Lib.hid hb0
      have HB1 := Lib.hid hb1
      have hsm := HS.out i hlt
      unfold Seg.small at hsm
      clear hcr hcl HC hown hbw hE hSu h1c hb0 hb1
      generalize (S i).l = x0 at *
      generalize (S i).c = x1 at *
      generalize (S i).s = x2 at *
      generalize (S i).fl = x3 at *
      generalize (S i).fc = x4 at *
      go_wp2_with (at_builtin; refine wpList_append_lies _ rfl (.tmp 20) (.tmp 37) _ rfl (w.heap.size + 2) 54 i0 _ 6 24 Try.underlying47 hi0 hz0 hz1 hz2 rfl (by omega) vM i (c6s S i) rfl ((HO.out.alloc _).alloc _) ⟨wr.heap.size + 1, 0, none⟩ 1 1 [.int .i32 x0, .int .i32 x1, .int .i32 x2, .int .i32 x3, .int .i32 x4, .int .u32 0] rfl rfl (World.news_of_block (cs := #[.int .i32 x0, .int .i32 x1, .int .i32 x2, .int .i32 x3, .int .i32 x4, .int .u32 0]) (t := 54) (fr := (0, 0)) (heap_new2 _ _ _)) H1.out (by omega) (by unfold maxLen; omega) (by omega) (by simp; omega) (wr.heap.size + 2) (by simp) ?_; intro g2 cp2 w2 hown2 hg2 hat2 hlt2; have G1 := Lib.hid (((HB1.out.alloc _).alloc _).grown hg2 (own_ge HO.out (by omega))); have r2 : w2.cell? ⟨w.heap.size + 1, 2, none⟩ = some vM := G1.out.cell 2; have rf := G1.out.frozen 2; have rl : w.heap.size + 1 < w2.heap.size := G1.out.lt; have G0 := Lib.hid (((HB0.out.alloc _).alloc _).grown hg2 (own_ge HO.out (by omega))); have B8 := Lib.hid (below_grown (balloc (balloc HB.out _) _) (Nat.le_refl _) hg2 (fun k hk => by have := (HO.out.lt k hk).1; omega)); have O8 := Lib.hid hown2; clear hown2 hg2 hat2 hlt2)
      go_roundg f
      case measure => omega
      case rel => exact ⟨i + 1, .slice (some ⟨g2, 0, none⟩) (i + 1) cp2, by omega, by go_num, G0.out.far (by simp) _, G1.out.set_ 2 _, ownsRow_setCell_below (by rw [HSU.out]; exact O8.out) (by simp) _, B8.out.setCell (by simp) _⟩
    · obtain rfl : i = n := by omega
      have HB := Lib.hid hbw
      have HB0 := Lib.hid hb0
      have HB1 := Lib.hid hb1
      have HO := Lib.hid hown
      clear hb0 hb1 hown hbw
      have hrow : ∃ A6 cap6 R6 o6, vM = .slice A6 i cap6 ∧ (0 < i → A6 = some ⟨R6, o6, none⟩) ∧ ∀ k j, k < i → j < 6 → wr.cell? ⟨R6, o6 + k * 6 + j, none⟩ = (S k).c32[j]? := by
        obtain ⟨h1, h2⟩ := HO.out
        rcases h2 with ⟨rfl, rfl⟩ | ⟨g, cap, cur, rfl, h3, h4, h5, h6, h7, h8⟩
        · exact ⟨_, _, 0, 0, rfl, fun q => absurd q (Nat.lt_irrefl _), fun k j hk => absurd hk (by omega)⟩
        · refine ⟨_, cap, g, 0, rfl, fun _ => rfl, fun k j hk hj => ?_⟩
          rw [cell_of_row wr g _ cur _ (0, 0) h4, ← c6s_at S i k j hk hj, ← h8, List.getElem?_take, Nat.zero_add, if_pos (by omega)]
          simp
      obtain ⟨A6, cap6, R6, o6, rfl, hA6, hc6⟩ := hrow
      have HA6 := Lib.hid hA6
      have HC6 := Lib.hid hc6
      clear hA6 hc6 qf
      go_wp2_with fail
      refine (smFind_any S i (w.heap.size + 1) R6 o6 cap6 m A6 line col wr hn (by omega) q2 HA6.out HC6.out HM.out).mono ?_
      rintro e w2 ⟨rfl, hb2⟩
      have G0 := HB0.out.below hb2
      have f0 := G0.frozen 0
      have f1 := G0.frozen 1
      have f2 := G0.frozen 2
      have f3 := G0.frozen 3
      have f4 := G0.frozen 4
      have k0 : w2.cell? ⟨w.heap.size, 0, none⟩ = some (.int .i64 0) := G0.cell 0
      have k1 : w2.cell? ⟨w.heap.size, 1, none⟩ = some (.int .i64 0) := G0.cell 1
      have k2 : w2.cell? ⟨w.heap.size, 2, none⟩ = some (.int .i64 0) := G0.cell 2
      have k3 : w2.cell? ⟨w.heap.size, 3, none⟩ = some (.int .i64 0) := G0.cell 3
      have k4 : w2.cell? ⟨w.heap.size, 4, none⟩ = some (.int .i64 0) := G0.cell 4
      have hz2 : w.heap.size < w2.heap.size := G0.lt
      have HG0 := Lib.hid G0
      have B2 := Lib.hid (bthen HB.out hb2)
      have H2 := Lib.hid hb2
      clear hb2 G0 HB1 HO q2
      rcases hfd : foundB S line m with _ | _
      · rw [fPtr_no hfd]
        have HF := Lib.hid hfd
        clear hfd
        go_wp2_with fail
        have S1 := HG0.out.set_ 0 (.int .i64 0)
        have p0 : _ = some (Value.int .i64 0) := S1.cell 0
        have S2 := S1.set_ 1 (.int .i64 0)
        have p1 : _ = some (Value.int .i64 0) := S2.cell 1
        have S3 := S2.set_ 2 (.int .i64 0)
        have p2 : _ = some (Value.int .i64 0) := S3.cell 2
        have S4 := S3.set_ 3 (.int .i64 0)
        have p3 : _ = some (Value.int .i64 0) := S4.cell 3
        have S5 := S4.set_ 4 (.int .i64 0)
        have p4 : _ = some (Value.int .i64 0) := S5.cell 4
        refine bodyPost_ret (v := .tuple #[.agg #[.int .i64 0, .int .i64 0, .int .i64 0, .int .i64 0, .int .i64 0], .bool false]) (by simp [results, Try.results13, go_sem, p0, p1, p2, p3, p4]) rfl ⟨?_, ?_⟩
        · rw [fMap_no HF.out, HF.out]
        · exact (((((B2.out.setCell (p := ⟨w.heap.size, 0, none⟩) (Nat.le_refl _) (.int .i64 0)).setCell (p := ⟨w.heap.size, 1, none⟩) (Nat.le_refl _) (.int .i64 0)).setCell (p := ⟨w.heap.size, 2, none⟩) (Nat.le_refl _) (.int .i64 0)).setCell (p := ⟨w.heap.size, 3, none⟩) (Nat.le_refl _) (.int .i64 0)).setCell (p := ⟨w.heap.size, 4, none⟩) (Nat.le_refl _) (.int .i64 0))
      · rw [fPtr_yes hfd]
        have hfm := hfd
        unfold foundB at hfm
        have hm0 : 0 < m := (of_decide_eq_true hfm).1
        have hmn := HM.out.1
        have hsm := HS.out (m - 1) (by omega)
        unfold Seg.small at hsm
        have hR6 : R6 < wr.heap.size := cell_lt' (p := ⟨R6, o6 + (m - 1) * 6 + 0, none⟩) (v := .int .i32 (S (m - 1)).l) (HC6.out (m - 1) 0 (by omega) (by omega))
        have hc2 : ∀ j, j < 6 → w2.cell? ⟨R6, o6 + (m - 1) * 6 + j, none⟩ = (S (m - 1)).c32[j]? := fun j hj => (H2.out.cell (p := ⟨R6, _, none⟩) hR6).trans (HC6.out (m - 1) j (by omega) hj)
        have c0 := hc2 0 (by omega)
        have c1 := hc2 1 (by omega)
        have c2 := hc2 2 (by omega)
        have c3 := hc2 3 (by omega)
        have c4 := hc2 4 (by omega)
        simp only [Nat.add_zero, Seg.c32, List.getElem?_cons_zero, List.getElem?_cons_succ] at c0 c1 c2 c3 c4
        have HF := Lib.hid hfd
        have hY := fMap_yes hfd
        have HY := Lib.hid hY
        clear hfd hfm hc2 hY
        generalize (S (m - 1)).l = x0 at *
        generalize (S (m - 1)).c = x1 at *
        generalize (S (m - 1)).s = x2 at *
        generalize (S (m - 1)).fl = x3 at *
        generalize (S (m - 1)).fc = x4 at *
        generalize o6 + (m - 1) * 6 = oo at *
        go_wp2_with fail
        go_still_tail 26, (by kernel_rfl)
        change wpList _ _ _ _ _ w2.drew
        go_wp2_with fail
        have S1 := HG0.out.set_ 0 (.int .i64 x0)
        have p0 : _ = some (Value.int .i64 x0) := S1.cell 0
        have S2 := S1.set_ 1 (.int .i64 x1)
        have p1 : _ = some (Value.int .i64 x1) := S2.cell 1
        have S3 := S2.set_ 2 (.int .i64 x2)
        have p2 : _ = some (Value.int .i64 x2) := S3.cell 2
        have S4 := S3.set_ 3 (.int .i64 x3)
        have p3 : _ = some (Value.int .i64 x3) := S4.cell 3
        have S5 := S4.set_ 4 (.int .i64 x4)
        have p4 : _ = some (Value.int .i64 x4) := S5.cell 4
        refine bodyPost_ret (v := .tuple #[.agg #[.int .i64 x0, .int .i64 x1, .int .i64 x2, .int .i64 x3, .int .i64 x4], .bool true]) (by simp [results, Try.results13, go_sem, p0, p1, p2, p3, p4]) rfl ⟨?_, ?_⟩
        · rw [HY.out, HF.out]
        · exact (((((B2.out.setCell (p := ⟨w.heap.size, 0, none⟩) (Nat.le_refl _) (.int .i64 x0)).setCell (p := ⟨w.heap.size, 1, none⟩) (Nat.le_refl _) (.int .i64 x1)).setCell (p := ⟨w.heap.size, 2, none⟩) (Nat.le_refl _) (.int .i64 x2)).setCell (p := ⟨w.heap.size, 3, none⟩) (Nat.le_refl _) (.int .i64 x3)).setCell (p := ⟨w.heap.size, 4, none⟩) (Nat.le_refl _) (.int .i64 x4)).drew
theorem implFind_yes (v : Value) (n m : Nat) (S : Nat → Seg) (line col : Int) (w : World) (hn : n ≤ 2097153) (hv : AtM w v n S) (hS : ∀ i, i < n → (S i).small) (hl : 0 ≤ line ∧ line ≤ 2147483647) (hco : 0 ≤ col ∧ col ≤ 2147483647) (hm : Split S n line col m) (hf : foundB S line m = true) :
    Calls Try.prog 13 #[v, .int .i64 line, .int .i64 col] w fun e w' => e = .returned (.tuple #[.agg #[.int .i64 (S (m - 1)).l, .int .i64 (S (m - 1)).c, .int .i64 (S (m - 1)).s, .int .i64 (S (m - 1)).fl, .int .i64 (S (m - 1)).fc], .bool true]) ∧ Below w.heap.size w w' := by
  have h := implFind_any v n m S line col w hn hv hS hl hco hm
  rw [fMap_yes hf, hf] at h
  exact h
theorem implFind_no (v : Value) (n m : Nat) (S : Nat → Seg) (line col : Int) (w : World) (hn : n ≤ 2097153) (hv : AtM w v n S) (hS : ∀ i, i < n → (S i).small) (hl : 0 ≤ line ∧ line ≤ 2147483647) (hco : 0 ≤ col ∧ col ≤ 2147483647) (hm : Split S n line col m) (hf : foundB S line m = false) :
    Calls Try.prog 13 #[v, .int .i64 line, .int .i64 col] w fun e w' => e = .returned (.tuple #[.agg #[.int .i64 0, .int .i64 0, .int .i64 0, .int .i64 0, .int .i64 0], .bool false]) ∧ Below w.heap.size w w' := by
  have h := implFind_any v n m S line col w hn hv hS hl hco hm
  rw [fMap_no hf, hf] at h
  exact h
end Go.Proofs.Ytmncaibhdpcblaa

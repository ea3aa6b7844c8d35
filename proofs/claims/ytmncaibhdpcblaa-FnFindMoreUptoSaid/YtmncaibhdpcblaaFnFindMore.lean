/-
  laws.FnFindMore returns true for every input of bulk at most 1048576: mappings of later lines change nothing. Conditions: none besides.
-/
import Derived.Test.YtmncaibhdpcblaaFindLaw
import Derived.Test.YtmncaibhdpcblaaLawKit
import Derived.JoinedCond
import Derived.Deep.DrawnRows
namespace Go.Proofs.Ytmncaibhdpcblaa
open Go.RowKit Go.ChangeShapes Go.WideShapes Go.ChangeAt

/-- The first mappings. -/
def pre (S : Nat → Seg) (q : Nat) : List Seg := (List.range q).map S
theorem pre_succ (S : Nat → Seg) (q : Nat) : pre S (q + 1) = pre S q ++ [S q] := by simp [pre, List.range_succ]
attribute [local go_sem ↓] Go.wp_at_zero Go.wp_at_succ

set_option maxHeartbeats 8000000 in
set_option maxRecDepth 100000 in
theorem fnFindMore_walk (A : Option Addr) (n cap : Nat) (Z : Nat → Nat → Int) (co : Int) (w : World) (hA : A = none → n = 0 ∧ cap = 0) (h5 : At5 w A n Z) (hn : n ≤ 1048576) (_w1 : (Lit.int .i64 co).wf = true) :
    Calls Try.prog 6 #[.slice A n cap, .int .i64 co] w fun e w' => e = .returned (.bool true) ∧ Below w.heap.size w w' := by
  have HA := Lib.hid hA
  have H5 := Lib.hid h5
  clear hA h5
  go_enter Try.func6, Try.ntmps6
  go_wp2_with (at_builtin; refine wpList_cons5 rfl (.tmp 16) (.tmp 17) rfl w.heap.size n cap A (fun _ => 1) Z rfl (Blk.new w _ _) rfl HA.out (H5.out.below (balloc (Below.refl _ _) _)) hn ?_; intro A2 cap2 w2 h52 hb2; have H52 := Lib.hid h52; have B2 := Lib.hid ((balloc (Below.refl w.heap.size w) _).trans hb2); clear h52 hb2)
  refine (ris_any A2 (1 + n) cap2 (consZ (fun _ => 1) Z) w2 (by omega) H52.out).mono ?_
  rintro e w3 ⟨v3, rfl, ho3, hb3⟩
  have hs3 : AtS w3 v3 (1 + n) (segOf (consZ (fun _ => 1) Z)) := AtS.of_own ho3 (risL_len _ _) (fun i hi => risL_at _ _ i hi)
  have B3 := Lib.hid (bthen B2.out hb3)
  generalize hS : segOf (consZ (fun _ => 1) Z) = S at *
  have hR : Rise S (1 + n) := hS ▸ rise_ris _ _
  have hSm : ∀ i, i < 1 + n → (S i).small := fun i hi => by rw [← hS]; exact seg_small _ i (by omega)
  have hLN : ∀ k : Nat, 0 ≤ (S k).l ∧ (S k).l ≤ 2 * (1 + (k : Int)) := fun k => by rw [← hS]; have := at_bd (consZ (fun _ => 1) Z) (k + 1); simp only [segOf]; omega
  have hCN : ∀ k : Nat, 0 ≤ (S k).c ∧ (S k).c ≤ 999 * (1 + (k : Int)) := fun k => by rw [← hS]; have := at_bd (consZ (fun _ => 1) Z) (k + 1); simp only [segOf]; omega
  obtain ⟨K, hK⟩ := split_ex (1 + n) hR (S 0).l (999 * (1 + (n : Int)))
  have hKi : ∀ i, i < 1 + n → (i < K ↔ (S i).l = (S 0).l) := fun i hi => by
    constructor
    · intro q
      have h1 := hK.2.1 i q
      unfold Seg.upto at h1
      rcases Nat.eq_zero_or_pos i with rfl | hp
      · rfl
      · have h2 := hR 0 i hp hi
        omega
    · intro q
      rcases Nat.lt_or_ge i K with h1 | h1
      · exact h1
      · have h2 := hK.2.2 i h1 hi
        have h3 := hCN i
        exact absurd (Or.inr ⟨q, by omega⟩) h2
  have hK1 : 1 ≤ K := (hKi 0 (by omega)).2 rfl
  have hKN : K ≤ 1 + n := hK.1
  have HKI := Lib.hid hKi
  have HLN := Lib.hid hLN
  have HCN := Lib.hid hCN
  have HR := Lib.hid hR
  have HSM := Lib.hid hSm
  have HS3 := Lib.hid hs3
  obtain ⟨A3, cap3, rfl, hc3⟩ := hs3
  have HC3 := Lib.hid hc3
  clear ho3 hb3 hS hR hSm hc3 hLN hCN hKi hK
  obtain ⟨i0, hi0, hz0, hz1, hz2⟩ := info_parts info_seg
  obtain ⟨R, o, rfl, hcl⟩ := HC3.out (by omega)
  have hR3 : R < w3.heap.size := cell_lt' (p := ⟨R, o + 0 * 7 + 0, none⟩) (v := .int .i64 (S 0).l) (hcl 0 0 (by omega) (by omega))
  have HCL := Lib.hid hcl
  have f0 : w3.cell? ⟨R, o, none⟩ = some (.int .i64 (S 0).l) := by have := hcl 0 0 (by omega) (by omega); rw [Nat.zero_mul] at this; exact this
  have f1 : w3.cell? ⟨R, o + 1, none⟩ = some (.int .i64 (S 0).c) := by have := hcl 0 1 (by omega) (by omega); rw [Nat.zero_mul] at this; exact this
  have hl0 := HLN.out 0
  have hc0 := HCN.out 0
  clear hcl
  go_upto_region 3 with fail
  have K4 := Lib.hid (balloc (Below.refl w3.heap.size w3) (.cells #[.int .i64 (S 0).l, .int .i64 (S 0).c] 28))
  have P4 := Lib.hid (Blk.new w3 28 #[.int .i64 (S 0).l, .int .i64 (S 0).c])
  generalize w3.alloc (.cells #[.int .i64 (S 0).l, .int .i64 (S 0).c] 28) = W4 at *
  have B4 := Lib.hid (bthen B3.out K4.out)
  have z4 : w3.heap.size < W4.heap.size := P4.out.lt
  clear f0 f1
  go_wp2_with fail
  go_loopg [7, 26] (1 + n) (fun f s7 s26 wr => ∃ (i : Nat), i + f = 1 + n ∧ s26 = .int .i64 (i : Int) ∧ wr.ownsRow W4.heap.size 30 7 s7 (min i K) (sgs (pre S (min i K))) ∧ Below W4.heap.size W4 wr)
  case atStart => exact ⟨0, by omega, rfl, by rw [Nat.zero_min]; exact World.ownsRow_nil _ _ _ _, Below.refl _ _⟩
  case round =>
    obtain ⟨i, hi, rfl, hown, hbw⟩ := hrel
    have zr := hbw.size
    by_cases hlt : i < 1 + n
    · obtain ⟨f, rfl⟩ : ∃ f, gk = f + 1 := ⟨gk - 1, by omega⟩
      have B3r := bthen K4.out hbw
      have hcr : ∀ j, j < 7 → wr.cell? ⟨R, o + i * 7 + j, none⟩ = (S i).cells[j]? := fun j hj => (B3r.cell (p := ⟨R, _, none⟩) hR3).trans (HCL.out i j hlt hj)
      have c0 := hcr 0 (by omega)
      have c1 := hcr 1 (by omega)
      have c2 := hcr 2 (by omega)
      have c3 := hcr 3 (by omega)
      have c4 := hcr 4 (by omega)
      have c5 := hcr 5 (by omega)
      have c6 := hcr 6 (by omega)
      simp only [Nat.add_zero, Seg.cells, List.getElem?_cons_zero, List.getElem?_cons_succ] at c0 c1 c2 c3 c4 c5 c6
      have p0 : wr.cell? ⟨w3.heap.size, 0, none⟩ = some (.int .i64 (S 0).l) := (hbw.cell (p := ⟨w3.heap.size, 0, none⟩) z4).trans (P4.out.cell 0)
      have zw : w3.heap.size < wr.heap.size := by omega
      have HB := Lib.hid hbw
      have HO := Lib.hid hown
      have h1c := seg_one (S i)
      unfold Seg.cells at h1c
      have H1 := Lib.hid h1c
      have hps := pre_succ S i
      have HPS := Lib.hid hps
      have hKI := HKI.out i hlt
      clear hcr hbw hown B3r h1c hps
      by_cases hik : i < K
      · have hll := hKI.1 hik
        have em : min i K = i := by omega
        have em2 : min (i + 1) K = i + 1 := by omega
        rw [em] at HO
        have HE2 := Lib.hid em2
        rw [hll] at c0 H1
        have hSi : Hid ((S i).cells = [.int .i64 (S 0).l, .int .i64 (S i).c, .int .i64 (S i).s, .int .i64 (S i).fl, .int .i64 (S i).fc, .int .i64 (S i).nm, .bool (S i).nd]) := Lib.hid (by unfold Seg.cells; rw [hll])
        clear hKI em em2 hll
        go_wp2_with (at_builtin; refine wpList_append_own_at _ rfl (.tmp 36) (.tmp 38) _ rfl W4.heap.size 30 i0 _ 7 56 Try.underlying23 hi0 hz0 hz1 hz2 rfl (by omega) u7 i (sgs (pre S i)) rfl ((HO.out.alloc _).alloc _) ⟨wr.heap.size + 1, 0, none⟩ 1 1 [.int .i64 (S 0).l, .int .i64 (S i).c, .int .i64 (S i).s, .int .i64 (S i).fl, .int .i64 (S i).fc, .int .i64 (S i).nm, .bool (S i).nd] rfl rfl (World.news_of_block (cs := #[.int .i64 (S 0).l, .int .i64 (S i).c, .int .i64 (S i).s, .int .i64 (S i).fl, .int .i64 (S i).fc, .int .i64 (S i).nm, .bool (S i).nd]) (t := 30) (fr := (0, 0)) (heap_new2 _ _ _)) H1.out (by unfold maxLen; omega) (by omega) (by simp; omega) ?_; intro v2 w2 hown2 hg2 hnil2 hat2; clear hnil2)
        have O8 := Lib.hid hown2
        have B8 := Lib.hid (below_grown (balloc (balloc HB.out _) _) (Nat.le_refl _) hg2 (fun k hk => (HO.out.lt k hk).1))
        clear hown2 hg2 hat2
        go_roundg f
        case measure => omega
        case rel => exact ⟨i + 1, by omega, by go_num, by rw [HE2.out, HPS.out, sgs_snoc, hSi.out]; exact O8.out, B8.out⟩
      · have hne : ((S i).l == (S 0).l) = false := by
          have : ¬ (S i).l = (S 0).l := fun q => hik (hKI.2 q)
          simp; omega
        have em : Hid (min (i + 1) K = min i K) := Lib.hid (by omega)
        clear hKI hik
        go_wp2_with fail
        go_roundg f
        case measure => omega
        case rel => exact ⟨i + 1, by omega, by go_num, by rw [em.out]; exact HO.out.alloc _, balloc HB.out _⟩
    · obtain rfl : i = 1 + n := by omega
      have em : min (1 + n) K = K := by omega
      rw [em] at hown
      obtain ⟨r, hr⟩ : ∃ r : Nat, co % 3000 = r := ⟨(co % 3000).toNat, by omega⟩
      have hr3 : (r : Int) < 3000 := by omega
      have HRR := Lib.hid hr
      have hS7 : AtS wr u7 K S := AtS.of_own hown (by simp [pre]) (fun i hi => by simp [pre])
      have HS7 := Lib.hid hS7
      have P5 := Lib.hid (P4.out.below hbw)
      have p0 : wr.cell? ⟨w3.heap.size, 0, none⟩ = some (.int .i64 (S 0).l) := P5.out.cell 0
      have p1 : wr.cell? ⟨w3.heap.size, 1, none⟩ = some (.int .i64 (S 0).c) := P5.out.cell 1
      have B5 := Lib.hid (bthen K4.out hbw)
      have S5 := Lib.hid (HS3.out.below B5.out)
      have zw : w3.heap.size < wr.heap.size := P5.out.lt
      clear hown hbw em hr
      obtain ⟨m, hm⟩ := split_ex (1 + n) HR.out (S 0).l ((S 0).c + r)
      have hm1 : 1 ≤ m := by
        rcases Nat.eq_zero_or_pos m with q | q
        · exact absurd (show (S 0).upto (S 0).l ((S 0).c + r) from .inr ⟨rfl, by omega⟩) (hm.2.2 0 (by omega) (by omega))
        · exact q
      have hml : (S (m - 1)).l = (S 0).l := by
        have h1 := hm.2.1 (m - 1) (by omega)
        unfold Seg.upto at h1
        have hmn := hm.1
        rcases Nat.eq_zero_or_pos (m - 1) with q | q
        · rw [q]
        · have := HR.out 0 (m - 1) q (by omega)
          omega
      have hmK : m ≤ K := by
        have := (HKI.out (m - 1) (by have := hm.1; omega)).2 hml
        omega
      have HM1 := Lib.hid hm
      have HM2 : Hid (Split S K (S 0).l ((S 0).c + r) m) := Lib.hid ⟨hmK, hm.2.1, fun i h1 h2 => hm.2.2 i h1 (by omega)⟩
      have HF : Hid (foundB S (S 0).l m = true) := Lib.hid (by unfold foundB; exact decide_eq_true ⟨by omega, hml⟩)
      have HL : Hid (0 ≤ (S 0).l ∧ (S 0).l ≤ 2147483647) := Lib.hid (by omega)
      have HCO : Hid (0 ≤ (S 0).c + r ∧ (S 0).c + r ≤ 2147483647) := Lib.hid (by omega)
      have HSK : Hid (∀ i, i < K → (S i).small) := Lib.hid (fun i hi => HSM.out i (by omega))
      obtain ⟨x, hx⟩ : ∃ x, S (m - 1) = x := ⟨_, rfl⟩
      have HX : Hid ((S (m - 1)).c5 = x.c5) := Lib.hid (by rw [hx])
      obtain ⟨A7, cap7, rfl, _⟩ := hS7
      clear hm hm1 hml hmK hx
      go_upto_region 10 with fail
      have Z0 := Lib.hid (Below.refl wr.heap.size wr)
      go_cut [10] (fun s10 wx => ∃ b, s10 = .pointer (some ⟨b, 0, none⟩) ∧ wr.heap.size ≤ b ∧ Blk wx b 28 #[.int .i64 (S 0).l, .int .i64 ((S 0).c + r)] ∧ Below wr.heap.size wr wx)
      case first =>
        have keepS : Hid (∀ w', Below wr.heap.size wr w' → w'.cell? ⟨w3.heap.size, 0, none⟩ = some (.int .i64 (S 0).l) ∧ w'.cell? ⟨w3.heap.size, 1, none⟩ = some (.int .i64 (S 0).c) ∧ Hid (Below wr.heap.size wr w')) := Lib.hid fun w' h => ⟨(h.cell (p := ⟨w3.heap.size, 0, none⟩) zw).trans p0, (h.cell (p := ⟨w3.heap.size, 1, none⟩) zw).trans p1, Lib.hid h⟩
        have cP : Hid (∀ W, Calls Try.prog 10 #[.agg #[.int .i64 (S 0).l, .int .i64 (S 0).c], .agg #[.int .i64 0, .int .i64 (r : Int)]] W fun e w' => e = .returned (.agg #[.int .i64 (S 0).l, .int .i64 ((S 0).c + r)]) ∧ Below W.heap.size W w') := Lib.hid fun W => plus_col _ _ _ W (by omega) (by omega) (by omega) (by omega) (by omega) (by omega)
        have cR : Hid (∀ W, Calls Try.prog 8 #[.int .i64 co, .int .i64 3000] W fun e w' => e = .returned (.int .i64 (r : Int)) ∧ W = w') := Lib.hid fun W => by have h := place_any co 3000 W (by omega) (by omega); rw [HRR.out] at h; exact h
        go_region_held3 (fun w' => w'.cell? ⟨w3.heap.size, 0, none⟩ = some (.int .i64 (S 0).l) ∧ w'.cell? ⟨w3.heap.size, 1, none⟩ = some (.int .i64 (S 0).c) ∧ Hid (Below wr.heap.size wr w'))
          ((go_split_ands; refine keepS.out _ ?_; repeat (first | (with_reducible exact Hid.out (by assumption)) | (with_reducible refine below_set ?_ (Nat.le_refl _) _) | (with_reducible refine balloc ?_ _) | (with_reducible refine Below.drew ?_) | (with_reducible refine bthen ?_ hb6))))
          (first | (go_at_call 8; (with_reducible refine (cR.out _).mono ?_); rintro e w' ⟨rfl, rfl⟩) | (go_at_call 10; (with_reducible refine (cP.out _).mono ?_); rintro e w6 ⟨rfl, hb6⟩; (first | (have G2 := blkNew hb6; have a0 := G2.cell 0; have a1 := G2.cell 1; have g0 := G2.frozen 0; have g1 := G2.frozen 1; have lG := G2.lt; simp only [List.getElem?_toArray, List.getElem?_cons_zero, List.getElem?_cons_succ] at a0 a1) | (have G2 := blkNewD hb6; have a0 := G2.cell 0; have a1 := G2.cell 1; have g0 := G2.frozen 0; have g1 := G2.frozen 1; have lG := G2.lt; simp only [List.getElem?_toArray, List.getElem?_cons_zero, List.getElem?_cons_succ] at a0 a1) | skip)))
        all_goals go_wp2_with fail
        all_goals go_meet
        all_goals go_split_ands
        all_goals first | exact ⟨_, rfl, Nat.le_refl _, (G2.set_ 0 _).set_ 1 _, Hid.out (by assumption)⟩ | exact ⟨_, rfl, hb6.size, Blk.new _ _ _, Hid.out (by assumption)⟩
      case rest =>
      obtain ⟨b, rfl, hbz, hG6, hB6⟩ := hcut
      have G6 := Lib.hid hG6
      have B6 := Lib.hid hB6
      have S6 := Lib.hid (S5.out.below hB6)
      have T6 := Lib.hid (HS7.out.below hB6)
      clear hG6 hB6 p0 p1 Z0
      generalize hW6 : wc = W6 at *
      clear hW6
      have p0 : W6.cell? ⟨b, 0, none⟩ = some (.int .i64 (S 0).l) := G6.out.cell 0
      have p1 : W6.cell? ⟨b, 1, none⟩ = some (.int .i64 ((S 0).c + r)) := G6.out.cell 1
      have zba : b < W6.heap.size := G6.out.lt
      go_upto_region 11 with fail
      have Za := Lib.hid (Below.refl W6.heap.size W6)
      go_cut [11, 12] (fun sp sb wx => ∃ g, sp = .pointer (some ⟨g, 0, none⟩) ∧ sb = .bool true ∧ W6.heap.size ≤ g ∧ Blk wx g 39 #[.int .i64 x.l, .int .i64 x.c, .int .i64 x.s, .int .i64 x.fl, .int .i64 x.fc] ∧ Below W6.heap.size W6 wx)
      case first =>
        have keepS : Hid (∀ w', Below W6.heap.size W6 w' → w'.cell? ⟨b, 0, none⟩ = some (.int .i64 (S 0).l) ∧ w'.cell? ⟨b, 1, none⟩ = some (.int .i64 ((S 0).c + r)) ∧ Hid (Below W6.heap.size W6 w')) := Lib.hid fun w' h => ⟨(h.cell (p := ⟨b, 0, none⟩) zba).trans p0, (h.cell (p := ⟨b, 1, none⟩) zba).trans p1, Lib.hid h⟩
        go_region_held3 (fun w' => w'.cell? ⟨b, 0, none⟩ = some (.int .i64 (S 0).l) ∧ w'.cell? ⟨b, 1, none⟩ = some (.int .i64 ((S 0).c + r)) ∧ Hid (Below W6.heap.size W6 w'))
          ((go_split_ands; refine keepS.out _ ?_; repeat (first | (with_reducible exact Hid.out (by assumption)) | (with_reducible refine below_set ?_ (Nat.le_refl _) _) | (with_reducible refine below_set ?_ K1.out _) | (with_reducible refine balloc ?_ _) | (with_reducible refine Below.drew ?_) | (with_reducible refine bthen ?_ hb2) | (with_reducible refine bthen ?_ hb1))))
          (first | (go_at_call 14; go_split_ands; refine (handed_any (.slice (some ⟨R, o, none⟩) (1 + n) cap3) (1 + n) S _ (by omega) (S6.out.below (Hid.out (by assumption)))).mono ?_; rintro e w1 ⟨v1, rfl, ho1, hb1⟩; have K1 : Hid (W6.heap.size ≤ w1.heap.size) := Lib.hid (bthen (Hid.out (by assumption)) hb1).size; (first | (have G := Lib.hid (blkNew hb1)) | (have G := Lib.hid (blkNewD hb1)) | (have G := True.intro))) | (go_at_call 13; refine (implFind_eq v1 (1 + n) m S (S 0).l ((S 0).c + r) x _ (by omega) (by first | exact AtM.of_own ho1 | exact (AtM.of_own ho1).below (balloc (Below.refl _ _) _)) HSM.out HL.out HCO.out HM1.out HF.out HX.out).mono ?_; rintro e w2 ⟨rfl, hb2⟩; (first | (have G2 := G.out.below hb2; have a0 := G2.cell 0; have f0 := G2.frozen 0; have a1 := G2.cell 1; have f1 := G2.frozen 1; have a2 := G2.cell 2; have f2 := G2.frozen 2; have a3 := G2.cell 3; have f3 := G2.frozen 3; have a4 := G2.cell 4; have f4 := G2.frozen 4; have lG := G2.lt; simp only [List.getElem?_toArray, List.getElem?_cons_zero, List.getElem?_cons_succ] at a0 a1 a2 a3 a4) | (have G2 := blkNew hb2; have a0 := G2.cell 0; have f0 := G2.frozen 0; have a1 := G2.cell 1; have f1 := G2.frozen 1; have a2 := G2.cell 2; have f2 := G2.frozen 2; have a3 := G2.cell 3; have f3 := G2.frozen 3; have a4 := G2.cell 4; have f4 := G2.frozen 4; have lG := G2.lt; simp only [List.getElem?_toArray, List.getElem?_cons_zero, List.getElem?_cons_succ] at a0 a1 a2 a3 a4) | (have G2 := blkNewD hb2; have a0 := G2.cell 0; have f0 := G2.frozen 0; have a1 := G2.cell 1; have f1 := G2.frozen 1; have a2 := G2.cell 2; have f2 := G2.frozen 2; have a3 := G2.cell 3; have f3 := G2.frozen 3; have a4 := G2.cell 4; have f4 := G2.frozen 4; have lG := G2.lt; simp only [List.getElem?_toArray, List.getElem?_cons_zero, List.getElem?_cons_succ] at a0 a1 a2 a3 a4) | skip)))
        all_goals go_wp2_with fail
        all_goals go_meet
        all_goals go_split_ands
        all_goals first | exact ⟨_, rfl, rfl, Nat.le_refl _, ((((G2.set_ 0 _).set_ 1 _).set_ 2 _).set_ 3 _).set_ 4 _, Hid.out (by assumption)⟩ | exact ⟨_, rfl, rfl, K1.out, ((((G2.set_ 0 _).set_ 1 _).set_ 2 _).set_ 3 _).set_ 4 _, Hid.out (by assumption)⟩ | exact ⟨_, rfl, rfl, Nat.le_trans K1.out hb2.size, Blk.new _ _ _, Hid.out (by assumption)⟩
      case rest =>
      obtain ⟨g7, rfl, rfl, hgz7, hG7, hB7⟩ := hcut
      have G7 := Lib.hid hG7
      have B7 := Lib.hid hB7
      have T7 := Lib.hid (T6.out.below hB7)
      have G67 := Lib.hid (G6.out.below hB7)
      clear hG7 hB7 p0 p1 Za
      generalize hW7 : wc = W7 at *
      clear hW7
      have p0 : W7.cell? ⟨b, 0, none⟩ = some (.int .i64 (S 0).l) := G67.out.cell 0
      have p1 : W7.cell? ⟨b, 1, none⟩ = some (.int .i64 ((S 0).c + r)) := G67.out.cell 1
      have zbc : b < W7.heap.size := G67.out.lt
      go_upto_region 12 with fail
      have Zc := Lib.hid (Below.refl W7.heap.size W7)
      go_cut [13, 14] (fun sp sb wx => ∃ g, sp = .pointer (some ⟨g, 0, none⟩) ∧ sb = .bool true ∧ W7.heap.size ≤ g ∧ Blk wx g 39 #[.int .i64 x.l, .int .i64 x.c, .int .i64 x.s, .int .i64 x.fl, .int .i64 x.fc] ∧ Below W7.heap.size W7 wx)
      case first =>
        have keepS : Hid (∀ w', Below W7.heap.size W7 w' → w'.cell? ⟨b, 0, none⟩ = some (.int .i64 (S 0).l) ∧ w'.cell? ⟨b, 1, none⟩ = some (.int .i64 ((S 0).c + r)) ∧ Hid (Below W7.heap.size W7 w')) := Lib.hid fun w' h => ⟨(h.cell (p := ⟨b, 0, none⟩) zbc).trans p0, (h.cell (p := ⟨b, 1, none⟩) zbc).trans p1, Lib.hid h⟩
        go_region_held3 (fun w' => w'.cell? ⟨b, 0, none⟩ = some (.int .i64 (S 0).l) ∧ w'.cell? ⟨b, 1, none⟩ = some (.int .i64 ((S 0).c + r)) ∧ Hid (Below W7.heap.size W7 w'))
          ((go_split_ands; refine keepS.out _ ?_; repeat (first | (with_reducible exact Hid.out (by assumption)) | (with_reducible refine below_set ?_ (Nat.le_refl _) _) | (with_reducible refine below_set ?_ K1.out _) | (with_reducible refine balloc ?_ _) | (with_reducible refine Below.drew ?_) | (with_reducible refine bthen ?_ hb2) | (with_reducible refine bthen ?_ hb1))))
          (first | (go_at_call 14; go_split_ands; refine (handed_any (.slice A7 K cap7) K S _ (by omega) (T7.out.below (Hid.out (by assumption)))).mono ?_; rintro e w1 ⟨v1, rfl, ho1, hb1⟩; have K1 : Hid (W7.heap.size ≤ w1.heap.size) := Lib.hid (bthen (Hid.out (by assumption)) hb1).size; (first | (have G := Lib.hid (blkNew hb1)) | (have G := Lib.hid (blkNewD hb1)) | (have G := True.intro))) | (go_at_call 13; refine (implFind_eq v1 K m S (S 0).l ((S 0).c + r) x _ (by omega) (by first | exact AtM.of_own ho1 | exact (AtM.of_own ho1).below (balloc (Below.refl _ _) _)) HSK.out HL.out HCO.out HM2.out HF.out HX.out).mono ?_; rintro e w2 ⟨rfl, hb2⟩; (first | (have G2 := G.out.below hb2; have a0 := G2.cell 0; have f0 := G2.frozen 0; have a1 := G2.cell 1; have f1 := G2.frozen 1; have a2 := G2.cell 2; have f2 := G2.frozen 2; have a3 := G2.cell 3; have f3 := G2.frozen 3; have a4 := G2.cell 4; have f4 := G2.frozen 4; have lG := G2.lt; simp only [List.getElem?_toArray, List.getElem?_cons_zero, List.getElem?_cons_succ] at a0 a1 a2 a3 a4) | (have G2 := blkNew hb2; have a0 := G2.cell 0; have f0 := G2.frozen 0; have a1 := G2.cell 1; have f1 := G2.frozen 1; have a2 := G2.cell 2; have f2 := G2.frozen 2; have a3 := G2.cell 3; have f3 := G2.frozen 3; have a4 := G2.cell 4; have f4 := G2.frozen 4; have lG := G2.lt; simp only [List.getElem?_toArray, List.getElem?_cons_zero, List.getElem?_cons_succ] at a0 a1 a2 a3 a4) | (have G2 := blkNewD hb2; have a0 := G2.cell 0; have f0 := G2.frozen 0; have a1 := G2.cell 1; have f1 := G2.frozen 1; have a2 := G2.cell 2; have f2 := G2.frozen 2; have a3 := G2.cell 3; have f3 := G2.frozen 3; have a4 := G2.cell 4; have f4 := G2.frozen 4; have lG := G2.lt; simp only [List.getElem?_toArray, List.getElem?_cons_zero, List.getElem?_cons_succ] at a0 a1 a2 a3 a4) | skip)))
        all_goals go_wp2_with fail
        all_goals go_meet
        all_goals go_split_ands
        all_goals first | exact ⟨_, rfl, rfl, Nat.le_refl _, ((((G2.set_ 0 _).set_ 1 _).set_ 2 _).set_ 3 _).set_ 4 _, Hid.out (by assumption)⟩ | exact ⟨_, rfl, rfl, K1.out, ((((G2.set_ 0 _).set_ 1 _).set_ 2 _).set_ 3 _).set_ 4 _, Hid.out (by assumption)⟩ | exact ⟨_, rfl, rfl, Nat.le_trans K1.out hb2.size, Blk.new _ _ _, Hid.out (by assumption)⟩
      case rest =>
      obtain ⟨g8, rfl, rfl, hgz8, hG8, hB8⟩ := hcut
      have G78 := G7.out.below hB8
      have a0 := G78.cell 0
      have a1 := G78.cell 1
      have a2 := G78.cell 2
      have a3 := G78.cell 3
      have a4 := G78.cell 4
      have d0 := hG8.cell 0
      have d1 := hG8.cell 1
      have d2 := hG8.cell 2
      have d3 := hG8.cell 3
      have d4 := hG8.cell 4
      simp only [List.getElem?_toArray, List.getElem?_cons_zero, List.getElem?_cons_succ] at a0 a1 a2 a3 a4 d0 d1 d2 d3 d4
      have B8 := Lib.hid (bthen B3.out (bthen B5.out (bthen B6.out (bthen B7.out hB8))))
      clear hG8 hB8 G78 p0 p1 Zc
      go_wp2_with fail
      go_ret
      exact ⟨by simp, B8.out⟩

theorem fnFindMore_own : ownKnob Try.prog.godebug = none := by kernel_rfl

set_option maxRecDepth 100000 in
theorem fnFindMore_lifted (os : Os) (started : os.Started) (H : Type) (enc : TypeId × Value → H) (F : Stop.Interp) :
    ReturnsInHanded {} Try.checked os 6 .any ((Rows.OpenSpec.upto Rows.fnFindMoreSpec).pre6 enc Try.prog Try.f6 Rows.fnFindMoreUptoRow.domain false) (((Rows.OpenSpec.upto Rows.fnFindMoreSpec).at F).post enc Try.prog Try.f6 false true false false) := by
  refine returnsInHanded_of_cond (C := Try.checked) (s := Rows.OpenSpec.upto Rows.fnFindMoreSpec) (k := Rows.uptoSmall) rfl fnFindMore_own started (by kernel_rfl) Try.func6
    (OpenSpec.witness (enc := enc) (C := Try.checked) (s := Rows.OpenSpec.upto Rows.fnFindMoreSpec) (k := Rows.uptoSmall) rfl false ⟨#[], #[.slice none 0 0, .int .i64 0], []⟩ 8 (by kernel_rfl) (by kernel_rfl) (by kernel_rfl)
      (x := ([.nil, .lit (.int .i64 0)], [], [])) (by kernel_rfl) rfl (by kernel_rfl)) ?_
  intro W base args ds gs before hval0 hW _ hk _
  have hval : ∀ (j : Nat) t v, Try.f6.params[j]? = some t → args[j]? = some v → Value.okWide Try.prog W .any base t v := hval0
  have hW' := hW
  obtain ⟨p, q, hA0, hV, rfl, hfz, hnd⟩ := hW
  have hA : DataW.TrodAll enc Try.prog W 0 (fun _ => true) true Try.f6.params.toList args.toList ds p := hA0
  rw [Try.params6] at hA hval
  obtain ⟨v0, vs0, d0, ds0, p0, q0, hargs, rfl, rfl, h0, r0⟩ := trodAll_cons hA
  obtain ⟨v1, vs1, d1, ds1, p1, q1, rfl, rfl, rfl, h1, r1⟩ := trodAll_cons r0
  obtain ⟨rfl, rfl, rfl⟩ := trodAll_nil r1
  obtain rfl : args = #[v0, v1] := by cases args; simp_all
  obtain ⟨a0, n0, c0, z0, rfl, k0, b0, e0⟩ := open_rows5 Try.underlying22 Try.underlying34 Try.underlying3 (by kernel_rfl) (by kernel_rfl) (hval 0 22 v0 rfl rfl) h0
  obtain ⟨a1, rfl, rfl, rfl, w1⟩ := open_int Try.underlying3 (hval 1 3 v1 rfl rfl) h1
  have hbk : Rows.uptoBulkAll _ ≤ 1048576 := of_decide_eq_true hk
  simp only [List.cons_append, Rows.uptoBulkAll] at hbk
  refine (fnFindMore_walk a0 n0 c0 z0 a1 W e0 k0 (by omega) w1).mono fun e W' ⟨he, hb⟩ => ⟨_, he, ?_⟩
  exact law_post (s := Rows.fnFindMoreSpec) (f := Try.f6) (tb := 4) (by kernel_rfl) (by kernel_rfl) (by kernel_rfl) Try.underlying4 rfl (fun ds h => by rw [Try.params6] at h; match ds, h with | [_, _], _ => rfl) hW' hb

theorem fnFindMore_upto : Rows.FnFindMoreUptoSaid :=
  OpenClaim.holds_of_cond 6 Try.f6 rfl rfl rfl rfl rfl rfl rfl ⟨rfl, rfl, rfl, rfl, rfl⟩ rfl rfl rfl rfl rfl (by kernel_rfl) Try.func6 (by kernel_rfl)
    (of_decide_eq_true (by kernel_rfl)) (by unfold Func.isWrapper; first | (rw [if_pos (by decide +kernel)]; kernel_rfl) | (rw [if_neg (by decide +kernel)]; exact ⟨rfl, rfl⟩))
    (fun os started H enc _ F => fnFindMore_lifted os started H enc F)
#print axioms fnFindMore_upto
end Go.Proofs.Ytmncaibhdpcblaa

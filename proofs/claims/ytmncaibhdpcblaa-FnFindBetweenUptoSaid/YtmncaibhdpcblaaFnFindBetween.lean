/-
  laws.FnFindBetween returns true for every input of bulk at most 1048576: ahead of the next mapping the same is found, and ahead of the first one of a line none. Conditions: none besides.
-/
import Derived.Test.YtmncaibhdpcblaaFindLaw
import Derived.Test.YtmncaibhdpcblaaLawKit
import Derived.JoinedCond
namespace Go.Proofs.Ytmncaibhdpcblaa
open Go.RowKit Go.ChangeShapes Go.WideShapes Go.ChangeAt

def rowB : Nat → Int
  | 1 => 5
  | _ => 1

set_option maxHeartbeats 4000000 in
set_option maxRecDepth 100000 in
theorem fnFindBetween_walk (A : Option Addr) (n cap : Nat) (Z : Nat → Nat → Int) (w : World) (hA : A = none → n = 0 ∧ cap = 0) (h5 : At5 w A n Z) (hn : n ≤ 1048576) :
    Calls Try.prog 4 #[.slice A n cap] w fun e w' => e = .returned (.bool true) ∧ Below w.heap.size w w' := by
  have HA := Lib.hid hA
  have H5 := Lib.hid h5
  clear hA h5
  go_enter Try.func4, Try.ntmps4
  go_wp2_with (at_builtin; refine wpList_cons5 rfl (.tmp 9) (.tmp 10) rfl w.heap.size n cap A (rowB) Z rfl (Blk.new w _ _) rfl HA.out (H5.out.below (balloc (Below.refl _ _) _)) hn ?_; intro A2 cap2 w2 h52 hb2; have H52 := Lib.hid h52; have B2 := Lib.hid ((balloc (Below.refl w.heap.size w) _).trans hb2); clear h52 hb2)
  refine (ris_any A2 (1 + n) cap2 (consZ (rowB) Z) w2 (by omega) H52.out).mono ?_
  rintro e w3 ⟨v3, rfl, ho3, hb3⟩
  have hs3 : AtS w3 v3 (1 + n) (segOf (consZ (rowB) Z)) := AtS.of_own ho3 (risL_len _ _) (fun i hi => risL_at _ _ i hi)
  have B3 := Lib.hid (bthen B2.out hb3)
  generalize hS : segOf (consZ (rowB) Z) = S at *
  have hR : Rise S (1 + n) := hS ▸ rise_ris _ _
  have hSm : ∀ i, i < 1 + n → (S i).small := fun i hi => by rw [← hS]; exact seg_small _ i (by omega)
  have hLN : ∀ k : Nat, (S k).l ≤ 2 * (1 + (k : Int)) := fun k => by rw [← hS]; have := at_bd (consZ rowB Z) (k + 1); simp only [segOf]; omega
  have hCN : ∀ k : Nat, (S k).c ≤ 999 * (1 + (k : Int)) := fun k => by rw [← hS]; have := at_bd (consZ rowB Z) (k + 1); simp only [segOf]; omega
  have HLN := Lib.hid hLN
  have HCN := Lib.hid hCN
  have HR := Lib.hid hR
  have HSM := Lib.hid hSm
  have HS3 := Lib.hid hs3
  obtain ⟨A3, cap3, rfl, hc3⟩ := hs3
  have HC3 := Lib.hid hc3
  clear ho3 hb3 hS hR hSm hc3 hLN hCN
  go_wp2_with fail
  go_loopg [15] (1 + n) (fun f s15 wr => ∃ (i : Nat), i + f = 1 + n ∧ s15 = .int .i64 (i : Int) ∧ Below w3.heap.size w3 wr)
  case atStart => exact ⟨0, by omega, rfl, Below.refl _ _⟩
  case round =>
    obtain ⟨i, hi, rfl, hbw⟩ := hrel
    by_cases hlt : i < 1 + n
    · obtain ⟨R, o, rfl, hcl⟩ := HC3.out (by omega)
      obtain ⟨f, rfl⟩ : ∃ f, gk = f + 1 := ⟨gk - 1, by omega⟩
      have hR : R < w3.heap.size := cell_lt' (p := ⟨R, o + i * 7 + 0, none⟩) (v := .int .i64 (S i).l) (hcl i 0 hlt (by omega))
      have hcr : ∀ j, j < 7 → wr.cell? ⟨R, o + i * 7 + j, none⟩ = (S i).cells[j]? := fun j hj => (hbw.cell (p := ⟨R, _, none⟩) hR).trans (hcl i j hlt hj)
      have c0 := hcr 0 (by omega)
      have c1 := hcr 1 (by omega)
      have c2 := hcr 2 (by omega)
      have c3 := hcr 3 (by omega)
      have c4 := hcr 4 (by omega)
      have c5 := hcr 5 (by omega)
      have c6 := hcr 6 (by omega)
      simp only [Nat.add_zero, Seg.cells, List.getElem?_cons_zero, List.getElem?_cons_succ] at c0 c1 c2 c3 c4 c5 c6
      have HB := Lib.hid hbw
      have hsm := HSM.out i hlt
      unfold Seg.small at hsm
      have HSP := Lib.hid (split_ahead HR.out hlt)
      by_cases hneg : (S i).c = 0
      · clear hcr hcl hbw
        generalize (S i).l = x0 at *
        generalize (S i).c = x1 at *
        subst hneg
        go_wp2_with fail
        go_roundg f
        case measure => omega
        case rel => exact ⟨i + 1, by omega, by go_num, balloc (balloc HB.out _) _⟩
      · have hpos : 0 ≤ (S i).c - 1 := by omega
        by_cases hpr : 0 < i ∧ (S (i - 1)).l = (S i).l
        · obtain ⟨hi0, hll⟩ := hpr
          have hdr : ∀ j, j < 7 → wr.cell? ⟨R, o + (i - 1) * 7 + j, none⟩ = (S (i - 1)).cells[j]? := fun j hj => (hbw.cell (p := ⟨R, _, none⟩) hR).trans (hcl (i - 1) j (by omega) hj)
          have d0 := hdr 0 (by omega)
          have d1 := hdr 1 (by omega)
          have d2 := hdr 2 (by omega)
          have d3 := hdr 3 (by omega)
          have d4 := hdr 4 (by omega)
          have d5 := hdr 5 (by omega)
          have d6 := hdr 6 (by omega)
          simp only [Nat.add_zero, Seg.cells, List.getElem?_cons_zero, List.getElem?_cons_succ] at d0 d1 d2 d3 d4 d5 d6
          have hfd : Hid (foundB S (S i).l i = true) := Lib.hid (by unfold foundB; exact decide_eq_true ⟨hi0, hll⟩)
          rw [hll] at d0
          clear hcr hcl hbw
          have hRr : R < wr.heap.size := cell_lt' d0
          go_upto_region 7 with fail
          have K2 := Lib.hid (balloc (balloc (Below.refl wr.heap.size wr) (.cells #[.int .i64 (S i).l, .int .i64 (S i).c, .int .i64 (S i).s, .int .i64 (S i).fl, .int .i64 (S i).fc, .int .i64 (S i).nm, .bool (S i).nd] 30)) (.cells #[.int .i64 (S i).l, .int .i64 ((S i).c - 1)] 28))
          have P2 : Hid (Blk ((wr.alloc (.cells #[.int .i64 (S i).l, .int .i64 (S i).c, .int .i64 (S i).s, .int .i64 (S i).fl, .int .i64 (S i).fc, .int .i64 (S i).nm, .bool (S i).nd] 30)).alloc (.cells #[.int .i64 (S i).l, .int .i64 ((S i).c - 1)] 28)) (wr.heap.size + 1) 28 #[.int .i64 (S i).l, .int .i64 ((S i).c - 1)]) := Lib.hid (heap_new2 _ _ _)
          generalize (wr.alloc (.cells #[.int .i64 (S i).l, .int .i64 (S i).c, .int .i64 (S i).s, .int .i64 (S i).fl, .int .i64 (S i).fc, .int .i64 (S i).nm, .bool (S i).nd] 30)).alloc (.cells #[.int .i64 (S i).l, .int .i64 ((S i).c - 1)] 28) = W2 at *
          have g0 : W2.cell? ⟨wr.heap.size + 1, 0, none⟩ = some (.int .i64 (S i).l) := P2.out.cell 0
          have g1 : W2.cell? ⟨wr.heap.size + 1, 1, none⟩ = some (.int .i64 ((S i).c - 1)) := P2.out.cell 1
          have k0 := (K2.out.cell (p := ⟨R, o + (i - 1) * 7, none⟩) hRr).trans d0
          have k1 := (K2.out.cell (p := ⟨R, o + (i - 1) * 7 + 1, none⟩) hRr).trans d1
          have k2 := (K2.out.cell (p := ⟨R, o + (i - 1) * 7 + 2, none⟩) hRr).trans d2
          have k3 := (K2.out.cell (p := ⟨R, o + (i - 1) * 7 + 3, none⟩) hRr).trans d3
          have k4 := (K2.out.cell (p := ⟨R, o + (i - 1) * 7 + 4, none⟩) hRr).trans d4
          have k5 := (K2.out.cell (p := ⟨R, o + (i - 1) * 7 + 5, none⟩) hRr).trans d5
          have k6 := (K2.out.cell (p := ⟨R, o + (i - 1) * 7 + 6, none⟩) hRr).trans d6
          have B2r := Lib.hid (bthen HB.out K2.out)
          have i1 : (0 : Int) ≤ (i : Int) - 1 := by omega
          have i2 : (i : Int) - 1 < ((1 + n : Nat) : Int) := by omega
          clear d0 d1 d2 d3 d4 d5 d6 c0 c1 c2 c3 c4 c5 c6 hdr
          go_wp2_with fail
          go_quiet (fail)
          go_wp2_with fail
          have FF : (W2.drewN nq).cell? ⟨wr.heap.size + 1, 0, none⟩ = some (.int .i64 (S i).l) ∧ (W2.drewN nq).cell? ⟨wr.heap.size + 1, 1, none⟩ = some (.int .i64 ((S i).c - 1)) ∧ (W2.drewN nq).cell? ⟨R, o + (i - 1) * 7, none⟩ = some (.int .i64 (S i).l) ∧ (W2.drewN nq).cell? ⟨R, o + (i - 1) * 7 + 1, none⟩ = some (.int .i64 (S (i - 1)).c) ∧ (W2.drewN nq).cell? ⟨R, o + (i - 1) * 7 + 2, none⟩ = some (.int .i64 (S (i - 1)).s) ∧ (W2.drewN nq).cell? ⟨R, o + (i - 1) * 7 + 3, none⟩ = some (.int .i64 (S (i - 1)).fl) ∧ (W2.drewN nq).cell? ⟨R, o + (i - 1) * 7 + 4, none⟩ = some (.int .i64 (S (i - 1)).fc) ∧ (W2.drewN nq).cell? ⟨R, o + (i - 1) * 7 + 5, none⟩ = some (.int .i64 (S (i - 1)).nm) ∧ (W2.drewN nq).cell? ⟨R, o + (i - 1) * 7 + 6, none⟩ = some (.bool (S (i - 1)).nd) := ⟨g0, g1, k0, k1, k2, k3, k4, k5, k6⟩
          have B3q := Lib.hid (below_drewN B2r.out nq)
          generalize W2.drewN nq = W3 at *
          clear g0 g1 k0 k1 k2 k3 k4 k5 k6
          obtain ⟨g0, g1, k0, k1, k2, k3, k4, k5, k6⟩ := FF
          have wr1 : IntKind.i64.wrap ((i : Int) - 1) = (i : Int) - 1 := IntWalk.i64_in _ (by omega)
          have i3 : (i : Int) - 1 < 1 + (n : Int) := by omega
          have i4 : (1 : Int) ≤ (i : Int) := by omega
          have i5 : 1 ≤ i := by omega
          have tn1 : ((i : Int) - 1).toNat = i - 1 := by omega
          have zR : R < W3.heap.size := cell_lt' k0
          have zP : wr.heap.size + 1 < W3.heap.size := cell_lt' g0
          have hx5 : Hid ((S (i - 1)).c5 = Seg.c5 ⟨(S i).l, (S (i - 1)).c, (S (i - 1)).s, (S (i - 1)).fl, (S (i - 1)).fc, (S (i - 1)).nm, (S (i - 1)).nd⟩) := Lib.hid (by unfold Seg.c5; rw [hll])
          have hl1 : Hid (0 ≤ (S i).l ∧ (S i).l ≤ 2147483647) := Lib.hid hsm.1
          have hc1 : Hid (0 ≤ (S i).c - 1 ∧ (S i).c - 1 ≤ 2147483647) := Lib.hid (by omega)
          clear hll hsm
          go_region_held3 (fun w' => w'.cell? ⟨wr.heap.size + 1, 0, none⟩ = some (.int .i64 (S i).l) ∧ w'.cell? ⟨wr.heap.size + 1, 1, none⟩ = some (.int .i64 ((S i).c - 1)) ∧ w'.cell? ⟨R, o + (i - 1) * 7, none⟩ = some (.int .i64 (S i).l) ∧ w'.cell? ⟨R, o + (i - 1) * 7 + 1, none⟩ = some (.int .i64 (S (i - 1)).c) ∧ w'.cell? ⟨R, o + (i - 1) * 7 + 2, none⟩ = some (.int .i64 (S (i - 1)).s) ∧ w'.cell? ⟨R, o + (i - 1) * 7 + 3, none⟩ = some (.int .i64 (S (i - 1)).fl) ∧ w'.cell? ⟨R, o + (i - 1) * 7 + 4, none⟩ = some (.int .i64 (S (i - 1)).fc) ∧ w'.cell? ⟨R, o + (i - 1) * 7 + 5, none⟩ = some (.int .i64 (S (i - 1)).nm) ∧ w'.cell? ⟨R, o + (i - 1) * 7 + 6, none⟩ = some (.bool (S (i - 1)).nd) ∧ Hid (Below w3.heap.size w3 w'))
            ((go_split_ands; refine ⟨?_, ?_, ?_, ?_, ?_, ?_, ?_, ?_, ?_, ?_⟩ <;> first | (go_keep; done) | (rw [hb4.cell (by simp; omega)]; assumption) | (exact Lib.hid (Below.drew (Hid.out (by assumption)))) | (exact Lib.hid (bthen (Hid.out (by assumption)) hb4))))
            (first | (go_at_call 12; go_split_ands; refine (finds_yes _ (1 + n) i S (S i).l ((S i).c - 1) ⟨(S i).l, (S (i - 1)).c, (S (i - 1)).s, (S (i - 1)).fl, (S (i - 1)).fc, (S (i - 1)).nm, (S (i - 1)).nd⟩ _ (by omega) (HS3.out.below (Hid.out (by assumption))) HSM.out hl1.out hc1.out HSP.out hfd.out hx5.out).mono ?_; rintro e w4 ⟨rfl, hb4⟩))
          go_split_ands
          have B4 : Hid (Below w3.heap.size w3 w4) := by assumption
          clear hb4 wr1 i3 tn1
          go_wp2_with fail
          go_roundg f
          case measure => omega
          case rel => exact ⟨i + 1, by omega, by go_num, B4.out⟩
        · have hfd : Hid (foundB S (S i).l i = false) := Lib.hid (by unfold foundB; exact decide_eq_false hpr)
          have hd0 : 0 < i → wr.cell? ⟨R, o + (i - 1) * 7, none⟩ = some (.int .i64 (S (i - 1)).l) := fun q => (hbw.cell (p := ⟨R, _, none⟩) hR).trans (hcl (i - 1) 0 (by omega) (by omega))
          have hRr : R < wr.heap.size := cell_lt' c0
          clear hcr hcl hbw
          go_upto_region 7 with fail
          have K2 := Lib.hid (balloc (balloc (Below.refl wr.heap.size wr) (.cells #[.int .i64 (S i).l, .int .i64 (S i).c, .int .i64 (S i).s, .int .i64 (S i).fl, .int .i64 (S i).fc, .int .i64 (S i).nm, .bool (S i).nd] 30)) (.cells #[.int .i64 (S i).l, .int .i64 ((S i).c - 1)] 28))
          have P2 : Hid (Blk ((wr.alloc (.cells #[.int .i64 (S i).l, .int .i64 (S i).c, .int .i64 (S i).s, .int .i64 (S i).fl, .int .i64 (S i).fc, .int .i64 (S i).nm, .bool (S i).nd] 30)).alloc (.cells #[.int .i64 (S i).l, .int .i64 ((S i).c - 1)] 28)) (wr.heap.size + 1) 28 #[.int .i64 (S i).l, .int .i64 ((S i).c - 1)]) := Lib.hid (heap_new2 _ _ _)
          generalize (wr.alloc (.cells #[.int .i64 (S i).l, .int .i64 (S i).c, .int .i64 (S i).s, .int .i64 (S i).fl, .int .i64 (S i).fc, .int .i64 (S i).nm, .bool (S i).nd] 30)).alloc (.cells #[.int .i64 (S i).l, .int .i64 ((S i).c - 1)] 28) = W2 at *
          have g0 : W2.cell? ⟨wr.heap.size + 1, 0, none⟩ = some (.int .i64 (S i).l) := P2.out.cell 0
          have g1 : W2.cell? ⟨wr.heap.size + 1, 1, none⟩ = some (.int .i64 ((S i).c - 1)) := P2.out.cell 1
          have B2r := Lib.hid (bthen HB.out K2.out)
          clear c0 c1 c2 c3 c4 c5 c6
          by_cases hi0 : 0 < i
          · have k0 := (K2.out.cell (p := ⟨R, o + (i - 1) * 7, none⟩) hRr).trans (hd0 hi0)
            have hne : ((S (i - 1)).l == (S i).l) = false := by
              have : ¬ (S (i - 1)).l = (S i).l := fun q => hpr ⟨hi0, q⟩
              simp; omega
            have i1 : (0 : Int) ≤ (i : Int) - 1 := by omega
            have i2 : (i : Int) - 1 < ((1 + n : Nat) : Int) := by omega
            clear hpr hd0
            go_wp2_with fail
            go_quiet (fail)
            go_wp2_with fail
            refine (finds_no _ (1 + n) i S (S i).l ((S i).c - 1) seg0 _ (by omega) (HS3.out.below (below_drewN B2r.out nq)) HSM.out (by omega) (by omega) HSP.out hfd.out).mono ?_
            rintro e w4 ⟨rfl, hb4⟩
            have B4 := Lib.hid (bthen (below_drewN B2r.out nq) hb4)
            clear hb4
            go_wp2_with fail
            go_roundg f
            case measure => omega
            case rel => exact ⟨i + 1, by omega, by go_num, B4.out⟩
          · obtain rfl : i = 0 := by omega
            clear hpr hd0
            go_wp2_with fail
            go_quiet (fail)
            go_wp2_with fail
            refine (finds_no _ (1 + n) 0 S (S 0).l ((S 0).c - 1) seg0 _ (by omega) (HS3.out.below (below_drewN B2r.out nq)) HSM.out (by omega) (by omega) HSP.out hfd.out).mono ?_
            rintro e w4 ⟨rfl, hb4⟩
            have B4 := Lib.hid (bthen (below_drewN B2r.out nq) hb4)
            clear hb4
            go_wp2_with fail
            go_roundg f
            case measure => omega
            case rel => exact ⟨0 + 1, by omega, by go_num, B4.out⟩
    · have HB := Lib.hid (bthen B3.out hbw)
      obtain rfl : i = 1 + n := by omega
      obtain ⟨R, o, rfl, hcl⟩ := HC3.out (by omega)
      have hR : R < w3.heap.size := cell_lt' (p := ⟨R, o + n * 7 + 0, none⟩) (v := .int .i64 (S n).l) (hcl n 0 (by omega) (by omega))
      have hcr : ∀ j, j < 7 → wr.cell? ⟨R, o + n * 7 + j, none⟩ = (S n).cells[j]? := fun j hj => (hbw.cell (p := ⟨R, _, none⟩) hR).trans (hcl n j (by omega) hj)
      have c0 := hcr 0 (by omega)
      have c1 := hcr 1 (by omega)
      have c2 := hcr 2 (by omega)
      have c3 := hcr 3 (by omega)
      have c4 := hcr 4 (by omega)
      have c5 := hcr 5 (by omega)
      have c6 := hcr 6 (by omega)
      simp only [Nat.add_zero, Seg.cells, List.getElem?_cons_zero, List.getElem?_cons_succ] at c0 c1 c2 c3 c4 c5 c6
      have hsm := HSM.out n (by omega)
      unfold Seg.small at hsm
      have HBW := Lib.hid hbw
      clear hcr hcl hbw
      have en : 1 + n - 1 = n := by omega
      have HSP1 : Hid (Split S (1 + n) (S n).l ((S n).c + 1000) (1 + n)) := Lib.hid (split_last HR.out (by omega) (by rw [en]; unfold Seg.upto; omega))
      have HSP2 : Hid (Split S (1 + n) ((S n).l + 1) 0 (1 + n)) := Lib.hid (split_last HR.out (by omega) (by rw [en]; unfold Seg.upto; omega))
      have hf1 : Hid (foundB S (S n).l (1 + n) = true) := Lib.hid (by unfold foundB; rw [en]; exact decide_eq_true ⟨by omega, rfl⟩)
      have hf2 : Hid (foundB S ((S n).l + 1) (1 + n) = false) := Lib.hid (by unfold foundB; rw [en]; exact decide_eq_false (fun q => by omega))
      have hy1 : Hid ((S (1 + n - 1)).c5 = (S n).c5) := Lib.hid (by rw [en])
      have hatn : Hid ((S n).c ≤ 999 * (1 + (n : Int))) := Lib.hid (HCN.out n)
      have hl1 : Hid (0 ≤ (S n).l ∧ (S n).l ≤ 2147483647) := Lib.hid hsm.1
      have hl2 : Hid (0 ≤ (S n).l + 1 ∧ (S n).l + 1 ≤ 2147483647) := Lib.hid (by have := HLN.out n; omega)
      have hc1 : Hid (0 ≤ (S n).c + 1000 ∧ (S n).c + 1000 ≤ 2147483647) := Lib.hid (by have := hatn.out; omega)
      have hsl : 0 ≤ (S n).l ∧ (S n).l ≤ 2147483647 := hsm.1
      have hsc : 0 ≤ (S n).c ∧ (S n).c ≤ 2147483647 := hsm.2.1
      clear en hsm
      go_upto_region 14 with fail
      have K5 := Lib.hid (balloc HBW.out (.cells #[.int .i64 (S n).l, .int .i64 (S n).c, .int .i64 (S n).s, .int .i64 (S n).fl, .int .i64 (S n).fc, .int .i64 (S n).nm, .bool (S n).nd] 30))
      have X5 := Lib.hid (Blk.new wr 30 #[.int .i64 (S n).l, .int .i64 (S n).c, .int .i64 (S n).s, .int .i64 (S n).fl, .int .i64 (S n).fc, .int .i64 (S n).nm, .bool (S n).nd])
      generalize wr.alloc (.cells #[.int .i64 (S n).l, .int .i64 (S n).c, .int .i64 (S n).s, .int .i64 (S n).fl, .int .i64 (S n).fc, .int .i64 (S n).nm, .bool (S n).nd] 30) = W5 at *
      have z5 : wr.heap.size < W5.heap.size := X5.out.lt
      have x0 : W5.cell? ⟨wr.heap.size, 0, none⟩ = some (.int .i64 (S n).l) := X5.out.cell 0
      have x1 : W5.cell? ⟨wr.heap.size, 1, none⟩ = some (.int .i64 (S n).c) := X5.out.cell 1
      have x2 : W5.cell? ⟨wr.heap.size, 2, none⟩ = some (.int .i64 (S n).s) := X5.out.cell 2
      have x3 : W5.cell? ⟨wr.heap.size, 3, none⟩ = some (.int .i64 (S n).fl) := X5.out.cell 3
      have x4 : W5.cell? ⟨wr.heap.size, 4, none⟩ = some (.int .i64 (S n).fc) := X5.out.cell 4
      have x5 : W5.cell? ⟨wr.heap.size, 5, none⟩ = some (.int .i64 (S n).nm) := X5.out.cell 5
      have x6 : W5.cell? ⟨wr.heap.size, 6, none⟩ = some (.bool (S n).nd) := X5.out.cell 6
      have R5 := Lib.hid (Below.refl W5.heap.size W5)
      have keepV : Hid (∀ w', Below W5.heap.size W5 w' → w'.cell? ⟨wr.heap.size, 0, none⟩ = some (.int .i64 (S n).l) ∧ w'.cell? ⟨wr.heap.size, 1, none⟩ = some (.int .i64 (S n).c) ∧ w'.cell? ⟨wr.heap.size, 2, none⟩ = some (.int .i64 (S n).s) ∧ w'.cell? ⟨wr.heap.size, 3, none⟩ = some (.int .i64 (S n).fl) ∧ w'.cell? ⟨wr.heap.size, 4, none⟩ = some (.int .i64 (S n).fc) ∧ w'.cell? ⟨wr.heap.size, 5, none⟩ = some (.int .i64 (S n).nm) ∧ w'.cell? ⟨wr.heap.size, 6, none⟩ = some (.bool (S n).nd) ∧ Hid (Below W5.heap.size W5 w')) := Lib.hid fun w' h => ⟨(h.cell (p := ⟨wr.heap.size, 0, none⟩) z5).trans x0, (h.cell (p := ⟨wr.heap.size, 1, none⟩) z5).trans x1, (h.cell (p := ⟨wr.heap.size, 2, none⟩) z5).trans x2, (h.cell (p := ⟨wr.heap.size, 3, none⟩) z5).trans x3, (h.cell (p := ⟨wr.heap.size, 4, none⟩) z5).trans x4, (h.cell (p := ⟨wr.heap.size, 5, none⟩) z5).trans x5, (h.cell (p := ⟨wr.heap.size, 6, none⟩) z5).trans x6, Lib.hid h⟩
      clear c0 c1 c2 c3 c4 c5 c6
      have cY : Hid (∀ W, Below W5.heap.size W5 W → Calls Try.prog 12 #[.slice (some ⟨R, o, none⟩) (1 + n) cap3, .agg #[.int .i64 (S n).l, .int .i64 ((S n).c + 1000)], .agg #[.int .i64 (S n).l, .int .i64 (S n).c, .int .i64 (S n).s, .int .i64 (S n).fl, .int .i64 (S n).fc, .int .i64 (S n).nm, .bool (S n).nd], .bool true] W fun e w' => e = .returned (.bool true) ∧ Below W.heap.size W w') := Lib.hid fun W h => finds_yes _ (1 + n) (1 + n) S (S n).l ((S n).c + 1000) (S n) W (by omega) (HS3.out.below (bthen K5.out h)) HSM.out hl1.out hc1.out HSP1.out hf1.out hy1.out
      have cN : Hid (∀ W, Below W5.heap.size W5 W → Calls Try.prog 12 #[.slice (some ⟨R, o, none⟩) (1 + n) cap3, .agg #[.int .i64 ((S n).l + 1), .int .i64 0], .agg #[.int .i64 (S n).l, .int .i64 (S n).c, .int .i64 (S n).s, .int .i64 (S n).fl, .int .i64 (S n).fc, .int .i64 (S n).nm, .bool (S n).nd], .bool false] W fun e w' => e = .returned (.bool true) ∧ Below W.heap.size W w') := Lib.hid fun W h => finds_no _ (1 + n) (1 + n) S ((S n).l + 1) 0 (S n) W (by omega) (HS3.out.below (bthen K5.out h)) HSM.out hl2.out (by omega) HSP2.out hf2.out
      have cP : Hid (∀ W, Calls Try.prog 10 #[.agg #[.int .i64 (S n).l, .int .i64 (S n).c], .agg #[.int .i64 0, .int .i64 1000]] W fun e w' => e = .returned (.agg #[.int .i64 (S n).l, .int .i64 ((S n).c + 1000)]) ∧ Below W.heap.size W w') := Lib.hid fun W => plus_col _ _ _ W (by omega) (by omega) (by omega) (by omega) (by omega) (by omega)
      have cQ : Hid (∀ W, Calls Try.prog 10 #[.agg #[.int .i64 (S n).l, .int .i64 (S n).c], .agg #[.int .i64 1, .int .i64 0]] W fun e w' => e = .returned (.agg #[.int .i64 ((S n).l + 1), .int .i64 0]) ∧ Below W.heap.size W w') := Lib.hid fun W => plus_line _ _ W (by omega) (by omega) (by omega) (by omega)
      go_region_held3 (fun w' => w'.cell? ⟨wr.heap.size, 0, none⟩ = some (.int .i64 (S n).l) ∧ w'.cell? ⟨wr.heap.size, 1, none⟩ = some (.int .i64 (S n).c) ∧ w'.cell? ⟨wr.heap.size, 2, none⟩ = some (.int .i64 (S n).s) ∧ w'.cell? ⟨wr.heap.size, 3, none⟩ = some (.int .i64 (S n).fl) ∧ w'.cell? ⟨wr.heap.size, 4, none⟩ = some (.int .i64 (S n).fc) ∧ w'.cell? ⟨wr.heap.size, 5, none⟩ = some (.int .i64 (S n).nm) ∧ w'.cell? ⟨wr.heap.size, 6, none⟩ = some (.bool (S n).nd) ∧ Hid (Below W5.heap.size W5 w'))
        ((go_split_ands; refine keepV.out _ ?_; repeat (first | (with_reducible exact Hid.out (by assumption)) | (with_reducible refine balloc ?_ _) | (with_reducible refine Below.drew ?_) | (with_reducible refine bthen ?_ hbb))))
        (first | (go_at_call 10; (with_reducible refine (cP.out _).mono ?_); rintro e w6 ⟨rfl, hbb⟩) | (go_at_call 10; (with_reducible refine (cQ.out _).mono ?_); rintro e w6 ⟨rfl, hbb⟩) | (go_at_call 12; go_split_ands; (with_reducible refine (cY.out _ (Hid.out (by assumption))).mono ?_); rintro e w6 ⟨rfl, hbb⟩) | (go_at_call 12; go_split_ands; (with_reducible refine (cN.out _ (Hid.out (by assumption))).mono ?_); rintro e w6 ⟨rfl, hbb⟩))
      all_goals go_wp2_with fail
      all_goals go_ret
      all_goals go_split_ands
      all_goals exact ⟨rfl, bthen B3.out (bthen K5.out (Hid.out (by assumption)))⟩

theorem fnFindBetween_own : ownKnob Try.prog.godebug = none := by kernel_rfl

set_option maxRecDepth 100000 in
theorem fnFindBetween_lifted (os : Os) (started : os.Started) (H : Type) (enc : TypeId × Value → H) (F : Stop.Interp) :
    ReturnsInHanded {} Try.checked os 4 .any ((Rows.OpenSpec.upto Rows.fnFindBetweenSpec).pre6 enc Try.prog Try.f4 Rows.fnFindBetweenUptoRow.domain false) (((Rows.OpenSpec.upto Rows.fnFindBetweenSpec).at F).post enc Try.prog Try.f4 false true false false) := by
  refine returnsInHanded_of_cond (C := Try.checked) (s := Rows.OpenSpec.upto Rows.fnFindBetweenSpec) (k := Rows.uptoSmall) rfl fnFindBetween_own started (by kernel_rfl) Try.func4
    (OpenSpec.witness (enc := enc) (C := Try.checked) (s := Rows.OpenSpec.upto Rows.fnFindBetweenSpec) (k := Rows.uptoSmall) rfl false ⟨#[], #[.slice none 0 0], []⟩ 8 (by kernel_rfl) (by kernel_rfl) (by kernel_rfl)
      (x := ([.nil], [], [])) (by kernel_rfl) rfl (by kernel_rfl)) ?_
  intro W base args ds gs before hval0 hW _ hk _
  have hval : ∀ (j : Nat) t v, Try.f4.params[j]? = some t → args[j]? = some v → Value.okWide Try.prog W .any base t v := hval0
  have hW' := hW
  obtain ⟨p, q, hA0, hV, rfl, hfz, hnd⟩ := hW
  have hA : DataW.TrodAll enc Try.prog W 0 (fun _ => true) true Try.f4.params.toList args.toList ds p := hA0
  rw [Try.params4] at hA hval
  obtain ⟨v0, vs0, d0, ds0, p0, q0, hargs, rfl, rfl, h0, r0⟩ := trodAll_cons hA
  obtain ⟨rfl, rfl, rfl⟩ := trodAll_nil r0
  obtain rfl : args = #[v0] := by cases args; simp_all
  obtain ⟨a0, n0, c0, z0, rfl, k0, b0, e0⟩ := open_rows5 Try.underlying22 Try.underlying34 Try.underlying3 (by kernel_rfl) (by kernel_rfl) (hval 0 22 v0 rfl rfl) h0
  have hbk : Rows.uptoBulkAll _ ≤ 1048576 := of_decide_eq_true hk
  simp only [List.cons_append, Rows.uptoBulkAll] at hbk
  refine (fnFindBetween_walk a0 n0 c0 z0 W e0 k0 (by omega)).mono fun e W' ⟨he, hb⟩ => ⟨_, he, ?_⟩
  exact law_post (s := Rows.fnFindBetweenSpec) (f := Try.f4) (tb := 4) (by kernel_rfl) (by kernel_rfl) (by kernel_rfl) Try.underlying4 rfl (fun ds h => by rw [Try.params4] at h; match ds, h with | [_], _ => rfl) hW' hb

theorem fnFindBetween_upto : Rows.FnFindBetweenUptoSaid :=
  OpenClaim.holds_of_cond 4 Try.f4 rfl rfl rfl rfl rfl rfl rfl ⟨rfl, rfl, rfl, rfl, rfl⟩ rfl rfl rfl rfl rfl (by kernel_rfl) Try.func4 (by kernel_rfl)
    (of_decide_eq_true (by kernel_rfl)) (by unfold Func.isWrapper; first | (rw [if_pos (by decide +kernel)]; kernel_rfl) | (rw [if_neg (by decide +kernel)]; exact ⟨rfl, rfl⟩))
    (fun os started H enc _ F => fnFindBetween_lifted os started H enc F)
#print axioms fnFindBetween_upto
end Go.Proofs.Ytmncaibhdpcblaa

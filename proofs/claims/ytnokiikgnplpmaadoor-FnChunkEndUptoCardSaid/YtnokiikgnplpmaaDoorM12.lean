/-
  The contract of laws.rising: mappings at rising places. Conditions: at most 2^21 rows.
-/
import Derived.Test.YtnokiikgnplpmaaDoorM2
import Derived.Test.YtnokiikgnplpmaaDoorM1
import Derived.Test.YtnokiikgnplpmaaDoorM10
import Derived.StillTailTactics
import Derived.Deep.DrawnRows
import Derived.Deep.AppendLies
namespace Go.Proofs.YtnokiikgnplpmaaDoor
open Go.RowKit

theorem place_same (n k : Int) (w : World) (h1 : 1 ≤ k) (h2 : k ≤ 4611686018427387904) :
    Calls Tryd.prog 15 #[.int .i64 n, .int .i64 k] w fun e w' => e = .returned (.int .i64 (n % k)) ∧ w' = w := (place_any n k w h1 h2).mono fun _ _ ⟨a, b⟩ => ⟨a, b.symm⟩

attribute [local go_sem ↓] Go.wp_at_zero Go.wp_at_succ
set_option maxHeartbeats 2000000 in
set_option maxRecDepth 100000 in
theorem ris_any (A : Option Addr) (n cap : Nat) (Z : Nat → Nat → Int) (w : World) (hn : n ≤ 2097152) (hc : 0 < n → ∃ R o, A = some ⟨R, o, none⟩ ∧ ∀ i j, i < n → j < 5 → w.cell? ⟨R, o + i * 5 + j, none⟩ = some (.int .i64 (Z i j))) :
    Calls Tryd.prog 41 #[.slice A n cap] w fun e w' => ∃ v, e = .returned v ∧ w'.ownsRow w.heap.size 45 7 v n (sgs (risL Z n)) ∧ Below w.heap.size w w' := by
  obtain ⟨i0, hi0, hz0, hz1, hz2⟩ := info_parts info_seg
  have HC := Lib.hid hc
  clear hc
  go_enter Tryd.func41, Tryd.ntmps41
  go_wp2_with fail
  go_loopg [3, 10] n (fun f s3 s10 wr => ∃ (i : Nat), i + f = n ∧ s10 = .int .i64 (i : Int) ∧ wr.ownsRow (w.heap.size + 1) 45 7 s3 i (sgs (risL Z i)) ∧ Blk wr w.heap.size 42 #[.int .i64 (atP Z i).1, .int .i64 (atP Z i).2] ∧ Below w.heap.size w wr)
  case atStart => exact ⟨0, by omega, rfl, World.ownsRow_nil _ _ _ _, Blk.new w 42 _, balloc (Below.refl _ _) _⟩
  case round =>
    obtain ⟨i, hi, rfl, hown, hbl, hbw⟩ := hrel
    have hat := at_bd Z i
    have hfar := far_bd Z i
    have hsz : w.heap.size < wr.heap.size := hbl.lt
    by_cases hlt : i < n
    · obtain ⟨R, o, rfl, hcl⟩ := HC.out (by omega)
      obtain ⟨f, rfl⟩ : ∃ f, gk = f + 1 := ⟨gk - 1, by omega⟩
      have hR : R < w.heap.size := cell_lt (hcl i 0 hlt (by omega))
      have hcr : ∀ j, j < 5 → wr.cell? ⟨R, o + i * 5 + j, none⟩ = some (.int .i64 (Z i j)) := fun j hj => (hbw.cell (p := ⟨R, _, none⟩) hR).trans (hcl i j hlt hj)
      have c0 := hcr 0 (by omega)
      have c1 := hcr 1 (by omega)
      have c2 := hcr 2 (by omega)
      have c3 := hcr 3 (by omega)
      have c4 := hcr 4 (by omega)
      simp only [Nat.add_zero] at c0
      have HO := Lib.hid hown
      have HBL := Lib.hid hbl
      have HB := Lib.hid hbw
      clear hcr hcl HC hown hbl hbw
      have hZl : Hid (Z i 0 % 3 = farL Z i) := Lib.hid rfl
      have hZc : Hid (farC Z i = if (Z i 0 % 3 = 0 ∧ Z i 1 % 1000 = 0) ∧ 0 < i then 1 else Z i 1 % 1000) := Lib.hid rfl
      have hS : Hid (segOf Z i = ⟨(atP Z i).1 + farL Z i, sumC (atP Z i).2 (farL Z i) (farC Z i), Z i 2 % 100, Z i 3 % 10000, Z i 4 % 10000, 0, false⟩) := Lib.hid rfl
      have hAt : Hid (atP Z (i + 1) = ((atP Z i).1 + farL Z i, sumC (atP Z i).2 (farL Z i) (farC Z i))) := Lib.hid rfl
      have hRs := Lib.hid (risL_succ Z i)
      generalize farL Z i = fL at *
      generalize farC Z i = fC at *
      generalize segOf Z i = sg at *
      generalize Z i 0 = z0 at *
      generalize Z i 1 = z1 at *
      generalize Z i 2 = z2 at *
      generalize Z i 3 = z3 at *
      generalize Z i 4 = z4 at *
      go_upto_region 6 with fail
      have B1 := Lib.hid (balloc HB.out (.cells #[.int .i64 z0, .int .i64 z1, .int .i64 z2, .int .i64 z3, .int .i64 z4] 57))
      have O1 := Lib.hid (HO.out.alloc (.cells #[.int .i64 z0, .int .i64 z1, .int .i64 z2, .int .i64 z3, .int .i64 z4] 57))
      have L1 := Lib.hid (HBL.out.alloc (.cells #[.int .i64 z0, .int .i64 z1, .int .i64 z2, .int .i64 z3, .int .i64 z4] 57))
      have X1 := Lib.hid (Blk.new wr 57 #[.int .i64 z0, .int .i64 z1, .int .i64 z2, .int .i64 z3, .int .i64 z4])
      have s1 : (wr.alloc (.cells #[.int .i64 z0, .int .i64 z1, .int .i64 z2, .int .i64 z3, .int .i64 z4] 57)).heap.size = wr.heap.size + 1 := by simp
      clear c0 c1 c2 c3 c4
      generalize wr.alloc (.cells #[.int .i64 z0, .int .i64 z1, .int .i64 z2, .int .i64 z3, .int .i64 z4] 57) = W1 at *
      have x0 : W1.cell? ⟨wr.heap.size, 0, none⟩ = some (.int .i64 z0) := X1.out.cell 0
      have x1 : W1.cell? ⟨wr.heap.size, 1, none⟩ = some (.int .i64 z1) := X1.out.cell 1
      have S1 := Lib.hid s1
      clear s1
      go_cut [7] (fun s7 wx => s7 = .pointer (some ⟨W1.heap.size, 0, none⟩) ∧ ∃ q, wx = (W1.alloc (.cells #[.int .i64 (z0 % 3), .int .i64 (z1 % 1000)] 42)).drewN q)
      case first =>
        have := World.new_ne W1 ⟨wr.heap.size, 0, none⟩ (X1.out.cell 0)
        have := World.new_ne W1 ⟨wr.heap.size, 1, none⟩ (X1.out.cell 1)
        go_region_held3 (fun w' => w'.cell? ⟨wr.heap.size, 0, none⟩ = some (.int .i64 z0) ∧ w'.cell? ⟨wr.heap.size, 1, none⟩ = some (.int .i64 z1)) (go_keep) ((go_at_call 15; refine (place_any _ _ _ (by omega) (by omega)).mono ?_; rintro e w' ⟨rfl, rfl⟩))
        all_goals go_wp2_with fail
        all_goals go_meet
        all_goals exact ⟨rfl, 1, rfl⟩
      case rest =>
        obtain ⟨rfl, q, rfl⟩ := hcut
        have B2 := Lib.hid (balloc B1.out (.cells #[.int .i64 (z0 % 3), .int .i64 (z1 % 1000)] 42))
        have O2 := Lib.hid (O1.out.alloc (.cells #[.int .i64 (z0 % 3), .int .i64 (z1 % 1000)] 42))
        have L2 := Lib.hid (L1.out.alloc (.cells #[.int .i64 (z0 % 3), .int .i64 (z1 % 1000)] 42))
        have X2 := Lib.hid (X1.out.alloc (.cells #[.int .i64 (z0 % 3), .int .i64 (z1 % 1000)] 42))
        have Y2 := Lib.hid (Blk.new W1 42 #[.int .i64 (z0 % 3), .int .i64 (z1 % 1000)])
        have B3 : Hid (Below w.heap.size w ((W1.alloc (.cells #[.int .i64 (z0 % 3), .int .i64 (z1 % 1000)] 42)).drewN q)) := Lib.hid ⟨B2.out.os, B2.out.tape, B2.out.output, B2.out.size, B2.out.block⟩
        have O3 : Hid (((W1.alloc (.cells #[.int .i64 (z0 % 3), .int .i64 (z1 % 1000)] 42)).drewN q).ownsRow (w.heap.size + 1) 45 7 u3 i (sgs (risL Z i))) := Lib.hid O2.out
        have L3 : Hid (Blk ((W1.alloc (.cells #[.int .i64 (z0 % 3), .int .i64 (z1 % 1000)] 42)).drewN q) w.heap.size 42 #[.int .i64 (atP Z i).1, .int .i64 (atP Z i).2]) := Lib.hid L2.out
        have X3 : Hid (Blk ((W1.alloc (.cells #[.int .i64 (z0 % 3), .int .i64 (z1 % 1000)] 42)).drewN q) wr.heap.size 57 #[.int .i64 z0, .int .i64 z1, .int .i64 z2, .int .i64 z3, .int .i64 z4]) := Lib.hid X2.out
        have Y3 : Hid (Blk ((W1.alloc (.cells #[.int .i64 (z0 % 3), .int .i64 (z1 % 1000)] 42)).drewN q) W1.heap.size 42 #[.int .i64 (z0 % 3), .int .i64 (z1 % 1000)]) := Lib.hid Y2.out
        generalize (W1.alloc (.cells #[.int .i64 (z0 % 3), .int .i64 (z1 % 1000)] 42)).drewN q = W3 at *
        have hp : 0 ≤ z0 % 3 ∧ z0 % 3 ≤ 2 := by omega
        have hr : 0 ≤ z1 % 1000 ∧ z1 % 1000 ≤ 999 := by omega
        generalize z0 % 3 = p at *
        generalize z1 % 1000 = r at *
        generalize W1.heap.size = H1 at *
        clear x0 x1 X1 X2 O1 O2 L1 L2 Y2 B1 B2
        have y0 : W3.cell? ⟨H1, 0, none⟩ = some (.int .i64 p) := Y3.out.cell 0
        have y1 : W3.cell? ⟨H1, 1, none⟩ = some (.int .i64 r) := Y3.out.cell 1
        have yf := Y3.out.frozen 1
        have yl : H1 < W3.heap.size := Y3.out.lt
        go_upto_region 7 with fail
        go_cut [28] (fun s28 wx => s28 = .bool (decide ((p = 0 ∧ r = 0) ∧ 0 < i)) ∧ W3 = wx)
        case first =>
          by_cases hz : p = 0 ∧ r = 0
          · obtain ⟨rfl, rfl⟩ := hz
            by_cases hi0' : 0 < i
            · go_wp2_with fail
              go_meet
              exact ⟨by simp [hi0'], rfl⟩
            · obtain rfl : i = 0 := by omega
              go_wp2_with fail
              go_meet
              exact ⟨by simp, rfl⟩
          · go_wp2_with fail
            all_goals go_meet
            all_goals exact ⟨by simp [hz], rfl⟩
        case rest =>
          obtain ⟨rfl, rfl⟩ := hcut
          go_upto_if 28 with fail
          go_cut [] (fun wx => Blk wx H1 42 #[.int .i64 fL, .int .i64 fC] ∧ wx.ownsRow (w.heap.size + 1) 45 7 u3 i (sgs (risL Z i)) ∧ Blk wx w.heap.size 42 #[.int .i64 (atP Z i).1, .int .i64 (atP Z i).2] ∧ Blk wx wr.heap.size 57 #[.int .i64 z0, .int .i64 z1, .int .i64 z2, .int .i64 z3, .int .i64 z4] ∧ Below w.heap.size w wx)
          case first =>
            by_cases hz : (p = 0 ∧ r = 0) ∧ 0 < i
            · have hd : decide ((p = 0 ∧ r = 0) ∧ 0 < i) = true := decide_eq_true hz
              have HZ := Lib.hid hz
              clear hz
              go_wp2_with fail
              go_meet
              refine ⟨?_, ownsRow_setCell_other O3.out (fun e => ?_) _, L3.out.far ?_ _, X3.out.far ?_ _, B3.out.setCell ?_ _⟩
              · have h1 := Y3.out.set_ 1 (.int .i64 1)
                rw [hZc.out, if_pos HZ.out, ← hZl.out]
                exact h1
              · have := HO.out.lt _ e
                have := S1.out
                simp only at *
                omega
              · have := S1.out
                simp only
                omega
              · have := S1.out
                simp only
                omega
              · have := S1.out
                simp only
                omega
            · have hd : decide ((p = 0 ∧ r = 0) ∧ 0 < i) = false := decide_eq_false hz
              have HZ := Lib.hid hz
              clear hz
              go_wp2_with fail
              go_meet
              refine ⟨?_, O3.out, L3.out, X3.out, B3.out⟩
              rw [hZc.out, if_neg HZ.out, ← hZl.out]
              exact Y3.out
          case rest =>
            obtain ⟨hY4, hO4, hL4, hX4, hB4⟩ := hcut
            clear Y3 O3 L3 X3 B3 y0 y1 yf yl hZl hZc hp hr
            have y0 : wc.cell? ⟨H1, 0, none⟩ = some (.int .i64 fL) := hY4.cell 0
            have y1 : wc.cell? ⟨H1, 1, none⟩ = some (.int .i64 fC) := hY4.cell 1
            have l0 : wc.cell? ⟨w.heap.size, 0, none⟩ = some (.int .i64 (atP Z i).1) := hL4.cell 0
            have l1 : wc.cell? ⟨w.heap.size, 1, none⟩ = some (.int .i64 (atP Z i).2) := hL4.cell 1
            have O4 := Lib.hid hO4
            have L4 := Lib.hid hL4
            have X4 := Lib.hid hX4
            have B4 := Lib.hid hB4
            clear hO4 hL4 hX4 hB4 hY4
            generalize (atP Z i).1 = aL at *
            generalize (atP Z i).2 = aC at *
            go_wp2_with fail
            refine (plus_any _ _ _ _ _ (by omega) (by omega) (by omega) (by omega) (by omega) (by omega) (by omega) (by omega)).mono ?_
            rintro e W5 ⟨rfl, hb5⟩
            have L5 := Lib.hid (L4.out.below hb5)
            have X5 := Lib.hid (X4.out.below hb5)
            have O5 := Lib.hid (own_below O4.out hb5)
            have B5 := Lib.hid (bthen B4.out hb5)
            have hs5 := hb5.size
            clear L4 X4 O4 B4 y0 y1 l0 l1 hb5
            have z5 : w.heap.size < W5.heap.size := L5.out.lt
            have l0 : W5.cell? ⟨w.heap.size, 0, none⟩ = some (.int .i64 aL) := L5.out.cell 0
            have l1 : W5.cell? ⟨w.heap.size, 1, none⟩ = some (.int .i64 aC) := L5.out.cell 1
            have lf0 := L5.out.frozen 0
            have lf1 := L5.out.frozen 1
            go_upto_region 10 with fail
            have L6 := Lib.hid ((L5.out.set_ 0 (.int .i64 (aL + fL))).set_ 1 (.int .i64 (sumC aC fL fC)))
            have X6 := Lib.hid ((X5.out.far (p := ⟨w.heap.size, 0, none⟩) (by simp only; omega) (.int .i64 (aL + fL))).far (p := ⟨w.heap.size, 1, none⟩) (by simp only; omega) (.int .i64 (sumC aC fL fC)))
            have O6 := Lib.hid (ownsRow_setCell_below (ownsRow_setCell_below O5.out (a := ⟨w.heap.size, 0, none⟩) (by simp only; omega) (.int .i64 (aL + fL))) (a := ⟨w.heap.size, 1, none⟩) (by simp only; omega) (.int .i64 (sumC aC fL fC)))
            have B6 := Lib.hid ((B5.out.setCell (p := ⟨w.heap.size, 0, none⟩) (Nat.le_refl _) (.int .i64 (aL + fL))).setCell (p := ⟨w.heap.size, 1, none⟩) (Nat.le_refl _) (.int .i64 (sumC aC fL fC)))
            have Z6 : Hid (((W5.setCell ⟨w.heap.size, 0, none⟩ (.int .i64 (aL + fL))).setCell ⟨w.heap.size, 1, none⟩ (.int .i64 (sumC aC fL fC))).heap.size = W5.heap.size) := Lib.hid (by simp [World.setCell])
            generalize (W5.setCell ⟨w.heap.size, 0, none⟩ (.int .i64 (aL + fL))).setCell ⟨w.heap.size, 1, none⟩ (.int .i64 (sumC aC fL fC)) = W6 at *
            clear l0 l1 lf0 lf1 L5 X5 O5 B5
            have l0 : W6.cell? ⟨w.heap.size, 0, none⟩ = some (.int .i64 (aL + fL)) := L6.out.cell 0
            have l1 : W6.cell? ⟨w.heap.size, 1, none⟩ = some (.int .i64 (sumC aC fL fC)) := L6.out.cell 1
            have x2 : W6.cell? ⟨wr.heap.size, 2, none⟩ = some (.int .i64 z2) := X6.out.cell 2
            have x3 : W6.cell? ⟨wr.heap.size, 3, none⟩ = some (.int .i64 z3) := X6.out.cell 3
            have x4 : W6.cell? ⟨wr.heap.size, 4, none⟩ = some (.int .i64 z4) := X6.out.cell 4
            have al : u3.ownBlock ≠ some w.heap.size := own_ge O6.out (by omega)
            have ax : u3.ownBlock ≠ some wr.heap.size := fun e => by have := (HO.out.lt _ e).2; omega
            have z6 : w.heap.size + 1 ≤ W6.heap.size := by have := Z6.out; omega
            have z6' : wr.heap.size < W6.heap.size := X6.out.lt
            have n0 := World.new_ne W6 ⟨w.heap.size, 0, none⟩ l0
            have n1 := World.new_ne W6 ⟨w.heap.size, 1, none⟩ l1
            have n2 := World.new_ne W6 ⟨wr.heap.size, 2, none⟩ x2
            have n3 := World.new_ne W6 ⟨wr.heap.size, 3, none⟩ x3
            have n4 := World.new_ne W6 ⟨wr.heap.size, 4, none⟩ x4
            go_region_held3 (fun w' => w'.cell? ⟨w.heap.size, 0, none⟩ = some (.int .i64 (aL + fL)) ∧ w'.cell? ⟨w.heap.size, 1, none⟩ = some (.int .i64 (sumC aC fL fC)) ∧ w'.cell? ⟨wr.heap.size, 2, none⟩ = some (.int .i64 z2) ∧ w'.cell? ⟨wr.heap.size, 3, none⟩ = some (.int .i64 z3) ∧ w'.cell? ⟨wr.heap.size, 4, none⟩ = some (.int .i64 z4))
              (first
                | go_keep
                | (go_split_ands
                   refine ⟨?_, ?_, ?_, ?_, ?_⟩
                   · (rw [hg2.cell_far _ (by simp; omega) (Ne.symm al)]; assumption)
                   · (rw [hg2.cell_far _ (by simp; omega) (Ne.symm al)]; assumption)
                   · (rw [hg2.cell_far _ (by simp; omega) (Ne.symm ax)]; assumption)
                   · (rw [hg2.cell_far _ (by simp; omega) (Ne.symm ax)]; assumption)
                   · (rw [hg2.cell_far _ (by simp; omega) (Ne.symm ax)]; assumption)))
              (first
                | (go_at_call 15; refine (place_any _ _ _ (by omega) (by omega)).mono ?_; rintro e w' ⟨rfl, rfl⟩)
                | (refine step_append_lies _ (by rfl) _ _ _ (by rfl) (w.heap.size + 1) 45 i0 _ 7 56 Tryd.underlying35 hi0 hz0 hz1 hz2 rfl (by omega) u3 i (sgs (risL Z i)) (by rfl) ((O6.out.alloc _).drew) ⟨W6.heap.size, 0, none⟩ 1 1 (Seg.cells ⟨aL + fL, sumC aC fL fC, z2 % 100, z3 % 10000, z4 % 10000, 0, false⟩) (by rfl) (by rfl) (World.news_of_block (cs := #[.int .i64 (aL + fL), .int .i64 (sumC aC fL fC), .int .i64 (z2 % 100), .int .i64 (z3 % 10000), .int .i64 (z4 % 10000), .int .i64 0, .bool false]) (t := 45) (fr := (0, 0)) (heap_alloc_new W6 _)) (seg_one _) (by omega) (by unfold maxLen; omega) (by omega) (by simp; omega) (W6.heap.size + 1) (by simp) ?_; intro g2 cap2 w2 hown2 hg2 hat2 hlt2))
            go_wp2_with fail
            have O8 := Lib.hid hown2
            have L8 := Lib.hid ((L6.out.alloc _).drew.grown hg2 al)
            have B8 := Lib.hid (below_grown (balloc B6.out _).drew (Nat.le_refl _) hg2 (fun k hk => by have := (O6.out.lt k hk).1; omega))
            clear hown2 hg2 hat2 hlt2
            go_roundg f
            case measure => omega
            case rel => exact ⟨i + 1, by omega, by go_num, by rw [hRs.out, sgs_snoc, hS.out]; exact O8.out, by rw [hAt.out]; exact L8.out, B8.out⟩
    · obtain rfl : i = n := by omega
      have HO := Lib.hid hown
      have HB := Lib.hid hbw
      clear hown hbw
      go_wp2_with fail
      go_ret
      exact ⟨_, rfl, HO.out.mono (by omega), HB.out⟩
end Go.Proofs.YtnokiikgnplpmaaDoor

/-
  The contract of laws.same. Conditions: the text is of tokens that are read as the mappings.
  The contracts of laws.named and laws.beginning, laws.by. Conditions: as each one says.
  An argument that is a slice of turns, opened; turns and steps in rows of one's own. Conditions: as each lemma says.
  The contract of laws.chunk: what is made of turns, read again. Conditions: the source, the turns and the rest have at most 2^21 values and letters together.
-/
import Derived.Test.YtnokiikgnplpmaaDoorM7
import Derived.Test.YtnokiikgnplpmaaDoorM13
import Derived.Test.YtnokiikgnplpmaaDoorM2
import Derived.Test.YtnokiikgnplpmaaDoorM1
import Derived.Test.YtnokiikgnplpmaaDoorM15
import Derived.Test.YtnokiikgnplpmaaDoorM10
import Derived.Test.YtnokiikgnplpmaaDoorM12
import Derived.StillTailTactics
import Derived.Test.YtnokiikgnplpmaaDoorM5
import Derived.ChangeSlices
import Derived.Deep.SlicePairs
import Derived.Lib.LaidU8
namespace Go.Proofs.YtnokiikgnplpmaaDoor
open Go.RowKit

set_option maxHeartbeats 4000000 in
set_option maxRecDepth 100000 in
theorem same_any (toks : List (Option (List Int))) (l : List Seg) (v : Value) (w : World) (hok : rok qz toks) (hr : rsegs qz toks = l) (hsz : (tokB true toks).length ≤ 1099511627776) (hv : SegsAt w w.heap.size v l) (hn : l.length ≤ 8388608) :
    Calls Tryd.prog 21 #[.string (strB (tokB true toks)), v] w fun e w' => e = .returned (.bool true) ∧ Below w.heap.size w w' := by
  obtain ⟨R, c, rfl, hR, hcl⟩ := hv
  have HCL := Lib.hid hcl
  have HR := Lib.hid hr
  clear hcl hr
  go_enter Tryd.func21, Tryd.ntmps21
  go_wp2_with fail
  refine (read_any toks (strB (tokB true toks)) _ hok (by rw [strB_size]; exact hsz) rfl (by rw [HR.out]; omega)).mono ?_
  rintro e W1 ⟨u, rfl, ho, hb⟩
  rw [HR.out] at ho
  obtain ⟨A3, c3, rfl, hA3⟩ := own_form ho
  have HA3 := Lib.hid hA3
  have HLT := Lib.hid ho.lt
  have HB := Lib.hid hb
  have hz1 := hb.size
  clear ho hb hA3
  go_wp2_with fail
  go_loopg [25] l.length (fun f s25 wr => ∃ i : Nat, i + f = l.length ∧ s25 = .int .i64 (i : Int) ∧ Below W1.heap.size W1 wr)
  case atStart => exact ⟨0, by omega, rfl, Below.refl _ _⟩
  case round =>
    obtain ⟨i, hi, rfl, hbw⟩ := hrel
    by_cases hlt : i < l.length
    · obtain ⟨f, rfl⟩ : ∃ f, gk = f + 1 := ⟨gk - 1, by omega⟩
      obtain ⟨k3, rfl, hcl3⟩ := HA3.out (by omega)
      have hk3 := (HLT.out k3 rfl).2
      have hbw2 : Below w.heap.size w wr := HB.out.trans (hbw.mono hz1)
      have key : ∀ j u, (l[i]'hlt).cells[j]? = some u → wr.cell? ⟨k3, i * 7 + j, none⟩ = some u ∧ wr.cell? ⟨R, i * 7 + j, none⟩ = some u := fun j u hj => by
        have hj7 : j < 7 := by
          have := (List.getElem?_eq_some_iff.1 hj).1
          rwa [Seg.cells_len] at this
        have hj' : (sgs l)[i * 7 + j]? = some u := by rw [sgs_at l i j hlt hj7]; exact hj
        exact ⟨(hbw.cell (p := ⟨k3, _, none⟩) hk3).trans (hcl3 _ u hj'), (hbw2.cell (p := ⟨R, _, none⟩) hR).trans (HCL.out _ u hj')⟩
      obtain ⟨x, hxx⟩ : ∃ x, x = l[i]'hlt := ⟨_, rfl⟩
      rw [← hxx] at key
      clear hxx hcl3
      obtain ⟨xl, xc, xs, xfl, xfc, xnm, xnd⟩ := x
      have c0 : wr.cell? ⟨k3, i * 7, none⟩ = some (.int .i64 xl) := (key 0 _ rfl).1
      have c1 : wr.cell? ⟨k3, i * 7 + 1, none⟩ = some (.int .i64 xc) := (key 1 _ rfl).1
      have c2 : wr.cell? ⟨k3, i * 7 + 2, none⟩ = some (.int .i64 xs) := (key 2 _ rfl).1
      have c3' : wr.cell? ⟨k3, i * 7 + 3, none⟩ = some (.int .i64 xfl) := (key 3 _ rfl).1
      have c4 : wr.cell? ⟨k3, i * 7 + 4, none⟩ = some (.int .i64 xfc) := (key 4 _ rfl).1
      have c5 : wr.cell? ⟨k3, i * 7 + 5, none⟩ = some (.int .i64 xnm) := (key 5 _ rfl).1
      have c6 : wr.cell? ⟨k3, i * 7 + 6, none⟩ = some (.bool xnd) := (key 6 _ rfl).1
      have d0' : wr.cell? ⟨R, i * 7, none⟩ = some (.int .i64 xl) := (key 0 _ rfl).2
      have d1' : wr.cell? ⟨R, i * 7 + 1, none⟩ = some (.int .i64 xc) := (key 1 _ rfl).2
      have d2' : wr.cell? ⟨R, i * 7 + 2, none⟩ = some (.int .i64 xs) := (key 2 _ rfl).2
      have d3' : wr.cell? ⟨R, i * 7 + 3, none⟩ = some (.int .i64 xfl) := (key 3 _ rfl).2
      have d4' : wr.cell? ⟨R, i * 7 + 4, none⟩ = some (.int .i64 xfc) := (key 4 _ rfl).2
      have d5' : wr.cell? ⟨R, i * 7 + 5, none⟩ = some (.int .i64 xnm) := (key 5 _ rfl).2
      have d6' : wr.cell? ⟨R, i * 7 + 6, none⟩ = some (.bool xnd) := (key 6 _ rfl).2
      have hX := Lib.hid (Blk.new wr 45 #[.int .i64 xl, .int .i64 xc, .int .i64 xs, .int .i64 xfl, .int .i64 xfc, .int .i64 xnm, .bool xnd])
      have hBa := balloc (Below.refl wr.heap.size wr) (.cells #[.int .i64 xl, .int .i64 xc, .int .i64 xs, .int .i64 xfl, .int .i64 xfc, .int .i64 xnm, .bool xnd] 45)
      have hRr : R < wr.heap.size := by have := hbw.size; omega
      have g0 := (hBa.cell (p := ⟨R, i * 7, none⟩) hRr).trans d0'
      have g1 := (hBa.cell (p := ⟨R, i * 7 + 1, none⟩) hRr).trans d1'
      have g2 := (hBa.cell (p := ⟨R, i * 7 + 2, none⟩) hRr).trans d2'
      have g3 := (hBa.cell (p := ⟨R, i * 7 + 3, none⟩) hRr).trans d3'
      have g4 := (hBa.cell (p := ⟨R, i * 7 + 4, none⟩) hRr).trans d4'
      have g5 := (hBa.cell (p := ⟨R, i * 7 + 5, none⟩) hRr).trans d5'
      have g6 := (hBa.cell (p := ⟨R, i * 7 + 6, none⟩) hRr).trans d6'
      have HBa := Lib.hid (bthen hbw hBa)
      clear key hBa d0' d1' d2' d3' d4' d5' d6' hbw hbw2
      go_upto_region 7 with fail
      clear c0 c1 c2 c3' c4 c5 c6
      generalize wr.alloc (.cells #[.int .i64 xl, .int .i64 xc, .int .i64 xs, .int .i64 xfl, .int .i64 xfc, .int .i64 xnm, .bool xnd] 45) = V at *
      have d0 : V.cell? ⟨wr.heap.size, 0, none⟩ = some (.int .i64 xl) := hX.out.cell 0
      have d1 : V.cell? ⟨wr.heap.size, 1, none⟩ = some (.int .i64 xc) := hX.out.cell 1
      have d2 : V.cell? ⟨wr.heap.size, 2, none⟩ = some (.int .i64 xs) := hX.out.cell 2
      have d3 : V.cell? ⟨wr.heap.size, 3, none⟩ = some (.int .i64 xfl) := hX.out.cell 3
      have d4 : V.cell? ⟨wr.heap.size, 4, none⟩ = some (.int .i64 xfc) := hX.out.cell 4
      have d5 : V.cell? ⟨wr.heap.size, 5, none⟩ = some (.int .i64 xnm) := hX.out.cell 5
      have d6 : V.cell? ⟨wr.heap.size, 6, none⟩ = some (.bool xnd) := hX.out.cell 6
      have k1 : (0 : Int) ≤ (i : Int) := by omega
      have k2 : (i : Int) < (l.length : Int) := by omega
      go_quiet (fail)
      go_wp2_with fail
      go_roundg f
      case measure => omega
      case rel => exact ⟨i + 1, by omega, by go_num, below_drewN HBa.out _⟩
    · obtain rfl : i = l.length := by omega
      have HBW := Lib.hid (HB.out.trans (hbw.mono hz1))
      clear hbw
      go_wp2_with fail
      go_ret
      exact ⟨rfl, HBW.out⟩
end Go.Proofs.YtnokiikgnplpmaaDoor
namespace Go.Proofs.YtnokiikgnplpmaaDoor
open Go.RowKit

set_option maxHeartbeats 2000000 in
set_option maxRecDepth 100000 in
theorem named_any (A : Option Addr) (n cap : Nat) (Z : Nat → Nat → Int) (w : World) (hn0 : 0 < n) (hn : n ≤ 2097152) (h5 : At5 w A n Z) :
    Calls Tryd.prog 23 #[.slice A n cap] w fun e w' => ∃ v, e = .returned v ∧ w'.ownsRow w.heap.size 45 7 v (namL Z n).length (sgs (namL Z n)) ∧ Below w.heap.size w w' := by
  obtain ⟨R, o, rfl, hcl⟩ := h5 hn0
  have hR : R < w.heap.size := cell_lt' (p := ⟨R, o + 0 * 5 + 0, none⟩) (v := .int .i64 (Z 0 0)) (hcl 0 0 hn0 (by omega))
  have HCL := Lib.hid hcl
  clear hcl
  rw [namL_len]
  go_enter Tryd.func23, Tryd.ntmps23
  go_wp2_with fail
  refine (ris_any _ n cap Z _ hn (fun _ => ⟨R, o, rfl, HCL.out⟩)).mono ?_
  rintro e W1 ⟨v, rfl, ho, hb⟩
  obtain ⟨A3, c3, rfl, hA3⟩ := own_form ho
  obtain ⟨k3, rfl, _⟩ := hA3 hn0
  have hk3 := own_lt ho rfl
  have HO := Lib.hid ho
  have HB := Lib.hid hb
  have hz1 := hb.size
  clear ho hb hA3
  go_wp2_with fail
  go_loopg [10] n (fun f s10 wr => ∃ i : Nat, i + f = n ∧ s10 = .int .i64 (i : Int) ∧ wr.ownsRow w.heap.size 45 7 (.slice (some ⟨k3, 0, none⟩) n c3) n (sgs (namAt Z n i)) ∧ Below w.heap.size w wr)
  case atStart => exact ⟨0, by omega, rfl, by rw [namAt_zero]; exact HO.out, HB.out⟩
  case round =>
    obtain ⟨i, hi, rfl, hown, hbw⟩ := hrel
    by_cases hlt : i < n
    · obtain ⟨f, rfl⟩ : ∃ f, gk = f + 1 := ⟨gk - 1, by omega⟩
      have hsz := (hown.lt _ rfl).2
      have hcr : ∀ j, j < 5 → wr.cell? ⟨R, o + i * 5 + j, none⟩ = some (.int .i64 (Z i j)) := fun j hj => (hbw.cell (p := ⟨R, _, none⟩) hR).trans (HCL.out i j hlt hj)
      have c0 := hcr 0 (by omega)
      have c1 := hcr 1 (by omega)
      have c2 := hcr 2 (by omega)
      have c3' := hcr 3 (by omega)
      have c4 := hcr 4 (by omega)
      simp only [Nat.add_zero] at c0
      have hs := namAt_step Z n i
      have hsk := namAt_skip Z n i
      have hset := sgs_set2 (namAt Z n i) i (by rw [namAt_len]; exact hlt) (Z i 4 % 200) true
      have hg : { (namAt Z n i)[i]'(by rw [namAt_len]; exact hlt) with nm := Z i 4 % 200, nd := true } = ({ segOf Z i with nm := Z i 4 % 200, nd := true } : Seg) := by rw [namAt_get]
      rw [hg] at hset
      have hnsg : Z i 3 % 3 = 0 → nsg Z i = { segOf Z i with nm := Z i 4 % 200, nd := true } := fun q => by unfold nsg; rw [if_pos q]
      have HS : Hid (Z i 3 % 3 = 0 → ((sgs (namAt Z n i)).set (i * 7 + 6) (.bool true)).set (i * 7 + 5) (.int .i64 (Z i 4 % 200)) = sgs (namAt Z n (i + 1))) := Lib.hid (fun q => by rw [hset, ← hnsg q, hs])
      have HSK := Lib.hid hsk
      have HOW := Lib.hid hown
      have HBW := Lib.hid hbw
      clear hcr hs hsk hset hg hnsg
      have hz7 : (sgs (namAt Z n i)).length = n * 7 := by rw [sgs_len, namAt_len]
      have x6 : ∃ u, wr.cell? ⟨k3, i * 7 + 6, none⟩ = some u := ⟨_, (hown.cellAt _ (by omega)).trans (List.getElem?_eq_getElem (by omega))⟩
      have x5 : ∃ u, wr.cell? ⟨k3, i * 7 + 5, none⟩ = some u := ⟨_, (hown.cellAt _ (by omega)).trans (List.getElem?_eq_getElem (by omega))⟩
      have f6 := hown.frozenAt (i * 7 + 6)
      have f5 := hown.frozenAt (i * 7 + 5)
      obtain ⟨u6, x6⟩ := x6
      obtain ⟨u5, x5⟩ := x5
      clear hz7 hown hbw
      generalize Z i 0 = z0 at *
      generalize Z i 1 = z1 at *
      generalize Z i 2 = z2 at *
      generalize Z i 3 = z3 at *
      generalize Z i 4 = z4 at *
      by_cases h3 : z3 % 3 = 0
      · have t1 : ((z3.tmod 3 : Int) == 0) = true := by
          have := Int.tmod_eq_zero_of_dvd (Int.dvd_of_emod_eq_zero h3)
          simp [this]
        have E := Lib.hid (HS.out h3)
        clear h3
        go_wp2_with (go_at_call 15; refine (place_any _ _ _ (by omega) (by omega)).mono ?_; rintro e w' ⟨rfl, rfl⟩)
        go_roundg f
        case measure => omega
        case rel =>
          refine ⟨i + 1, by omega, by go_num, ?_, balloc ((HBW.out.setCell (by simp only; omega) _).setCell (by simp only; omega) _) _⟩
          rw [← E.out]
          exact (((HOW.out.stored _ _).1.stored _ _).1).alloc _
      · have t1 : ((z3.tmod 3 : Int) == 0) = false := by
          have : ¬ z3.tmod 3 = 0 := fun q => h3 (Int.emod_eq_zero_of_dvd (Int.dvd_of_tmod_eq_zero q))
          simp [this]
        have E := Lib.hid (HSK.out h3)
        clear h3
        go_wp2_with fail
        go_roundg f
        case measure => omega
        case rel => exact ⟨i + 1, by omega, by go_num, by rw [← E.out]; exact HOW.out.alloc _, HBW.out.alloc HBW.out.size _⟩
    · obtain rfl : i = n := by omega
      rw [namAt_full] at hown
      have HOW := Lib.hid hown
      have HBW := Lib.hid hbw
      clear hown hbw
      go_wp2_with fail
      go_ret
      exact ⟨_, rfl, HOW.out, HBW.out⟩

theorem small_same (n : Int) (w : World) :
    Calls Tryd.prog 42 #[.int .i64 n] w fun e w' => e = .returned (.int .i64 (n % 1048576)) ∧ w' = w := (small_any n w).mono fun _ _ ⟨a, b⟩ => ⟨a, b.symm⟩
/-- The cells of a state that is made of numbers. -/
def begC (L : Nat → Int) : Array Value := #[.int .i64 (L 0 % 4), .int .i64 (L 1 % 1048576), .int .i64 (L 2 % 1000), .int .i64 (L 3 % 1048576), .int .i64 (L 4 % 1048576), .int .i64 (L 5 % 1000)]
set_option maxHeartbeats 2000000 in
set_option maxRecDepth 100000 in
theorem beginning_any (l0 l1 l2 l3 l4 l5 : Int) (w : World) :
    Calls Tryd.prog 24 #[.agg #[.int .i64 l0, .int .i64 l1, .int .i64 l2, .int .i64 l3, .int .i64 l4, .int .i64 l5]] w fun e w' => e = .returned (.agg #[.int .i64 (l0 % 4), .int .i64 (l1 % 1048576), .int .i64 (l2 % 1000), .int .i64 (l3 % 1048576), .int .i64 (l4 % 1048576), .int .i64 (l5 % 1000)]) ∧ Below w.heap.size w w' := by
  have hB := Lib.hid (balloc (balloc (Below.refl w.heap.size w) (.cells #[.int .i64 l0, .int .i64 l1, .int .i64 l2, .int .i64 l3, .int .i64 l4, .int .i64 l5] 55)) (.cells #[.int .i64 0, .int .i64 0, .int .i64 0, .int .i64 0, .int .i64 0, .int .i64 0] 30))
  have hX := Lib.hid ((Blk.new w 55 #[.int .i64 l0, .int .i64 l1, .int .i64 l2, .int .i64 l3, .int .i64 l4, .int .i64 l5]).alloc (.cells #[.int .i64 0, .int .i64 0, .int .i64 0, .int .i64 0, .int .i64 0, .int .i64 0] 30))
  have hY := Lib.hid (spl_new2 w (.cells #[.int .i64 l0, .int .i64 l1, .int .i64 l2, .int .i64 l3, .int .i64 l4, .int .i64 l5] 55) 30 #[.int .i64 0, .int .i64 0, .int .i64 0, .int .i64 0, .int .i64 0, .int .i64 0])
  go_enter Tryd.func24, Tryd.ntmps24
  go_upto_region 1 with fail
  generalize (w.alloc (.cells #[.int .i64 l0, .int .i64 l1, .int .i64 l2, .int .i64 l3, .int .i64 l4, .int .i64 l5] 55)).alloc (.cells #[.int .i64 0, .int .i64 0, .int .i64 0, .int .i64 0, .int .i64 0, .int .i64 0] 30) = V at *
  have c0 : V.cell? ⟨w.heap.size, 0, none⟩ = some (.int .i64 l0) := hX.out.cell 0
  have c1 : V.cell? ⟨w.heap.size, 1, none⟩ = some (.int .i64 l1) := hX.out.cell 1
  have c2 : V.cell? ⟨w.heap.size, 2, none⟩ = some (.int .i64 l2) := hX.out.cell 2
  have c3 : V.cell? ⟨w.heap.size, 3, none⟩ = some (.int .i64 l3) := hX.out.cell 3
  have c4 : V.cell? ⟨w.heap.size, 4, none⟩ = some (.int .i64 l4) := hX.out.cell 4
  have c5 : V.cell? ⟨w.heap.size, 5, none⟩ = some (.int .i64 l5) := hX.out.cell 5
  refine wp_region_still_tail 19 (by kernel_rfl) (by kernel_rfl) ?_
  simp only [List.take_succ_cons, List.take_zero, List.drop_succ_cons, List.drop_zero]
  repeat still_step
  still_call (place_same l0 4 _ (by omega) (by omega))
  repeat still_step
  still_call (small_same l1 _)
  repeat still_step
  still_call (place_same l2 1000 _ (by omega) (by omega))
  repeat still_step
  still_call (small_same l3 _)
  repeat still_step
  still_call (small_same l4 _)
  repeat still_step
  still_call (place_same l5 1000 _ (by omega) (by omega))
  repeat still_step
  refine wpStill_nil ?_
  change wpList _ _ _ _ _ V.drew
  go_wp2_with (refine wpList_store_blk rfl 30 (.tmp 2) (.tmp 21) rfl (w.heap.size + 1) 30 #[.int .i64 0, .int .i64 0, .int .i64 0, .int .i64 0, .int .i64 0, .int .i64 0] #[.int .i64 (l0 % 4), .int .i64 (l1 % 1048576), .int .i64 (l2 % 1000), .int .i64 (l3 % 1048576), .int .i64 (l4 % 1048576), .int .i64 (l5 % 1000)] rfl rfl hY.out.drew rfl size_st (stz_one _ _ _ _ _ _) ?_; intro w6 hb6 hk6 hz6; have HB6 := Lib.hid hb6; have HK6 := Lib.hid hk6; clear hb6 hk6 hz6)
  have t0 : w6.cell? ⟨w.heap.size + 1, 0, none⟩ = some (.int .i64 (l0 % 4)) := HB6.out.cell 0
  have t1 : w6.cell? ⟨w.heap.size + 1, 1, none⟩ = some (.int .i64 (l1 % 1048576)) := HB6.out.cell 1
  have t2 : w6.cell? ⟨w.heap.size + 1, 2, none⟩ = some (.int .i64 (l2 % 1000)) := HB6.out.cell 2
  have t3 : w6.cell? ⟨w.heap.size + 1, 3, none⟩ = some (.int .i64 (l3 % 1048576)) := HB6.out.cell 3
  have t4 : w6.cell? ⟨w.heap.size + 1, 4, none⟩ = some (.int .i64 (l4 % 1048576)) := HB6.out.cell 4
  have t5 : w6.cell? ⟨w.heap.size + 1, 5, none⟩ = some (.int .i64 (l5 % 1000)) := HB6.out.cell 5
  exact bodyPost_ret (v := .agg #[.int .i64 (l0 % 4), .int .i64 (l1 % 1048576), .int .i64 (l2 % 1000), .int .i64 (l3 % 1048576), .int .i64 (l4 % 1048576), .int .i64 (l5 % 1000)]) (by simp [results, Tryd.results24, go_sem, t0, t1, t2, t3, t4, t5]) rfl ⟨rfl, hB.out.drew.trans (HK6.out.below (B := w.heap.size) (by have := hB.out.size; exact this) (fun k hk e => by omega))⟩

theorem by_any (a b c d e f : Int) (w : World) :
    Calls Tryd.prog 27 #[.agg #[.int .i64 a, .int .i64 b, .int .i64 c, .int .i64 d, .int .i64 e, .int .i64 f]] w fun e' w' => e' = .returned (.agg #[.int .i64 a, .int .i64 b, .int .i64 c, .int .i64 d, .int .i64 e, .int .i64 f, .bool false]) ∧ Below w.heap.size w w' := by
  go_enter Tryd.func27, Tryd.ntmps27
  go_wp2
  exact bodyPost_ret (v := .agg #[.int .i64 a, .int .i64 b, .int .i64 c, .int .i64 d, .int .i64 e, .int .i64 f, .bool false]) (by simp [results, Tryd.results27, go_sem]) rfl ⟨rfl, by go_grown⟩
end Go.Proofs.YtnokiikgnplpmaaDoor
namespace Go.Proofs.YtnokiikgnplpmaaDoor
open Go.RowKit Go.WideShapes Go.ChangeShapes

theorem bulkAll_map {H : Type} (f : Nat → DataW H) (g : Nat → Nat) (h : ∀ i, g i ≤ Rows.uptoBulk (f i)) (l : List Nat) : (l.map g).sum ≤ Rows.uptoBulkAll (l.map f) := by
  induction l with
  | nil => simp
  | cons x r ih => have := h x; simp only [List.map_cons, List.sum_cons, Rows.uptoBulkAll]; omega
/-- Turns in memory, somewhere. -/
def TurnsIn (w : World) (A : Option Addr) (tl : List (ByteArray × Int)) : Prop :=
  0 < tl.length → ∃ R o, A = some ⟨R, o, none⟩ ∧ ∀ (j : Nat) (hj : j < tl.length), w.cell? ⟨R, o + j * 2, none⟩ = some (.string (tl[j]'hj).1) ∧ w.cell? ⟨R, o + j * 2 + 1, none⟩ = some (.int .i64 (tl[j]'hj).2)

theorem open_turns {H : Type} {enc : TypeId × Value → H} {P : Program} {w : World} {base : Nat} {held : Bool} {t e : TypeId} {f0 f1 : Field} {r : Reach} {b0 : Nat} {v : Value} {d : DataW H} {p : List MemPlace}
    (ht : P.underlying t = some (.slice e)) (he : P.underlying e = some (.struct #[f0, f1])) (ce : P.cellsOf e = 2) (o0 : f0.offset = 0) (o1 : f1.offset = 1) (c0 : P.cellsOf f0.type = 1) (c1 : P.cellsOf f1.type = 1)
    (u0 : P.underlying f0.type = some .string) (u1 : P.underlying f1.type = some (.int .i64)) (hv : Value.okWide P w r b0 t v) (h : DataW.Trod enc P w base (fun _ => true) held t v d p) :
    ∃ (A : Option Addr) (cap : Nat) (tl : List (ByteArray × Int)), v = .slice A tl.length cap ∧ TurnsIn w A tl ∧ tsz tl ≤ Rows.uptoBulk d ∧ (A = none → tl.length = 0 ∧ cap = 0) := by
  obtain ⟨a0, len, cap, rfl⟩ := okWide_slice ht hv
  obtain ⟨fuel, hf⟩ := h
  rcases Go.Deep.open_slice_pairs ht he ce o0 o1 c0 c1 hf with ⟨hcs, hx⟩ | ⟨a, len1, cap1, m, n, V0, V1, D0, D1, P0, P1, hcs, _, hl, _, hm, hx, hel⟩
  · simp [Value.cells] at hcs
    obtain ⟨rfl, rfl, rfl⟩ := hcs
    exact ⟨none, 0, [], rfl, fun q => absurd q (Nat.lt_irrefl _), Nat.zero_le _, fun _ => ⟨rfl, rfl⟩⟩
  · simp [Value.cells] at hcs
    obtain ⟨rfl, rfl, rfl⟩ := hcs
    simp only [if_true] at hm
    have each : ∀ i, i < m → ∃ x : ByteArray × Int, V0 i = .string x.1 ∧ V1 i = .int .i64 x.2 ∧ D0 i = .lit (.string x.1.data.toList) := by
      intro i hi
      obtain ⟨_, _, h3, h4⟩ := hel i hi
      obtain ⟨s, hs, hs2, _⟩ := DataW.trod_string u0 h3
      obtain ⟨z, hz, _, _⟩ := DataW.trod_int u1 h4
      simp only [Prod.mk.injEq] at hs2
      exact ⟨(s, z), by simpa using hs, by simpa using hz, hs2.1⟩
    obtain ⟨X, hX⟩ := Go.Deep.choose_lt each
    have hd : d = .slice ((List.range len).map fun i => .agg [D0 i, D1 i]) ((List.range (m - len)).map fun j => .agg [D0 (len + j), D1 (len + j)]) := (Prod.mk.inj hx).1
    have hlen : ((List.range len).map X).length = len := by simp
    refine ⟨some a, cap, (List.range len).map X, by rw [hlen], fun hpos => ?_, ?_, fun q => by cases q⟩
    · rw [hlen] at hpos
      obtain ⟨b, o, sp⟩ := a
      have h0 := (hel 0 (by omega)).1
      have e0 : (Addr.add ⟨b, o, sp⟩ (0 * 2)) = ⟨b, o, sp⟩ := by simp [Addr.add]
      rw [e0] at h0
      obtain rfl : sp = none := Go.Proofs.cell_spot h0
      refine ⟨b, o, rfl, fun j hj => ?_⟩
      rw [hlen] at hj
      obtain ⟨g1, g2, _, _⟩ := hel j (by omega)
      rw [Addr.add_lit] at g1 g2
      have hx2 := hX j (by omega)
      simp only [List.getElem_map, List.getElem_range]
      rw [hx2.1] at g1
      rw [hx2.2.1] at g2
      exact ⟨g1, by rw [Nat.add_assoc]; exact g2⟩
    · rw [hd]
      have key : ∀ l : List Nat, (∀ i ∈ l, i < m) → tsz (l.map X) ≤ Rows.uptoBulkAll (l.map fun i => .agg [D0 i, D1 i]) := by
        intro l
        induction l with
        | nil => intro _; simp [tsz]
        | cons i l ih =>
          intro hl'
          have h1 := ih (fun q hq => hl' q (by simp [hq]))
          have h2 := (hX i (hl' i (by simp))).2.2
          have h3 : (X i).1.data.toList.length = (X i).1.size := by rw [Array.length_toList]; rfl
          simp only [tsz, List.map_cons, List.sum_cons, Rows.uptoBulkAll, Rows.uptoBulk, h2] at h1 ⊢
          omega
      have := key (List.range len) (fun i hi => by have := List.mem_range.1 hi; omega)
      simp only [Rows.uptoBulk]
      omega

/-- The cells of turns. -/
def turnsC (tl : List (ByteArray × Int)) : List Value := tl.flatMap fun x => [.string x.1, .int .i64 x.2]
theorem turnsC_cons (x : ByteArray × Int) (tl : List (ByteArray × Int)) : turnsC (x :: tl) = [.string x.1, .int .i64 x.2] ++ turnsC tl := by simp [turnsC]
theorem turnsC_len (tl : List (ByteArray × Int)) : (turnsC tl).length = tl.length * 2 := by
  induction tl with
  | nil => rfl
  | cons x l ih => rw [turnsC_cons, List.length_append, ih, List.length_cons]; simp; omega
theorem turnsC_at (tl : List (ByteArray × Int)) (i : Nat) (h : i < tl.length) : (turnsC tl)[i * 2]? = some (.string (tl[i]'h).1) ∧ (turnsC tl)[i * 2 + 1]? = some (.int .i64 (tl[i]'h).2) := by
  induction tl generalizing i with
  | nil => simp at h
  | cons x l ih =>
    rw [turnsC_cons]
    cases i with
    | zero => exact ⟨rfl, rfl⟩
    | succ i =>
      have := ih i (by simpa using h)
      rw [List.getElem?_append_right (by simp; omega), List.getElem?_append_right (by simp; omega)]
      simp only [List.length_cons, List.length_nil]
      rw [show (i + 1) * 2 - (0 + 1 + 1) = i * 2 by omega, show (i + 1) * 2 + 1 - (0 + 1 + 1) = i * 2 + 1 by omega]
      exact this
theorem turnsC_one (tl : List (ByteArray × Int)) : ∀ u ∈ turnsC tl, u.oneCell' = true := by
  intro u hu
  unfold turnsC at hu
  rw [List.mem_flatMap] at hu
  obtain ⟨x, _, hx⟩ := hu
  simp at hx
  rcases hx with rfl | rfl <;> rfl
/-- What came in, as the source of an append. -/
theorem turns_src {w : World} {A : Option Addr} {cap : Nat} {tl : List (ByteArray × Int)} (h : TurnsIn w A tl) (h0 : A = none → tl.length = 0 ∧ cap = 0) : Src Tryd.prog 2 22 (.slice A tl.length cap) tl.length (turnsC tl) w := by
  cases A with
  | none =>
    obtain ⟨h1, rfl⟩ := h0 rfl
    obtain rfl : tl = [] := List.eq_nil_of_length_eq_zero h1
    exact Src.ofNil w Tryd.underlying22 0
  | some a =>
    refine Src.ofSlice w Tryd.underlying22 a tl.length cap (turnsC tl) (turnsC_len tl) (fun j u hj => ?_) (turnsC_one tl)
    have hlt : j < tl.length * 2 := by rw [← turnsC_len]; exact (List.getElem?_eq_some_iff.1 hj).1
    obtain ⟨R, o, hA, hc⟩ := h (by omega)
    injection hA with hA
    subst hA
    have hi : j / 2 < tl.length := by omega
    have h1 := hc (j / 2) hi
    have h2 := turnsC_at tl (j / 2) hi
    rw [Addr.add_lit]
    rcases Nat.mod_two_eq_zero_or_one j with q | q
    · have e : j = j / 2 * 2 := by omega
      rw [e] at hj ⊢
      rw [h2.1] at hj
      rw [h1.1]
      exact hj
    · have e : j = j / 2 * 2 + 1 := by omega
      rw [e] at hj ⊢
      rw [h2.2] at hj
      rw [← Nat.add_assoc, h1.2]
      exact hj
theorem turns_own {w : World} {base : Nat} {v : Value} {tl : List (ByteArray × Int)} (h : w.ownsRow base 25 2 v tl.length (turnsC tl)) (hn : 0 < tl.length) : TurnsAt w w.heap.size v tl := by
  obtain ⟨A, c, rfl, hA⟩ := own_form h
  obtain ⟨k, rfl, hk⟩ := hA hn
  exact ⟨k, c, rfl, (own_lt h rfl).2, fun j hj => ⟨hk _ _ (turnsC_at tl j hj).1, hk _ _ (turnsC_at tl j hj).2⟩⟩
theorem steps_own {w : World} {base : Nat} {v : Value} {l : List (List Nat × Nat)} (h : w.ownsRow base 40 3 v l.length (stpsC l)) (hn : 0 < l.length) : StepsAt w w.heap.size v l := by
  obtain ⟨A, c, rfl, hA⟩ := own_form h
  obtain ⟨k, rfl, hk⟩ := hA hn
  refine ⟨k, c, rfl, (own_lt h rfl).2, fun j hj => ⟨hk _ _ ?_, hk _ _ ?_, hk _ _ ?_⟩⟩
  · exact stpsC_at l j 0 hj (by omega)
  · exact stpsC_at l j 1 hj (by omega)
  · exact stpsC_at l j 2 hj (by omega)
theorem turns_new (w : World) (x : ByteArray × Int) (base : Nat) (hb : base ≤ w.heap.size) : (w.alloc (.cells #[.string x.1, .int .i64 x.2] 25)).ownsRow base 25 2 (.slice (some ⟨w.heap.size, 0, none⟩) 1 1) 1 (turnsC [x]) :=
  ⟨rfl, .inr ⟨w.heap.size, 1, #[.string x.1, .int .i64 x.2], rfl, hb, heap_alloc_new _ _, Nat.le_refl _, by unfold maxLen; omega, rfl, rfl⟩⟩
theorem info_turn : (Tryd.prog.info? 25).map (fun i => (i.zero, i.size, i.bytes)) = some (some (.agg #[.string ByteArray.empty, .int .i64 0]), 2, 24) := by kernel_rfl
/-- What the steps of turns are good for. -/
theorem steps_ok (rs : List Nat) (hv : okR rs) (hs : (txt rs).size ≤ 16777216) (tl : List (ByteArray × Int)) : ∀ x ∈ mkSteps (txt rs) tl, x.2 ≤ 1073741824 ∧ LocOk (tabsOf (txt rs)) x.2 := by
  intro x hx
  unfold mkSteps at hx
  obtain ⟨y, _, rfl⟩ := List.mem_map.1 hx
  obtain ⟨a, b, h1, h2, _, _, h4, _⟩ := tab_place rs hv _ (stepP_mem (txt rs) y.2)
  refine ⟨?_, h4⟩
  simp only
  rw [h2]
  have : (txt rs).size = (encs a).length + (encs b).length := by rw [txt_size, h1, encs_app, List.length_append]
  omega
theorem step_ab : (encs (stepR ⟨#[97, 98]⟩)).length = 2 := by decide +kernel
theorem step_c : (encs (stepR ⟨#[99]⟩)).length = 1 := by decide +kernel
theorem TurnsIn.after {w w' : World} {A : Option Addr} {tl : List (ByteArray × Int)} (h : TurnsIn w A tl) (hb : Below w.heap.size w w') : TurnsIn w' A tl := fun hp => by
  obtain ⟨R, o, h1, h2⟩ := h hp
  have hR : R < w.heap.size := cell_lt (h2 0 hp).1
  exact ⟨R, o, h1, fun j hj => ⟨(hb.cell (p := ⟨R, _, none⟩) hR).trans (h2 j hj).1, (hb.cell (p := ⟨R, _, none⟩) hR).trans (h2 j hj).2⟩⟩
theorem validT_any (s : ByteArray) (w : World) (hs : s.size ≤ 140737488351232) :
    Calls Tryd.prog 12 #[.string s] w fun e w' => (∃ rs, okR rs ∧ (txt rs).size ≤ s.size ∧ e = .returned (.string (txt rs))) ∧ Below w.heap.size w w' :=
  (valid_any s w hs).mono fun _ _ ⟨he, hb⟩ => ⟨⟨validL s, validL_valid s, by rw [txt_size]; exact validL_len s, he⟩, hb⟩
/-- A place's number, as a number. -/
theorem place_nat (n k : Int) (w : World) (h1 : 1 ≤ k) (h2 : k ≤ 4611686018427387904) :
    Calls Tryd.prog 15 #[.int .i64 n, .int .i64 k] w fun e w' => (∃ p : Nat, (p : Int) < k ∧ (p : Int) = n % k ∧ e = .returned (.int .i64 (p : Int))) ∧ w = w' :=
  (place_any n k w h1 h2).mono fun _ _ ⟨he, hw⟩ => ⟨⟨(n % k).toNat, by have := Int.emod_lt_of_pos n (b := k) (by omega); have := Int.emod_nonneg n (b := k) (by omega); omega, by have := Int.emod_nonneg n (b := k) (by omega); omega, by rw [he]; have := Int.emod_nonneg n (b := k) (by omega); congr 2; omega⟩, hw⟩
/-- The bulk of turns with one more ahead. -/
theorem tsz_cons (x : ByteArray × Int) (tl : List (ByteArray × Int)) : tsz (x :: tl) = x.1.size + 1 + tsz tl := by simp [tsz]
/-- All that impl.Chunk asks of steps that are made of turns. -/
theorem chunkT_any (rs : List Nat) (hv : okR rs) (hs : (txt rs).size ≤ 1048576) (ln : Nat) (x : ByteArray × Int) (tl : List (ByteArray × Int)) (vs : Value) (rest : List Nat) (hr : (txt rest).size ≤ 1048576) (w : World) (B : Nat) (hT : B64 B w) (hB : B ≤ w.heap.size) (hln : ln ≤ 1000) (hst : StepsAt w w.heap.size vs (mkSteps (txt rs) (x :: tl)))
    (hz : tsz (x :: tl) ≤ 2097152) (h0 : 0 < (encs (stepR x.1)).length) :
    Calls Tryd.prog 14 #[.string (txt rs), .int .i64 (ln : Int), vs, .string (txt rest)] w fun e w' => e = .returned (.tuple #[.string ⟨(cend (tabsOf (txt rs)) (mkSteps (txt rs) (x :: tl)) rest).sm.toArray⟩, .agg (stC (cend (tabsOf (txt rs)) (mkSteps (txt rs) (x :: tl)) rest).st), .int .i64 ((cend (tabsOf (txt rs)) (mkSteps (txt rs) (x :: tl)) rest).gcol : Int), .int .i64 (-1)]) ∧ Below w.heap.size w w' := by
  have h1 := allR_len (txt rs) (x :: tl)
  have h2 := tsz_len (x :: tl)
  have h3 : (mkSteps (txt rs) (x :: tl)).length = (x :: tl).length := by simp [mkSteps]
  rw [txt_size] at hr
  exact chunk_any (txt rs) ln _ vs rest w B hT hB (by omega) hln hst (by omega) (by omega) ⟨_, _, rfl, h0⟩ (steps_ok rs hv (by omega) _)
end Go.Proofs.YtnokiikgnplpmaaDoor
namespace Go.Proofs.YtnokiikgnplpmaaDoor
open Go.RowKit

theorem rsegs_short {q : Seg × Int} {toks : List (Option (List Int))} (h : rok q toks) (fr : Bool) : (rsegs q toks).length ≤ (tokB fr toks).length := by
  induction toks generalizing q fr with
  | nil => simp [rsegs]
  | cons t r ih => cases t with
    | none => have := ih h.2 true; simp only [rsegs, tokB, List.length_cons]; omega
    | some ns =>
      have := ih h.2.2 false
      have hn := h.2.1.1
      have hp : 1 ≤ (nums ns).length := by
        cases ns with
        | nil => simp at hn
        | cons n nt => rw [nums_cons, List.length_append]; have := nb_pos' n; omega
      simp only [rsegs, tokB, List.length_cons, List.length_append]
      omega
theorem cend_short (ts : List LT) (hts : TabBd ts) (hl : ts.length ≤ 1073741824) (l : List (List Nat × Nat)) (rest : List Nat) (hp : ∀ x ∈ l, x.2 ≤ 1073741824) (hz : (encs (allR l)).length + (encs rest).length + l.length ≤ 1073741824) : (cend ts l rest).sm.length ≤ 549755813888 := by
  obtain ⟨hlu, hle⟩ := cgo_le ts hts 1073741824 (Nat.le_refl _) hl l hp
  have hout := cgo_out ts l
  have hu := (upd_le (tailOf ((cgo ts l).2 ++ encs rest) (cgo ts l).1.lu) (tailOf ((cgo ts l).2 ++ encs rest) (cgo ts l).1.lu).size 0 hle).1
  have ht := tail_size ((cgo ts l).2 ++ encs rest) (cgo ts l).1.lu
  rw [hout] at hlu
  rw [List.length_append, hout] at ht
  have e : (cend ts l rest).sm = (upd (tailOf ((cgo ts l).2 ++ encs rest) (cgo ts l).1.lu) (tailOf ((cgo ts l).2 ++ encs rest) (cgo ts l).1.lu).size 0 (cgo ts l).1).sm := rfl
  rw [e]
  rw [hout] at hu ⊢
  omega
/-- What the steps of turns are. -/
theorem steps_ok2 (s : ByteArray) (tl : List (ByteArray × Int)) : (∀ x ∈ mkSteps s tl, okR x.1) ∧ (∀ x ∈ mkSteps s tl, x.1.getLast? ≠ some 13) := by
  constructor
  · intro x hx
    obtain ⟨y, _, rfl⟩ := List.mem_map.1 hx
    exact stepR_ok y.1
  · intro x hx
    obtain ⟨y, _, rfl⟩ := List.mem_map.1 hx
    exact stepR_last y.1
/-- The end of what is made of turns. -/
def endT (rs : List Nat) (tl : List (ByteArray × Int)) (rest : List Nat) : Bd := cend (tabsOf (txt rs)) (mkSteps (txt rs) tl) rest
theorem endT_inv (rs : List Nat) (hv : okR rs) (hs : (txt rs).size ≤ 1048576) (tl : List (ByteArray × Int)) (rest : List Nat) (hr : okR rest) (hrz : (txt rest).size ≤ 1048576) (hz : tsz tl ≤ 2097152) :
    ∃ toks, BTok (endT rs tl rest) toks ∧ (endT rs tl rest).st.gl = ((advI (allR (mkSteps (txt rs) tl) ++ rest) (0, 0)).1 : Int) ∧ (endT rs tl rest).gcol = (advI (allR (mkSteps (txt rs) tl) ++ rest) (0, 0)).2 ∧ (endT rs tl rest).sm.length ≤ 549755813888 := by
  have h1 := allR_len (txt rs) tl
  have h2 := tsz_len tl
  have h3 : (mkSteps (txt rs) tl).length = tl.length := by simp [mkSteps]
  have htd := tabs_bd (txt rs) (by omega)
  rw [txt_size] at hrz
  have hp := fun x hx => (steps_ok rs hv (by omega) tl x hx).1
  obtain ⟨toks, a1, a2, a3⟩ := cend_inv (tabsOf (txt rs)) htd.1 (by omega) (mkSteps (txt rs) tl) rest hp (steps_ok2 _ tl).1 (steps_ok2 _ tl).2 hr (by omega)
  exact ⟨toks, a1, a2, a3, cend_short _ htd.1 (by omega) _ rest hp (by omega)⟩

set_option maxHeartbeats 4000000 in
set_option maxRecDepth 100000 in
theorem chunkL_any (rs : List Nat) (hv : okR rs) (hs : (txt rs).size ≤ 1048576) (a1 : Int) (x : ByteArray × Int) (tl : List (ByteArray × Int)) (v : Value) (rest : List Nat) (hrz : (txt rest).size ≤ 1048576) (w : World) (hT : B64 w.heap.size w) (ht : TurnsAt w w.heap.size v (x :: tl))
    (hz : tsz (x :: tl) ≤ 2097152) (h0 : 0 < (encs (stepR x.1)).length) (toks : List (Option (List Int))) (hb : BTok (endT rs (x :: tl) rest) toks) (hsm : (endT rs (x :: tl) rest).sm.length ≤ 549755813888) :
    Calls Tryd.prog 16 #[.string (txt rs), .int .i64 a1, v, .string (txt rest)] w fun e w' => ∃ u, e = .returned (.tuple #[u, .agg (stC (endT rs (x :: tl) rest).st), .int .i64 ((endT rs (x :: tl) rest).gcol : Int), .bool true]) ∧ w'.ownsRow w.heap.size 45 7 u (rsegs qz toks).length (sgs (rsegs qz toks)) ∧ Below w.heap.size w w' := by
  have hrd := rsegs_short hb.ok true
  rw [← hb.sm] at hrd
  have hbA := balloc (Below.refl w.heap.size w) (.cells #[.int .i64 0, .int .i64 0, .int .i64 0, .int .i64 0, .int .i64 0, .int .i64 0] 30)
  have bA := Blk.new w 30 #[.int .i64 0, .int .i64 0, .int .i64 0, .int .i64 0, .int .i64 0, .int .i64 0]
  have HT1 := Lib.hid (ht.below hbA)
  have HA := Lib.hid hbA
  have HBA := Lib.hid bA
  have HTOK := Lib.hid hb
  have hl1 : Hid ((mkSteps (txt rs) (x :: tl)).length = (x :: tl).length) := Lib.hid (by simp [mkSteps])
  obtain ⟨D, hD⟩ : ∃ D, D = endT rs (x :: tl) rest := ⟨_, rfl⟩
  rw [← hD] at HTOK hsm hrd
  have HDD := Lib.hid hD
  clear hbA bA ht hb hD
  go_enter Tryd.func16, Tryd.ntmps16
  go_wp2_with fail
  generalize hWA : w.alloc (.cells #[.int .i64 0, .int .i64 0, .int .i64 0, .int .i64 0, .int .i64 0, .int .i64 0] 30) = WA at *
  have hzA : WA.heap.size = w.heap.size + 1 := by rw [← hWA]; simp
  have HWZ := Lib.hid hzA
  clear hWA
  have TA : TurnsAt WA WA.heap.size v (x :: tl) := by
    obtain ⟨R, c, h1, h2, h3⟩ := HT1.out
    exact ⟨R, c, h1, by omega, h3⟩
  clear hzA
  refine (made_any (txt rs) (x :: tl) v WA (by omega) (by omega) TA).mono ?_
  rintro e w4 ⟨u, rfl, ho4, hb4⟩
  rw [← hl1.out] at ho4
  have SA := Lib.hid (steps_own ho4 (by rw [hl1.out]; simp))
  have BA4 := Lib.hid (HBA.out.kep (Kep.of_below (X := fun _ => False) hb4) (fun q => q))
  have HB4 := Lib.hid (bthen HA.out hb4)
  have hT4 := Lib.hid (hT.below HB4.out)
  have hs4 := HB4.out.size
  clear ho4 hb4 TA HT1 hT HBA HA
  go_wp2_with fail
  refine (place_nat _ _ _ (by omega) (by omega)).mono ?_
  rintro e w' ⟨⟨p1, hp1, hq1, rfl⟩, rfl⟩
  clear hq1
  go_wp2_with fail
  refine (chunkT_any rs hv (by omega) p1 x tl u rest (by omega) w4 w.heap.size hT4.out hs4 (by omega) SA.out hz h0).mono ?_
  rintro e w5 ⟨rfl, hb5⟩
  have HB5 := Lib.hid (HB4.out.trans (hb5.mono hs4))
  have BA5 := Lib.hid (BA4.out.kep (Kep.of_below (X := fun _ => False) hb5) (fun q => q))
  clear SA HB4 hT4 BA4 hb5
  rw [show cend (tabsOf (txt rs)) (mkSteps (txt rs) (x :: tl)) rest = D from HDD.out.symm]
  unfold stC
  have k0 : w5.cell? ⟨w.heap.size, 0, none⟩ = some (.int .i64 0) := BA5.out.cell 0
  have k1 : w5.cell? ⟨w.heap.size, 1, none⟩ = some (.int .i64 0) := BA5.out.cell 1
  have k2 : w5.cell? ⟨w.heap.size, 2, none⟩ = some (.int .i64 0) := BA5.out.cell 2
  have k3 : w5.cell? ⟨w.heap.size, 3, none⟩ = some (.int .i64 0) := BA5.out.cell 3
  have k4 : w5.cell? ⟨w.heap.size, 4, none⟩ = some (.int .i64 0) := BA5.out.cell 4
  have k5 : w5.cell? ⟨w.heap.size, 5, none⟩ = some (.int .i64 0) := BA5.out.cell 5
  have f0 := BA5.out.frozen 0
  have f1 := BA5.out.frozen 1
  have f2 := BA5.out.frozen 2
  have f3 := BA5.out.frozen 3
  have f4 := BA5.out.frozen 4
  have f5 := BA5.out.frozen 5
  have z5 : w.heap.size < w5.heap.size := BA5.out.lt
  go_upto_region 3 with (refine wpList_store_blk rfl 30 (.tmp 9) (.tmp 30) rfl w.heap.size 30 #[.int .i64 0, .int .i64 0, .int .i64 0, .int .i64 0, .int .i64 0, .int .i64 0] #[.int .i64 D.st.gl, .int .i64 D.st.gc, .int .i64 D.st.si, .int .i64 D.st.ol, .int .i64 D.st.oc, .int .i64 D.st.on] rfl rfl BA5.out rfl size_st (stz_one _ _ _ _ _ _) ?_; intro w6 hb6 hk6 hz6; have HB6 := Lib.hid hb6; have HK6 := Lib.hid hk6; have HZ6 := Lib.hid hz6; clear hb6 hk6 hz6)
  have HBw6 := Lib.hid (HB5.out.trans (HK6.out.below (B := w.heap.size) (by omega) (fun k hk e => by omega)))
  have hz6 : w5.heap.size = w6.heap.size := HZ6.out.symm
  clear k0 k1 k2 k3 k4 k5 f0 f1 f2 f3 f4 f5 HB5 BA5 HK6 HZ6
  go_wp2_with fail
  refine (read_any toks _ w6 HTOK.out.ok (by simp [ByteArray.size]; omega) (by rw [HTOK.out.sm]) (by omega)).mono ?_
  rintro e w7 ⟨u7, rfl, ho7, hb7⟩
  have BS7 := Lib.hid (HB6.out.kep (Kep.of_below (X := fun _ => False) hb7) (fun q => q))
  have HB7 := Lib.hid (HBw6.out.trans (hb7.mono HBw6.out.size))
  have O7 := Lib.hid ho7
  clear HB6 hb7 ho7 HBw6
  have k0 : w7.cell? ⟨w.heap.size, 0, none⟩ = some (.int .i64 D.st.gl) := BS7.out.cell 0
  have k1 : w7.cell? ⟨w.heap.size, 1, none⟩ = some (.int .i64 D.st.gc) := BS7.out.cell 1
  have k2 : w7.cell? ⟨w.heap.size, 2, none⟩ = some (.int .i64 D.st.si) := BS7.out.cell 2
  have k3 : w7.cell? ⟨w.heap.size, 3, none⟩ = some (.int .i64 D.st.ol) := BS7.out.cell 3
  have k4 : w7.cell? ⟨w.heap.size, 4, none⟩ = some (.int .i64 D.st.oc) := BS7.out.cell 4
  have k5 : w7.cell? ⟨w.heap.size, 5, none⟩ = some (.int .i64 D.st.on) := BS7.out.cell 5
  have f0 := BS7.out.frozen 0
  have f1 := BS7.out.frozen 1
  have f2 := BS7.out.frozen 2
  have f3 := BS7.out.frozen 3
  have f4 := BS7.out.frozen 4
  have f5 := BS7.out.frozen 5
  have z7 : w.heap.size < w7.heap.size := BS7.out.lt
  go_wp2_with fail
  go_region
  have S8 : Blk ((((((w7.setCell ⟨w.heap.size, 0, none⟩ (.int .i64 D.st.gl)).setCell ⟨w.heap.size, 1, none⟩ (.int .i64 D.st.gc)).setCell ⟨w.heap.size, 2, none⟩ (.int .i64 D.st.si)).setCell ⟨w.heap.size, 3, none⟩ (.int .i64 D.st.ol)).setCell ⟨w.heap.size, 4, none⟩ (.int .i64 D.st.oc)).setCell ⟨w.heap.size, 5, none⟩ (.int .i64 D.st.on)).drew w.heap.size 30 (stC D.st) := Blk.drew ((((((BS7.out.set_ 0 (.int .i64 D.st.gl)).set_ 1 (.int .i64 D.st.gc)).set_ 2 (.int .i64 D.st.si)).set_ 3 (.int .i64 D.st.ol)).set_ 4 (.int .i64 D.st.oc)).set_ 5 (.int .i64 D.st.on))
  have B8 : Below w.heap.size w ((((((w7.setCell ⟨w.heap.size, 0, none⟩ (.int .i64 D.st.gl)).setCell ⟨w.heap.size, 1, none⟩ (.int .i64 D.st.gc)).setCell ⟨w.heap.size, 2, none⟩ (.int .i64 D.st.si)).setCell ⟨w.heap.size, 3, none⟩ (.int .i64 D.st.ol)).setCell ⟨w.heap.size, 4, none⟩ (.int .i64 D.st.oc)).setCell ⟨w.heap.size, 5, none⟩ (.int .i64 D.st.on)).drew := ((((((HB7.out.setCell (p := ⟨w.heap.size, 0, none⟩) (Nat.le_refl _) (.int .i64 D.st.gl)).setCell (p := ⟨w.heap.size, 1, none⟩) (Nat.le_refl _) (.int .i64 D.st.gc)).setCell (p := ⟨w.heap.size, 2, none⟩) (Nat.le_refl _) (.int .i64 D.st.si)).setCell (p := ⟨w.heap.size, 3, none⟩) (Nat.le_refl _) (.int .i64 D.st.ol)).setCell (p := ⟨w.heap.size, 4, none⟩) (Nat.le_refl _) (.int .i64 D.st.oc)).setCell (p := ⟨w.heap.size, 5, none⟩) (Nat.le_refl _) (.int .i64 D.st.on)).drew
  have O8 : ((((((w7.setCell ⟨w.heap.size, 0, none⟩ (.int .i64 D.st.gl)).setCell ⟨w.heap.size, 1, none⟩ (.int .i64 D.st.gc)).setCell ⟨w.heap.size, 2, none⟩ (.int .i64 D.st.si)).setCell ⟨w.heap.size, 3, none⟩ (.int .i64 D.st.ol)).setCell ⟨w.heap.size, 4, none⟩ (.int .i64 D.st.oc)).setCell ⟨w.heap.size, 5, none⟩ (.int .i64 D.st.on)).drew.ownsRow w6.heap.size 45 7 u7 (rsegs qz toks).length (sgs (rsegs qz toks)) := World.ownsRow.drew (ownsRow_setCell_below (ownsRow_setCell_below (ownsRow_setCell_below (ownsRow_setCell_below (ownsRow_setCell_below (ownsRow_setCell_below O7.out (a := ⟨w.heap.size, 0, none⟩) (by simp only; omega) (.int .i64 D.st.gl)) (a := ⟨w.heap.size, 1, none⟩) (by simp only; omega) (.int .i64 D.st.gc)) (a := ⟨w.heap.size, 2, none⟩) (by simp only; omega) (.int .i64 D.st.si)) (a := ⟨w.heap.size, 3, none⟩) (by simp only; omega) (.int .i64 D.st.ol)) (a := ⟨w.heap.size, 4, none⟩) (by simp only; omega) (.int .i64 D.st.oc)) (a := ⟨w.heap.size, 5, none⟩) (by simp only; omega) (.int .i64 D.st.on))
  clear k0 k1 k2 k3 k4 k5 f0 f1 f2 f3 f4 f5
  generalize ((((((w7.setCell ⟨w.heap.size, 0, none⟩ (.int .i64 D.st.gl)).setCell ⟨w.heap.size, 1, none⟩ (.int .i64 D.st.gc)).setCell ⟨w.heap.size, 2, none⟩ (.int .i64 D.st.si)).setCell ⟨w.heap.size, 3, none⟩ (.int .i64 D.st.ol)).setCell ⟨w.heap.size, 4, none⟩ (.int .i64 D.st.oc)).setCell ⟨w.heap.size, 5, none⟩ (.int .i64 D.st.on)).drew = W8 at *
  have t0 : W8.cell? ⟨w.heap.size, 0, none⟩ = some (.int .i64 D.st.gl) := S8.cell 0
  have t1 : W8.cell? ⟨w.heap.size, 1, none⟩ = some (.int .i64 D.st.gc) := S8.cell 1
  have t2 : W8.cell? ⟨w.heap.size, 2, none⟩ = some (.int .i64 D.st.si) := S8.cell 2
  have t3 : W8.cell? ⟨w.heap.size, 3, none⟩ = some (.int .i64 D.st.ol) := S8.cell 3
  have t4 : W8.cell? ⟨w.heap.size, 4, none⟩ = some (.int .i64 D.st.oc) := S8.cell 4
  have t5 : W8.cell? ⟨w.heap.size, 5, none⟩ = some (.int .i64 D.st.on) := S8.cell 5
  have HB8 := Lib.hid B8
  have HO8 := Lib.hid O8
  clear B8 S8 O8 BS7 HB7 O7
  go_wp2_with fail
  refine bodyPost_ret (v := .tuple #[u7, .agg (stC D.st), .int .i64 (D.gcol : Int), .bool true]) (by simp [results, Tryd.results16, go_sem, t0, t1, t2, t3, t4, t5, stC]) rfl ⟨u7, ?_, own_mono HO8.out (by omega), HB8.out⟩
  rw [← HDD.out]
end Go.Proofs.YtnokiikgnplpmaaDoor

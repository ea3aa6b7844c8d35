/-
  The contracts of spec.Moved, laws.endOf, laws.same. Conditions: as each one says.
-/
import Derived.Test.YtnokiikgnplpmaaDoorM7
import Derived.Test.YtnokiikgnplpmaaDoorM13
import Derived.Test.YtnokiikgnplpmaaDoorM2
import Derived.Test.YtnokiikgnplpmaaDoorM1
import Derived.Test.YtnokiikgnplpmaaDoorM15
namespace Go.Proofs.YtnokiikgnplpmaaDoor
open Go.RowKit

/-- What Moved has in memory in a round. -/
def MvSt (g B : Nat) (w : World) (M : Array Value) (v : Value) (n : Nat) (xs : List Value) (q : Array Value) (W : World) : Prop :=
  Blk W B 45 q ∧ Blk W g 45 M ∧ W.ownsRow (g + 1) 45 7 v n xs ∧ Below g w W ∧ g < B ∧ v.ownBlock ≠ some B
theorem MvSt.put {g B : Nat} {w : World} {M : Array Value} {v : Value} {n : Nat} {xs : List Value} {q : Array Value} {W : World} (h : MvSt g B w M v n xs q W) (i : Nat) (u : Value) (q' : Array Value) (e : q.setIfInBounds i u = q') : MvSt g B w M v n xs q' (W.setCell ⟨B, i, none⟩ u) := by
  obtain ⟨h1, h2, h3, h4, h5, h6⟩ := h
  exact ⟨e ▸ h1.set_ i u, h2.far (by simp only; omega) u, ownsRow_setCell_other h3 h6 u, h4.setCell (by simp only; omega) u, h5, h6⟩

set_option maxHeartbeats 4000000 in
set_option maxRecDepth 100000 in
theorem moved_any (l : List Seg) (m : Seg) (v : Value) (w : World) (hv : SegsAt w w.heap.size v l) (hn : l.length ≤ 4194304) (hb : ∀ x ∈ l, sgBd x) (hm : (0 ≤ m.l ∧ m.l ≤ 8589934592) ∧ (0 ≤ m.c ∧ m.c ≤ 8589934592) ∧ (0 ≤ m.s ∧ m.s ≤ 8589934592) ∧ (0 ≤ m.fl ∧ m.fl ≤ 8589934592) ∧ (0 ≤ m.fc ∧ m.fc ≤ 8589934592) ∧ (0 ≤ m.nm ∧ m.nm ≤ 8589934592)) :
    Calls Tryd.prog 22 #[v, .agg (sgA m)] w fun e w' => ∃ u, e = .returned u ∧ w'.ownsRow w.heap.size 45 7 u (l.map (mvS m)).length (sgs (l.map (mvS m))) ∧ Below w.heap.size w w' := by
  obtain ⟨iS, hiS, hS0, hS1, hS2⟩ := info_parts info_seg
  obtain ⟨R, c, rfl, hR, hcl⟩ := hv
  have HCL := Lib.hid hcl
  have HBD := Lib.hid hb
  obtain ⟨ml, mc, ms, mfl, mfc, mnm, mnd⟩ := m
  obtain ⟨m1, m2, m3, m4, m5, m6⟩ := hm
  simp only at m1 m2 m3 m4 m5 m6
  clear hcl hb
  rw [List.length_map]
  unfold sgA
  simp only
  go_enter Tryd.func22, Tryd.ntmps22
  go_wp2_with fail
  go_loopg [5, 10] l.length (fun f s5 s10 wr => ∃ i : Nat, i + f = l.length ∧ s10 = .int .i64 (i : Int) ∧ wr.ownsRow (w.heap.size + 1) 45 7 s5 i (sgs ((l.take i).map (mvS ⟨ml, mc, ms, mfl, mfc, mnm, mnd⟩))) ∧ Blk wr w.heap.size 45 #[.int .i64 ml, .int .i64 mc, .int .i64 ms, .int .i64 mfl, .int .i64 mfc, .int .i64 mnm, .bool mnd] ∧ Below w.heap.size w wr)
  case atStart => exact ⟨0, by omega, rfl, World.ownsRow_nil _ _ _ _, Blk.new w _ _, balloc (Below.refl _ _) _⟩
  case round =>
    obtain ⟨i, hi, rfl, hown, hbl, hbw⟩ := hrel
    by_cases hlt : i < l.length
    · obtain ⟨f, rfl⟩ : ∃ f, gk = f + 1 := ⟨gk - 1, by omega⟩
      have hx := HBD.out (l[i]'hlt) (List.getElem_mem hlt)
      have hc : ∀ j u, (l[i]'hlt).cells[j]? = some u → wr.cell? ⟨R, i * 7 + j, none⟩ = some u := fun j u hj => by
        have hj7 : j < 7 := by
          have := (List.getElem?_eq_some_iff.1 hj).1
          rwa [Seg.cells_len] at this
        refine (hbw.cell (p := ⟨R, _, none⟩) hR).trans (HCL.out _ u ?_)
        rw [sgs_at l i j hlt hj7]
        exact hj
      have htk : (l.take (i + 1)).map (mvS ⟨ml, mc, ms, mfl, mfc, mnm, mnd⟩) = (l.take i).map (mvS ⟨ml, mc, ms, mfl, mfc, mnm, mnd⟩) ++ [mvS ⟨ml, mc, ms, mfl, mfc, mnm, mnd⟩ (l[i]'hlt)] := by rw [take_snoc' l i hlt, List.map_append]; rfl
      have HTK := Lib.hid htk
      obtain ⟨x, hxx⟩ : ∃ x, x = l[i]'hlt := ⟨_, rfl⟩
      rw [← hxx] at hx hc HTK
      clear hxx htk
      obtain ⟨xl, xc, xs, xfl, xfc, xnm, xnd⟩ := x
      obtain ⟨x1, x2, x3, x4, x5, x6, _⟩ := hx
      simp only at x1 x2 x3 x4 x5 x6
      have c0 : wr.cell? ⟨R, i * 7, none⟩ = some (.int .i64 xl) := hc 0 _ rfl
      have c1 : wr.cell? ⟨R, i * 7 + 1, none⟩ = some (.int .i64 xc) := hc 1 _ rfl
      have c2 : wr.cell? ⟨R, i * 7 + 2, none⟩ = some (.int .i64 xs) := hc 2 _ rfl
      have c3 : wr.cell? ⟨R, i * 7 + 3, none⟩ = some (.int .i64 xfl) := hc 3 _ rfl
      have c4 : wr.cell? ⟨R, i * 7 + 4, none⟩ = some (.int .i64 xfc) := hc 4 _ rfl
      have c5 : wr.cell? ⟨R, i * 7 + 5, none⟩ = some (.int .i64 xnm) := hc 5 _ rfl
      have c6 : wr.cell? ⟨R, i * 7 + 6, none⟩ = some (.bool xnd) := hc 6 _ rfl
      have hg : w.heap.size < wr.heap.size := hbl.lt
      have hst : MvSt w.heap.size wr.heap.size w #[.int .i64 ml, .int .i64 mc, .int .i64 ms, .int .i64 mfl, .int .i64 mfc, .int .i64 mnm, .bool mnd] u5 i (sgs ((l.take i).map (mvS ⟨ml, mc, ms, mfl, mfc, mnm, mnd⟩))) #[.int .i64 xl, .int .i64 xc, .int .i64 xs, .int .i64 xfl, .int .i64 xfc, .int .i64 xnm, .bool xnd] (wr.alloc (.cells #[.int .i64 xl, .int .i64 xc, .int .i64 xs, .int .i64 xfl, .int .i64 xfc, .int .i64 xnm, .bool xnd] 45)) :=
        ⟨Blk.new wr _ _, hbl.alloc _, hown.alloc _, balloc hbw _, hg, fun q => by have := (hown.lt _ q).2; omega⟩
      have HST := Lib.hid hst
      clear hc hown hbl hbw hst
      generalize hMM : (#[.int .i64 ml, .int .i64 mc, .int .i64 ms, .int .i64 mfl, .int .i64 mfc, .int .i64 mnm, .bool mnd] : Array Value) = M at HST
      have HMM := Lib.hid hMM
      clear hMM
      generalize hXS : sgs ((l.take i).map (mvS ⟨ml, mc, ms, mfl, mfc, mnm, mnd⟩)) = XS at *
      have HXS := Lib.hid hXS
      clear hXS
      go_upto_if 17 with fail
      clear c0 c1 c2 c3 c4 c5 c6
      generalize wr.alloc (.cells #[.int .i64 xl, .int .i64 xc, .int .i64 xs, .int .i64 xfl, .int .i64 xfc, .int .i64 xnm, .bool xnd] 45) = V1 at *
      obtain ⟨B, hB⟩ : ∃ B, B = wr.heap.size := ⟨_, rfl⟩
      rw [← hB] at HST ⊢
      clear hB hg
      obtain ⟨cc, hcc⟩ : ∃ cc : Int, cc = if xl = 0 then xc + mc else xc := ⟨_, rfl⟩
      have hcb : 0 ≤ cc ∧ cc ≤ 20000000000 := by rw [hcc]; split <;> omega
      have HCC := Lib.hid hcc
      clear hcc
      go_cut [] (fun wx => MvSt w.heap.size B w M u5 i XS #[.int .i64 xl, .int .i64 cc, .int .i64 xs, .int .i64 xfl, .int .i64 xfc, .int .i64 xnm, .bool xnd] wx)
      case first =>
        as_aux_lemma =>
          obtain ⟨b1, b2, b3, b4, b5, b6⟩ := HST.out
          rw [← HMM.out] at b2
          have d0 : V1.cell? ⟨B, 1, none⟩ = some (.int .i64 xc) := b1.cell 1
          have d1 : V1.cell? ⟨w.heap.size, 1, none⟩ = some (.int .i64 mc) := b2.cell 1
          have d2 := b1.frozen 1
          have d3 := b1.lt
          have d4 := b2.lt
          clear b1 b2 b3 b4 b6
          by_cases h0 : xl = 0
          · subst h0
            have E : Hid (cc = xc + mc) := Lib.hid (by rw [HCC.out]; rfl)
            go_wp2_with fail
            go_meet
            exact HST.out.put 1 _ _ (by rw [E.out]; rfl)
          · have E : Hid (cc = xc) := Lib.hid (by rw [HCC.out, if_neg h0])
            have t1 : ((xl : Int) == 0) = false := by simpa using h0
            clear h0
            go_wp2_with fail
            go_meet
            rw [E.out]
            exact HST.out
      case rest =>
        clear HST
        obtain ⟨b1, b2, b3, b4, b5, b6⟩ := id hcut
        have HC := Lib.hid hcut
        rw [← HMM.out] at b2
        have d0 : wc.cell? ⟨B, 0, none⟩ = some (.int .i64 xl) := b1.cell 0
        have d1 : wc.cell? ⟨B, 2, none⟩ = some (.int .i64 xs) := b1.cell 2
        have d2 : wc.cell? ⟨B, 3, none⟩ = some (.int .i64 xfl) := b1.cell 3
        have d3 : wc.cell? ⟨B, 4, none⟩ = some (.int .i64 xfc) := b1.cell 4
        have d4 : wc.cell? ⟨B, 6, none⟩ = some (.bool xnd) := b1.cell 6
        have e0 : wc.cell? ⟨w.heap.size, 0, none⟩ = some (.int .i64 ml) := b2.cell 0
        have e1 : wc.cell? ⟨w.heap.size, 2, none⟩ = some (.int .i64 ms) := b2.cell 2
        have e2 : wc.cell? ⟨w.heap.size, 3, none⟩ = some (.int .i64 mfl) := b2.cell 3
        have e3 : wc.cell? ⟨w.heap.size, 4, none⟩ = some (.int .i64 mfc) := b2.cell 4
        have f0 := b1.frozen 0
        have f1 := b1.frozen 2
        have f2 := b1.frozen 3
        have f3 := b1.frozen 4
        have hz1 := b1.lt
        have hz2 := b2.lt
        clear b1 b2 b3 b4 b6 hcut
        have hst := (((HC.out.put 0 (.int .i64 (xl + ml)) #[.int .i64 (xl + ml), .int .i64 cc, .int .i64 xs, .int .i64 xfl, .int .i64 xfc, .int .i64 xnm, .bool xnd] rfl).put 2 (.int .i64 (xs + ms)) #[.int .i64 (xl + ml), .int .i64 cc, .int .i64 (xs + ms), .int .i64 xfl, .int .i64 xfc, .int .i64 xnm, .bool xnd] rfl).put 3 (.int .i64 (xfl + mfl)) #[.int .i64 (xl + ml), .int .i64 cc, .int .i64 (xs + ms), .int .i64 (xfl + mfl), .int .i64 xfc, .int .i64 xnm, .bool xnd] rfl).put 4 (.int .i64 (xfc + mfc)) #[.int .i64 (xl + ml), .int .i64 cc, .int .i64 (xs + ms), .int .i64 (xfl + mfl), .int .i64 (xfc + mfc), .int .i64 xnm, .bool xnd] rfl
        have HST := Lib.hid hst
        clear hst HC
        go_upto_if 59 with fail
        clear d0 d1 d2 d3 d4 e0 e1 e2 e3 f0 f1 f2 f3 hz1 hz2
        generalize (((wc.setCell ⟨B, 0, none⟩ (.int .i64 (xl + ml))).setCell ⟨B, 2, none⟩ (.int .i64 (xs + ms))).setCell ⟨B, 3, none⟩ (.int .i64 (xfl + mfl))).setCell ⟨B, 4, none⟩ (.int .i64 (xfc + mfc)) = V2 at *
        obtain ⟨nn, hnn⟩ : ∃ nn : Int, nn = if xnd = true then xnm + mnm else xnm := ⟨_, rfl⟩
        have HNN := Lib.hid hnn
        clear hnn
        go_cut [] (fun wx => MvSt w.heap.size B w M u5 i XS #[.int .i64 (xl + ml), .int .i64 cc, .int .i64 (xs + ms), .int .i64 (xfl + mfl), .int .i64 (xfc + mfc), .int .i64 nn, .bool xnd] wx)
        case first =>
          as_aux_lemma =>
            obtain ⟨b1, b2, b3, b4, b5, b6⟩ := HST.out
            rw [← HMM.out] at b2
            have d0 : V2.cell? ⟨B, 5, none⟩ = some (.int .i64 xnm) := b1.cell 5
            have d1 : V2.cell? ⟨w.heap.size, 5, none⟩ = some (.int .i64 mnm) := b2.cell 5
            have d2 := b1.frozen 5
            have d3 := b1.lt
            have d4 := b2.lt
            clear b1 b2 b3 b4 b6
            cases xnd with
            | true =>
              have E : Hid (nn = xnm + mnm) := Lib.hid (by rw [HNN.out]; rfl)
              go_wp2_with fail
              go_meet
              exact HST.out.put 5 _ _ (by rw [E.out]; rfl)
            | false =>
              have E : Hid (nn = xnm) := Lib.hid (by rw [HNN.out]; rfl)
              go_wp2_with fail
              go_meet
              rw [E.out]
              exact HST.out
        case rest =>
          clear HST
          obtain ⟨b1, b2, b3, b4, b5, b6⟩ := id hcut
          have HC := Lib.hid hcut
          have hmv : mvS ⟨ml, mc, ms, mfl, mfc, mnm, mnd⟩ ⟨xl, xc, xs, xfl, xfc, xnm, xnd⟩ = ⟨xl + ml, cc, xs + ms, xfl + mfl, xfc + mfc, nn, xnd⟩ := by unfold mvS; rw [HCC.out, HNN.out]
          rw [hmv] at HTK
          clear hmv
          have d0 : wc.cell? ⟨B, 0, none⟩ = some (.int .i64 (xl + ml)) := b1.cell 0
          have d1 : wc.cell? ⟨B, 1, none⟩ = some (.int .i64 cc) := b1.cell 1
          have d2 : wc.cell? ⟨B, 2, none⟩ = some (.int .i64 (xs + ms)) := b1.cell 2
          have d3 : wc.cell? ⟨B, 3, none⟩ = some (.int .i64 (xfl + mfl)) := b1.cell 3
          have d4 : wc.cell? ⟨B, 4, none⟩ = some (.int .i64 (xfc + mfc)) := b1.cell 4
          have d5 : wc.cell? ⟨B, 5, none⟩ = some (.int .i64 nn) := b1.cell 5
          have d6 : wc.cell? ⟨B, 6, none⟩ = some (.bool xnd) := b1.cell 6
          have hz1 := b1.lt
          have HO := Lib.hid b3
          have HB2 := Lib.hid b2
          have HB4 := Lib.hid b4
          have hgz : w.heap.size + 1 ≤ wc.heap.size := by omega
          clear b1 b2 b3 b4 b6 hcut HCC HNN
          go_wp2_with (at_builtin; refine wpList_append_own_at _ rfl (.tmp 66) (.tmp 68) _ rfl (w.heap.size + 1) 45 iS _ 7 56 Tryd.underlying35 hiS hS0 hS1 hS2 rfl (by omega) u5 i XS rfl (HO.out.alloc _) ⟨wc.heap.size, 0, none⟩ 1 1 (Seg.cells ⟨xl + ml, cc, xs + ms, xfl + mfl, xfc + mfc, nn, xnd⟩) rfl rfl (World.news_of_block (cs := sgA ⟨xl + ml, cc, xs + ms, xfl + mfl, xfc + mfc, nn, xnd⟩) (t := 45) (fr := (0, 0)) (heap_alloc_new _ _)) (seg_one _) (by unfold maxLen; omega) (by omega) (by simp; omega) ?_; intro v2 w2 hown2 hg2 hnil2 hat2; have O2 := Lib.hid hown2; have G2 := Lib.hid hg2; clear hnil2 hat2 hown2 hg2)
          rw [← HMM.out]
          go_roundg f
          case measure => omega
          case rel =>
            refine ⟨i + 1, by omega, by go_num, ?_, ?_, ?_⟩
            · rw [HTK.out, sgs_snoc, HXS.out]
              exact O2.out
            · rw [HMM.out]
              refine (HB2.out.alloc _).grown G2.out (fun e => ?_)
              have := HO.out.lt _ e
              omega
            · exact below_grown (balloc HB4.out _) (Nat.le_refl _) G2.out (fun k hk => by have := (HO.out.lt k hk).1; omega)
    · obtain rfl : i = l.length := by omega
      rw [List.take_length] at hown
      have HOW := Lib.hid hown
      have HBW := Lib.hid hbw
      clear hown hbw hbl
      go_wp2_with fail
      go_ret
      exact ⟨_, rfl, own_mono HOW.out (by omega), HBW.out⟩

set_option maxHeartbeats 4000000 in
set_option maxRecDepth 100000 in
theorem endOf_any (l : List Seg) (v : Value) (w : World) (hv : l = [] ∧ v = .slice none 0 0 ∨ SegsAt w w.heap.size v l) (hn : l.length ≤ 8388608) :
    Calls Tryd.prog 25 #[v] w fun e w' => e = .returned (.agg (endC (wst l))) ∧ Below w.heap.size w w' := by
  obtain ⟨A, c, rfl, hA⟩ : ∃ A c, v = .slice A l.length c ∧ (0 < l.length → ∃ R, A = some ⟨R, 0, none⟩ ∧ R < w.heap.size ∧ ∀ (j : Nat) (u : Value), (sgs l)[j]? = some u → w.cell? ⟨R, j, none⟩ = some u) := by
    rcases hv with ⟨rfl, rfl⟩ | ⟨R, c, rfl, hR, hcl⟩
    · exact ⟨none, 0, rfl, fun h => absurd h (by simp)⟩
    · exact ⟨_, c, rfl, fun _ => ⟨R, rfl, hR, hcl⟩⟩
  have HA := Lib.hid hA
  clear hA hv
  go_enter Tryd.func25, Tryd.ntmps25
  have hB0 := balloc (balloc (Below.refl w.heap.size w) (.cells #[.int .i64 0, .int .i64 0, .int .i64 0, .int .i64 0, .int .i64 0, .int .i64 0] 30)) (.cells #[.int .i64 0, .int .i64 0, .int .i64 0, .int .i64 0, .int .i64 0, .int .i64 0] 30)
  have hX0 := (Blk.new w 30 #[.int .i64 0, .int .i64 0, .int .i64 0, .int .i64 0, .int .i64 0, .int .i64 0]).alloc (.cells #[.int .i64 0, .int .i64 0, .int .i64 0, .int .i64 0, .int .i64 0, .int .i64 0] 30)
  have hY0 := spl_new2 w (.cells #[.int .i64 0, .int .i64 0, .int .i64 0, .int .i64 0, .int .i64 0, .int .i64 0] 30) 30 #[.int .i64 0, .int .i64 0, .int .i64 0, .int .i64 0, .int .i64 0, .int .i64 0]
  have HB0 := Lib.hid hB0
  have HX0 := Lib.hid hX0
  have HY0 := Lib.hid hY0
  clear hB0 hX0 hY0
  go_wp2_with fail
  generalize (w.alloc (.cells #[.int .i64 0, .int .i64 0, .int .i64 0, .int .i64 0, .int .i64 0, .int .i64 0] 30)).alloc (.cells #[.int .i64 0, .int .i64 0, .int .i64 0, .int .i64 0, .int .i64 0, .int .i64 0] 30) = V0 at *
  go_loopg [8] l.length (fun f s8 wr => ∃ i : Nat, i + f = l.length ∧ s8 = .int .i64 (i : Int) ∧ Blk wr w.heap.size 30 #[.int .i64 0, .int .i64 0, .int .i64 0, .int .i64 0, .int .i64 0, .int .i64 0] ∧ Blk wr (w.heap.size + 1) 30 (endC (wst (l.take i))) ∧ Below w.heap.size w wr)
  case atStart => exact ⟨0, by omega, rfl, HX0.out, HY0.out, HB0.out⟩
  case round =>
    obtain ⟨i, hi, rfl, hbx, hby, hbw⟩ := hrel
    by_cases hlt : i < l.length
    · obtain ⟨f, rfl⟩ : ∃ f, gk = f + 1 := ⟨gk - 1, by omega⟩
      obtain ⟨R, rfl, hR, hcl⟩ := HA.out (by omega)
      have hc : ∀ j u, (l[i]'hlt).cells[j]? = some u → wr.cell? ⟨R, i * 7 + j, none⟩ = some u := fun j u hj => by
        have hj7 : j < 7 := by
          have := (List.getElem?_eq_some_iff.1 hj).1
          rwa [Seg.cells_len] at this
        refine (hbw.cell (p := ⟨R, _, none⟩) hR).trans (hcl _ u ?_)
        rw [sgs_at l i j hlt hj7]
        exact hj
      have htk := wst_snoc (l.take i) (l[i]'hlt)
      rw [← take_snoc' l i hlt] at htk
      have HTK := Lib.hid htk
      obtain ⟨x, hxx⟩ : ∃ x, x = l[i]'hlt := ⟨_, rfl⟩
      obtain ⟨q, hqq⟩ : ∃ q, q = wst (l.take i) := ⟨_, rfl⟩
      rw [← hxx] at hc HTK
      rw [← hqq] at hby HTK
      clear hxx htk hcl hqq
      obtain ⟨xl, xc, xs, xfl, xfc, xnm, xnd⟩ := x
      obtain ⟨⟨ql, qc, qs, qfl, qfc, qnm, qnd⟩, qn⟩ := q
      have c0 : wr.cell? ⟨R, i * 7, none⟩ = some (.int .i64 xl) := hc 0 _ rfl
      have c1 : wr.cell? ⟨R, i * 7 + 1, none⟩ = some (.int .i64 xc) := hc 1 _ rfl
      have c2 : wr.cell? ⟨R, i * 7 + 2, none⟩ = some (.int .i64 xs) := hc 2 _ rfl
      have c3 : wr.cell? ⟨R, i * 7 + 3, none⟩ = some (.int .i64 xfl) := hc 3 _ rfl
      have c4 : wr.cell? ⟨R, i * 7 + 4, none⟩ = some (.int .i64 xfc) := hc 4 _ rfl
      have c5 : wr.cell? ⟨R, i * 7 + 5, none⟩ = some (.int .i64 xnm) := hc 5 _ rfl
      have c6 : wr.cell? ⟨R, i * 7 + 6, none⟩ = some (.bool xnd) := hc 6 _ rfl
      have hBox := Lib.hid (Blk.new wr 45 #[.int .i64 xl, .int .i64 xc, .int .i64 xs, .int .i64 xfl, .int .i64 xfc, .int .i64 xnm, .bool xnd])
      have hX1 := Lib.hid (hbx.alloc (.cells #[.int .i64 xl, .int .i64 xc, .int .i64 xs, .int .i64 xfl, .int .i64 xfc, .int .i64 xnm, .bool xnd] 45))
      have hY1 := Lib.hid (hby.alloc (.cells #[.int .i64 xl, .int .i64 xc, .int .i64 xs, .int .i64 xfl, .int .i64 xfc, .int .i64 xnm, .bool xnd] 45))
      have hB1 := Lib.hid (balloc hbw (.cells #[.int .i64 xl, .int .i64 xc, .int .i64 xs, .int .i64 xfl, .int .i64 xfc, .int .i64 xnm, .bool xnd] 45))
      have hg := hby.lt
      clear hc hbx hby hbw
      go_upto_region 5 with fail
      clear c0 c1 c2 c3 c4 c5 c6
      generalize wr.alloc (.cells #[.int .i64 xl, .int .i64 xc, .int .i64 xs, .int .i64 xfl, .int .i64 xfc, .int .i64 xnm, .bool xnd] 45) = V1 at *
      obtain ⟨B, hB⟩ : ∃ B, B = wr.heap.size := ⟨_, rfl⟩
      rw [← hB] at hBox hg ⊢
      clear hB
      have d0 : V1.cell? ⟨B, 0, none⟩ = some (.int .i64 xl) := hBox.out.cell 0
      have d1 : V1.cell? ⟨B, 1, none⟩ = some (.int .i64 xc) := hBox.out.cell 1
      have d2 : V1.cell? ⟨B, 2, none⟩ = some (.int .i64 xs) := hBox.out.cell 2
      have d3 : V1.cell? ⟨B, 3, none⟩ = some (.int .i64 xfl) := hBox.out.cell 3
      have d4 : V1.cell? ⟨B, 4, none⟩ = some (.int .i64 xfc) := hBox.out.cell 4
      have d5 : V1.cell? ⟨w.heap.size + 1, 5, none⟩ = some (.int .i64 qn) := hY1.out.cell 5
      go_upto_region 6 with (refine wpList_store_blk rfl 30 (.tmp 3) (.tmp 28) rfl (w.heap.size + 1) 30 (endC (⟨ql, qc, qs, qfl, qfc, qnm, qnd⟩, qn)) #[.int .i64 xl, .int .i64 xc, .int .i64 xs, .int .i64 xfl, .int .i64 xfc, .int .i64 qn] rfl rfl hY1.out rfl size_st (stz_one _ _ _ _ _ _) ?_; intro w6 hb6 hk6 hz6; have HB6 := Lib.hid hb6; have HK6 := Lib.hid hk6; have HZ6 := Lib.hid hz6; clear hb6 hk6 hz6)
      clear d0 d1 d2 d3 d4 d5
      have hBox2 := hBox.out.kep HK6.out (by omega)
      have hX2 := hX1.out.kep HK6.out (by omega)
      have hB2 := hB1.out.trans (HK6.out.below (B := w.heap.size) hB1.out.size (fun k hk e => by omega))
      have d5 : w6.cell? ⟨B, 5, none⟩ = some (.int .i64 xnm) := hBox2.cell 5
      have d6 : w6.cell? ⟨B, 6, none⟩ = some (.bool xnd) := hBox2.cell 6
      have d7 : w6.cell? ⟨w.heap.size + 1, 5, none⟩ = some (.int .i64 qn) := HB6.out.cell 5
      have f7 := HB6.out.frozen 5
      have hz1 := HB6.out.lt
      have hz2 := hBox2.lt
      have HX2 := Lib.hid hX2
      have HB2 := Lib.hid hB2
      clear hBox2 hX2 hB2 hX1 hY1 hB1 hBox HK6
      cases xnd with
      | true =>
        go_wp2_with fail
        go_roundg f
        case measure => omega
        case rel =>
          refine ⟨i + 1, by omega, by go_num, HX2.out.far (by simp only; omega) _, ?_, HB2.out.setCell (by simp only; omega) _⟩
          rw [HTK.out]
          exact HB6.out.set_ 5 (.int .i64 xnm)
      | false =>
        go_wp2_with fail
        go_roundg f
        case measure => omega
        case rel =>
          refine ⟨i + 1, by omega, by go_num, HX2.out, ?_, HB2.out⟩
          rw [HTK.out]
          exact HB6.out
    · obtain rfl : i = l.length := by omega
      rw [List.take_length] at hby
      obtain ⟨q, hqq⟩ : ∃ q, q = wst l := ⟨_, rfl⟩
      rw [← hqq] at hby
      have HQQ := Lib.hid hqq
      clear hqq
      obtain ⟨⟨ql, qc, qs, qfl, qfc, qnm, qnd⟩, qn⟩ := q
      have d0 : wr.cell? ⟨w.heap.size + 1, 0, none⟩ = some (.int .i64 ql) := hby.cell 0
      have d1 : wr.cell? ⟨w.heap.size + 1, 1, none⟩ = some (.int .i64 qc) := hby.cell 1
      have d2 : wr.cell? ⟨w.heap.size + 1, 2, none⟩ = some (.int .i64 qs) := hby.cell 2
      have d3 : wr.cell? ⟨w.heap.size + 1, 3, none⟩ = some (.int .i64 qfl) := hby.cell 3
      have d4 : wr.cell? ⟨w.heap.size + 1, 4, none⟩ = some (.int .i64 qfc) := hby.cell 4
      have d5 : wr.cell? ⟨w.heap.size + 1, 5, none⟩ = some (.int .i64 qn) := hby.cell 5
      have HX := Lib.hid hbx
      have HB := Lib.hid hbw
      clear hbx hby hbw
      go_wp2_with (refine wpList_store_blk rfl 30 (.tmp 2) (.tmp 35) rfl w.heap.size 30 #[.int .i64 0, .int .i64 0, .int .i64 0, .int .i64 0, .int .i64 0, .int .i64 0] #[.int .i64 ql, .int .i64 qc, .int .i64 qs, .int .i64 qfl, .int .i64 qfc, .int .i64 qn] rfl rfl HX.out rfl size_st (stz_one _ _ _ _ _ _) ?_; intro w6 hb6 hk6 hz6; have HB6 := Lib.hid hb6; have HK6 := Lib.hid hk6; clear hb6 hk6 hz6)
      have t0 : w6.cell? ⟨w.heap.size, 0, none⟩ = some (.int .i64 ql) := HB6.out.cell 0
      have t1 : w6.cell? ⟨w.heap.size, 1, none⟩ = some (.int .i64 qc) := HB6.out.cell 1
      have t2 : w6.cell? ⟨w.heap.size, 2, none⟩ = some (.int .i64 qs) := HB6.out.cell 2
      have t3 : w6.cell? ⟨w.heap.size, 3, none⟩ = some (.int .i64 qfl) := HB6.out.cell 3
      have t4 : w6.cell? ⟨w.heap.size, 4, none⟩ = some (.int .i64 qfc) := HB6.out.cell 4
      have t5 : w6.cell? ⟨w.heap.size, 5, none⟩ = some (.int .i64 qn) := HB6.out.cell 5
      exact bodyPost_ret (v := .agg #[.int .i64 ql, .int .i64 qc, .int .i64 qs, .int .i64 qfl, .int .i64 qfc, .int .i64 qn]) (by simp [results, Tryd.results25, go_sem, t0, t1, t2, t3, t4, t5]) rfl ⟨by rw [← HQQ.out]; rfl, HB.out.trans (HK6.out.below (B := w.heap.size) HB.out.size (fun k hk e => by omega))⟩
end Go.Proofs.YtnokiikgnplpmaaDoor

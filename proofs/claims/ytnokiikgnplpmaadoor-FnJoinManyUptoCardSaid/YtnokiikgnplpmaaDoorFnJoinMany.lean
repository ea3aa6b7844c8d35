/-
  laws.FnJoinMany: lists of mappings, appended one after the other, are all there. Conditions: the arguments hold together at most 1048576 values (the second form); the table of signs is as its text lays it.
-/
import Derived.Test.YtnokiikgnplpmaaDoorJManyPl
import Derived.Deep.RegionHeld3
namespace Go.Proofs.YtnokiikgnplpmaaDoor
open Go.RowKit Go.ChangeShapes Go.WideShapes Go.ChangeAt

set_option maxHeartbeats 4000000 in
set_option maxRecDepth 100000 in
theorem fnJoinMany_walk (W : World) (A : Option Addr) (N cap : Nat) (L : Lists5) (h55 : At55 W A N L) (hA : A = none → N = 0 ∧ cap = 0) (hsum : ((List.range N).map fun i => L.n i + 1).sum + 1 ≤ 1048576) (hT : B64 W.heap.size W) :
    Calls Tryd.prog 7 #[.slice A N cap] W fun e W' => e = .returned (.bool true) ∧ Below W.heap.size W W' := by
  obtain ⟨iL, hiL, hL0, hL1, hL2⟩ := info_parts info_list
  obtain ⟨iS, hiS, hS0, hS1, hS2⟩ := info_parts info_seg
  have H55 := Lib.hid h55
  have HA := Lib.hid hA
  have HT := Lib.hid hT
  have hN : N ≤ 1048576 := by have := tot_ge L N; unfold tot at this; omega
  obtain ⟨LC, hLC⟩ : ∃ LC, LC = consL L := ⟨_, rfl⟩
  have htot : tot LC (1 + N) ≤ 1048576 := by rw [hLC, Nat.add_comm, tot_cons]; unfold tot; omega
  have HLC := Lib.hid hLC
  clear h55 hA hT hsum hLC
  go_enter Tryd.func7, Tryd.ntmps7
  go_wp2_with (at_builtin; refine wpList_append_own_src _ rfl (.tmp 13) (.tmp 14) 64 64 rfl W.heap.size 54 iL _ 1 24 Tryd.underlying64 hiL hL0 hL1 hL2 rfl (by omega) (.slice (some ⟨W.heap.size, 0, none⟩) 1 1) 1 [.slice none 0 0] rfl (list_new W) (.slice A N cap) N (listC L N) rfl (lists_src (H55.out.below (balloc (Below.refl _ _) _)) HA.out) (by unfold maxLen; omega) (by omega) (by simp) ?_; intro v1 w1 ho1 hg1 hat1; have O1 := Lib.hid ho1; have B1 := Lib.hid (bgrown (balloc (Below.refl W.heap.size W) _) (Nat.le_refl _) hg1 (fun k hk => by simp [Value.ownBlock] at hk; omega)); clear ho1 hg1 hat1; obtain ⟨A1, c1, rfl, hA1⟩ := own_form O1.out; obtain ⟨k1, rfl, hk1⟩ := hA1 (by omega))
  have hk1z : k1 < w1.heap.size := (own_lt O1.out rfl).2
  have hcl : Hid (∀ i, i < 1 + N → w1.cell? ⟨k1, i, none⟩ = some (.slice (LC.A i) (LC.n i) (LC.cap i))) := Lib.hid (fun i hi => by
    refine hk1 i _ ?_
    rw [listC_cons, ← HLC.out]
    exact listC_at LC (1 + N) i hi)
  have H551 := Lib.hid (H55.out.below B1.out)
  have HT1 := Lib.hid (HT.out.below B1.out)
  obtain ⟨M, hM⟩ : ∃ M, M = 1 + N := ⟨_, rfl⟩
  have hz1 := B1.out.size
  simp only [← hM] at htot hcl ⊢
  have HM := Lib.hid hM
  have hM1 : 1 ≤ M ∧ M ≤ 1048577 := by omega
  clear O1 hA1 hk1 hM H55 HA HT
  go_loopg [3, 4, 17] M (fun f s3 s4 s17 wr => ∃ (i : Nat) (toks : List (Option (List Int))) (all : List Seg), i + f = M ∧ s17 = .int .i64 (i : Int) ∧ s4 = .string (strB (tokB true toks)) ∧ Jm (tot LC i) i toks all ∧ wr.ownsRow w1.heap.size 45 7 s3 all.length (sgs all) ∧ (all = [] → s3 = .slice none 0 0 ∧ i = 0) ∧ Below w1.heap.size w1 wr)
  case atStart => exact ⟨0, [], [], by omega, rfl, rfl, Jm.zero, World.ownsRow_nil _ _ _ _, fun _ => ⟨rfl, rfl⟩, Below.refl _ _⟩
  case round =>
    obtain ⟨i, toks, all, hi, rfl, rfl, hJ, hown, hnil, hbw⟩ := hrel
    have HNIL := Lib.hid hnil
    clear hnil
    have HJ := Lib.hid hJ
    have HO := Lib.hid hown
    have HBW := Lib.hid hbw
    have hzr := hbw.size
    have hallT := hJ.len
    have hTi := tot_mono LC (show i ≤ M by omega)
    obtain ⟨TS, hTS⟩ : ∃ TS, TS = strB (tokB true toks) := ⟨_, rfl⟩
    rw [← hTS]
    have HTS := Lib.hid hTS
    have HI := Lib.hid hi
    clear hJ hown hTS
    by_cases hlt : i < M
    · obtain ⟨f, rfl⟩ : ∃ f, gk = f + 1 := ⟨gk - 1, by omega⟩
      have hT2 := tot_mono LC (show i + 1 ≤ M by omega)
      rw [tot_succ] at hT2
      obtain ⟨h5', hA'⟩ := H551.out.one i (by have := HM.out; omega)
      rw [← HLC.out] at h5' hA'
      have ccell : wr.cell? ⟨k1, i, none⟩ = some (.slice (LC.A i) (LC.n i) (LC.cap i)) := (hbw.cell (p := ⟨k1, i, none⟩) hk1z).trans (hcl.out i (by have := HM.out; omega))
      have H5 := Lib.hid ((At5.below h5' hbw))
      have HA := Lib.hid hA'
      clear h5' hA' hbw hi
      generalize LC.A i = la at *
      generalize hnl : LC.n i = n at *
      generalize LC.cap i = lcap at *
      generalize LC.Z i = lZ at *
      have HNL := Lib.hid hnl
      have hn : n ≤ 1048576 := by omega
      clear hnl
      have k2 : (0 : Int) ≤ (i : Int) := by omega
      have k3 : (i : Int) < (M : Int) := by omega
      have k4 : (i : Int) < 1 + (N : Int) := by have := HM.out; omega
      go_wp2_with (at_builtin; refine wpList_cons5 rfl (.tmp 23) (.tmp 24) rfl wr.heap.size n lcap la (fun j => if j = 1 then 1 else 0) lZ rfl (Blk.new wr _ _) rfl HA.out (H5.out.below (balloc (Below.refl _ _) _)) hn ?_; intro A2 cap2 w2 h52 hb2; have H52 := Lib.hid h52; have B2 := Lib.hid ((balloc (Below.refl wr.heap.size wr) _).trans hb2); clear h52 hb2)
      obtain ⟨Y, hY⟩ : ∃ Y, Y = consZ (fun j => if j = 1 then 1 else 0) lZ := ⟨_, rfl⟩
      rw [← hY] at H52
      refine (named_any A2 (1 + n) cap2 Y w2 (by omega) (by omega) H52.out).mono ?_
      rintro e w3 ⟨v3, rfl, ho3, hb3⟩
      have hoky := Lib.hid (nam_ok Y (1 + n) (by omega))
      have hly := namL_len Y (1 + n)
      have hshy := nam_short2 Y (1 + n) (by omega)
      have hney := Lib.hid (nam_ne Y (1 + n) (by omega) (by omega))
      have HSTEP : Hid (∀ toks', JoinTk toks (wtk (namL Y (1 + n))) ⟨1, 0, (i : Int), 0, 0, 10 * (i : Int), false⟩ toks' → Jm (tot LC (i + 1)) (i + 1) toks' (all ++ (namL Y (1 + n)).map (mvS ⟨1 + (wst all).1.l, 0, (i : Int), 0, 0, 10 * (i : Int), false⟩))) := Lib.hid (fun toks' hj => by
        rw [tot_succ, HNL.out]
        exact HJ.out.step Y n hn hj)
      have B3 := Lib.hid (bthen B2.out hb3)
      generalize namL Y (1 + n) = ly at *
      have hly' : 1 ≤ ly.length ∧ ly.length ≤ 1048577 := by omega
      have hsy := Lib.hid (segs_own ho3 (by omega))
      have ho3' := Lib.hid (own_below HO.out B3.out)
      have hz3 := B3.out.size
      clear ho3 hb3 hY H5 H52 HA B2 ccell HO
      go_wp2_with fail
      refine (write_any ly v3 w3 hoky.out (by omega) hsy.out).mono ?_
      rintro e w4 ⟨rfl, hb4⟩
      have B4 := Lib.hid (bthen B3.out hb4)
      have hsy4 := Lib.hid ((hsy.out.below hb4).mono hb4.size)
      have ho4 := Lib.hid (own_below ho3'.out hb4)
      have hz4 := hb4.size
      clear hb4 hsy ho3'
      generalize hD : tokB true (wtk ly) = D at *
      have HD := Lib.hid hD
      obtain ⟨fi, hfi⟩ : ∃ fi, fi = offV (foff true (wtk ly)) := ⟨_, rfl⟩
      rw [← hfi]
      have HFI := Lib.hid hfi
      clear hD hfi
      obtain ⟨DS, hDS⟩ : ∃ DS, DS = strB D := ⟨_, rfl⟩
      rw [← hDS]
      have HDS := Lib.hid hDS
      clear hDS
      go_wp2_with fail
      have hall0 : all = [] ∧ u3 = .slice none 0 0 ∨ SegsAt w4 w4.heap.size u3 all := by
        rcases Nat.eq_zero_or_pos all.length with e | e
        · left
          have ea := List.eq_nil_of_length_eq_zero e
          exact ⟨ea, (HNIL.out ea).1⟩
        · exact .inr (segs_own ho4.out e)
      refine (endOf_any all u3 w4 hall0 (by omega)).mono ?_
      rintro e w5 ⟨rfl, hb5⟩
      have hq2 := HJ.out.bd0 (by omega) (by omega)
      have hqe := HJ.out.fin
      obtain ⟨q, hq⟩ : ∃ q, q = wst all := ⟨_, rfl⟩
      rw [← hq] at hq2 HSTEP hqe ⊢
      have HQ := Lib.hid hq2
      have HQE := Lib.hid hqe
      clear hq2 hq hqe hall0
      have B5 := Lib.hid (bthen B4.out hb5)
      have hsy5 := Lib.hid ((hsy4.out.below hb5).mono hb5.size)
      have ho5 := Lib.hid (own_below ho4.out hb5)
      have hz5 := hb5.size
      clear hb5 hsy4 ho4
      unfold endC
      have hmul : IntKind.i64.wrap (10 * (i : Int)) = 10 * (i : Int) := IntWalk.i64_in _ (by omega)
      go_upto_region 10 with fail
      have K6 := Lib.hid (balloc (balloc (Below.refl w5.heap.size w5) (.cells #[.int .i64 q.1.l, .int .i64 q.1.c, .int .i64 q.1.s, .int .i64 q.1.fl, .int .i64 q.1.fc, .int .i64 q.2] 30)) (.cells #[.int .i64 1, .int .i64 0, .int .i64 (i : Int), .int .i64 0, .int .i64 0, .int .i64 (10 * (i : Int))] 30))
      have E6 := Lib.hid ((Blk.new w5 30 #[.int .i64 q.1.l, .int .i64 q.1.c, .int .i64 q.1.s, .int .i64 q.1.fl, .int .i64 q.1.fc, .int .i64 q.2]).alloc (.cells #[.int .i64 1, .int .i64 0, .int .i64 (i : Int), .int .i64 0, .int .i64 0, .int .i64 (10 * (i : Int))] 30))
      have S6 := Lib.hid (spl_new2 w5 (.cells #[.int .i64 q.1.l, .int .i64 q.1.c, .int .i64 q.1.s, .int .i64 q.1.fl, .int .i64 q.1.fc, .int .i64 q.2] 30) 30 #[.int .i64 1, .int .i64 0, .int .i64 (i : Int), .int .i64 0, .int .i64 0, .int .i64 (10 * (i : Int))])
      generalize (w5.alloc (.cells #[.int .i64 q.1.l, .int .i64 q.1.c, .int .i64 q.1.s, .int .i64 q.1.fl, .int .i64 q.1.fc, .int .i64 q.2] 30)).alloc (.cells #[.int .i64 1, .int .i64 0, .int .i64 (i : Int), .int .i64 0, .int .i64 0, .int .i64 (10 * (i : Int))] 30) = V6 at *
      have hz6 := K6.out.size
      have hl6 := S6.out.lt
      have e0 : V6.cell? ⟨w5.heap.size, 0, none⟩ = some (.int .i64 q.1.l) := E6.out.cell 0
      have e1 : V6.cell? ⟨w5.heap.size, 1, none⟩ = some (.int .i64 q.1.c) := E6.out.cell 1
      have e2 : V6.cell? ⟨w5.heap.size, 2, none⟩ = some (.int .i64 q.1.s) := E6.out.cell 2
      have e3 : V6.cell? ⟨w5.heap.size, 3, none⟩ = some (.int .i64 q.1.fl) := E6.out.cell 3
      have e4 : V6.cell? ⟨w5.heap.size, 4, none⟩ = some (.int .i64 q.1.fc) := E6.out.cell 4
      have e5 : V6.cell? ⟨w5.heap.size, 5, none⟩ = some (.int .i64 q.2) := E6.out.cell 5
      have s0 : V6.cell? ⟨w5.heap.size + 1, 0, none⟩ = some (.int .i64 1) := S6.out.cell 0
      have s1 : V6.cell? ⟨w5.heap.size + 1, 1, none⟩ = some (.int .i64 0) := S6.out.cell 1
      have s2 : V6.cell? ⟨w5.heap.size + 1, 2, none⟩ = some (.int .i64 (i : Int)) := S6.out.cell 2
      have s3 : V6.cell? ⟨w5.heap.size + 1, 3, none⟩ = some (.int .i64 0) := S6.out.cell 3
      have s4 : V6.cell? ⟨w5.heap.size + 1, 4, none⟩ = some (.int .i64 0) := S6.out.cell 4
      have s5 : V6.cell? ⟨w5.heap.size + 1, 5, none⟩ = some (.int .i64 (10 * (i : Int))) := S6.out.cell 5
      have hsy6 := Lib.hid ((hsy5.out.below K6.out).mono K6.out.size)
      have ho6 := Lib.hid (own_below ho5.out K6.out)
      have B6 := Lib.hid ((HBW.out.trans (B5.out.mono hzr)).trans (K6.out.mono (by omega)))
      have HJC : Hid (Calls Tryd.prog 20 #[.string TS, .agg #[.int .i64 q.1.l, .int .i64 q.1.c, .int .i64 q.1.s, .int .i64 q.1.fl, .int .i64 q.1.fc, .int .i64 q.2], .agg #[.int .i64 1, .int .i64 0, .int .i64 (i : Int), .int .i64 0, .int .i64 0, .int .i64 (10 * (i : Int))], .string DS, .int .i64 fi] V6 fun e w' => ∃ toks', JoinTk toks (wtk ly) ⟨1, 0, (i : Int), 0, 0, 10 * (i : Int), false⟩ toks' ∧ e = .returned (.string (strB (tokB true toks'))) ∧ Below V6.heap.size V6 w') := Lib.hid (by
        have hsh := HJ.out.short
        have h := joinT_any toks (wtk ly) ⟨1, 0, (i : Int), 0, 0, 10 * (i : Int), false⟩ 1 W.heap.size V6 (HT1.out.below (B6.out.mono hz1)) (by omega) HJ.out.ok (by rw [HQE.out]; exact HQ.out.1) (by rw [HQE.out]; have := HQ.out.2.2; omega) (wtk_tight hoky.out) hney.out ⟨by simp only; omega, by simp only; omega, by simp only; omega, by simp only; omega, by simp only; omega⟩ rfl (by omega) (by rw [HD.out]; omega) q HQE.out fi HFI.out.symm
        rw [HD.out, ← HTS.out, ← HDS.out] at h
        exact h)
      clear B5 hsy5 ho5 K6
      go_wp2_with fail
      refine HJC.out.mono ?_
      rintro e w7 ⟨toks', hj, rfl, hb7⟩
      have HJM := Lib.hid (HSTEP.out toks' hj)
      have B7 := Lib.hid (bthen B6.out hb7)
      have hsy7 := Lib.hid ((hsy6.out.below hb7).mono hb7.size)
      have ho7 := Lib.hid (own_below ho6.out hb7)
      have E7 := Lib.hid (E6.out.below hb7)
      have S7 := S6.out.below hb7
      have hz7 := hb7.size
      obtain ⟨TS', hTS'⟩ : ∃ TS', TS' = strB (tokB true toks') := ⟨_, rfl⟩
      rw [← hTS']
      have HTS' := Lib.hid hTS'
      clear hj hb7 HJC HSTEP e0 e1 e2 e3 e4 e5 s0 s1 s2 s3 s4 s5 hsy6 ho6 E6 S6 B6 hTS'
      have s0 : w7.cell? ⟨w5.heap.size + 1, 0, none⟩ = some (.int .i64 1) := S7.cell 0
      have s1 : w7.cell? ⟨w5.heap.size + 1, 1, none⟩ = some (.int .i64 0) := S7.cell 1
      have s2 : w7.cell? ⟨w5.heap.size + 1, 2, none⟩ = some (.int .i64 (i : Int)) := S7.cell 2
      have s3 : w7.cell? ⟨w5.heap.size + 1, 3, none⟩ = some (.int .i64 0) := S7.cell 3
      have s4 : w7.cell? ⟨w5.heap.size + 1, 4, none⟩ = some (.int .i64 0) := S7.cell 4
      have s5 : w7.cell? ⟨w5.heap.size + 1, 5, none⟩ = some (.int .i64 (10 * (i : Int))) := S7.cell 5
      go_wp2_with fail
      refine (by_any 1 0 (i : Int) 0 0 (10 * (i : Int)) w7).mono ?_
      rintro e w8 ⟨rfl, hb8⟩
      have B8 := Lib.hid (bthen B7.out hb8)
      have hsy8 := Lib.hid ((hsy7.out.below hb8).mono hb8.size)
      have ho8 := Lib.hid (own_below ho7.out hb8)
      have E8 := Lib.hid (E7.out.below hb8)
      have hz8 := hb8.size
      clear hb8 s0 s1 s2 s3 s4 s5 hsy7 ho7 E7 S7 B7
      go_upto_region 12 with fail
      have K9 := Lib.hid (balloc (Below.refl w8.heap.size w8) (.cells #[.int .i64 1, .int .i64 0, .int .i64 (i : Int), .int .i64 0, .int .i64 0, .int .i64 (10 * (i : Int)), .bool false] 45))
      have M9 := Lib.hid (Blk.new w8 45 #[.int .i64 1, .int .i64 0, .int .i64 (i : Int), .int .i64 0, .int .i64 0, .int .i64 (10 * (i : Int)), .bool false])
      generalize w8.alloc (.cells #[.int .i64 1, .int .i64 0, .int .i64 (i : Int), .int .i64 0, .int .i64 0, .int .i64 (10 * (i : Int)), .bool false] 45) = V9 at *
      have E9 := E8.out.below K9.out
      have hz9 := M9.out.lt
      have e0 : V9.cell? ⟨w5.heap.size, 0, none⟩ = some (.int .i64 q.1.l) := E9.cell 0
      have m0 : V9.cell? ⟨w8.heap.size, 0, none⟩ = some (.int .i64 1) := M9.out.cell 0
      have mf0 := M9.out.frozen 0
      have hsum : IntKind.i64.wrap (1 + q.1.l) = 1 + q.1.l := IntWalk.i64_in _ (by have := HQ.out; unfold Bd0 at this; omega)
      clear E9
      go_upto_region 13 with fail
      have M10 := Lib.hid (M9.out.set_ 0 (.int .i64 (1 + q.1.l)))
      have K10 := Lib.hid (K9.out.setCell (p := ⟨w8.heap.size, 0, none⟩) (Nat.le_refl _) (.int .i64 (1 + q.1.l)))
      generalize V9.setCell ⟨w8.heap.size, 0, none⟩ (.int .i64 (1 + q.1.l)) = V10 at *
      have hz10 := K10.out.size
      have hsy10 := Lib.hid ((hsy8.out.below K10.out).mono K10.out.size)
      have ho10 := Lib.hid (own_below ho8.out K10.out)
      have B10 := Lib.hid (bthen B8.out K10.out)
      have t0 : V10.cell? ⟨w8.heap.size, 0, none⟩ = some (.int .i64 (1 + q.1.l)) := M10.out.cell 0
      have t1 : V10.cell? ⟨w8.heap.size, 1, none⟩ = some (.int .i64 0) := M10.out.cell 1
      have t2 : V10.cell? ⟨w8.heap.size, 2, none⟩ = some (.int .i64 (i : Int)) := M10.out.cell 2
      have t3 : V10.cell? ⟨w8.heap.size, 3, none⟩ = some (.int .i64 0) := M10.out.cell 3
      have t4 : V10.cell? ⟨w8.heap.size, 4, none⟩ = some (.int .i64 0) := M10.out.cell 4
      have t5 : V10.cell? ⟨w8.heap.size, 5, none⟩ = some (.int .i64 (10 * (i : Int))) := M10.out.cell 5
      have t6 : V10.cell? ⟨w8.heap.size, 6, none⟩ = some (.bool false) := M10.out.cell 6
      obtain ⟨ym, hym⟩ : ∃ ym, ym = ly.map (mvS ⟨1 + q.1.l, 0, (i : Int), 0, 0, 10 * (i : Int), false⟩) := ⟨_, rfl⟩
      have hyl : 1 ≤ ym.length ∧ ym.length ≤ 1048577 := by rw [hym, List.length_map]; exact hly'
      rw [← hym] at HJM
      have HMC : Hid (Calls Tryd.prog 22 #[v3, .agg #[.int .i64 (1 + q.1.l), .int .i64 0, .int .i64 (i : Int), .int .i64 0, .int .i64 0, .int .i64 (10 * (i : Int)), .bool false]] V10 fun e w' => ∃ R c, e = .returned (.slice (some ⟨R, 0, none⟩) ym.length c) ∧ CellsAt w' R (sgs ym) ∧ Below V10.heap.size V10 w') := Lib.hid (by
        have h2 := HQ.out
        unfold Bd0 at h2
        have h := moved_any ly ⟨1 + q.1.l, 0, (i : Int), 0, 0, 10 * (i : Int), false⟩ v3 V10 hsy10.out (by omega) (fun x hx => by
          obtain ⟨i, hi, rfl⟩ := List.mem_iff_getElem.1 hx
          exact (hoky.out i hi).1) ⟨by simp only; omega, by simp only; omega, by simp only; omega, by simp only; omega, by simp only; omega, by simp only; omega⟩
        rw [← hym] at h
        refine h.mono ?_
        rintro e w' ⟨u, rfl, ho, hb⟩
        obtain ⟨A, c, rfl, hA⟩ := own_form ho
        obtain ⟨R, rfl, _⟩ := hA (by omega)
        exact ⟨R, c, rfl, cells_own ho (by omega), hb⟩)
      have h1c : Hid (∀ u ∈ sgs ym, u.oneCell' = true) := Lib.hid (fun u hu => by
        unfold sgs at hu
        obtain ⟨x, _, hx⟩ := List.mem_flatMap.1 hu
        exact seg_one x u hx)
      have hal : all.length ≤ 1048576 := by omega
      have hiM : i + 1 ≤ M := by omega
      clear hym hsy10 hsy8 ho8 E8 B8 K9 K10 M9 M10 e0 m0 mf0 hsum hoky hney HFI HD HDS HQ HQE hly
      go_wp2_with fail
      refine HMC.out.mono ?_
      rintro e w11 ⟨R, cR, rfl, hm, hb11⟩
      have B11 := Lib.hid (bthen B10.out hb11)
      have ho11 := Lib.hid (own_below ho10.out hb11)
      have HM2 := Lib.hid hm
      have hz11 := hb11.size
      clear hm hb11 ho10 HMC t0 t1 t2 t3 t4 t5 t6
      go_wp2_with (at_builtin; refine wpList_append_own_src _ rfl (.tmp 54) (.tmp 57) 35 35 rfl w1.heap.size 45 iS _ 7 56 Tryd.underlying35 hiS hS0 hS1 hS2 rfl (by omega) u3 all.length (sgs all) rfl ho11.out (.slice (some ⟨R, 0, none⟩) ym.length cR) ym.length (sgs ym) rfl (Src.ofSlice _ Tryd.underlying35 ⟨R, 0, none⟩ ym.length cR (sgs ym) (by rw [sgs_len]) (fun j u hj => by rw [Addr.add_lit, Nat.zero_add]; exact HM2.out.2 j u hj) h1c.out) (by unfold maxLen; omega) (by omega) (by have := B11.out.size; omega) ?_; intro v12 w12 ho12 hg12 hat12; have O12 := Lib.hid ho12; have B12 := Lib.hid (bgrown B11.out (by have := B11.out.size; omega) hg12 (fun k hk => (own_lt ho11.out hk).1)); clear ho12 hg12 hat12)
      go_roundg f
      case measure => omega
      case rel =>
        refine ⟨i + 1, toks', all ++ ym, by have := HI.out; omega, by go_num, by rw [HTS'.out], HJM.out, ?_, fun e => ?_, B12.out⟩
        · rw [List.length_append, sgs_app]
          exact O12.out
        · exfalso
          have := congrArg List.length e
          rw [List.length_append, List.length_nil] at this
          omega
    · obtain rfl : i = M := by omega
      have hk4 : ¬ ((i : Int) < 1 + (N : Int)) := by have := HM.out; omega
      have hlen : (tokB true toks).length ≤ 1099511627776 := by have := HJ.out.short; omega
      have hall : SegsAt wr wr.heap.size u3 all := by
        refine segs_own HO.out ?_
        rcases Nat.eq_zero_or_pos all.length with e | e
        · exfalso
          have := (HNIL.out (List.eq_nil_of_length_eq_zero e)).2
          omega
        · exact e
      have HC := Lib.hid (same_any toks all u3 wr HJ.out.ok HJ.out.segs hlen hall (by omega))
      rw [← HTS.out] at HC
      clear hbw hall
      go_wp2_with fail
      refine HC.out.mono ?_
      rintro e w2 ⟨rfl, hb2⟩
      have B2 := Lib.hid (bthen (B1.out.trans (HBW.out.mono hz1)) hb2)
      clear hb2
      go_wp2_with fail
      go_ret
      exact ⟨rfl, B2.out⟩

theorem fnJoinMany_wrow (os : Os) {H : Type} (enc : TypeId × Value → H) :
    (Rows.OpenSpec.upto Rows.fnJoinManySpec).preRow enc Tryd.prog Tryd.f7 Rows.fnJoinManyUptoRow.domain false Rows.fnJoinManyUptoRow.laid ((laidWorld os).forCall (fun _ _ => 0) ⟨#[], #[.slice none 0 0], []⟩).memory #[.slice none 0 0] := by
  have hw : ((DataW.whole enc Tryd.prog ((laidWorld os).forCall (fun _ _ => 0) ⟨#[], #[.slice none 0 0], []⟩).memory Tryd.f7.params.toList (Rows.OpenSpec.upto Rows.fnJoinManySpec).vars false (#[.slice none 0 0] : Array Value).toList 8).map (fun x => (x.1, x.2.1))) =
      some ([.nil], []) := by kernel_rfl
  obtain ⟨⟨x1, x2, x3⟩, hx, hx1⟩ := Option.map_eq_some_iff.1 hw
  simp only [Prod.mk.injEq] at hx1
  obtain ⟨rfl, rfl⟩ := hx1
  exact OpenSpec.preRow_of_cond 8 hx (by kernel_rfl) (fun k hk => by cases hk; kernel_rfl) (by kernel_rfl) (laid_met os _)

set_option maxRecDepth 100000 in
theorem fnJoinMany_lifted (os : Os) (started : os.Started) (H : Type) (enc : TypeId × Value → H) (F : Stop.Interp) :
    ReturnsInHanded {} Tryd.checked os 7 .any ((Rows.OpenSpec.upto Rows.fnJoinManySpec).preRow enc Tryd.prog Tryd.f7 Rows.fnJoinManyUptoRow.domain false Rows.fnJoinManyUptoRow.laid) (((Rows.OpenSpec.upto Rows.fnJoinManySpec).at F).post enc Tryd.prog Tryd.f7 false true false false) := by
  refine returnsInHanded_of_row (C := Tryd.checked) (s := Rows.OpenSpec.upto Rows.fnJoinManySpec) own started (by kernel_rfl) Tryd.func7
    (witness_row_atRef (enc := enc) (C := Tryd.checked) false (laidWorld os) #[.slice none 0 0] rfl (by kernel_rfl) (by kernel_rfl) (by kernel_rfl) (fnJoinMany_wrow os enc)) ?_
  intro W base args ds gs before hval0 hW _ hcond hsz0 hL _ _
  have hT : B64 W.heap.size W := b64_of_laid hL
  have hval : ∀ (j : Nat) t v, Tryd.f7.params[j]? = some t → args[j]? = some v → Value.okWide Tryd.prog W .any base t v := hval0
  have hW' := hW
  obtain ⟨p, q, hA0, hV, rfl, hfz, hnd⟩ := hW
  have hA : DataW.TrodAll enc Tryd.prog W 0 (fun _ => true) true Tryd.f7.params.toList args.toList ds p := hA0
  rw [Tryd.params7] at hA hval
  obtain ⟨v0, vs0, d0, ds0, p0, q0, hargs, rfl, rfl, h0, r0⟩ := trodAll_cons hA
  obtain ⟨rfl, rfl, rfl⟩ := trodAll_nil r0
  obtain rfl : args = #[v0] := by cases args; simp_all
  obtain ⟨a0, n0, c0, z0, rfl, k0, b0, e0⟩ := open_rows55 Tryd.underlying64 Tryd.underlying54 Tryd.underlying57 Tryd.underlying3 (by kernel_rfl) (by kernel_rfl) (by kernel_rfl) (hval 0 64 v0 rfl rfl) h0
  have hbk : Rows.uptoBulkAll _ ≤ 1048576 := of_decide_eq_true (hcond _ rfl)
  simp [Rows.uptoBulkAll] at hbk
  refine (fnJoinMany_walk W a0 n0 c0 z0 k0 e0 (by omega) hT).mono fun e W' ⟨he, hb⟩ => ⟨_, he, ?_⟩
  exact law_post (s := Rows.fnJoinManySpec) (f := Tryd.f7) (tb := 4) (by kernel_rfl) (by kernel_rfl) (by kernel_rfl) Tryd.underlying4 rfl (fun ds h => by rw [Tryd.params7] at h; match ds, h with | [_], _ => rfl) hW' hb

theorem fnJoinMany_said : Rows.FnJoinManyUptoSaid :=
  OpenClaim.holds_of_cond 7 Tryd.f7 rfl rfl rfl rfl rfl rfl rfl ⟨rfl, rfl, rfl, rfl, rfl⟩ rfl rfl rfl rfl rfl (by kernel_rfl) Tryd.func7 (by kernel_rfl)
    (of_decide_eq_true (by kernel_rfl)) (by unfold Func.isWrapper; first | (rw [if_pos (by decide +kernel)]; kernel_rfl) | (rw [if_neg (by decide +kernel)]; exact ⟨rfl, rfl⟩))
    (fun os started H enc _ F => by rw [OpenClaim.pre_eq_preRow]; exact fnJoinMany_lifted os started H enc F)

theorem fnJoinMany_plain (f : FuncId) (fn : Func) (hf : Tryd.pinned.checked.prog.funcNamed "mapthread/laws.FnJoinMany" = some f) (hfn : Tryd.pinned.checked.prog.funcs[f]? = some fn) :
    false = Tryd.pinned.checked.prog.looks [] ∧ ∀ (j : Nat) t, fn.params[j]? = some t → Tryd.pinned.checked.prog.wantsStandIn t = false := by
  obtain rfl : f = 7 := Option.some.inj ((show Tryd.prog.funcNamed "mapthread/laws.FnJoinMany" = some 7 by kernel_rfl).symm.trans hf) |>.symm
  obtain rfl : fn = Tryd.f7 := (Option.some.inj (Tryd.func7.symm.trans hfn)).symm
  refine ⟨by kernel_rfl, fun j t ht => ?_⟩
  rw [Tryd.params7] at ht
  have hm := Array.mem_of_getElem? ht
  simp at hm
  subst hm
  exact (show Tryd.prog.wantsStandIn 64 = false by kernel_rfl)

theorem fnJoinManyUpto_card : Rows.FnJoinManyUptoCardSaid :=
  Claim7.holds_tied_plain_at .later [] _ _ _ _ fnJoinMany_said (fun _ h => by cases h) (by kernel_rfl) (fun _ h => by cases h) fnJoinManyUpto_row_tie rfl ⟨rfl, rfl⟩ (by kernel_rfl) rfl fnJoinMany_plain (by kernel_rfl)
#print axioms fnJoinManyUpto_card
end Go.Proofs.YtnokiikgnplpmaaDoor

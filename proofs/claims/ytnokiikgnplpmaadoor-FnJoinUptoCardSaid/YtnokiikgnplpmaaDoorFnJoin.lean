/-
  laws.FnJoin: mappings b appended to mappings a give a, and b moved behind the end of a. Conditions: the arguments hold together at most 1048576 values (the second form); the table of signs is as its text lays it.
-/
import Derived.Test.YtnokiikgnplpmaaDoorNamKit
import Derived.Test.YtnokiikgnplpmaaDoorM3
import Derived.Deep.RegionHeld3
import Derived.Deep.AppendLies
namespace Go.Proofs.YtnokiikgnplpmaaDoor
open Go.RowKit Go.ChangeShapes Go.WideShapes Go.ChangeAt

set_option maxHeartbeats 4000000 in
set_option maxRecDepth 100000 in
theorem fnJoin_walk (W : World) (A : Option Addr) (n cap : Nat) (Z : Nat → Nat → Int) (A' : Option Addr) (n' cap' : Nat) (Z' : Nat → Nat → Int) (l0 l1 l2 l3 l4 l5 : Int) (h5 : At5 W A n Z) (hA : A = none → n = 0 ∧ cap = 0) (hn : n ≤ 1048576) (h5' : At5 W A' n' Z') (hA' : A' = none → n' = 0 ∧ cap' = 0) (hn' : n' ≤ 1048576) (hT : B64 W.heap.size W) :
    Calls Tryd.prog 6 #[.slice A n cap, .slice A' n' cap', .agg #[.int .i64 l0, .int .i64 l1, .int .i64 l2, .int .i64 l3, .int .i64 l4, .int .i64 l5]] W fun e W' => e = .returned (.bool true) ∧ Below W.heap.size W W' := by
  obtain ⟨iS, hiS, hS0, hS1, hS2⟩ := info_parts info_seg
  have K1 := Lib.hid (balloc (Below.refl W.heap.size W) (.cells #[.int .i64 l0, .int .i64 l1, .int .i64 l2, .int .i64 l3, .int .i64 l4, .int .i64 l5] 55))
  have X1 := Lib.hid (Blk.new W 55 #[.int .i64 l0, .int .i64 l1, .int .i64 l2, .int .i64 l3, .int .i64 l4, .int .i64 l5])
  have H5 := Lib.hid (h5.below K1.out)
  have H5' := Lib.hid (h5'.below K1.out)
  have HT := Lib.hid hT
  have HA := Lib.hid hA
  have HA' := Lib.hid hA'
  clear h5 hA hT h5' hA'
  go_enter Tryd.func6, Tryd.ntmps6
  go_upto_region 1 with fail
  generalize W.alloc (.cells #[.int .i64 l0, .int .i64 l1, .int .i64 l2, .int .i64 l3, .int .i64 l4, .int .i64 l5] 55) = V1 at *
  have hzV1 : W.heap.size < V1.heap.size := X1.out.lt
  go_wp2_with (at_builtin; refine wpList_cons5 rfl (.tmp 17) (.tmp 18) rfl V1.heap.size n cap A (fun j => if j = 1 then 1 else 0) Z rfl (Blk.new V1 _ _) rfl HA.out (H5.out.below (balloc (Below.refl _ _) _)) hn ?_; intro A2 cap2 w2 h52 hb2; have H52 := Lib.hid h52; have B2 := Lib.hid ((balloc (Below.refl V1.heap.size V1) _).trans hb2); clear h52 hb2)
  obtain ⟨Y, hY⟩ : ∃ Y, Y = consZ (fun j => if j = 1 then 1 else 0) Z := ⟨_, rfl⟩
  rw [← hY] at H52
  refine (named_any A2 (1 + n) cap2 Y w2 (by omega) (by omega) H52.out).mono ?_
  rintro e w3 ⟨v3, rfl, ho3, hb3⟩
  have hk3 : Hid (∀ k, v3.ownBlock = some k → w2.heap.size ≤ k ∧ k < w3.heap.size) := Lib.hid (fun k hk => own_lt ho3 hk)
  have hz2 := B2.out.size
  have hokx := Lib.hid (nam_ok Y (1 + n) (by omega))
  have hlx := namL_len Y (1 + n)
  have hshx := nam_short2 Y (1 + n) (by omega)
  have hsmx := Lib.hid (nam_small Y (1 + n))
  have B3 := Lib.hid (bthen B2.out hb3)
  generalize namL Y (1 + n) = lx at *
  have hlx' : 1 ≤ lx.length ∧ lx.length ≤ 1048577 := by omega
  clear hlx
  have hox := Lib.hid ho3
  have H53 := Lib.hid (H5'.out.below B3.out)
  have hz3 := B3.out.size
  clear ho3 hb3 hY H5 H52 HA B2 H5'
  go_wp2_with (at_builtin; refine wpList_cons5 rfl (.tmp 22) (.tmp 23) rfl w3.heap.size n' cap' A' (fun j => if j = 1 then 2 else 0) Z' rfl (Blk.new w3 _ _) rfl HA'.out (H53.out.below (balloc (Below.refl _ _) _)) hn' ?_; intro A4 cap4 w4 h54 hb4; have H54 := Lib.hid h54; have B4 := Lib.hid ((balloc (Below.refl w3.heap.size w3) _).trans hb4); clear h54 hb4)
  obtain ⟨Y', hY'⟩ : ∃ Y', Y' = consZ (fun j => if j = 1 then 2 else 0) Z' := ⟨_, rfl⟩
  rw [← hY'] at H54
  refine (named_any A4 (1 + n') cap4 Y' w4 (by omega) (by omega) H54.out).mono ?_
  rintro e w5 ⟨v5, rfl, ho5, hb5⟩
  have hoky := Lib.hid (nam_ok Y' (1 + n') (by omega))
  have hly := namL_len Y' (1 + n')
  have hshy := nam_short2 Y' (1 + n') (by omega)
  have hney := Lib.hid (nam_ne Y' (1 + n') (by omega) (by omega))
  have hsmy := Lib.hid (nam_small Y' (1 + n'))
  have B5 := Lib.hid (bthen B4.out hb5)
  generalize namL Y' (1 + n') = ly at *
  have hly' : 1 ≤ ly.length ∧ ly.length ≤ 1048577 := by omega
  clear hly
  have hsy := Lib.hid (segs_own ho5 (by omega))
  have hox5 := Lib.hid (own_below hox.out B5.out)
  have K5 := Lib.hid (bthen B3.out B5.out)
  have X5 := X1.out.below K5.out
  have c0 : w5.cell? ⟨W.heap.size, 0, none⟩ = some (.int .i64 l0) := X5.cell 0
  have c1 : w5.cell? ⟨W.heap.size, 1, none⟩ = some (.int .i64 l1) := X5.cell 1
  have c2 : w5.cell? ⟨W.heap.size, 2, none⟩ = some (.int .i64 l2) := X5.cell 2
  have c3 : w5.cell? ⟨W.heap.size, 3, none⟩ = some (.int .i64 l3) := X5.cell 3
  have c4 : w5.cell? ⟨W.heap.size, 4, none⟩ = some (.int .i64 l4) := X5.cell 4
  have c5 : w5.cell? ⟨W.heap.size, 5, none⟩ = some (.int .i64 l5) := X5.cell 5
  have hz5 := B5.out.size
  clear ho5 hb5 hY' H53 H54 HA' B4 X5 X1 hox
  go_wp2_with fail
  refine (beginning_any l0 l1 l2 l3 l4 l5 w5).mono ?_
  rintro e w6 ⟨rfl, hb6⟩
  have B6 := Lib.hid (bthen K5.out hb6)
  have hsy6 := Lib.hid ((hsy.out.below hb6).mono hb6.size)
  have hox6 := Lib.hid (own_below hox5.out hb6)
  have hz6 := hb6.size
  clear c0 c1 c2 c3 c4 c5 hb6 hsy hox5
  obtain ⟨s, hs⟩ : ∃ s, s = begS l0 l1 l2 l3 l4 l5 := ⟨_, rfl⟩
  have hsb : (0 ≤ s.l ∧ s.l ≤ 3) ∧ (0 ≤ s.c ∧ s.c < 1048576) ∧ (0 ≤ s.s ∧ s.s < 1000) ∧ (0 ≤ s.fl ∧ s.fl < 1048576) ∧ (0 ≤ s.fc ∧ s.fc < 1048576) ∧ (0 ≤ s.nm ∧ s.nm < 1000) ∧ s.nd = false := by
    rw [hs]
    unfold begS
    simp only
    refine ⟨by omega, by omega, by omega, by omega, by omega, by omega, trivial⟩
  have E0 : l0 % 4 = s.l := by rw [hs]; rfl
  have E1 : l1 % 1048576 = s.c := by rw [hs]; rfl
  have E2 : l2 % 1000 = s.s := by rw [hs]; rfl
  have E3 : l3 % 1048576 = s.fl := by rw [hs]; rfl
  have E4 : l4 % 1048576 = s.fc := by rw [hs]; rfl
  have E5 : l5 % 1000 = s.nm := by rw [hs]; rfl
  rw [E0, E1, E2, E3, E4, E5]
  clear E0 E1 E2 E3 E4 E5 hs
  have HSB := Lib.hid hsb
  clear hsb
  go_wp2_with fail
  refine (endOf_any lx v3 w6 (.inr (segs_own hox6.out (by omega))) (by omega)).mono ?_
  rintro e w7 ⟨rfl, hb7⟩
  have hq2 : Bd0 (wst lx) ∧ (wst lx).1.l ≤ 2 * ((1 + n : Nat) : Int) + 2 ∧ (wst lx).2 ≤ 199 := by
    have h1 := wst_small (l := lx) (P := fun x => (0 ≤ x.l ∧ x.l ≤ 2 * ((1 + n : Nat) : Int) + 2) ∧ (0 ≤ x.c ∧ x.c ≤ 999 * ((1 + n : Nat) : Int) + 999) ∧ (0 ≤ x.s ∧ x.s < 100) ∧ (0 ≤ x.fl ∧ x.fl < 10000) ∧ (0 ≤ x.fc ∧ x.fc < 10000)) (by unfold qz; simp only; omega) (fun x hx => by
      obtain ⟨y1, y2, y3, y4, y5, y6⟩ := hsmx.out x hx
      exact ⟨y1, y2, y3, y4, y5⟩)
    have h2 := wst_name (l := lx) (N := 199) (by omega) (fun x hx => by
      obtain ⟨y1, y2, y3, y4, y5, y6⟩ := hsmx.out x hx
      omega)
    unfold Bd0
    omega
  have HRD := Lib.hid (wtk_read hokx.out)
  have B7 := Lib.hid (bthen B6.out hb7)
  have hsy7 := Lib.hid ((hsy6.out.below hb7).mono hb7.size)
  have hox7 := Lib.hid (own_below hox6.out hb7)
  have hz7 := hb7.size
  clear hb7 hsy6 hox6
  obtain ⟨q, hq⟩ : ∃ q, q = wst lx := ⟨_, rfl⟩
  rw [← hq] at hq2 HRD ⊢
  have HQ := Lib.hid hq2
  clear hq2 hq
  unfold endC
  go_upto_region 3 with fail
  have K8 := Lib.hid (balloc (balloc (Below.refl w7.heap.size w7) (.cells #[.int .i64 s.l, .int .i64 s.c, .int .i64 s.s, .int .i64 s.fl, .int .i64 s.fc, .int .i64 s.nm] 30)) (.cells #[.int .i64 q.1.l, .int .i64 q.1.c, .int .i64 q.1.s, .int .i64 q.1.fl, .int .i64 q.1.fc, .int .i64 q.2] 30))
  have S8 := Lib.hid ((Blk.new w7 30 #[.int .i64 s.l, .int .i64 s.c, .int .i64 s.s, .int .i64 s.fl, .int .i64 s.fc, .int .i64 s.nm]).alloc (.cells #[.int .i64 q.1.l, .int .i64 q.1.c, .int .i64 q.1.s, .int .i64 q.1.fl, .int .i64 q.1.fc, .int .i64 q.2] 30))
  have E8 := Lib.hid (spl_new2 w7 (.cells #[.int .i64 s.l, .int .i64 s.c, .int .i64 s.s, .int .i64 s.fl, .int .i64 s.fc, .int .i64 s.nm] 30) 30 #[.int .i64 q.1.l, .int .i64 q.1.c, .int .i64 q.1.s, .int .i64 q.1.fl, .int .i64 q.1.fc, .int .i64 q.2])
  generalize (w7.alloc (.cells #[.int .i64 s.l, .int .i64 s.c, .int .i64 s.s, .int .i64 s.fl, .int .i64 s.fc, .int .i64 s.nm] 30)).alloc (.cells #[.int .i64 q.1.l, .int .i64 q.1.c, .int .i64 q.1.s, .int .i64 q.1.fl, .int .i64 q.1.fc, .int .i64 q.2] 30) = V8 at *
  have hz8 := K8.out.size
  have hzE := E8.out.lt
  have hsy8 := Lib.hid ((hsy7.out.below K8.out).mono K8.out.size)
  have hox8 := Lib.hid (own_below hox7.out K8.out)
  clear hsy7 hox7
  go_wp2_with fail
  refine (write_any lx v3 V8 hokx.out (by omega) (segs_own hox8.out (by omega))).mono ?_
  rintro e w9 ⟨rfl, hb9⟩
  have B9 := Lib.hid (bthen K8.out hb9)
  have hsy9 := Lib.hid ((hsy8.out.below hb9).mono hb9.size)
  have hox9 := Lib.hid (own_below hox8.out hb9)
  have S9 := Lib.hid (S8.out.below hb9)
  have E9 := Lib.hid (E8.out.below hb9)
  have hz9 := hb9.size
  clear hb9 hsy8 hox8 S8 E8 K8
  generalize hF : tokB true (wtk lx) = F at *
  have HF := Lib.hid hF
  obtain ⟨f0, hf0⟩ : ∃ f0, f0 = offV (foff true (wtk lx)) := ⟨_, rfl⟩
  rw [← hf0]
  clear hF hf0
  obtain ⟨FS, hFS⟩ : ∃ FS, FS = strB F := ⟨_, rfl⟩
  rw [← hFS]
  have HFS := Lib.hid hFS
  clear hFS
  go_wp2_with fail
  refine (write_any ly v5 w9 hoky.out (by omega) hsy9.out).mono ?_
  rintro e w10 ⟨rfl, hb10⟩
  have B10 := Lib.hid (bthen B9.out hb10)
  have hsy10 := Lib.hid ((hsy9.out.below hb10).mono hb10.size)
  have hox10 := Lib.hid (own_below hox9.out hb10)
  have S10 := Lib.hid (S9.out.below hb10)
  have E10 := Lib.hid (E9.out.below hb10)
  have hz10 := hb10.size
  clear hb10 hsy9 hox9 S9 E9 B9
  generalize hD : tokB true (wtk ly) = D at *
  have HD := Lib.hid hD
  obtain ⟨fi, hfi⟩ : ∃ fi, fi = offV (foff true (wtk ly)) := ⟨_, rfl⟩
  rw [← hfi]
  have HFI := Lib.hid hfi
  clear hD hfi
  obtain ⟨DS, hDS⟩ : ∃ DS, DS = strB D := ⟨_, rfl⟩
  rw [← hDS]
  have HDS := Lib.hid hDS
  clear hDS
  have d0 : w10.cell? ⟨w7.heap.size, 0, none⟩ = some (.int .i64 s.l) := S10.out.cell 0
  have d1 : w10.cell? ⟨w7.heap.size, 1, none⟩ = some (.int .i64 s.c) := S10.out.cell 1
  have d2 : w10.cell? ⟨w7.heap.size, 2, none⟩ = some (.int .i64 s.s) := S10.out.cell 2
  have d3 : w10.cell? ⟨w7.heap.size, 3, none⟩ = some (.int .i64 s.fl) := S10.out.cell 3
  have d4 : w10.cell? ⟨w7.heap.size, 4, none⟩ = some (.int .i64 s.fc) := S10.out.cell 4
  have d5 : w10.cell? ⟨w7.heap.size, 5, none⟩ = some (.int .i64 s.nm) := S10.out.cell 5
  go_wp2_with fail
  refine (by_any s.l s.c s.s s.fl s.fc s.nm w10).mono ?_
  rintro e w11 ⟨rfl, hb11⟩
  have B11 := Lib.hid (bthen B10.out hb11)
  have hsy11 := Lib.hid ((hsy10.out.below hb11).mono hb11.size)
  have hox11 := Lib.hid (own_below hox10.out hb11)
  have S11 := Lib.hid (S10.out.below hb11)
  have E11 := Lib.hid (E10.out.below hb11)
  have hz11 := hb11.size
  clear hb11 hsy10 hox10 S10 E10 B10 d0 d1 d2 d3 d4 d5
  go_upto_region 6 with fail
  have K12 := Lib.hid (balloc (Below.refl w11.heap.size w11) (.cells #[.int .i64 s.l, .int .i64 s.c, .int .i64 s.s, .int .i64 s.fl, .int .i64 s.fc, .int .i64 s.nm, .bool false] 45))
  have M12 := Lib.hid (Blk.new w11 45 #[.int .i64 s.l, .int .i64 s.c, .int .i64 s.s, .int .i64 s.fl, .int .i64 s.fc, .int .i64 s.nm, .bool false])
  generalize w11.alloc (.cells #[.int .i64 s.l, .int .i64 s.c, .int .i64 s.s, .int .i64 s.fl, .int .i64 s.fc, .int .i64 s.nm, .bool false] 45) = V12 at *
  have E12 := E11.out.below K12.out
  have hz12 := M12.out.lt
  have e0 : V12.cell? ⟨w7.heap.size + 1, 0, none⟩ = some (.int .i64 q.1.l) := E12.cell 0
  have m0 : V12.cell? ⟨w11.heap.size, 0, none⟩ = some (.int .i64 s.l) := M12.out.cell 0
  have mf0 := M12.out.frozen 0
  have hsum : IntKind.i64.wrap (s.l + q.1.l) = s.l + q.1.l := IntWalk.i64_in _ (by have := HSB.out; have := HQ.out; unfold Bd0 at this; omega)
  have HE12 := Lib.hid E12
  clear E12
  go_upto_region 7 with fail
  have M13 := Lib.hid (M12.out.set_ 0 (.int .i64 (s.l + q.1.l)))
  have K13 := Lib.hid (K12.out.setCell (p := ⟨w11.heap.size, 0, none⟩) (Nat.le_refl _) (.int .i64 (s.l + q.1.l)))
  generalize V12.setCell ⟨w11.heap.size, 0, none⟩ (.int .i64 (s.l + q.1.l)) = V13 at *
  have hz13 := K13.out.size
  have hl13 := M13.out.lt
  have B13 := Lib.hid (bthen B11.out K13.out)
  have S13 := S11.out.below K13.out
  have E13 := E11.out.below K13.out
  have hsy13 := Lib.hid ((hsy11.out.below K13.out).mono K13.out.size)
  have hox13' := own_below hox11.out K13.out
  obtain ⟨A3, cap3, rfl, hA3⟩ := own_form hox13'
  obtain ⟨k3, rfl, _⟩ := hA3 (by omega)
  have hk3' := hk3.out k3 rfl
  have hox13 := Lib.hid hox13'
  have s0 : V13.cell? ⟨w7.heap.size, 0, none⟩ = some (.int .i64 s.l) := S13.cell 0
  have s1 : V13.cell? ⟨w7.heap.size, 1, none⟩ = some (.int .i64 s.c) := S13.cell 1
  have s2 : V13.cell? ⟨w7.heap.size, 2, none⟩ = some (.int .i64 s.s) := S13.cell 2
  have s3 : V13.cell? ⟨w7.heap.size, 3, none⟩ = some (.int .i64 s.fl) := S13.cell 3
  have s4 : V13.cell? ⟨w7.heap.size, 4, none⟩ = some (.int .i64 s.fc) := S13.cell 4
  have s5 : V13.cell? ⟨w7.heap.size, 5, none⟩ = some (.int .i64 s.nm) := S13.cell 5
  have q0 : V13.cell? ⟨w7.heap.size + 1, 0, none⟩ = some (.int .i64 q.1.l) := E13.cell 0
  have q1 : V13.cell? ⟨w7.heap.size + 1, 1, none⟩ = some (.int .i64 q.1.c) := E13.cell 1
  have q2 : V13.cell? ⟨w7.heap.size + 1, 2, none⟩ = some (.int .i64 q.1.s) := E13.cell 2
  have q3 : V13.cell? ⟨w7.heap.size + 1, 3, none⟩ = some (.int .i64 q.1.fl) := E13.cell 3
  have q4 : V13.cell? ⟨w7.heap.size + 1, 4, none⟩ = some (.int .i64 q.1.fc) := E13.cell 4
  have q5 : V13.cell? ⟨w7.heap.size + 1, 5, none⟩ = some (.int .i64 q.2) := E13.cell 5
  have t0 : V13.cell? ⟨w11.heap.size, 0, none⟩ = some (.int .i64 (s.l + q.1.l)) := M13.out.cell 0
  have t1 : V13.cell? ⟨w11.heap.size, 1, none⟩ = some (.int .i64 s.c) := M13.out.cell 1
  have t2 : V13.cell? ⟨w11.heap.size, 2, none⟩ = some (.int .i64 s.s) := M13.out.cell 2
  have t3 : V13.cell? ⟨w11.heap.size, 3, none⟩ = some (.int .i64 s.fl) := M13.out.cell 3
  have t4 : V13.cell? ⟨w11.heap.size, 4, none⟩ = some (.int .i64 s.fc) := M13.out.cell 4
  have t5 : V13.cell? ⟨w11.heap.size, 5, none⟩ = some (.int .i64 s.nm) := M13.out.cell 5
  have t6 : V13.cell? ⟨w11.heap.size, 6, none⟩ = some (.bool false) := M13.out.cell 6
  have h7 : w7.heap.size + 1 < V13.heap.size := E13.lt
  have BW := Lib.hid (K1.out.trans (((B7.out.mono (by omega)).trans (B13.out.mono (by omega))) : Below W.heap.size V1 V13))
  have HT13 := Lib.hid (HT.out.below BW.out)
  have hWz := BW.out.size
  obtain ⟨ym, hym⟩ : ∃ ym, ym = ly.map (mvS ⟨s.l + q.1.l, s.c, s.s, s.fl, s.fc, s.nm, false⟩) := ⟨_, rfl⟩
  have hyl : 1 ≤ ym.length ∧ ym.length ≤ 1048577 := by rw [hym, List.length_map]; exact hly'
  have hyb : Hid (∀ x ∈ ym, 0 ≤ x.l ∧ x.l ≤ 4 * 1048577 + 10) := Lib.hid (by
    intro x hx
    rw [hym] at hx
    obtain ⟨y, hy, rfl⟩ := List.mem_map.1 hx
    obtain ⟨⟨y1, y2⟩, _⟩ := hsmy.out y hy
    have h1 := HSB.out
    have h2 := HQ.out
    unfold Bd0 at h2
    show 0 ≤ y.l + (s.l + q.1.l) ∧ y.l + (s.l + q.1.l) ≤ _
    omega)
  have HYM := Lib.hid hym
  clear hym S13 E13 hox13' hA3 hk3 M13 K13 K12 S11 E11 hsy11 hox11 B11 HE12 e0 m0 mf0 hsum M12
  have HB := Lib.hid (Below.refl V13.heap.size V13)
  have HK := Lib.hid (Kep.refl (fun k => k = k3) V13)
  have HJC : Hid (∀ V, Kep (fun k => k = k3) V13 V → Calls Tryd.prog 20 #[.string FS, .agg #[.int .i64 q.1.l, .int .i64 q.1.c, .int .i64 q.1.s, .int .i64 q.1.fl, .int .i64 q.1.fc, .int .i64 q.2], .agg #[.int .i64 s.l, .int .i64 s.c, .int .i64 s.s, .int .i64 s.fl, .int .i64 s.fc, .int .i64 s.nm], .string DS, .int .i64 fi] V fun e w' => ∃ toks, (rok qz toks ∧ rsegs qz toks = lx ++ ym ∧ segLast toks = true) ∧ e = .returned (.string (strB (tokB true toks))) ∧ Below V.heap.size V w') := Lib.hid (by
    intro V hV
    obtain ⟨⟨b1, b2⟩, b3, b4, b5, b6, b7, b8⟩ := HSB.out
    obtain ⟨r1, r2, r3⟩ := HRD.out
    have hVz := hV.size
    have h := joinT_any (wtk lx) (wtk ly) s s.l.toNat W.heap.size V (HT13.out.below (hV.below (B := W.heap.size) (by omega) (fun k _ e => by omega))) (by omega) r1 (by rw [r2]; exact HQ.out.1) (by rw [r2]; have := HQ.out.2.2; omega) (wtk_tight hoky.out) hney.out ⟨by omega, by omega, by omega, by omega, by omega⟩ (by omega) (by omega) (by rw [HF.out, HD.out]; omega) q r2 fi HFI.out.symm
    rw [HF.out, HD.out, ← HFS.out, ← HDS.out] at h
    refine h.mono ?_
    rintro e w' ⟨toks, hj, rfl, hb⟩
    refine ⟨toks, ⟨hj.ok, ?_, hj.last (wtk_last (fun e => by rw [e] at hly'; simp at hly'))⟩, rfl, hb⟩
    rw [hj.segs, r3, (wtk_read hoky.out).2.2, r2, HYM.out]
    congr 1
    congr 1
    exact mvS_eq (Int.add_comm _ _) rfl rfl rfl rfl rfl)
  have HMC : Hid (∀ V, Below V13.heap.size V13 V → Calls Tryd.prog 22 #[v5, .agg #[.int .i64 (s.l + q.1.l), .int .i64 s.c, .int .i64 s.s, .int .i64 s.fl, .int .i64 s.fc, .int .i64 s.nm, .bool false]] V fun e w' => ∃ R c, e = .returned (.slice (some ⟨R, 0, none⟩) ym.length c) ∧ CellsAt w' R (sgs ym) ∧ Below V.heap.size V w') := Lib.hid (by
    intro V hV
    obtain ⟨⟨b1, b2⟩, b3, b4, b5, b6, b7, b8⟩ := HSB.out
    have h2 := HQ.out
    unfold Bd0 at h2
    have h := moved_any ly ⟨s.l + q.1.l, s.c, s.s, s.fl, s.fc, s.nm, false⟩ v5 V ((hsy13.out.below hV).mono hV.size) (by omega) (fun x hx => by
      obtain ⟨i, hi, rfl⟩ := List.mem_iff_getElem.1 hx
      exact (hoky.out i hi).1) ⟨by simp only; omega, by simp only; omega, by simp only; omega, by simp only; omega, by simp only; omega, by simp only; omega⟩
    rw [← HYM.out] at h
    refine h.mono ?_
    rintro e w' ⟨u, rfl, ho, hb⟩
    obtain ⟨A, c, rfl, hA⟩ := own_form ho
    obtain ⟨R, rfl, _⟩ := hA (by omega)
    exact ⟨R, c, rfl, cells_own ho (by omega), hb⟩)
  have HSC : Hid (∀ V toks g c, (rok qz toks ∧ rsegs qz toks = lx ++ ym ∧ segLast toks = true) → CellsAt V g (sgs lx ++ sgs ym) → Calls Tryd.prog 21 #[.string (strB (tokB true toks)), .slice (some ⟨g, 0, none⟩) (lx.length + ym.length) c] V fun e w' => e = .returned (.bool true) ∧ Below V.heap.size V w') := Lib.hid (by
    intro V toks g c ⟨h1, h2, h0⟩ h3
    have hlen : (tokB true toks).length ≤ 1099511627776 := by
      have h4 := toks_short h1 h0 (N := 4 * 1048577 + 10) (by omega) (fun x hx => by
        rw [h2] at hx
        rcases List.mem_append.1 hx with hx | hx
        · obtain ⟨⟨y1, y2⟩, _⟩ := hsmx.out x hx
          omega
        · exact hyb.out x hx)
      have h6 : (rsegs qz toks).length = lx.length + ym.length := by rw [h2, List.length_append]
      rw [h6] at h4
      omega
    have h := same_any toks (lx ++ ym) (.slice (some ⟨g, 0, none⟩) (lx ++ ym).length c) V h1 h2 hlen ⟨g, c, rfl, h3.1, fun j u hj => h3.2 j u (by rw [← sgs_app]; exact hj)⟩ (by rw [List.length_append]; omega)
    rw [List.length_append] at h
    exact h)
  have h1c : Hid (∀ u ∈ sgs ym, u.oneCell' = true) := Lib.hid (fun u hu => by
    unfold sgs at hu
    obtain ⟨x, _, hx⟩ := List.mem_flatMap.1 hu
    exact seg_one x u hx)
  clear HSB HQ HRD hsmx hsmy hney HT13
  go_region_held3 (fun w' => w'.cell? ⟨w7.heap.size, 0, none⟩ = some (.int .i64 s.l) ∧ w'.cell? ⟨w7.heap.size, 1, none⟩ = some (.int .i64 s.c) ∧ w'.cell? ⟨w7.heap.size, 2, none⟩ = some (.int .i64 s.s) ∧ w'.cell? ⟨w7.heap.size, 3, none⟩ = some (.int .i64 s.fl) ∧ w'.cell? ⟨w7.heap.size, 4, none⟩ = some (.int .i64 s.fc) ∧ w'.cell? ⟨w7.heap.size, 5, none⟩ = some (.int .i64 s.nm) ∧
      w'.cell? ⟨w7.heap.size + 1, 0, none⟩ = some (.int .i64 q.1.l) ∧ w'.cell? ⟨w7.heap.size + 1, 1, none⟩ = some (.int .i64 q.1.c) ∧ w'.cell? ⟨w7.heap.size + 1, 2, none⟩ = some (.int .i64 q.1.s) ∧ w'.cell? ⟨w7.heap.size + 1, 3, none⟩ = some (.int .i64 q.1.fl) ∧ w'.cell? ⟨w7.heap.size + 1, 4, none⟩ = some (.int .i64 q.1.fc) ∧ w'.cell? ⟨w7.heap.size + 1, 5, none⟩ = some (.int .i64 q.2) ∧
      w'.cell? ⟨w11.heap.size, 0, none⟩ = some (.int .i64 (s.l + q.1.l)) ∧ w'.cell? ⟨w11.heap.size, 1, none⟩ = some (.int .i64 s.c) ∧ w'.cell? ⟨w11.heap.size, 2, none⟩ = some (.int .i64 s.s) ∧ w'.cell? ⟨w11.heap.size, 3, none⟩ = some (.int .i64 s.fl) ∧ w'.cell? ⟨w11.heap.size, 4, none⟩ = some (.int .i64 s.fc) ∧ w'.cell? ⟨w11.heap.size, 5, none⟩ = some (.int .i64 s.nm) ∧ w'.cell? ⟨w11.heap.size, 6, none⟩ = some (.bool false))
    (first
      | exact ⟨(HK.out.cell (p := ⟨w7.heap.size, 0, none⟩) (by simp only; omega) (by simp only; omega)).trans s0, (HK.out.cell (p := ⟨w7.heap.size, 1, none⟩) (by simp only; omega) (by simp only; omega)).trans s1, (HK.out.cell (p := ⟨w7.heap.size, 2, none⟩) (by simp only; omega) (by simp only; omega)).trans s2, (HK.out.cell (p := ⟨w7.heap.size, 3, none⟩) (by simp only; omega) (by simp only; omega)).trans s3, (HK.out.cell (p := ⟨w7.heap.size, 4, none⟩) (by simp only; omega) (by simp only; omega)).trans s4, (HK.out.cell (p := ⟨w7.heap.size, 5, none⟩) (by simp only; omega) (by simp only; omega)).trans s5, (HK.out.cell (p := ⟨w7.heap.size + 1, 0, none⟩) (by simp only; omega) (by simp only; omega)).trans q0, (HK.out.cell (p := ⟨w7.heap.size + 1, 1, none⟩) (by simp only; omega) (by simp only; omega)).trans q1, (HK.out.cell (p := ⟨w7.heap.size + 1, 2, none⟩) (by simp only; omega) (by simp only; omega)).trans q2, (HK.out.cell (p := ⟨w7.heap.size + 1, 3, none⟩) (by simp only; omega) (by simp only; omega)).trans q3, (HK.out.cell (p := ⟨w7.heap.size + 1, 4, none⟩) (by simp only; omega) (by simp only; omega)).trans q4, (HK.out.cell (p := ⟨w7.heap.size + 1, 5, none⟩) (by simp only; omega) (by simp only; omega)).trans q5, (HK.out.cell (p := ⟨w11.heap.size, 0, none⟩) (by simp only; omega) (by simp only; omega)).trans t0, (HK.out.cell (p := ⟨w11.heap.size, 1, none⟩) (by simp only; omega) (by simp only; omega)).trans t1, (HK.out.cell (p := ⟨w11.heap.size, 2, none⟩) (by simp only; omega) (by simp only; omega)).trans t2, (HK.out.cell (p := ⟨w11.heap.size, 3, none⟩) (by simp only; omega) (by simp only; omega)).trans t3, (HK.out.cell (p := ⟨w11.heap.size, 4, none⟩) (by simp only; omega) (by simp only; omega)).trans t4, (HK.out.cell (p := ⟨w11.heap.size, 5, none⟩) (by simp only; omega) (by simp only; omega)).trans t5, (HK.out.cell (p := ⟨w11.heap.size, 6, none⟩) (by simp only; omega) (by simp only; omega)).trans t6⟩)
    (first
      | (go_at_call 20; refine (HJC.out _ (by first | exact HK.out | exact HK.out.drew)).mono ?_; rintro e w' ⟨toks, hj, rfl, hb⟩; have HJ := Lib.hid hj; (first | (have HM := Lib.hid (HM.out.below hb)) | skip); (first | (have HA := Lib.hid (HA.out.below hb)) | skip); (first | (have HB : Hid (Below V13.heap.size V13 w') := Lib.hid (by first | exact bthen HB.out hb | exact bthen HB.out.drew hb)) | skip); have HK : Hid (Kep (fun k => k = k3) V13 w') := Lib.hid (by first | exact HK.out.then (Kep.of_below (X := fun _ => False) hb) (fun _ q => q.elim) | exact (HK.out.drew).then (Kep.of_below (X := fun _ => False) hb) (fun _ q => q.elim)); clear hj hb)
      | (go_at_call 22; refine (HMC.out _ (by first | exact HB.out | exact HB.out.drew)).mono ?_; rintro e w' ⟨R, cR, rfl, hm, hb⟩; have HM := Lib.hid hm; have HK : Hid (Kep (fun k => k = k3) V13 w') := Lib.hid (by first | exact HK.out.then (Kep.of_below (X := fun _ => False) hb) (fun _ q => q.elim) | exact (HK.out.drew).then (Kep.of_below (X := fun _ => False) hb) (fun _ q => q.elim)); have HB : Hid (Below V13.heap.size V13 w') := Lib.hid (by first | exact bthen HB.out hb | exact bthen HB.out.drew hb); clear hm hb)
      | (go_at_call 21; refine (HSC.out _ _ _ _ HJ.out HA.out).mono ?_; rintro e w' ⟨rfl, hb⟩; have HK : Hid (Kep (fun k => k = k3) V13 w') := Lib.hid (HK.out.then (Kep.of_below (X := fun _ => False) hb) (fun _ q => q.elim)); clear hb)
      | (refine step_append_lies _ (by rfl) _ _ _ (by rfl) w2.heap.size 45 iS _ 7 56 Tryd.underlying35 hiS hS0 hS1 hS2 rfl (by omega) (.slice (some ⟨k3, 0, none⟩) lx.length cap3) lx.length (sgs lx) (by rfl) (own_below hox13.out HB.out) ⟨R, 0, none⟩ ym.length cR (sgs ym) (by rfl) (by rw [sgs_len]) (fun j u hj => by rw [Addr.add_lit, Nat.zero_add]; exact HM.out.2 j u hj) h1c.out (by omega) (by unfold maxLen; omega) (by omega) (by have := HB.out.size; omega) _ rfl ?_; intro g2 cap2' w2' hown2 hg2 hat2 hlt2; have HA : Hid (CellsAt w2' g2 (sgs lx ++ sgs ym)) := Lib.hid (cells_own hown2 (by omega)); have HK : Hid (Kep (fun k => k = k3) V13 w2') := Lib.hid (HK.out.then (Kep.of_grown hg2) (fun i hi => .inl (by simp [Value.ownBlock] at hi; omega))); clear hown2 hg2 hat2 hlt2 HB HM))
  all_goals go_wp2_with fail
  all_goals go_ret
  all_goals exact ⟨rfl, BW.out.trans (HK.out.below (B := W.heap.size) (by omega) (fun k _ e => by omega))⟩

theorem fnJoin_wrow (os : Os) {H : Type} (enc : TypeId × Value → H) :
    (Rows.OpenSpec.upto Rows.fnJoinSpec).preRow enc Tryd.prog Tryd.f6 Rows.fnJoinUptoRow.domain false Rows.fnJoinUptoRow.laid ((laidWorld os).forCall (fun _ _ => 0) ⟨#[], #[.slice none 0 0, .slice none 0 0, .agg #[.int .i64 0, .int .i64 0, .int .i64 0, .int .i64 0, .int .i64 0, .int .i64 0]], []⟩).memory #[.slice none 0 0, .slice none 0 0, .agg #[.int .i64 0, .int .i64 0, .int .i64 0, .int .i64 0, .int .i64 0, .int .i64 0]] := by
  have hw : ((DataW.whole enc Tryd.prog ((laidWorld os).forCall (fun _ _ => 0) ⟨#[], #[.slice none 0 0, .slice none 0 0, .agg #[.int .i64 0, .int .i64 0, .int .i64 0, .int .i64 0, .int .i64 0, .int .i64 0]], []⟩).memory Tryd.f6.params.toList (Rows.OpenSpec.upto Rows.fnJoinSpec).vars false (#[.slice none 0 0, .slice none 0 0, .agg #[.int .i64 0, .int .i64 0, .int .i64 0, .int .i64 0, .int .i64 0, .int .i64 0]] : Array Value).toList 8).map (fun x => (x.1, x.2.1))) =
      some ([.nil, .nil, .agg [.lit (.int .i64 0), .lit (.int .i64 0), .lit (.int .i64 0), .lit (.int .i64 0), .lit (.int .i64 0), .lit (.int .i64 0)]], []) := by kernel_rfl
  obtain ⟨⟨x1, x2, x3⟩, hx, hx1⟩ := Option.map_eq_some_iff.1 hw
  simp only [Prod.mk.injEq] at hx1
  obtain ⟨rfl, rfl⟩ := hx1
  exact OpenSpec.preRow_of_cond 8 hx (by kernel_rfl) (fun k hk => by cases hk; kernel_rfl) (by kernel_rfl) (laid_met os _)

set_option maxRecDepth 100000 in
theorem fnJoin_lifted (os : Os) (started : os.Started) (H : Type) (enc : TypeId × Value → H) (F : Stop.Interp) :
    ReturnsInHanded {} Tryd.checked os 6 .any ((Rows.OpenSpec.upto Rows.fnJoinSpec).preRow enc Tryd.prog Tryd.f6 Rows.fnJoinUptoRow.domain false Rows.fnJoinUptoRow.laid) (((Rows.OpenSpec.upto Rows.fnJoinSpec).at F).post enc Tryd.prog Tryd.f6 false true false false) := by
  refine returnsInHanded_of_row (C := Tryd.checked) (s := Rows.OpenSpec.upto Rows.fnJoinSpec) own started (by kernel_rfl) Tryd.func6
    (witness_row_atRef (enc := enc) (C := Tryd.checked) false (laidWorld os) #[.slice none 0 0, .slice none 0 0, .agg #[.int .i64 0, .int .i64 0, .int .i64 0, .int .i64 0, .int .i64 0, .int .i64 0]] rfl (by kernel_rfl) (by kernel_rfl) (by kernel_rfl) (fnJoin_wrow os enc)) ?_
  intro W base args ds gs before hval0 hW _ hcond hsz0 hL _ _
  have hT : B64 W.heap.size W := b64_of_laid hL
  have hval : ∀ (j : Nat) t v, Tryd.f6.params[j]? = some t → args[j]? = some v → Value.okWide Tryd.prog W .any base t v := hval0
  have hW' := hW
  obtain ⟨p, q, hA0, hV, rfl, hfz, hnd⟩ := hW
  have hA : DataW.TrodAll enc Tryd.prog W 0 (fun _ => true) true Tryd.f6.params.toList args.toList ds p := hA0
  rw [Tryd.params6] at hA hval
  obtain ⟨v0, vs0, d0, ds0, p0, q0, hargs, rfl, rfl, h0, r0⟩ := trodAll_cons hA
  obtain ⟨v1, vs1, d1, ds1, p1, q1, rfl, rfl, rfl, h1, r1⟩ := trodAll_cons r0
  obtain ⟨v2, vs2, d2, ds2, p2, q2, rfl, rfl, rfl, h2, r2⟩ := trodAll_cons r1
  obtain ⟨rfl, rfl, rfl⟩ := trodAll_nil r2
  obtain rfl : args = #[v0, v1, v2] := by cases args; simp_all
  obtain ⟨a0, n0, c0, z0, rfl, k0, b0, e0⟩ := open_rows5 Tryd.underlying54 Tryd.underlying57 Tryd.underlying3 (by kernel_rfl) (by kernel_rfl) (hval 0 54 v0 rfl rfl) h0
  obtain ⟨a1, n1, c1, z1, rfl, k1, b1, e1⟩ := open_rows5 Tryd.underlying54 Tryd.underlying57 Tryd.underlying3 (by kernel_rfl) (by kernel_rfl) (hval 1 54 v1 rfl rfl) h1
  obtain ⟨l20, l21, l22, l23, l24, l25, rfl⟩ := open_arr6 Tryd.underlying55 Tryd.underlying3 (by kernel_rfl) (by kernel_rfl) (hval 2 55 v2 rfl rfl) h2
  have hbk : Rows.uptoBulkAll _ ≤ 1048576 := of_decide_eq_true (hcond _ rfl)
  simp [Rows.uptoBulkAll] at hbk
  refine (fnJoin_walk W a0 n0 c0 z0 a1 n1 c1 z1 l20 l21 l22 l23 l24 l25 k0 e0 (by omega) k1 e1 (by omega) hT).mono fun e W' ⟨he, hb⟩ => ⟨_, he, ?_⟩
  exact law_post (s := Rows.fnJoinSpec) (f := Tryd.f6) (tb := 4) (by kernel_rfl) (by kernel_rfl) (by kernel_rfl) Tryd.underlying4 rfl (fun ds h => by rw [Tryd.params6] at h; match ds, h with | [_, _, _], _ => rfl) hW' hb

theorem fnJoin_said : Rows.FnJoinUptoSaid :=
  OpenClaim.holds_of_cond 6 Tryd.f6 rfl rfl rfl rfl rfl rfl rfl ⟨rfl, rfl, rfl, rfl, rfl⟩ rfl rfl rfl rfl rfl (by kernel_rfl) Tryd.func6 (by kernel_rfl)
    (of_decide_eq_true (by kernel_rfl)) (by unfold Func.isWrapper; first | (rw [if_pos (by decide +kernel)]; kernel_rfl) | (rw [if_neg (by decide +kernel)]; exact ⟨rfl, rfl⟩))
    (fun os started H enc _ F => by rw [OpenClaim.pre_eq_preRow]; exact fnJoin_lifted os started H enc F)

theorem fnJoin_plain (f : FuncId) (fn : Func) (hf : Tryd.pinned.checked.prog.funcNamed "mapthread/laws.FnJoin" = some f) (hfn : Tryd.pinned.checked.prog.funcs[f]? = some fn) :
    false = Tryd.pinned.checked.prog.looks [] ∧ ∀ (j : Nat) t, fn.params[j]? = some t → Tryd.pinned.checked.prog.wantsStandIn t = false := by
  obtain rfl : f = 6 := Option.some.inj ((show Tryd.prog.funcNamed "mapthread/laws.FnJoin" = some 6 by kernel_rfl).symm.trans hf) |>.symm
  obtain rfl : fn = Tryd.f6 := (Option.some.inj (Tryd.func6.symm.trans hfn)).symm
  refine ⟨by kernel_rfl, fun j t ht => ?_⟩
  rw [Tryd.params6] at ht
  have hm := Array.mem_of_getElem? ht
  simp at hm
  rcases hm with rfl | rfl
  · exact (show Tryd.prog.wantsStandIn 54 = false by kernel_rfl)
  · exact (show Tryd.prog.wantsStandIn 55 = false by kernel_rfl)

theorem fnJoinUpto_card : Rows.FnJoinUptoCardSaid :=
  Claim7.holds_tied_plain_at .later [] _ _ _ _ fnJoin_said (fun _ h => by cases h) (by kernel_rfl) (fun _ h => by cases h) fnJoinUpto_row_tie rfl ⟨rfl, rfl⟩ (by kernel_rfl) rfl fnJoin_plain (by kernel_rfl)
#print axioms fnJoinUpto_card
end Go.Proofs.YtnokiikgnplpmaaDoor

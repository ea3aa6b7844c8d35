/-
  laws.FnJoinMoved: mappings appended to nothing with another beginning are moved there. Conditions: the arguments hold together at most 1048576 values (the second form); the table of signs is as its text lays it.
-/
import Derived.Test.YtnokiikgnplpmaaDoorNamKit
import Derived.Test.YtnokiikgnplpmaaDoorM3
import Derived.Deep.RegionHeld3
namespace Go.Proofs.YtnokiikgnplpmaaDoor
open Go.RowKit Go.ChangeShapes Go.WideShapes Go.ChangeAt

set_option maxHeartbeats 4000000 in
set_option maxRecDepth 100000 in
theorem fnJoinMoved_walk (W : World) (A : Option Addr) (n cap : Nat) (Z : Nat → Nat → Int) (l0 l1 l2 l3 l4 l5 : Int) (h5 : At5 W A n Z) (hA : A = none → n = 0 ∧ cap = 0) (hn : n ≤ 1048576) (hT : B64 W.heap.size W) :
    Calls Tryd.prog 8 #[.slice A n cap, .agg #[.int .i64 l0, .int .i64 l1, .int .i64 l2, .int .i64 l3, .int .i64 l4, .int .i64 l5]] W fun e W' => e = .returned (.bool true) ∧ Below W.heap.size W W' := by
  have K1 := Lib.hid (balloc (Below.refl W.heap.size W) (.cells #[.int .i64 l0, .int .i64 l1, .int .i64 l2, .int .i64 l3, .int .i64 l4, .int .i64 l5] 55))
  have X1 := Lib.hid (Blk.new W 55 #[.int .i64 l0, .int .i64 l1, .int .i64 l2, .int .i64 l3, .int .i64 l4, .int .i64 l5])
  have H5 := Lib.hid (h5.below K1.out)
  have HT := Lib.hid hT
  have HA := Lib.hid hA
  clear h5 hA hT
  go_enter Tryd.func8, Tryd.ntmps8
  go_upto_region 1 with fail
  generalize W.alloc (.cells #[.int .i64 l0, .int .i64 l1, .int .i64 l2, .int .i64 l3, .int .i64 l4, .int .i64 l5] 55) = V1 at *
  have hzV1 : W.heap.size < V1.heap.size := X1.out.lt
  go_wp2_with (at_builtin; refine wpList_cons5 rfl (.tmp 10) (.tmp 11) rfl V1.heap.size n cap A (fun j => if j = 1 then 1 else 0) Z rfl (Blk.new V1 _ _) rfl HA.out (H5.out.below (balloc (Below.refl _ _) _)) hn ?_; intro A2 cap2 w2 h52 hb2; have H52 := Lib.hid h52; have B2 := Lib.hid ((balloc (Below.refl V1.heap.size V1) _).trans hb2); clear h52 hb2)
  obtain ⟨Y, hY⟩ : ∃ Y, Y = consZ (fun j => if j = 1 then 1 else 0) Z := ⟨_, rfl⟩
  rw [← hY] at H52
  refine (named_any A2 (1 + n) cap2 Y w2 (by omega) (by omega) H52.out).mono ?_
  rintro e w3 ⟨v3, rfl, ho3, hb3⟩
  have hok := nam_ok Y (1 + n) (by omega)
  have hll := namL_len Y (1 + n)
  have hsh := nam_short2 Y (1 + n) (by omega)
  have hne := Lib.hid (nam_ne Y (1 + n) (by omega) (by omega))
  have hsm := Lib.hid (nam_small Y (1 + n))
  have B3 := Lib.hid (bthen B2.out hb3)
  generalize namL Y (1 + n) = l at *
  have hsg := Lib.hid (segs_own ho3 (by omega))
  have HOK := Lib.hid hok
  have X3 := X1.out.below B3.out
  have c0 : w3.cell? ⟨W.heap.size, 0, none⟩ = some (.int .i64 l0) := X3.cell 0
  have c1 : w3.cell? ⟨W.heap.size, 1, none⟩ = some (.int .i64 l1) := X3.cell 1
  have c2 : w3.cell? ⟨W.heap.size, 2, none⟩ = some (.int .i64 l2) := X3.cell 2
  have c3 : w3.cell? ⟨W.heap.size, 3, none⟩ = some (.int .i64 l3) := X3.cell 3
  have c4 : w3.cell? ⟨W.heap.size, 4, none⟩ = some (.int .i64 l4) := X3.cell 4
  have c5 : w3.cell? ⟨W.heap.size, 5, none⟩ = some (.int .i64 l5) := X3.cell 5
  have hz3 := B3.out.size
  clear ho3 hb3 hY hok X1 H5 H52 HA B2 X3
  go_wp2_with fail
  refine (beginning_any l0 l1 l2 l3 l4 l5 w3).mono ?_
  rintro e w4 ⟨rfl, hb4⟩
  have B4 := Lib.hid (bthen B3.out hb4)
  have hs4 := Lib.hid ((hsg.out.below hb4).mono hb4.size)
  have hz4 := hb4.size
  clear c0 c1 c2 c3 c4 c5 hb4 hsg
  obtain ⟨s, hs⟩ : ∃ s, s = begS l0 l1 l2 l3 l4 l5 := ⟨_, rfl⟩
  have hsb : (0 ≤ s.l ∧ s.l ≤ 3) ∧ (0 ≤ s.c ∧ s.c < 1048576) ∧ (0 ≤ s.s ∧ s.s < 1000) ∧ (0 ≤ s.fl ∧ s.fl < 1048576) ∧ (0 ≤ s.fc ∧ s.fc < 1048576) ∧ (0 ≤ s.nm ∧ s.nm < 1000) ∧ s.nd = false := by
    rw [hs]
    unfold begS
    simp only
    refine ⟨by omega, by omega, by omega, by omega, by omega, by omega, trivial⟩
  have E0 : l0 % 4 = s.l := by rw [hs]; rfl
  have E1 : l1 % 1048576 = s.c := by rw [hs]; rfl
  have E2 : l2 % 1000 = s.s := by rw [hs]; rfl
  have E3 : l3 % 1048576 = s.fl := by rw [hs]; rfl
  have E4 : l4 % 1048576 = s.fc := by rw [hs]; rfl
  have E5 : l5 % 1000 = s.nm := by rw [hs]; rfl
  rw [E0, E1, E2, E3, E4, E5]
  clear E0 E1 E2 E3 E4 E5 hs
  have HSB := Lib.hid hsb
  clear hsb
  go_wp2_with fail
  have K5 := Lib.hid (balloc (Below.refl w4.heap.size w4) (.cells #[.int .i64 s.l, .int .i64 s.c, .int .i64 s.s, .int .i64 s.fl, .int .i64 s.fc, .int .i64 s.nm] 30))
  have X5 := Lib.hid (Blk.new w4 30 #[.int .i64 s.l, .int .i64 s.c, .int .i64 s.s, .int .i64 s.fl, .int .i64 s.fc, .int .i64 s.nm])
  generalize w4.alloc (.cells #[.int .i64 s.l, .int .i64 s.c, .int .i64 s.s, .int .i64 s.fl, .int .i64 s.fc, .int .i64 s.nm] 30) = V5 at *
  have hzV5 : w4.heap.size < V5.heap.size := X5.out.lt
  have hs5 := Lib.hid ((hs4.out.below K5.out).mono K5.out.size)
  refine (write_any l v3 V5 HOK.out (by omega) hs5.out).mono ?_
  rintro e w6 ⟨rfl, hb6⟩
  have B6 := Lib.hid ((K1.out.trans (B4.out.mono (by omega))).trans ((K5.out.mono (by omega)).trans (hb6.mono (by omega))))
  have X6 := X5.out.below hb6
  have hs6 := Lib.hid ((hs5.out.below hb6).mono hb6.size)
  have hz6 := hb6.size
  generalize hD : tokB true (wtk l) = D at *
  have HD := Lib.hid hD
  obtain ⟨fi, hfi⟩ : ∃ fi, fi = offV (foff true (wtk l)) := ⟨_, rfl⟩
  rw [← hfi]
  have HFI := Lib.hid hfi
  clear hD hfi
  obtain ⟨T, hTT⟩ : ∃ T, T = strB D := ⟨_, rfl⟩
  rw [← hTT]
  have HTT := Lib.hid hTT
  clear hTT
  have d0 : w6.cell? ⟨w4.heap.size, 0, none⟩ = some (.int .i64 s.l) := X6.cell 0
  have d1 : w6.cell? ⟨w4.heap.size, 1, none⟩ = some (.int .i64 s.c) := X6.cell 1
  have d2 : w6.cell? ⟨w4.heap.size, 2, none⟩ = some (.int .i64 s.s) := X6.cell 2
  have d3 : w6.cell? ⟨w4.heap.size, 3, none⟩ = some (.int .i64 s.fl) := X6.cell 3
  have d4 : w6.cell? ⟨w4.heap.size, 4, none⟩ = some (.int .i64 s.fc) := X6.cell 4
  have d5 : w6.cell? ⟨w4.heap.size, 5, none⟩ = some (.int .i64 s.nm) := X6.cell 5
  have hl : w4.heap.size < w6.heap.size := X6.lt
  have HT6 := Lib.hid (HT.out.below B6.out)
  have HK := Lib.hid (Below.refl w6.heap.size w6)
  have HJC : Hid (∀ V, Below w6.heap.size w6 V → Calls Tryd.prog 20 #[.string ⟨#[]⟩, .agg #[.int .i64 0, .int .i64 0, .int .i64 0, .int .i64 0, .int .i64 0, .int .i64 0], .agg #[.int .i64 s.l, .int .i64 s.c, .int .i64 s.s, .int .i64 s.fl, .int .i64 s.fc, .int .i64 s.nm], .string T, .int .i64 fi] V fun e w' => ∃ toks, (rok qz toks ∧ rsegs qz toks = l.map (mvS s) ∧ segLast toks = true) ∧ e = .returned (.string (strB (tokB true toks))) ∧ Below V.heap.size V w') := Lib.hid (by
    intro V hV
    obtain ⟨⟨b1, b2⟩, b3, b4, b5, b6, b7, b8⟩ := HSB.out
    have h := joinT_any [] (wtk l) s s.l.toNat W.heap.size V (HT6.out.below (hV.mono (by omega))) (by have := hV.size; omega) (by unfold rok sOk qz; simp) qz_bd (by show (0 : Int) ≤ _; omega) (wtk_tight HOK.out) hne.out ⟨by omega, by omega, by omega, by omega, by omega⟩ (by omega) (by omega) (by rw [HD.out]; simp [tokB]; omega) qz rfl fi HFI.out.symm
    rw [HD.out, ← HTT.out] at h
    refine Calls.mono (show Calls Tryd.prog 20 #[.string ⟨#[]⟩, .agg #[.int .i64 0, .int .i64 0, .int .i64 0, .int .i64 0, .int .i64 0, .int .i64 0], .agg #[.int .i64 s.l, .int .i64 s.c, .int .i64 s.s, .int .i64 s.fl, .int .i64 s.fc, .int .i64 s.nm], .string T, .int .i64 fi] V _ from h) ?_
    rintro e w' ⟨toks, hj, rfl, hb⟩
    refine ⟨toks, ⟨hj.ok, ?_, hj.last (wtk_last (fun e => by rw [e] at hll; simp at hll; omega))⟩, rfl, hb⟩
    rw [hj.segs, (wtk_read HOK.out).2.2]
    have e1 : ({ s with l := (rgo qz []).1.l + s.l } : Seg) = s := by
      show ({ s with l := 0 + s.l } : Seg) = s
      rw [Int.zero_add]
    rw [e1]
    rfl)
  have HMC : Hid (∀ V, Below w6.heap.size w6 V → Calls Tryd.prog 22 #[v3, .agg #[.int .i64 s.l, .int .i64 s.c, .int .i64 s.s, .int .i64 s.fl, .int .i64 s.fc, .int .i64 s.nm, .bool false]] V fun e w' => ∃ u, e = .returned u ∧ SegsAt w' w'.heap.size u (l.map (mvS s)) ∧ Below V.heap.size V w') := Lib.hid (by
    intro V hV
    obtain ⟨⟨b1, b2⟩, b3, b4, b5, b6, b7, b8⟩ := HSB.out
    have h := moved_any l s v3 V ((hs6.out.below hV).mono hV.size) (by omega) (fun x hx => by
      obtain ⟨i, hi, rfl⟩ := List.mem_iff_getElem.1 hx
      exact (HOK.out i hi).1) ⟨by omega, by omega, by omega, by omega, by omega, by omega⟩
    unfold sgA at h
    rw [b8] at h
    refine h.mono ?_
    rintro e w' ⟨u, rfl, ho, hb⟩
    exact ⟨u, rfl, segs_own ho (by rw [List.length_map]; omega), hb⟩)
  have HSC : Hid (∀ V toks u, (rok qz toks ∧ rsegs qz toks = l.map (mvS s) ∧ segLast toks = true) → SegsAt V V.heap.size u (l.map (mvS s)) → Calls Tryd.prog 21 #[.string (strB (tokB true toks)), u] V fun e w' => e = .returned (.bool true) ∧ Below V.heap.size V w') := Lib.hid (by
    intro V toks u ⟨h1, h2, h0⟩ h3
    have hlen : (tokB true toks).length ≤ 1099511627776 := by
      obtain ⟨⟨b1, b2⟩, _⟩ := HSB.out
      have h4 := toks_short h1 h0 (N := 2 * ((1 + n : Nat) : Int) + 5) (by omega) (fun x hx => by
        rw [h2] at hx
        obtain ⟨y, hy, rfl⟩ := List.mem_map.1 hx
        obtain ⟨⟨y1, y2⟩, _⟩ := hsm.out y hy
        show 0 ≤ y.l + s.l ∧ y.l + s.l ≤ _
        omega)
      have h6 : (rsegs qz toks).length = l.length := by rw [h2, List.length_map]
      rw [h6] at h4
      omega
    exact same_any toks _ u V h1 h2 hlen h3 (by rw [List.length_map]; omega))
  clear X6 X5 hs6 hs5 hs4 hb6 K5 HT6 hne hsm HSB
  go_upto_region 4 with fail
  go_region_held3 (fun w' => w'.cell? ⟨w4.heap.size, 0, none⟩ = some (.int .i64 s.l) ∧ w'.cell? ⟨w4.heap.size, 1, none⟩ = some (.int .i64 s.c) ∧ w'.cell? ⟨w4.heap.size, 2, none⟩ = some (.int .i64 s.s) ∧ w'.cell? ⟨w4.heap.size, 3, none⟩ = some (.int .i64 s.fl) ∧ w'.cell? ⟨w4.heap.size, 4, none⟩ = some (.int .i64 s.fc) ∧ w'.cell? ⟨w4.heap.size, 5, none⟩ = some (.int .i64 s.nm))
    (first
      | exact ⟨(HK.out.cell (p := ⟨w4.heap.size, 0, none⟩) hl).trans d0, (HK.out.cell (p := ⟨w4.heap.size, 1, none⟩) hl).trans d1, (HK.out.cell (p := ⟨w4.heap.size, 2, none⟩) hl).trans d2, (HK.out.cell (p := ⟨w4.heap.size, 3, none⟩) hl).trans d3, (HK.out.cell (p := ⟨w4.heap.size, 4, none⟩) hl).trans d4, (HK.out.cell (p := ⟨w4.heap.size, 5, none⟩) hl).trans d5⟩)
    (first
      | (go_at_call 20; refine (HJC.out _ (by first | exact HK.out | exact HK.out.drew)).mono ?_; rintro e w' ⟨toks, hj, rfl, hb⟩; have HJ := Lib.hid hj; (first | (have HM := Lib.hid ((HM.out.below hb).mono hb.size)) | skip); have HK : Hid (Below w6.heap.size w6 w') := Lib.hid (by first | exact bthen HK.out hb | exact bthen HK.out.drew hb); clear hj hb)
      | (go_at_call 27; refine (by_any _ _ _ _ _ _ _).mono ?_; rintro e w' ⟨rfl, hb⟩; have HK : Hid (Below w6.heap.size w6 w') := Lib.hid (by first | exact bthen HK.out hb | exact bthen HK.out.drew hb); clear hb)
      | (go_at_call 22; refine (HMC.out _ HK.out).mono ?_; rintro e w' ⟨u, rfl, hm, hb⟩; have HM := Lib.hid hm; have HK : Hid (Below w6.heap.size w6 w') := Lib.hid (bthen HK.out hb); clear hm hb)
      | (go_at_call 21; refine (HSC.out _ _ _ HJ.out HM.out).mono ?_; rintro e w' ⟨rfl, hb⟩; have HK : Hid (Below w6.heap.size w6 w') := Lib.hid (bthen HK.out hb); clear hb))
  all_goals go_wp2_with fail
  all_goals go_ret
  all_goals exact ⟨rfl, bthen B6.out HK.out⟩

theorem fnJoinMoved_wrow (os : Os) {H : Type} (enc : TypeId × Value → H) :
    (Rows.OpenSpec.upto Rows.fnJoinMovedSpec).preRow enc Tryd.prog Tryd.f8 Rows.fnJoinMovedUptoRow.domain false Rows.fnJoinMovedUptoRow.laid ((laidWorld os).forCall (fun _ _ => 0) ⟨#[], #[.slice none 0 0, .agg #[.int .i64 0, .int .i64 0, .int .i64 0, .int .i64 0, .int .i64 0, .int .i64 0]], []⟩).memory #[.slice none 0 0, .agg #[.int .i64 0, .int .i64 0, .int .i64 0, .int .i64 0, .int .i64 0, .int .i64 0]] := by
  have hw : ((DataW.whole enc Tryd.prog ((laidWorld os).forCall (fun _ _ => 0) ⟨#[], #[.slice none 0 0, .agg #[.int .i64 0, .int .i64 0, .int .i64 0, .int .i64 0, .int .i64 0, .int .i64 0]], []⟩).memory Tryd.f8.params.toList (Rows.OpenSpec.upto Rows.fnJoinMovedSpec).vars false (#[.slice none 0 0, .agg #[.int .i64 0, .int .i64 0, .int .i64 0, .int .i64 0, .int .i64 0, .int .i64 0]] : Array Value).toList 8).map (fun x => (x.1, x.2.1))) =
      some ([.nil, .agg [.lit (.int .i64 0), .lit (.int .i64 0), .lit (.int .i64 0), .lit (.int .i64 0), .lit (.int .i64 0), .lit (.int .i64 0)]], []) := by kernel_rfl
  obtain ⟨⟨x1, x2, x3⟩, hx, hx1⟩ := Option.map_eq_some_iff.1 hw
  simp only [Prod.mk.injEq] at hx1
  obtain ⟨rfl, rfl⟩ := hx1
  exact OpenSpec.preRow_of_cond 8 hx (by kernel_rfl) (fun k hk => by cases hk; kernel_rfl) (by kernel_rfl) (laid_met os _)

set_option maxRecDepth 100000 in
theorem fnJoinMoved_lifted (os : Os) (started : os.Started) (H : Type) (enc : TypeId × Value → H) (F : Stop.Interp) :
    ReturnsInHanded {} Tryd.checked os 8 .any ((Rows.OpenSpec.upto Rows.fnJoinMovedSpec).preRow enc Tryd.prog Tryd.f8 Rows.fnJoinMovedUptoRow.domain false Rows.fnJoinMovedUptoRow.laid) (((Rows.OpenSpec.upto Rows.fnJoinMovedSpec).at F).post enc Tryd.prog Tryd.f8 false true false false) := by
  refine returnsInHanded_of_row (C := Tryd.checked) (s := Rows.OpenSpec.upto Rows.fnJoinMovedSpec) own started (by kernel_rfl) Tryd.func8
    (witness_row_atRef (enc := enc) (C := Tryd.checked) false (laidWorld os) #[.slice none 0 0, .agg #[.int .i64 0, .int .i64 0, .int .i64 0, .int .i64 0, .int .i64 0, .int .i64 0]] rfl (by kernel_rfl) (by kernel_rfl) (by kernel_rfl) (fnJoinMoved_wrow os enc)) ?_
  intro W base args ds gs before hval0 hW _ hcond hsz0 hL _ _
  have hT : B64 W.heap.size W := b64_of_laid hL
  have hval : ∀ (j : Nat) t v, Tryd.f8.params[j]? = some t → args[j]? = some v → Value.okWide Tryd.prog W .any base t v := hval0
  have hW' := hW
  obtain ⟨p, q, hA0, hV, rfl, hfz, hnd⟩ := hW
  have hA : DataW.TrodAll enc Tryd.prog W 0 (fun _ => true) true Tryd.f8.params.toList args.toList ds p := hA0
  rw [Tryd.params8] at hA hval
  obtain ⟨v0, vs0, d0, ds0, p0, q0, hargs, rfl, rfl, h0, r0⟩ := trodAll_cons hA
  obtain ⟨v1, vs1, d1, ds1, p1, q1, rfl, rfl, rfl, h1, r1⟩ := trodAll_cons r0
  obtain ⟨rfl, rfl, rfl⟩ := trodAll_nil r1
  obtain rfl : args = #[v0, v1] := by cases args; simp_all
  obtain ⟨a0, n0, c0, z0, rfl, k0, b0, e0⟩ := open_rows5 Tryd.underlying54 Tryd.underlying57 Tryd.underlying3 (by kernel_rfl) (by kernel_rfl) (hval 0 54 v0 rfl rfl) h0
  obtain ⟨l10, l11, l12, l13, l14, l15, rfl⟩ := open_arr6 Tryd.underlying55 Tryd.underlying3 (by kernel_rfl) (by kernel_rfl) (hval 1 55 v1 rfl rfl) h1
  have hbk : Rows.uptoBulkAll _ ≤ 1048576 := of_decide_eq_true (hcond _ rfl)
  simp [Rows.uptoBulkAll] at hbk
  refine (fnJoinMoved_walk W a0 n0 c0 z0 l10 l11 l12 l13 l14 l15 k0 e0 (by omega) hT).mono fun e W' ⟨he, hb⟩ => ⟨_, he, ?_⟩
  exact law_post (s := Rows.fnJoinMovedSpec) (f := Tryd.f8) (tb := 4) (by kernel_rfl) (by kernel_rfl) (by kernel_rfl) Tryd.underlying4 rfl (fun ds h => by rw [Tryd.params8] at h; match ds, h with | [_, _], _ => rfl) hW' hb

theorem fnJoinMoved_said : Rows.FnJoinMovedUptoSaid :=
  OpenClaim.holds_of_cond 8 Tryd.f8 rfl rfl rfl rfl rfl rfl rfl ⟨rfl, rfl, rfl, rfl, rfl⟩ rfl rfl rfl rfl rfl (by kernel_rfl) Tryd.func8 (by kernel_rfl)
    (of_decide_eq_true (by kernel_rfl)) (by unfold Func.isWrapper; first | (rw [if_pos (by decide +kernel)]; kernel_rfl) | (rw [if_neg (by decide +kernel)]; exact ⟨rfl, rfl⟩))
    (fun os started H enc _ F => by rw [OpenClaim.pre_eq_preRow]; exact fnJoinMoved_lifted os started H enc F)

theorem fnJoinMoved_plain (f : FuncId) (fn : Func) (hf : Tryd.pinned.checked.prog.funcNamed "mapthread/laws.FnJoinMoved" = some f) (hfn : Tryd.pinned.checked.prog.funcs[f]? = some fn) :
    false = Tryd.pinned.checked.prog.looks [] ∧ ∀ (j : Nat) t, fn.params[j]? = some t → Tryd.pinned.checked.prog.wantsStandIn t = false := by
  obtain rfl : f = 8 := Option.some.inj ((show Tryd.prog.funcNamed "mapthread/laws.FnJoinMoved" = some 8 by kernel_rfl).symm.trans hf) |>.symm
  obtain rfl : fn = Tryd.f8 := (Option.some.inj (Tryd.func8.symm.trans hfn)).symm
  refine ⟨by kernel_rfl, fun j t ht => ?_⟩
  rw [Tryd.params8] at ht
  have hm := Array.mem_of_getElem? ht
  simp at hm
  rcases hm with rfl | rfl
  · exact (show Tryd.prog.wantsStandIn 54 = false by kernel_rfl)
  · exact (show Tryd.prog.wantsStandIn 55 = false by kernel_rfl)

theorem fnJoinMovedUpto_card : Rows.FnJoinMovedUptoCardSaid :=
  Claim7.holds_tied_plain_at .later [] _ _ _ _ fnJoinMoved_said (fun _ h => by cases h) (by kernel_rfl) (fun _ h => by cases h) fnJoinMovedUpto_row_tie rfl ⟨rfl, rfl⟩ (by kernel_rfl) rfl fnJoinMoved_plain (by kernel_rfl)
#print axioms fnJoinMovedUpto_card
end Go.Proofs.YtnokiikgnplpmaaDoor

/-
  laws.FnFind returns true for every input of bulk at most 1048576: the last mapping of the line that is not behind the column is found, or none. Conditions: none besides.
-/
import Derived.Test.YtmncaibhdpcblaaFindLaw
import Derived.Test.YtmncaibhdpcblaaLawKit
import Derived.JoinedCond
namespace Go.Proofs.Ytmncaibhdpcblaa
open Go.RowKit Go.ChangeShapes Go.WideShapes Go.ChangeAt

/-- The row of the mapping that is found besides. -/
def rowO : Nat → Nat → Int := fun _ j => if j = 1 then 2 else 0
theorem place_k (n k : Int) (r : Nat) (w : World) (h1 : 1 ≤ k) (h2 : k ≤ 4611686018427387904) (hr : n % k = r) :
    Calls Try.prog 8 #[.int .i64 n, .int .i64 k] w fun e w' => e = .returned (.int .i64 (r : Int)) ∧ w' = w := by
  have h := place_same n k w h1 h2
  rw [hr] at h
  exact h
theorem specFind_lit (v : Value) (n m : Nat) (S : Nat → Seg) (line col : Int) (w : World) (hn : n ≤ 2097153) (hv : AtS w v n S) (hr : Rise S n) (hm : Split S n line col m) (x : Seg) (hx : outOf S line m = x) (b : Bool) (hb : foundB S line m = b) :
    Calls Try.prog 11 #[v, .agg #[.int .i64 line, .int .i64 col]] w fun e w' => e = .returned (.tuple #[.agg #[.int .i64 x.l, .int .i64 x.c, .int .i64 x.s, .int .i64 x.fl, .int .i64 x.fc, .int .i64 x.nm, .bool x.nd], .bool b]) ∧ Below w.heap.size w w' := by
  have h := specFind_any v n m S line col w hn hv hr hm
  rw [hx, hb] at h
  exact h

set_option maxHeartbeats 4000000 in
set_option maxRecDepth 100000 in
theorem fnFind_walk (A : Option Addr) (n cap : Nat) (Z : Nat → Nat → Int) (li co : Int) (w : World) (_hA : A = none → n = 0 ∧ cap = 0) (h5 : At5 w A n Z) (hn : n ≤ 1048576) (_w1 : (Lit.int .i64 li).wf = true) (_w2 : (Lit.int .i64 co).wf = true) :
    Calls Try.prog 3 #[.slice A n cap, .int .i64 li, .int .i64 co] w fun e w' => e = .returned (.bool true) ∧ Below w.heap.size w w' := by
  have H5 := Lib.hid h5
  clear h5
  obtain ⟨L0, hL0⟩ : ∃ L : Nat, li % (3 * (n : Int) + 2) = L := ⟨(li % (3 * (n : Int) + 2)).toNat, by have := Int.emod_nonneg li (b := 3 * (n : Int) + 2) (by omega); omega⟩
  obtain ⟨C0, hC0⟩ : ∃ C : Nat, co % 1048576 = C := ⟨(co % 1048576).toNat, by omega⟩
  have hL1 : (L0 : Int) < 3 * (n : Int) + 2 := by have := Int.emod_lt_of_pos li (b := 3 * (n : Int) + 2) (by omega); omega
  have hC1 : (C0 : Int) < 1048576 := by omega
  have HL0 := Lib.hid hL0
  have HC0 := Lib.hid hC0
  clear hL0 hC0
  go_enter Try.func3, Try.ntmps3
  go_wp2_with fail
  refine (ris_any A n cap Z w (by omega) H5.out).mono ?_
  rintro e w3 ⟨v3, rfl, ho3, hb3⟩
  have hs3 : AtS w3 v3 n (segOf Z) := AtS.of_own ho3 (risL_len _ _) (fun i hi => risL_at _ _ i hi)
  have B3 := Lib.hid hb3
  have HR := Lib.hid (rise_ris Z n)
  have HSM : Hid (∀ i, i < n → (segOf Z i).small) := Lib.hid (fun i hi => seg_small _ i (by omega))
  have HLN : Hid (∀ k : Nat, 0 ≤ (segOf Z k).l ∧ (segOf Z k).l ≤ 2 * (1 + (k : Int))) := Lib.hid (fun k => by have := at_bd Z (k + 1); simp only [segOf]; omega)
  have HCN : Hid (∀ k : Nat, 0 ≤ (segOf Z k).c ∧ (segOf Z k).c ≤ 999 * (1 + (k : Int))) := Lib.hid (fun k => by have := at_bd Z (k + 1); simp only [segOf]; omega)
  generalize segOf Z = S at *
  have HS3 := Lib.hid hs3
  obtain ⟨A3, cap3, rfl, hc3⟩ := hs3
  have HC3 := Lib.hid hc3
  clear ho3 hb3 hc3
  go_wp2_with fail
  refine (place_k li (3 * (n : Int) + 2) L0 w3 (by omega) (by omega) HL0.out).mono ?_
  rintro e w' ⟨rfl, rfl⟩
  go_wp2_with fail
  refine (small_any co w').mono ?_
  rintro e w4 ⟨rfl, rfl⟩
  rw [HC0.out]
  go_upto_region 3 with fail
  have K4 := Lib.hid (balloc (Below.refl w'.heap.size w') (.cells #[.int .i64 (L0 : Int), .int .i64 (C0 : Int)] 28))
  have P4 := Lib.hid (Blk.new w' 28 #[.int .i64 (L0 : Int), .int .i64 (C0 : Int)])
  generalize w'.alloc (.cells #[.int .i64 (L0 : Int), .int .i64 (C0 : Int)] 28) = W4 at *
  have z4 : w'.heap.size < W4.heap.size := P4.out.lt
  go_cut [30] (fun s30 wx => s30 = .bool (decide (0 < n ∧ co.tmod 3 = 0)) ∧ W4 = wx)
  case first =>
    by_cases hn0 : 0 < n
    · by_cases hc3 : co.tmod 3 = 0
      · go_wp2_with fail
        all_goals go_meet
        all_goals exact ⟨by simp [hn0, hc3], rfl⟩
      · have hc3' : (co.tmod 3 == 0) = false := by simpa using hc3
        go_wp2_with fail
        all_goals go_meet
        all_goals exact ⟨by simp [hc3], rfl⟩
    · obtain rfl : n = 0 := by omega
      go_wp2_with fail
      all_goals go_meet
      all_goals exact ⟨by simp, rfl⟩
  case rest =>
  obtain ⟨rfl, rfl⟩ := hcut
  generalize hbq : decide (0 < n ∧ co.tmod 3 = 0) = bq at *
  have HBQ := Lib.hid hbq
  clear hbq
  go_upto_if 30 with fail
  go_cut [] (fun wx => ∃ L C : Int, (0 ≤ L ∧ L ≤ 2147483647) ∧ (0 ≤ C ∧ C ≤ 2147483647) ∧ Blk wx w'.heap.size 28 #[.int .i64 L, .int .i64 C] ∧ Below w'.heap.size w' wx)
  case first =>
    rcases bq with _ | _
    · go_wp2_with fail
      go_meet
      exact ⟨L0, C0, by omega, by omega, P4.out, K4.out⟩
    · have hn0 : 0 < n := (of_decide_eq_true HBQ.out).1
      obtain ⟨R, o, rfl, hcl⟩ := HC3.out hn0
      obtain ⟨k, hk⟩ : ∃ k : Nat, li % (n : Int) = k := ⟨(li % (n : Int)).toNat, by have := Int.emod_nonneg li (b := (n : Int)) (by omega); omega⟩
      obtain ⟨r, hr⟩ : ∃ r : Nat, co % 7 = r := ⟨(co % 7).toNat, by omega⟩
      have hkn : k < n := by have := Int.emod_lt_of_pos li (b := (n : Int)) (by omega); omega
      have hr7 : r < 7 := by omega
      have HK := Lib.hid hk
      have HRR := Lib.hid hr
      have hR : R < w'.heap.size := cell_lt' (p := ⟨R, o + k * 7 + 0, none⟩) (v := .int .i64 (S k).l) (hcl k 0 hkn (by omega))
      have c0 : W4.cell? ⟨R, o + k * 7, none⟩ = some (.int .i64 (S k).l) := (K4.out.cell (p := ⟨R, _, none⟩) hR).trans (hcl k 0 hkn (by omega))
      have c1 : W4.cell? ⟨R, o + k * 7 + 1, none⟩ = some (.int .i64 (S k).c) := (K4.out.cell (p := ⟨R, _, none⟩) hR).trans (hcl k 1 hkn (by omega))
      have hLk := HLN.out k
      have hCk := HCN.out k
      generalize (S k).l = x0 at *
      generalize (S k).c = x1 at *
      have k1 : (0 : Int) ≤ (k : Int) := by omega
      have k2 : (k : Int) < (n : Int) := by omega
      clear hk hr hcl
      go_wp2_with fail
      refine wp_region_still_tail 12 (by kernel_rfl) (by kernel_rfl) ?_
      simp only [List.take_succ_cons, List.take_zero, List.drop_succ_cons, List.drop_zero]
      repeat still_step
      still_call (place_k li (n : Int) k _ (by omega) (by omega) HK.out)
      repeat still_step
      still_call (place_k co 7 r _ (by omega) (by omega) HRR.out)
      repeat still_step
      refine wpStill_nil ?_
      change wpList _ _ _ _ _ W4.drew
      go_wp2_with fail
      refine (plus_col x0 x1 ((r : Int) / 3) _ (by omega) (by omega) (by omega) (by omega) (by omega) (by omega)).mono ?_
      rintro e w5 ⟨rfl, hb5⟩
      have P5 := P4.out.drew.below hb5
      have q0 : w5.cell? ⟨w'.heap.size, 0, none⟩ = some (.int .i64 (L0 : Int)) := P5.cell 0
      have q1 : w5.cell? ⟨w'.heap.size, 1, none⟩ = some (.int .i64 (C0 : Int)) := P5.cell 1
      have qf0 := P5.frozen 0
      have qf1 := P5.frozen 1
      have z5 : w'.heap.size < w5.heap.size := P5.lt
      have HP5 := Lib.hid P5
      have B5 := Lib.hid (bthen K4.out.drew hb5)
      clear hb5 P5
      go_wp2_with fail
      go_meet
      exact ⟨x0, x1 + (r : Int) / 3, by omega, by omega, (HP5.out.set_ 0 _).set_ 1 _, (B5.out.setCell (Nat.le_refl _) _).setCell (Nat.le_refl _) _⟩
  case rest =>
  obtain ⟨L, C, hLb, hCb, hPL, hBL⟩ := hcut
  obtain ⟨m, hm⟩ := split_ex n HR.out L C
  have HM := Lib.hid hm
  have PL := Lib.hid hPL
  have BL := Lib.hid hBL
  have p0 : wc.cell? ⟨w'.heap.size, 0, none⟩ = some (.int .i64 L) := hPL.cell 0
  have p1 : wc.cell? ⟨w'.heap.size, 1, none⟩ = some (.int .i64 C) := hPL.cell 1
  have hSc := Lib.hid (HS3.out.below hBL)
  have hzc : w'.heap.size < wc.heap.size := hPL.lt
  clear hm hPL hBL P4 K4 HBQ
  obtain ⟨x, hx⟩ : ∃ x, outOf S L m = x := ⟨_, rfl⟩
  obtain ⟨b, hb⟩ : ∃ b, foundB S L m = b := ⟨_, rfl⟩
  have HX := Lib.hid hx
  have HBb := Lib.hid hb
  clear hx hb
  go_wp2_with fail
  refine (specFind_lit _ n m S L C _ (by omega) hSc.out HR.out HM.out x HX.out b HBb.out).mono ?_
  rintro e w5 ⟨rfl, hb5⟩
  have P5 := Lib.hid (PL.out.below hb5)
  have S5 := Lib.hid (hSc.out.below hb5)
  have B5 := Lib.hid (bthen BL.out hb5)
  clear hb5 p0 p1
  have z5 : w'.heap.size < w5.heap.size := P5.out.lt
  go_wp2_with fail
  refine (ris_any (some ⟨w5.heap.size + 1, 0, none⟩) 1 1 rowO _ (by omega) (fun _ => ⟨w5.heap.size + 1, 0, rfl, fun i j hi hj => ?_⟩)).mono ?_
  · obtain rfl : i = 0 := by omega
    rw [Nat.zero_mul, Nat.zero_add, cell_of_row _ _ _ _ _ _ (heap_new2 _ _ _)]
    match j, hj with
    | 0, _ => rfl
    | 1, _ => rfl
    | 2, _ => rfl
    | 3, _ => rfl
    | 4, _ => rfl
  rintro e w6 ⟨v6, rfl, ho6, hb6⟩
  have hs6 : AtS w6 v6 1 (segOf rowO) := AtS.of_own ho6 (risL_len _ _) (fun i hi => risL_at _ _ i hi)
  have B56 := Lib.hid (bthen (balloc (balloc (Below.refl w5.heap.size w5) _) _) hb6)
  have W6b := Lib.hid (((Blk.new w5 30 #[.int .i64 x.l, .int .i64 x.c, .int .i64 x.s, .int .i64 x.fl, .int .i64 x.fc, .int .i64 x.nm, .bool x.nd]).alloc _).below hb6)
  have S6 := Lib.hid (S5.out.below B56.out)
  have P6 := Lib.hid (P5.out.below B56.out)
  have B6 := Lib.hid (bthen B5.out B56.out)
  have HS6 := Lib.hid hs6
  obtain ⟨A6, cap6, rfl, hc6⟩ := hs6
  have HC6 := Lib.hid hc6
  clear ho6 hb6 hc6
  have p0 : w6.cell? ⟨w'.heap.size, 0, none⟩ = some (.int .i64 L) := P6.out.cell 0
  have p1 : w6.cell? ⟨w'.heap.size, 1, none⟩ = some (.int .i64 C) := P6.out.cell 1
  have x0 : w6.cell? ⟨w5.heap.size, 0, none⟩ = some (.int .i64 x.l) := W6b.out.cell 0
  have x1 : w6.cell? ⟨w5.heap.size, 1, none⟩ = some (.int .i64 x.c) := W6b.out.cell 1
  have x2 : w6.cell? ⟨w5.heap.size, 2, none⟩ = some (.int .i64 x.s) := W6b.out.cell 2
  have x3 : w6.cell? ⟨w5.heap.size, 3, none⟩ = some (.int .i64 x.fl) := W6b.out.cell 3
  have x4 : w6.cell? ⟨w5.heap.size, 4, none⟩ = some (.int .i64 x.fc) := W6b.out.cell 4
  have x5 : w6.cell? ⟨w5.heap.size, 5, none⟩ = some (.int .i64 x.nm) := W6b.out.cell 5
  have x6 : w6.cell? ⟨w5.heap.size, 6, none⟩ = some (.bool x.nd) := W6b.out.cell 6
  have hcall : Hid (Calls Try.prog 12 #[.slice A3 n cap3, .agg #[.int .i64 L, .int .i64 C], .agg #[.int .i64 x.l, .int .i64 x.c, .int .i64 x.s, .int .i64 x.fl, .int .i64 x.fc, .int .i64 x.nm, .bool x.nd], .bool b] w6 fun e w' => e = .returned (.bool true) ∧ Below w6.heap.size w6 w') := Lib.hid (by
    cases b with
    | true => exact finds_yes _ n m S L C x w6 (by omega) S6.out HSM.out hLb hCb HM.out HBb.out (by rw [← HX.out]; unfold outOf; rw [if_pos HBb.out])
    | false => exact finds_no _ n m S L C x w6 (by omega) S6.out HSM.out hLb hCb HM.out HBb.out)
  go_wp2_with fail
  refine hcall.out.mono ?_
  rintro e w7 ⟨rfl, hb7⟩
  clear p0 p1 x0 x1 x2 x3 x4 x5 x6
  obtain ⟨R6, o6, rfl, hcl6⟩ := HC6.out (by omega)
  have hR6 : R6 < w6.heap.size := cell_lt' (p := ⟨R6, o6 + 0 * 7 + 0, none⟩) (v := .int .i64 (segOf rowO 0).l) (hcl6 0 0 (by omega) (by omega))
  have hd : ∀ j, j < 7 → w7.cell? ⟨R6, o6 + j, none⟩ = (segOf rowO 0).cells[j]? := fun j hj => by
    have := (hb7.cell (p := ⟨R6, o6 + 0 * 7 + j, none⟩) hR6).trans (hcl6 0 j (by omega) hj)
    rw [Nat.zero_mul, Nat.add_zero] at this
    exact this
  have e0 : (segOf rowO 0).cells = [.int .i64 0, .int .i64 2, .int .i64 0, .int .i64 0, .int .i64 0, .int .i64 0, .bool false] := by rfl
  rw [e0] at hd
  have d0 := hd 0 (by omega)
  have d1 := hd 1 (by omega)
  have d2 := hd 2 (by omega)
  have d3 := hd 3 (by omega)
  have d4 := hd 4 (by omega)
  have d5 := hd 5 (by omega)
  have d6 := hd 6 (by omega)
  simp only [Nat.add_zero, List.getElem?_cons_zero, List.getElem?_cons_succ] at d0 d1 d2 d3 d4 d5 d6
  have B7 := Lib.hid (bthen B6.out hb7)
  have H7 := Lib.hid hb7
  clear hb7 hd e0 hcl6
  go_wp2_with fail
  refine (finds_yes _ 1 1 (segOf rowO) 0 2 (segOf rowO 0) _ (by omega) (HS6.out.below H7.out) (fun i hi => seg_small _ i (by omega)) (by omega) (by omega) (split_own (S := segOf rowO) (n := 1) (k := 0) (rise_ris _ _) (by omega)) rfl rfl).mono ?_
  rintro e w8 ⟨rfl, hb8⟩
  have B8 := Lib.hid (bthen B7.out hb8)
  clear hb8
  go_wp2_with fail
  go_ret
  exact ⟨by simp, bthen B3.out B8.out⟩

theorem fnFind_own : ownKnob Try.prog.godebug = none := by kernel_rfl

set_option maxRecDepth 100000 in
theorem fnFind_lifted (os : Os) (started : os.Started) (H : Type) (enc : TypeId × Value → H) (F : Stop.Interp) :
    ReturnsInHanded {} Try.checked os 3 .any ((Rows.OpenSpec.upto Rows.fnFindSpec).pre6 enc Try.prog Try.f3 Rows.fnFindUptoRow.domain false) (((Rows.OpenSpec.upto Rows.fnFindSpec).at F).post enc Try.prog Try.f3 false true false false) := by
  refine returnsInHanded_of_cond (C := Try.checked) (s := Rows.OpenSpec.upto Rows.fnFindSpec) (k := Rows.uptoSmall) rfl fnFind_own started (by kernel_rfl) Try.func3
    (OpenSpec.witness (enc := enc) (C := Try.checked) (s := Rows.OpenSpec.upto Rows.fnFindSpec) (k := Rows.uptoSmall) rfl false ⟨#[], #[.slice none 0 0, .int .i64 0, .int .i64 0], []⟩ 8 (by kernel_rfl) (by kernel_rfl) (by kernel_rfl)
      (x := ([.nil, .lit (.int .i64 0), .lit (.int .i64 0)], [], [])) (by kernel_rfl) rfl (by kernel_rfl)) ?_
  intro W base args ds gs before hval0 hW _ hk _
  have hval : ∀ (j : Nat) t v, Try.f3.params[j]? = some t → args[j]? = some v → Value.okWide Try.prog W .any base t v := hval0
  have hW' := hW
  obtain ⟨p, q, hA0, hV, rfl, hfz, hnd⟩ := hW
  have hA : DataW.TrodAll enc Try.prog W 0 (fun _ => true) true Try.f3.params.toList args.toList ds p := hA0
  rw [Try.params3] at hA hval
  obtain ⟨v0, vs0, d0, ds0, p0, q0, hargs, rfl, rfl, h0, r0⟩ := trodAll_cons hA
  obtain ⟨v1, vs1, d1, ds1, p1, q1, rfl, rfl, rfl, h1, r1⟩ := trodAll_cons r0
  obtain ⟨v2, vs2, d2, ds2, p2, q2, rfl, rfl, rfl, h2, r2⟩ := trodAll_cons r1
  obtain ⟨rfl, rfl, rfl⟩ := trodAll_nil r2
  obtain rfl : args = #[v0, v1, v2] := by cases args; simp_all
  obtain ⟨a0, n0, c0, z0, rfl, k0, b0, e0⟩ := open_rows5 Try.underlying22 Try.underlying34 Try.underlying3 (by kernel_rfl) (by kernel_rfl) (hval 0 22 v0 rfl rfl) h0
  obtain ⟨a1, rfl, rfl, rfl, w1⟩ := open_int Try.underlying3 (hval 1 3 v1 rfl rfl) h1
  obtain ⟨a2, rfl, rfl, rfl, w2⟩ := open_int Try.underlying3 (hval 2 3 v2 rfl rfl) h2
  have hbk : Rows.uptoBulkAll _ ≤ 1048576 := of_decide_eq_true hk
  simp only [List.cons_append, Rows.uptoBulkAll] at hbk
  refine (fnFind_walk a0 n0 c0 z0 a1 a2 W e0 k0 (by omega) w1 w2).mono fun e W' ⟨he, hb⟩ => ⟨_, he, ?_⟩
  exact law_post (s := Rows.fnFindSpec) (f := Try.f3) (tb := 4) (by kernel_rfl) (by kernel_rfl) (by kernel_rfl) Try.underlying4 rfl (fun ds h => by rw [Try.params3] at h; match ds, h with | [_, _, _], _ => rfl) hW' hb

theorem fnFind_upto : Rows.FnFindUptoSaid :=
  OpenClaim.holds_of_cond 3 Try.f3 rfl rfl rfl rfl rfl rfl rfl ⟨rfl, rfl, rfl, rfl, rfl⟩ rfl rfl rfl rfl rfl (by kernel_rfl) Try.func3 (by kernel_rfl)
    (of_decide_eq_true (by kernel_rfl)) (by unfold Func.isWrapper; first | (rw [if_pos (by decide +kernel)]; kernel_rfl) | (rw [if_neg (by decide +kernel)]; exact ⟨rfl, rfl⟩))
    (fun os started H enc _ F => fnFind_lifted os started H enc F)
#print axioms fnFind_upto
end Go.Proofs.Ytmncaibhdpcblaa

/-
  laws.FnSumAdvance returns true for every input: the places behind each of two texts add up to the place behind both. Conditions: the two tables of unicode/utf8 lie in their variables.
-/
import Derived.Test.YtgnhfbhmmdnoeaaDoorAdvT
import Derived.Test.YtgnhfbhmmdnoeaaDoorSum8Fn
import Derived.Test.YtgnhfbhmmdnoeaaDoorLaid8
import Derived.ChangeMaps
namespace Go.Proofs.YtgnhfbhmmdnoeaaDoor
open Go.RowKit Go.ChangeShapes Go.WideShapes Go.ChangeAt

set_option maxHeartbeats 2000000 in
theorem fnSumAdvance_walk (a b : ByteArray) (ha : a.size ≤ 140737488351232) (hb : b.size ≤ 140737488351232) (w : World) (hT : Tabs8 w) :
    Calls Tryd.prog 8 #[.string a, .string b] w fun e w' => e = .returned (.bool true) ∧ Below w.heap.size w w' := by
  have ks : ∀ (W : World) (x y : ByteArray), x.size + y.size ≤ 9223372036854775807 → (Op.stringOp .add x y).run Tryd.prog W = .ok (.string (x ++ y)) W := fun W x y h => run_string_add_sum W x y h
  have HT := Lib.hid hT
  clear hT
  go_enter Tryd.func8, Tryd.ntmps8
  go_wp2_with fail
  refine (validT_any a w ha).mono ?_
  rintro e w1 ⟨⟨rs, hv, hz, rfl⟩, hb1⟩
  have B1 := Lib.hid hb1
  have HV := Lib.hid hv
  clear hb1 hv
  go_wp2_with fail
  refine (validT_any b w1 hb).mono ?_
  rintro e w2 ⟨⟨ss, hv, hy, rfl⟩, hb2⟩
  have B2 := Lib.hid (bthen B1.out hb2)
  have HW := Lib.hid hv
  clear hb2 hv
  go_wp2_with fail
  refine (apart_any _ _ w2 (by omega) (by omega)).mono ?_
  rintro e w3 ⟨rfl, rfl⟩
  have hxy : (⟨#[120]⟩ : ByteArray).size + (txt ss).size ≤ 9223372036854775807 := by have : (⟨#[120]⟩ : ByteArray).size = 1 := rfl; omega
  have hcat : (⟨#[120]⟩ : ByteArray) ++ txt ss = txt ([120] ++ ss) := by rw [← txt_x, txt_app]
  have hszx : (txt ([120] ++ ss)).size = (txt ss).size + 1 := by rw [← hcat, ByteArray.size_append, Nat.add_comm]; rfl
  have HSZX := Lib.hid hszx
  clear hszx
  go_upto_if 17 with fail
  go_cut [1] (fun s1 wx => ∃ ts, s1 = .string (txt ts) ∧ Hid (okR ts) ∧ (txt ts).size ≤ 140737488351233 ∧ Hid (lastR 0 rs = 13 → ts.head? ≠ some 10) ∧ w2 = wx)
  case first =>
    rcases hap : apartB (txt rs) (txt ss) with _ | _
    · have HAP := Lib.hid hap
      go_wp2_with fail
      go_meet
      exact ⟨[120] ++ ss, rfl, Lib.hid (okR.x.app HW.out), by rw [HSZX.out]; omega, Lib.hid (by simp), rfl⟩
    · have HAP := Lib.hid hap
      go_wp2_with fail
      go_meet
      exact ⟨ss, rfl, HW, by omega, Lib.hid (apart_runes rs ss HAP.out), rfl⟩
  case rest =>
    obtain ⟨ts, rfl, HTS, hts, HC, rfl⟩ := hcut
    clear hxy hcat HSZX HW
    have T2 := Lib.hid (HT.out.below B2.out)
    have hcx : txt ts ++ (⟨#[120]⟩ : ByteArray) = txt (ts ++ [120]) := by rw [← txt_x, txt_app]
    have hzx : (txt (ts ++ [120])).size = (txt ts).size + 1 := by rw [← hcx, ByteArray.size_append]; rfl
    have hsx : (txt ts).size + (⟨#[120]⟩ : ByteArray).size ≤ 9223372036854775807 := by have : (⟨#[120]⟩ : ByteArray).size = 1 := rfl; omega
    have HTX := Lib.hid (HTS.out.app okR.x)
    have HCX : Hid (lastR 0 rs = 13 → (ts ++ [120]).head? ≠ some 10) := Lib.hid (fun q => by have := HC.out q; cases ts with | nil => simp | cons y ys => simpa using this)
    go_upto_region 5 with fail
    clear hcx hsx
    generalize ts ++ [120] = us at *
    have hus : (txt us).size ≤ 140737488351234 := by omega
    clear hzx HTS HC hts
    have l1 := HV.out.len
    have l2 := HTX.out.len
    have A1 := Lib.hid (advI_append rs us (0, 0) HCX.out)
    have d1 := advI_le rs (0, 0)
    have d2 := advI_le us (0, 0)
    have hcat : txt rs ++ txt us = txt (rs ++ us) := txt_app rs us
    have hsz : (txt (rs ++ us)).size = (txt rs).size + (txt us).size := by rw [← hcat, ByteArray.size_append]
    have HSZ := Lib.hid hsz
    have hsum : (txt rs).size + (txt us).size ≤ 9223372036854775807 := by omega
    have hS := advI_sum us (advI rs (0, 0)).1 (advI rs (0, 0)).2 0 0
    simp only [if_true, Nat.add_zero] at hS
    have HS := Lib.hid hS
    simp only at d1 d2
    clear hsz hS
    go_wp2_with fail
    refine (implT_any rs 0 0 false w2 HV.out (by omega) (by omega) (by omega) T2.out).mono ?_
    rintro e w3 ⟨rfl, hb3⟩
    generalize hP : advI rs (0, 0) = P at *
    have B3 := Lib.hid (bthen B2.out hb3)
    have T3 := Lib.hid (HT.out.below B3.out)
    clear hb3 hP
    go_wp2_with fail
    refine (implT_any us 0 0 false w3 HTX.out (by omega) (by omega) (by omega) T3.out).mono ?_
    rintro e w4 ⟨rfl, hb4⟩
    generalize hQ : advI us (0, 0) = Q at *
    have B4 := Lib.hid (bthen B3.out hb4)
    clear hb4 hQ
    go_wp2_with fail
    refine (sum_any (P.1 : Int) (P.2 : Int) (Q.1 : Int) (Q.2 : Int) w4 (by omega) (by omega) (by omega) (by omega) (by omega) (by omega) (by omega) (by omega)).mono ?_
    rintro e w5 ⟨rfl, hb5⟩
    have B5 := Lib.hid (bthen B4.out hb5)
    clear hb5
    go_wp2_with fail
    refine (specT_any (rs ++ us) 0 0 w5 (HV.out.app HTX.out) (by rw [HSZ.out]; omega) (by omega) (by omega)).mono ?_
    rintro e w6 ⟨rfl, hb6⟩
    have e1 : (advI (rs ++ us) (0, 0)).1 = P.1 + Q.1 := by
      rw [A1.out, show P = (P.1, P.2) from rfl, HS.out]
      split <;> simp_all
    have e2 : ((advI (rs ++ us) (0, 0)).2 : Int) = sumC (P.2 : Int) (Q.1 : Int) (Q.2 : Int) := by
      rw [A1.out, show P = (P.1, P.2) from rfl, HS.out]
      unfold sumC
      by_cases hq : Q.1 = 0
      · rw [if_pos hq, if_pos (by omega)]; simp
      · rw [if_neg hq, if_neg (by omega)]
    rw [e1, e2]
    generalize sumC (P.2 : Int) (Q.1 : Int) (Q.2 : Int) = z at *
    have B6 := Lib.hid (bthen B5.out hb6)
    clear hb6 e1 e2 hcat
    go_wp2_with fail
    go_ret
    exact ⟨by simp, balloc B6.out _⟩

theorem fnSumAdvance_wrow (os : Os) {H : Type} (enc : TypeId × Value → H) :
    (OpenSpec.ofChange Rows.fnSumAdvanceSpec).preRow enc Tryd.prog Tryd.f8 Rows.fnSumAdvanceRow.domain false Rows.fnSumAdvanceRow.laid ((laidWorld os).forCall (fun _ _ => 0) ⟨#[], #[.string ⟨#[]⟩, .string ⟨#[]⟩], []⟩).memory #[.string ⟨#[]⟩, .string ⟨#[]⟩] := by
  have hw : ((DataW.whole enc Tryd.prog ((laidWorld os).forCall (fun _ _ => 0) ⟨#[], #[.string ⟨#[]⟩, .string ⟨#[]⟩], []⟩).memory Tryd.f8.params.toList (OpenSpec.ofChange Rows.fnSumAdvanceSpec).vars false (#[.string ⟨#[]⟩, .string ⟨#[]⟩] : Array Value).toList 8).map (fun x => (x.1, x.2.1))) =
      some ([.lit (.string []), .lit (.string [])], []) := by kernel_rfl
  obtain ⟨⟨x1, x2, x3⟩, hx, hx1⟩ := Option.map_eq_some_iff.1 hw
  simp only [Prod.mk.injEq] at hx1
  obtain ⟨rfl, rfl⟩ := hx1
  exact OpenSpec.preRow_of_cond 8 hx (by kernel_rfl) (fun k hk => by cases hk) (by kernel_rfl) (laid_met os _)

set_option maxRecDepth 100000 in
theorem fnSumAdvance_lifted (os : Os) (started : os.Started) (H : Type) (enc : TypeId × Value → H) (F : Stop.Interp) :
    ReturnsInHanded {} Tryd.checked os 8 .any ((OpenSpec.ofChange Rows.fnSumAdvanceSpec).preRow enc Tryd.prog Tryd.f8 Rows.fnSumAdvanceRow.domain false Rows.fnSumAdvanceRow.laid) (((OpenSpec.ofChange Rows.fnSumAdvanceSpec).at F).post enc Tryd.prog Tryd.f8 false true false false) := by
  refine returnsInHanded_of_row (C := Tryd.checked) (s := OpenSpec.ofChange Rows.fnSumAdvanceSpec) own started (by kernel_rfl) Tryd.func8
    (witness_row_atRef (enc := enc) (C := Tryd.checked) false (laidWorld os) #[.string ⟨#[]⟩, .string ⟨#[]⟩] rfl (by kernel_rfl) (by kernel_rfl) (by kernel_rfl) (fnSumAdvance_wrow os enc)) ?_
  intro W base args ds gs before hval0 hW _ hcond hsz0 hL _ _
  have hT : Tabs8 W := tabs_of_laid hL
  have hval : ∀ (j : Nat) t v, Tryd.f8.params[j]? = some t → args[j]? = some v → Value.okWide Tryd.prog W .any base t v := hval0
  have hW' := hW
  obtain ⟨p, q, hA0, hV, rfl, hfz, hnd⟩ := hW
  have hA : DataW.TrodAll enc Tryd.prog W 0 (fun _ => true) true Tryd.f8.params.toList args.toList ds p := hA0
  have hsz : (DataW.weightsEach Tryd.prog (Tryd.f8.params.toList ++ (OpenSpec.ofChange Rows.fnSumAdvanceSpec).bare.plain.varTypes Tryd.prog) (ds ++ gs)).all (· ≤ reachBytes) = true := hsz0
  rw [Tryd.params8] at hA hval hsz
  obtain ⟨v0, vs0, d0, ds0, p0, q0, hargs, rfl, rfl, h0, r0⟩ := trodAll_cons hA
  obtain ⟨v1, vs1, d1, ds1, p1, q1, rfl, rfl, rfl, h1, r1⟩ := trodAll_cons r0
  obtain ⟨rfl, rfl, rfl⟩ := trodAll_nil r1
  obtain rfl : args = #[v0, v1] := by cases args; simp_all
  obtain ⟨a0, rfl, rfl, rfl, w0⟩ := ChangeMaps.open_string Tryd.underlying9 (hval 0 9 v0 rfl rfl) h0
  obtain ⟨a1, rfl, rfl, rfl, w1⟩ := ChangeMaps.open_string Tryd.underlying9 (hval 1 9 v1 rfl rfl) h1
  have s0 : a0.size ≤ 140737488351232 := by have h := sized_string hsz (j := 0) (t := 9) rfl rfl; simpa [reachBytes] using h
  have s1 : a1.size ≤ 140737488351232 := by have h := sized_string hsz (j := 1) (t := 9) rfl rfl; simpa [reachBytes] using h
  refine (fnSumAdvance_walk a0 a1 s0 s1 W hT).mono fun e W' ⟨he, hb⟩ => ⟨_, he, ?_⟩
  exact law_post (s := Rows.fnSumAdvanceSpec) (f := Tryd.f8) (tb := 4) (by kernel_rfl) (by kernel_rfl) (by kernel_rfl) Tryd.underlying4 rfl (fun ds h => by rw [Tryd.params8] at h; match ds, h with | [_, _], _ => rfl) hW' hb

theorem fnSumAdvance_said : Rows.FnSumAdvanceSaid :=
  OpenClaim.holds_of_cond 8 Tryd.f8 rfl rfl rfl rfl rfl rfl rfl ⟨rfl, rfl, rfl, rfl, rfl⟩ rfl rfl rfl rfl rfl (by kernel_rfl) Tryd.func8 (by kernel_rfl)
    (of_decide_eq_true (by kernel_rfl)) (by unfold Func.isWrapper; first | (rw [if_pos (by decide +kernel)]; kernel_rfl) | (rw [if_neg (by decide +kernel)]; exact ⟨rfl, rfl⟩))
    (fun os started H enc _ F => by rw [OpenClaim.pre_eq_preRow]; exact fnSumAdvance_lifted os started H enc F)

theorem fnSumAdvance_plain (f : FuncId) (fn : Func) (hf : Tryd.pinned.checked.prog.funcNamed "mapthread/laws.FnSumAdvance" = some f) (hfn : Tryd.pinned.checked.prog.funcs[f]? = some fn) :
    false = Tryd.pinned.checked.prog.looks [] ∧ ∀ (j : Nat) t, fn.params[j]? = some t → Tryd.pinned.checked.prog.wantsStandIn t = false := by
  obtain rfl : f = 8 := Option.some.inj ((show Tryd.prog.funcNamed "mapthread/laws.FnSumAdvance" = some 8 by kernel_rfl).symm.trans hf) |>.symm
  obtain rfl : fn = Tryd.f8 := (Option.some.inj (Tryd.func8.symm.trans hfn)).symm
  refine ⟨by kernel_rfl, fun j t ht => ?_⟩
  rw [Tryd.params8] at ht
  have hm := Array.mem_of_getElem? ht
  simp at hm
  subst hm
  exact (show Tryd.prog.wantsStandIn 9 = false by kernel_rfl)

theorem fnSumAdvance_card : Rows.FnSumAdvanceCardSaid :=
  Claim7.holds_tied_plain_at .later [] _ _ _ _ fnSumAdvance_said (fun _ h => by cases h) (by kernel_rfl) (fun _ h => by cases h) fnSumAdvance_row_tie rfl ⟨rfl, rfl⟩ (by kernel_rfl) rfl fnSumAdvance_plain (by kernel_rfl)
#print axioms fnSumAdvance_card
end Go.Proofs.YtgnhfbhmmdnoeaaDoor

/-
  laws.FnAdvanceSplit returns true for every input: one text behind the other leads where both together do. Conditions: the two tables of unicode/utf8 lie in their variables.
-/
import Derived.Test.YtgnhfbhmmdnoeaaDoorAdvT
import Derived.Test.YtgnhfbhmmdnoeaaDoorLaid8
import Derived.ChangeMaps
namespace Go.Proofs.YtgnhfbhmmdnoeaaDoor
open Go.RowKit Go.ChangeShapes Go.WideShapes Go.ChangeAt

set_option maxHeartbeats 2000000 in
theorem fnAdvanceSplit_walk (a b : ByteArray) (q : Bool) (ha : a.size ≤ 140737488351232) (hb : b.size ≤ 140737488351232) (w : World) (hT : Tabs8 w) :
    Calls Tryd.prog 6 #[.string a, .string b, .bool q] w fun e w' => e = .returned (.bool true) ∧ Below w.heap.size w w' := by
  have ks : ∀ (W : World) (x y : ByteArray), x.size + y.size ≤ 9223372036854775807 → (Op.stringOp .add x y).run Tryd.prog W = .ok (.string (x ++ y)) W := fun W x y h => run_string_add_sum W x y h
  have HT := Lib.hid hT
  clear hT
  go_enter Tryd.func6, Tryd.ntmps6
  go_wp2_with fail
  refine (validT_any a w ha).mono ?_
  rintro e w1 ⟨⟨rs, hv, hz, rfl⟩, hb1⟩
  have B1 := Lib.hid hb1
  have HV := Lib.hid hv
  clear hb1 hv
  go_wp2_with fail
  refine (validT_any b w1 hb).mono ?_
  rintro e w2 ⟨⟨ss, hv, hy, rfl⟩, hb2⟩
  have B2 := Lib.hid (bthen B1.out hb2)
  have HW := Lib.hid hv
  clear hb2 hv
  go_wp2_with fail
  refine (apart_any _ _ w2 (by omega) (by omega)).mono ?_
  rintro e w3 ⟨rfl, rfl⟩
  have hxy : (⟨#[120]⟩ : ByteArray).size + (txt ss).size ≤ 9223372036854775807 := by have : (⟨#[120]⟩ : ByteArray).size = 1 := rfl; omega
  have hcat : (⟨#[120]⟩ : ByteArray) ++ txt ss = txt ([120] ++ ss) := by rw [← txt_x, txt_app]
  have hszx : (txt ([120] ++ ss)).size = (txt ss).size + 1 := by rw [← hcat, ByteArray.size_append, Nat.add_comm]; rfl
  have HSZX := Lib.hid hszx
  clear hszx
  go_upto_if 20 with fail
  go_cut [1] (fun s1 wx => ∃ ts, s1 = .string (txt ts) ∧ Hid (okR ts) ∧ (txt ts).size ≤ 140737488351233 ∧ Hid (lastR 0 rs = 13 → ts.head? ≠ some 10) ∧ w2 = wx)
  case first =>
    rcases hap : apartB (txt rs) (txt ss) with _ | _
    · have HAP := Lib.hid hap
      go_wp2_with fail
      go_meet
      exact ⟨[120] ++ ss, rfl, Lib.hid (okR.x.app HW.out), by rw [HSZX.out]; omega, Lib.hid (by simp), rfl⟩
    · have HAP := Lib.hid hap
      go_wp2_with fail
      go_meet
      exact ⟨ss, rfl, HW, by omega, Lib.hid (apart_runes rs ss HAP.out), rfl⟩
  case rest =>
    obtain ⟨ts, rfl, HTS, hts, HC, rfl⟩ := hcut
    clear hxy hcat HSZX HW
    have T2 := Lib.hid (HT.out.below B2.out)
    have l1 := HV.out.len
    have l2 := HTS.out.len
    have A1 := Lib.hid (advI_append rs ts (0, 0) HC.out)
    have d1 := advI_le rs (0, 0)
    have hcat : txt rs ++ txt ts = txt (rs ++ ts) := txt_app rs ts
    have hsz : (txt (rs ++ ts)).size = (txt rs).size + (txt ts).size := by rw [← hcat, ByteArray.size_append]
    have HSZ := Lib.hid hsz
    have hsum : (txt rs).size + (txt ts).size ≤ 9223372036854775807 := by omega
    simp only at d1
    clear hsz
    go_wp2_with fail
    refine (implT_any rs 0 0 q w2 HV.out (by omega) (by omega) (by omega) T2.out).mono ?_
    rintro e w3 ⟨rfl, hb3⟩
    generalize hP : advI rs (0, 0) = P at *
    have HP := Lib.hid hP
    clear hP
    have d2 := advI_le ts (P.1, P.2)
    simp only at d2
    have B3 := Lib.hid (bthen B2.out hb3)
    have T3 := Lib.hid (HT.out.below B3.out)
    clear hb3
    go_wp2_with fail
    refine (implT_any ts P.1 P.2 q w3 HTS.out (by omega) (by omega) (by omega) T3.out).mono ?_
    rintro e w4 ⟨rfl, hb4⟩
    have B4 := Lib.hid (bthen B3.out hb4)
    have T4 := Lib.hid (HT.out.below B4.out)
    clear hb4
    go_wp2_with fail
    refine (implT_any (rs ++ ts) 0 0 q w4 (HV.out.app HTS.out) (by rw [HSZ.out]; omega) (by omega) (by omega) T4.out).mono ?_
    rintro e w5 ⟨rfl, hb5⟩
    rw [A1.out]
    rw [show P = (P.1, P.2) from rfl]
    generalize advI ts (P.1, P.2) = Q at *
    have B5 := Lib.hid (bthen B4.out hb5)
    have T5 := Lib.hid (HT.out.below B5.out)
    clear hb5 hcat
    go_wp2_with fail
    have c5 := implT_any [120] 0 0 q w5 okR.x (by rw [txt_x]; decide) (by omega) (by omega) T5.out
    rw [txt_x, show advI [120] (0, 0) = (0, 1) from rfl] at c5
    refine c5.mono ?_
    rintro e w6 ⟨rfl, hb6⟩
    have B6 := Lib.hid (bthen B5.out hb6)
    clear c5 hb6
    go_wp2_with fail
    go_ret
    exact ⟨by simp, B6.out⟩

theorem fnAdvanceSplit_wrow (os : Os) {H : Type} (enc : TypeId × Value → H) :
    (OpenSpec.ofChange Rows.fnAdvanceSplitSpec).preRow enc Tryd.prog Tryd.f6 Rows.fnAdvanceSplitRow.domain false Rows.fnAdvanceSplitRow.laid ((laidWorld os).forCall (fun _ _ => 0) ⟨#[], #[.string ⟨#[]⟩, .string ⟨#[]⟩, .bool false], []⟩).memory #[.string ⟨#[]⟩, .string ⟨#[]⟩, .bool false] := by
  have hw : ((DataW.whole enc Tryd.prog ((laidWorld os).forCall (fun _ _ => 0) ⟨#[], #[.string ⟨#[]⟩, .string ⟨#[]⟩, .bool false], []⟩).memory Tryd.f6.params.toList (OpenSpec.ofChange Rows.fnAdvanceSplitSpec).vars false (#[.string ⟨#[]⟩, .string ⟨#[]⟩, .bool false] : Array Value).toList 8).map (fun x => (x.1, x.2.1))) =
      some ([.lit (.string []), .lit (.string []), .lit (.bool false)], []) := by kernel_rfl
  obtain ⟨⟨x1, x2, x3⟩, hx, hx1⟩ := Option.map_eq_some_iff.1 hw
  simp only [Prod.mk.injEq] at hx1
  obtain ⟨rfl, rfl⟩ := hx1
  exact OpenSpec.preRow_of_cond 8 hx (by kernel_rfl) (fun k hk => by cases hk) (by kernel_rfl) (laid_met os _)

set_option maxRecDepth 100000 in
theorem fnAdvanceSplit_lifted (os : Os) (started : os.Started) (H : Type) (enc : TypeId × Value → H) (F : Stop.Interp) :
    ReturnsInHanded {} Tryd.checked os 6 .any ((OpenSpec.ofChange Rows.fnAdvanceSplitSpec).preRow enc Tryd.prog Tryd.f6 Rows.fnAdvanceSplitRow.domain false Rows.fnAdvanceSplitRow.laid) (((OpenSpec.ofChange Rows.fnAdvanceSplitSpec).at F).post enc Tryd.prog Tryd.f6 false true false false) := by
  refine returnsInHanded_of_row (C := Tryd.checked) (s := OpenSpec.ofChange Rows.fnAdvanceSplitSpec) own started (by kernel_rfl) Tryd.func6
    (witness_row_atRef (enc := enc) (C := Tryd.checked) false (laidWorld os) #[.string ⟨#[]⟩, .string ⟨#[]⟩, .bool false] rfl (by kernel_rfl) (by kernel_rfl) (by kernel_rfl) (fnAdvanceSplit_wrow os enc)) ?_
  intro W base args ds gs before hval0 hW _ hcond hsz0 hL _ _
  have hT : Tabs8 W := tabs_of_laid hL
  have hval : ∀ (j : Nat) t v, Tryd.f6.params[j]? = some t → args[j]? = some v → Value.okWide Tryd.prog W .any base t v := hval0
  have hW' := hW
  obtain ⟨p, q, hA0, hV, rfl, hfz, hnd⟩ := hW
  have hA : DataW.TrodAll enc Tryd.prog W 0 (fun _ => true) true Tryd.f6.params.toList args.toList ds p := hA0
  have hsz : (DataW.weightsEach Tryd.prog (Tryd.f6.params.toList ++ (OpenSpec.ofChange Rows.fnAdvanceSplitSpec).bare.plain.varTypes Tryd.prog) (ds ++ gs)).all (· ≤ reachBytes) = true := hsz0
  rw [Tryd.params6] at hA hval hsz
  obtain ⟨v0, vs0, d0, ds0, p0, q0, hargs, rfl, rfl, h0, r0⟩ := trodAll_cons hA
  obtain ⟨v1, vs1, d1, ds1, p1, q1, rfl, rfl, rfl, h1, r1⟩ := trodAll_cons r0
  obtain ⟨v2, vs2, d2, ds2, p2, q2, rfl, rfl, rfl, h2, r2⟩ := trodAll_cons r1
  obtain ⟨rfl, rfl, rfl⟩ := trodAll_nil r2
  obtain rfl : args = #[v0, v1, v2] := by cases args; simp_all
  obtain ⟨a0, rfl, rfl, rfl, w0⟩ := ChangeMaps.open_string Tryd.underlying9 (hval 0 9 v0 rfl rfl) h0
  obtain ⟨a1, rfl, rfl, rfl, w1⟩ := ChangeMaps.open_string Tryd.underlying9 (hval 1 9 v1 rfl rfl) h1
  obtain ⟨a2, rfl, rfl, rfl⟩ := open_bool Tryd.underlying4 (hval 2 4 v2 rfl rfl) h2
  have s0 : a0.size ≤ 140737488351232 := by have h := sized_string hsz (j := 0) (t := 9) rfl rfl; simpa [reachBytes] using h
  have s1 : a1.size ≤ 140737488351232 := by have h := sized_string hsz (j := 1) (t := 9) rfl rfl; simpa [reachBytes] using h
  refine (fnAdvanceSplit_walk a0 a1 a2 s0 s1 W hT).mono fun e W' ⟨he, hb⟩ => ⟨_, he, ?_⟩
  exact law_post (s := Rows.fnAdvanceSplitSpec) (f := Tryd.f6) (tb := 4) (by kernel_rfl) (by kernel_rfl) (by kernel_rfl) Tryd.underlying4 rfl (fun ds h => by rw [Tryd.params6] at h; match ds, h with | [_, _, _], _ => rfl) hW' hb

theorem fnAdvanceSplit_said : Rows.FnAdvanceSplitSaid :=
  OpenClaim.holds_of_cond 6 Tryd.f6 rfl rfl rfl rfl rfl rfl rfl ⟨rfl, rfl, rfl, rfl, rfl⟩ rfl rfl rfl rfl rfl (by kernel_rfl) Tryd.func6 (by kernel_rfl)
    (of_decide_eq_true (by kernel_rfl)) (by unfold Func.isWrapper; first | (rw [if_pos (by decide +kernel)]; kernel_rfl) | (rw [if_neg (by decide +kernel)]; exact ⟨rfl, rfl⟩))
    (fun os started H enc _ F => by rw [OpenClaim.pre_eq_preRow]; exact fnAdvanceSplit_lifted os started H enc F)

theorem fnAdvanceSplit_plain (f : FuncId) (fn : Func) (hf : Tryd.pinned.checked.prog.funcNamed "mapthread/laws.FnAdvanceSplit" = some f) (hfn : Tryd.pinned.checked.prog.funcs[f]? = some fn) :
    false = Tryd.pinned.checked.prog.looks [] ∧ ∀ (j : Nat) t, fn.params[j]? = some t → Tryd.pinned.checked.prog.wantsStandIn t = false := by
  obtain rfl : f = 6 := Option.some.inj ((show Tryd.prog.funcNamed "mapthread/laws.FnAdvanceSplit" = some 6 by kernel_rfl).symm.trans hf) |>.symm
  obtain rfl : fn = Tryd.f6 := (Option.some.inj (Tryd.func6.symm.trans hfn)).symm
  refine ⟨by kernel_rfl, fun j t ht => ?_⟩
  rw [Tryd.params6] at ht
  have hm := Array.mem_of_getElem? ht
  simp at hm
  rcases hm with rfl | rfl
  · exact (show Tryd.prog.wantsStandIn 9 = false by kernel_rfl)
  · exact (show Tryd.prog.wantsStandIn 4 = false by kernel_rfl)

theorem fnAdvanceSplit_card : Rows.FnAdvanceSplitCardSaid :=
  Claim7.holds_tied_plain_at .later [] _ _ _ _ fnAdvanceSplit_said (fun _ h => by cases h) (by kernel_rfl) (fun _ h => by cases h) fnAdvanceSplit_row_tie rfl ⟨rfl, rfl⟩ (by kernel_rfl) rfl fnAdvanceSplit_plain (by kernel_rfl)
#print axioms fnAdvanceSplit_card
end Go.Proofs.YtgnhfbhmmdnoeaaDoor

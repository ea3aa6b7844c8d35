/-
  laws.FnAdvanceBytes returns true for every input: the bytes lead where the string does. Conditions: the two tables of unicode/utf8 lie in their variables.
-/
import Derived.Test.YtgnhfbhmmdnoeaaDoorAdvT
import Derived.Test.YtgnhfbhmmdnoeaaDoorLaid8
import Derived.ChangeMaps
namespace Go.Proofs.YtgnhfbhmmdnoeaaDoor
open Go.RowKit Go.ChangeShapes Go.WideShapes Go.ChangeAt

set_option maxHeartbeats 1000000 in
theorem fnAdvanceBytes_walk (a b : Int) (s : ByteArray) (_ : (Lit.int .i64 a).wf = true) (_ : (Lit.int .i64 b).wf = true) (hs : s.size ≤ 140737488351232) (w : World) (hT : Tabs8 w) :
    Calls Tryd.prog 4 #[.int .i64 a, .int .i64 b, .string s] w fun e w' => e = .returned (.bool true) ∧ Below w.heap.size w w' := by
  have ks : ∀ (W : World) (x y : ByteArray), x.size + y.size ≤ 9223372036854775807 → (Op.stringOp .add x y).run Tryd.prog W = .ok (.string (x ++ y)) W := fun W x y h => run_string_add_sum W x y h
  obtain ⟨L, hL⟩ : ∃ L : Nat, a % 1048576 = L := ⟨(a % 1048576).toNat, by omega⟩
  obtain ⟨C, hC⟩ : ∃ C : Nat, b % 1048576 = C := ⟨(b % 1048576).toNat, by omega⟩
  have hL1 : L < 1048576 := by omega
  have hC1 : C < 1048576 := by omega
  have HL := Lib.hid hL
  have HC := Lib.hid hC
  have HT := Lib.hid hT
  clear hL hC hT
  go_enter Tryd.func4, Tryd.ntmps4
  go_wp2_with fail
  refine (validT_any s w hs).mono ?_
  rintro e w1 ⟨⟨rs, hv, hz, rfl⟩, hb1⟩
  have B1 := Lib.hid hb1
  clear hb1
  have hlen := (hv.app okR.x).len
  have hcat : txt rs ++ ⟨#[120]⟩ = txt (rs ++ [120]) := by rw [← txt_x, txt_app]
  have hszx : (txt (rs ++ [120])).size = (txt rs).size + 1 := by rw [← hcat, ByteArray.size_append]; rfl
  have HSZX := Lib.hid hszx
  have HHV := Lib.hid (hv.app okR.x)
  have hzx : (txt rs).size + (⟨#[120]⟩ : ByteArray).size ≤ 9223372036854775807 := by have : (⟨#[120]⟩ : ByteArray).size = 1 := rfl; omega
  clear hv hszx
  go_wp2_with fail
  clear hcat
  refine (small_any a w1).mono ?_
  rintro e w2 ⟨rfl, rfl⟩
  rw [HL.out]
  go_wp2_with fail
  refine (small_any b w1).mono ?_
  rintro e w2 ⟨rfl, rfl⟩
  rw [HC.out]
  have hle := advI_le (rs ++ [120]) (L, C)
  simp only at hle
  rw [HSZX.out] at hlen
  generalize rs ++ [120] = ts at *
  go_wp2_with fail
  refine (specT_any ts L C _ HHV.out (by rw [HSZX.out]; omega) (by omega) (by omega)).mono ?_
  rintro e w2 ⟨rfl, hb2⟩
  generalize hP : advI ts (L, C) = P at *
  have HP := Lib.hid hP
  clear hP
  obtain ⟨hc2, hf2⟩ := bcell hb2
  have hz2 : w1.heap.size < w2.heap.size := by have := hb2.size; simp at this; omega
  have B2 := Lib.hid (bthen (balloc B1.out _) hb2)
  have T2 := Lib.hid (HT.out.below B2.out)
  clear hb2
  go_wp2_with fail
  refine (implT_any ts L C true _ HHV.out (by rw [HSZX.out]; omega) (by omega) (by omega) (T2.out.below (balloc (Below.refl _ _) _))).mono ?_
  rintro e w3 ⟨rfl, hb3⟩
  rw [HP.out]
  obtain ⟨hc3, hf3⟩ := bcell hb3
  have B3 := Lib.hid (bthen (balloc B2.out _) hb3)
  clear hb3
  go_wp2_with fail
  go_ret
  exact ⟨by simp, B3.out⟩

theorem fnAdvanceBytes_wrow (os : Os) {H : Type} (enc : TypeId × Value → H) :
    (OpenSpec.ofChange Rows.fnAdvanceBytesSpec).preRow enc Tryd.prog Tryd.f4 Rows.fnAdvanceBytesRow.domain false Rows.fnAdvanceBytesRow.laid ((laidWorld os).forCall (fun _ _ => 0) ⟨#[], #[.int .i64 0, .int .i64 0, .string ⟨#[]⟩], []⟩).memory #[.int .i64 0, .int .i64 0, .string ⟨#[]⟩] := by
  have hw : ((DataW.whole enc Tryd.prog ((laidWorld os).forCall (fun _ _ => 0) ⟨#[], #[.int .i64 0, .int .i64 0, .string ⟨#[]⟩], []⟩).memory Tryd.f4.params.toList (OpenSpec.ofChange Rows.fnAdvanceBytesSpec).vars false (#[.int .i64 0, .int .i64 0, .string ⟨#[]⟩] : Array Value).toList 8).map (fun x => (x.1, x.2.1))) =
      some ([.lit (.int .i64 0), .lit (.int .i64 0), .lit (.string [])], []) := by kernel_rfl
  obtain ⟨⟨x1, x2, x3⟩, hx, hx1⟩ := Option.map_eq_some_iff.1 hw
  simp only [Prod.mk.injEq] at hx1
  obtain ⟨rfl, rfl⟩ := hx1
  exact OpenSpec.preRow_of_cond 8 hx (by kernel_rfl) (fun k hk => by cases hk) (by kernel_rfl) (laid_met os _)

set_option maxRecDepth 100000 in
theorem fnAdvanceBytes_lifted (os : Os) (started : os.Started) (H : Type) (enc : TypeId × Value → H) (F : Stop.Interp) :
    ReturnsInHanded {} Tryd.checked os 4 .any ((OpenSpec.ofChange Rows.fnAdvanceBytesSpec).preRow enc Tryd.prog Tryd.f4 Rows.fnAdvanceBytesRow.domain false Rows.fnAdvanceBytesRow.laid) (((OpenSpec.ofChange Rows.fnAdvanceBytesSpec).at F).post enc Tryd.prog Tryd.f4 false true false false) := by
  refine returnsInHanded_of_row (C := Tryd.checked) (s := OpenSpec.ofChange Rows.fnAdvanceBytesSpec) own started (by kernel_rfl) Tryd.func4
    (witness_row_atRef (enc := enc) (C := Tryd.checked) false (laidWorld os) #[.int .i64 0, .int .i64 0, .string ⟨#[]⟩] rfl (by kernel_rfl) (by kernel_rfl) (by kernel_rfl) (fnAdvanceBytes_wrow os enc)) ?_
  intro W base args ds gs before hval0 hW _ hcond hsz0 hL _ _
  have hT : Tabs8 W := tabs_of_laid hL
  have hval : ∀ (j : Nat) t v, Tryd.f4.params[j]? = some t → args[j]? = some v → Value.okWide Tryd.prog W .any base t v := hval0
  have hW' := hW
  obtain ⟨p, q, hA0, hV, rfl, hfz, hnd⟩ := hW
  have hA : DataW.TrodAll enc Tryd.prog W 0 (fun _ => true) true Tryd.f4.params.toList args.toList ds p := hA0
  have hsz : (DataW.weightsEach Tryd.prog (Tryd.f4.params.toList ++ (OpenSpec.ofChange Rows.fnAdvanceBytesSpec).bare.plain.varTypes Tryd.prog) (ds ++ gs)).all (· ≤ reachBytes) = true := hsz0
  rw [Tryd.params4] at hA hval hsz
  obtain ⟨v0, vs0, d0, ds0, p0, q0, hargs, rfl, rfl, h0, r0⟩ := trodAll_cons hA
  obtain ⟨v1, vs1, d1, ds1, p1, q1, rfl, rfl, rfl, h1, r1⟩ := trodAll_cons r0
  obtain ⟨v2, vs2, d2, ds2, p2, q2, rfl, rfl, rfl, h2, r2⟩ := trodAll_cons r1
  obtain ⟨rfl, rfl, rfl⟩ := trodAll_nil r2
  obtain rfl : args = #[v0, v1, v2] := by cases args; simp_all
  obtain ⟨a0, rfl, rfl, rfl, w0⟩ := open_int Tryd.underlying3 (hval 0 3 v0 rfl rfl) h0
  obtain ⟨a1, rfl, rfl, rfl, w1⟩ := open_int Tryd.underlying3 (hval 1 3 v1 rfl rfl) h1
  obtain ⟨a2, rfl, rfl, rfl, w2⟩ := ChangeMaps.open_string Tryd.underlying9 (hval 2 9 v2 rfl rfl) h2
  have s2 : a2.size ≤ 140737488351232 := by have h := sized_string hsz (j := 2) (t := 9) rfl rfl; simpa [reachBytes] using h
  refine (fnAdvanceBytes_walk a0 a1 a2 w0 w1 s2 W hT).mono fun e W' ⟨he, hb⟩ => ⟨_, he, ?_⟩
  exact law_post (s := Rows.fnAdvanceBytesSpec) (f := Tryd.f4) (tb := 4) (by kernel_rfl) (by kernel_rfl) (by kernel_rfl) Tryd.underlying4 rfl (fun ds h => by rw [Tryd.params4] at h; match ds, h with | [_, _, _], _ => rfl) hW' hb

theorem fnAdvanceBytes_said : Rows.FnAdvanceBytesSaid :=
  OpenClaim.holds_of_cond 4 Tryd.f4 rfl rfl rfl rfl rfl rfl rfl ⟨rfl, rfl, rfl, rfl, rfl⟩ rfl rfl rfl rfl rfl (by kernel_rfl) Tryd.func4 (by kernel_rfl)
    (of_decide_eq_true (by kernel_rfl)) (by unfold Func.isWrapper; first | (rw [if_pos (by decide +kernel)]; kernel_rfl) | (rw [if_neg (by decide +kernel)]; exact ⟨rfl, rfl⟩))
    (fun os started H enc _ F => by rw [OpenClaim.pre_eq_preRow]; exact fnAdvanceBytes_lifted os started H enc F)

theorem fnAdvanceBytes_plain (f : FuncId) (fn : Func) (hf : Tryd.pinned.checked.prog.funcNamed "mapthread/laws.FnAdvanceBytes" = some f) (hfn : Tryd.pinned.checked.prog.funcs[f]? = some fn) :
    false = Tryd.pinned.checked.prog.looks [] ∧ ∀ (j : Nat) t, fn.params[j]? = some t → Tryd.pinned.checked.prog.wantsStandIn t = false := by
  obtain rfl : f = 4 := Option.some.inj ((show Tryd.prog.funcNamed "mapthread/laws.FnAdvanceBytes" = some 4 by kernel_rfl).symm.trans hf) |>.symm
  obtain rfl : fn = Tryd.f4 := (Option.some.inj (Tryd.func4.symm.trans hfn)).symm
  refine ⟨by kernel_rfl, fun j t ht => ?_⟩
  rw [Tryd.params4] at ht
  have hm := Array.mem_of_getElem? ht
  simp at hm
  rcases hm with rfl | rfl
  · exact (show Tryd.prog.wantsStandIn 3 = false by kernel_rfl)
  · exact (show Tryd.prog.wantsStandIn 9 = false by kernel_rfl)

theorem fnAdvanceBytes_card : Rows.FnAdvanceBytesCardSaid :=
  Claim7.holds_tied_plain_at .later [] _ _ _ _ fnAdvanceBytes_said (fun _ h => by cases h) (by kernel_rfl) (fun _ h => by cases h) fnAdvanceBytes_row_tie rfl ⟨rfl, rfl⟩ (by kernel_rfl) rfl fnAdvanceBytes_plain (by kernel_rfl)
#print axioms fnAdvanceBytes_card
end Go.Proofs.YtgnhfbhmmdnoeaaDoor

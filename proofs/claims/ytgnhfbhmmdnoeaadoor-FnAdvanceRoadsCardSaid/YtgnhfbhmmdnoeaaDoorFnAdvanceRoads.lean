/-
  laws.FnAdvanceRoads returns true for every input: both ways lead to one place. Conditions: the two tables of unicode/utf8 lie in their variables.
-/
import Derived.Test.YtgnhfbhmmdnoeaaDoorAdvT
import Derived.Test.YtgnhfbhmmdnoeaaDoorLaid8
import Derived.ChangeMaps
namespace Go.Proofs.YtgnhfbhmmdnoeaaDoor
open Go.RowKit Go.ChangeShapes Go.WideShapes Go.ChangeAt

set_option maxHeartbeats 1000000 in
theorem fnAdvanceRoads_walk (s : ByteArray) (hs : s.size ≤ 140737488351232) (w : World) (hT : Tabs8 w) :
    Calls Tryd.prog 5 #[.string s] w fun e w' => e = .returned (.bool true) ∧ Below w.heap.size w w' := by
  have ks : ∀ (W : World) (x y : ByteArray), x.size + y.size ≤ 9223372036854775807 → (Op.stringOp .add x y).run Tryd.prog W = .ok (.string (x ++ y)) W := fun W x y h => run_string_add_sum W x y h
  have HT := Lib.hid hT
  clear hT
  have hzx : s.size + (⟨#[120]⟩ : ByteArray).size ≤ 9223372036854775807 := by have : (⟨#[120]⟩ : ByteArray).size = 1 := rfl; omega
  have hsz : (s ++ (⟨#[120]⟩ : ByteArray)).size = s.size + 1 := by rw [ByteArray.size_append]; rfl
  have hrl : (runes (s ++ ⟨#[120]⟩) (s ++ (⟨#[120]⟩ : ByteArray)).size 0).length ≤ (s ++ (⟨#[120]⟩ : ByteArray)).size := runes_len _ _ _
  obtain ⟨l, hl⟩ := runes_x s (s ++ (⟨#[120]⟩ : ByteArray)).size 0 (by omega) (by omega)
  have hle := advI_le (runes (s ++ ⟨#[120]⟩) (s ++ (⟨#[120]⟩ : ByteArray)).size 0) (0, 0)
  have hpos : 0 < (advI (runes (s ++ ⟨#[120]⟩) (s ++ (⟨#[120]⟩ : ByteArray)).size 0) (0, 0)).2 := by rw [hl, advI_x]; simp
  clear hl
  go_enter Tryd.func5, Tryd.ntmps5
  go_wp2_with fail
  have c1 := implAdv_any (s ++ ⟨#[120]⟩) 0 0 false w (by omega) (by omega) (by omega) HT.out
  generalize hP : advI (runes (s ++ ⟨#[120]⟩) (s ++ (⟨#[120]⟩ : ByteArray)).size 0) (0, 0) = P at *
  have HP := Lib.hid hP
  clear hP
  refine c1.mono ?_
  rintro e w1 ⟨rfl, hb1⟩
  clear c1
  have B1 := Lib.hid hb1
  have T1 := Lib.hid (HT.out.below B1.out)
  clear hb1
  go_wp2_with fail
  have c2 := implAdv_any (s ++ ⟨#[120]⟩) 0 0 true w1 (by omega) (by omega) (by omega) T1.out
  rw [HP.out] at c2
  refine c2.mono ?_
  rintro e w2 ⟨rfl, hb2⟩
  clear c2
  have B2 := Lib.hid (bthen B1.out hb2)
  clear hb2
  go_wp2_with fail
  go_ret
  exact ⟨by simp, B2.out⟩

theorem fnAdvanceRoads_wrow (os : Os) {H : Type} (enc : TypeId × Value → H) :
    (OpenSpec.ofChange Rows.fnAdvanceRoadsSpec).preRow enc Tryd.prog Tryd.f5 Rows.fnAdvanceRoadsRow.domain false Rows.fnAdvanceRoadsRow.laid ((laidWorld os).forCall (fun _ _ => 0) ⟨#[], #[.string ⟨#[]⟩], []⟩).memory #[.string ⟨#[]⟩] := by
  have hw : ((DataW.whole enc Tryd.prog ((laidWorld os).forCall (fun _ _ => 0) ⟨#[], #[.string ⟨#[]⟩], []⟩).memory Tryd.f5.params.toList (OpenSpec.ofChange Rows.fnAdvanceRoadsSpec).vars false (#[.string ⟨#[]⟩] : Array Value).toList 8).map (fun x => (x.1, x.2.1))) =
      some ([.lit (.string [])], []) := by kernel_rfl
  obtain ⟨⟨x1, x2, x3⟩, hx, hx1⟩ := Option.map_eq_some_iff.1 hw
  simp only [Prod.mk.injEq] at hx1
  obtain ⟨rfl, rfl⟩ := hx1
  exact OpenSpec.preRow_of_cond 8 hx (by kernel_rfl) (fun k hk => by cases hk) (by kernel_rfl) (laid_met os _)

set_option maxRecDepth 100000 in
theorem fnAdvanceRoads_lifted (os : Os) (started : os.Started) (H : Type) (enc : TypeId × Value → H) (F : Stop.Interp) :
    ReturnsInHanded {} Tryd.checked os 5 .any ((OpenSpec.ofChange Rows.fnAdvanceRoadsSpec).preRow enc Tryd.prog Tryd.f5 Rows.fnAdvanceRoadsRow.domain false Rows.fnAdvanceRoadsRow.laid) (((OpenSpec.ofChange Rows.fnAdvanceRoadsSpec).at F).post enc Tryd.prog Tryd.f5 false true false false) := by
  refine returnsInHanded_of_row (C := Tryd.checked) (s := OpenSpec.ofChange Rows.fnAdvanceRoadsSpec) own started (by kernel_rfl) Tryd.func5
    (witness_row_atRef (enc := enc) (C := Tryd.checked) false (laidWorld os) #[.string ⟨#[]⟩] rfl (by kernel_rfl) (by kernel_rfl) (by kernel_rfl) (fnAdvanceRoads_wrow os enc)) ?_
  intro W base args ds gs before hval0 hW _ hcond hsz0 hL _ _
  have hT : Tabs8 W := tabs_of_laid hL
  have hval : ∀ (j : Nat) t v, Tryd.f5.params[j]? = some t → args[j]? = some v → Value.okWide Tryd.prog W .any base t v := hval0
  have hW' := hW
  obtain ⟨p, q, hA0, hV, rfl, hfz, hnd⟩ := hW
  have hA : DataW.TrodAll enc Tryd.prog W 0 (fun _ => true) true Tryd.f5.params.toList args.toList ds p := hA0
  have hsz : (DataW.weightsEach Tryd.prog (Tryd.f5.params.toList ++ (OpenSpec.ofChange Rows.fnAdvanceRoadsSpec).bare.plain.varTypes Tryd.prog) (ds ++ gs)).all (· ≤ reachBytes) = true := hsz0
  rw [Tryd.params5] at hA hval hsz
  obtain ⟨v0, vs0, d0, ds0, p0, q0, hargs, rfl, rfl, h0, r0⟩ := trodAll_cons hA
  obtain ⟨rfl, rfl, rfl⟩ := trodAll_nil r0
  obtain rfl : args = #[v0] := by cases args; simp_all
  obtain ⟨a0, rfl, rfl, rfl, w0⟩ := ChangeMaps.open_string Tryd.underlying9 (hval 0 9 v0 rfl rfl) h0
  have s0 : a0.size ≤ 140737488351232 := by have h := sized_string hsz (j := 0) (t := 9) rfl rfl; simpa [reachBytes] using h
  refine (fnAdvanceRoads_walk a0 s0 W hT).mono fun e W' ⟨he, hb⟩ => ⟨_, he, ?_⟩
  exact law_post (s := Rows.fnAdvanceRoadsSpec) (f := Tryd.f5) (tb := 4) (by kernel_rfl) (by kernel_rfl) (by kernel_rfl) Tryd.underlying4 rfl (fun ds h => by rw [Tryd.params5] at h; match ds, h with | [_], _ => rfl) hW' hb

theorem fnAdvanceRoads_said : Rows.FnAdvanceRoadsSaid :=
  OpenClaim.holds_of_cond 5 Tryd.f5 rfl rfl rfl rfl rfl rfl rfl ⟨rfl, rfl, rfl, rfl, rfl⟩ rfl rfl rfl rfl rfl (by kernel_rfl) Tryd.func5 (by kernel_rfl)
    (of_decide_eq_true (by kernel_rfl)) (by unfold Func.isWrapper; first | (rw [if_pos (by decide +kernel)]; kernel_rfl) | (rw [if_neg (by decide +kernel)]; exact ⟨rfl, rfl⟩))
    (fun os started H enc _ F => by rw [OpenClaim.pre_eq_preRow]; exact fnAdvanceRoads_lifted os started H enc F)

theorem fnAdvanceRoads_plain (f : FuncId) (fn : Func) (hf : Tryd.pinned.checked.prog.funcNamed "mapthread/laws.FnAdvanceRoads" = some f) (hfn : Tryd.pinned.checked.prog.funcs[f]? = some fn) :
    false = Tryd.pinned.checked.prog.looks [] ∧ ∀ (j : Nat) t, fn.params[j]? = some t → Tryd.pinned.checked.prog.wantsStandIn t = false := by
  obtain rfl : f = 5 := Option.some.inj ((show Tryd.prog.funcNamed "mapthread/laws.FnAdvanceRoads" = some 5 by kernel_rfl).symm.trans hf) |>.symm
  obtain rfl : fn = Tryd.f5 := (Option.some.inj (Tryd.func5.symm.trans hfn)).symm
  refine ⟨by kernel_rfl, fun j t ht => ?_⟩
  rw [Tryd.params5] at ht
  have hm := Array.mem_of_getElem? ht
  simp at hm
  subst hm
  exact (show Tryd.prog.wantsStandIn 9 = false by kernel_rfl)

theorem fnAdvanceRoads_card : Rows.FnAdvanceRoadsCardSaid :=
  Claim7.holds_tied_plain_at .later [] _ _ _ _ fnAdvanceRoads_said (fun _ h => by cases h) (by kernel_rfl) (fun _ h => by cases h) fnAdvanceRoads_row_tie rfl ⟨rfl, rfl⟩ (by kernel_rfl) rfl fnAdvanceRoads_plain (by kernel_rfl)
#print axioms fnAdvanceRoads_card
end Go.Proofs.YtgnhfbhmmdnoeaaDoor

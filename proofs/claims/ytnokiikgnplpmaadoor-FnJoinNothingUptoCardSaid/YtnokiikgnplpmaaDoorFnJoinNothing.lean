/-
  laws.FnJoinNothing: mappings appended to nothing stay as they are. Conditions: the arguments hold together at most 1048576 values (the second form); the table of signs is as its text lays it.
-/
import Derived.Test.YtnokiikgnplpmaaDoorM21
import Derived.Test.YtnokiikgnplpmaaDoorM16
import Derived.Test.YtnokiikgnplpmaaDoorM3
namespace Go.Proofs.YtnokiikgnplpmaaDoor
open Go.RowKit Go.ChangeShapes Go.WideShapes Go.ChangeAt

theorem namL_ne (Z : Nat → Nat → Int) (n : Nat) (h : 0 < n) : rsegs qz (wtk (namL Z n)) ≠ [] ∨ 4194304 < n := by
  rcases Nat.lt_or_ge 4194304 n with q | q
  · exact .inr q
  · left
    rw [(wtk_read (nam_ok Z n q)).2.2]
    intro e
    have := namL_len Z n
    rw [e] at this
    simp at this
    omega
theorem nam_end (Z : Nat → Nat → Int) (n : Nat) : (wst (namL Z n)).1.l ≤ 2 * (n : Int) + 2 := by
  rw [nam_wst]
  have := at_bd Z n
  omega
theorem nam_short (Z : Nat → Nat → Int) (n : Nat) (h : n ≤ 4194304) : (tokB true (wtk (namL Z n))).length ≤ 68 * n + 2 := by
  have h1 := wtk_short (nam_ok Z n h)
  have h2 := nam_end Z n
  rw [namL_len] at h1
  omega
set_option maxHeartbeats 2000000 in
set_option maxRecDepth 100000 in
theorem fnJoinNothing_walk (W : World) (A : Option Addr) (n cap : Nat) (Z : Nat → Nat → Int) (h5 : At5 W A n Z) (hA : A = none → n = 0 ∧ cap = 0) (hn : n ≤ 1048576) (hT : B64 W.heap.size W) :
    Calls Tryd.prog 9 #[.slice A n cap] W fun e W' => e = .returned (.bool true) ∧ Below W.heap.size W W' := by
  have H5 := Lib.hid h5
  have HA := Lib.hid hA
  have HT := Lib.hid hT
  clear h5 hA hT
  go_enter Tryd.func9, Tryd.ntmps9
  go_wp2_with (at_builtin; refine wpList_cons5 rfl (.tmp 7) (.tmp 8) rfl W.heap.size n cap A (fun j => if j = 1 then 1 else 0) Z rfl (Blk.new W _ _) rfl HA.out (H5.out.below (balloc (Below.refl _ _) _)) hn ?_; intro A2 cap2 w2 h52 hb2; have H52 := Lib.hid h52; have B2 := Lib.hid ((balloc (Below.refl W.heap.size W) _).trans hb2); clear h52 hb2)
  obtain ⟨Y, hY⟩ : ∃ Y, Y = consZ (fun j => if j = 1 then 1 else 0) Z := ⟨_, rfl⟩
  rw [← hY] at H52
  refine (named_any A2 (1 + n) cap2 Y w2 (by omega) (by omega) H52.out).mono ?_
  rintro e w3 ⟨v3, rfl, ho3, hb3⟩
  have hok := nam_ok Y (1 + n) (by omega)
  have hll := namL_len Y (1 + n)
  have hsh := nam_short Y (1 + n) (by omega)
  have hne := namL_ne Y (1 + n) (by omega)
  have B3 := Lib.hid (bthen B2.out hb3)
  generalize namL Y (1 + n) = l at *
  have hsg := Lib.hid (segs_own ho3 (by omega))
  have HOK := Lib.hid hok
  clear ho3 hb3 hY hok
  go_wp2_with fail
  refine (write_any l v3 w3 HOK.out (by omega) hsg.out).mono ?_
  rintro e w4 ⟨rfl, hb4⟩
  have B4 := Lib.hid (bthen B3.out hb4)
  have hT4 := Lib.hid (HT.out.below B4.out)
  have hz4 := B4.out.size
  have htg := Lib.hid (wtk_tight HOK.out)
  have hne' : Hid (rsegs qz (wtk l) ≠ []) := Lib.hid (by rcases hne with q | q; exact q; exfalso; omega)
  clear hb4 hne
  generalize hD : tokB true (wtk l) = D at *
  have HD := Lib.hid hD
  obtain ⟨fi, hfi⟩ : ∃ fi, fi = offV (foff true (wtk l)) := ⟨_, rfl⟩
  rw [← hfi]
  have HFI := Lib.hid hfi
  clear hD hfi
  have hcall : Hid (Calls Tryd.prog 20 #[.string ⟨#[]⟩, .agg #[.int .i64 0, .int .i64 0, .int .i64 0, .int .i64 0, .int .i64 0, .int .i64 0], .agg #[.int .i64 0, .int .i64 0, .int .i64 0, .int .i64 0, .int .i64 0, .int .i64 0], .string (strB D), .int .i64 fi] w4 fun e w' => e = .returned (.string (strB D)) ∧ Below w4.heap.size w4 w') := Lib.hid (by
    have h := joinT_any [] (wtk l) ⟨0, 0, 0, 0, 0, 0, false⟩ 0 W.heap.size w4 hT4.out (by omega) (by unfold rok sOk qz; simp) qz_bd (by show (0 : Int) ≤ _; omega) htg.out hne'.out (by simp) rfl (by omega) (by rw [HD.out]; simp [tokB]; omega) qz rfl fi HFI.out.symm
    rw [HD.out] at h
    refine Calls.mono (show Calls Tryd.prog 20 #[.string ⟨#[]⟩, .agg #[.int .i64 0, .int .i64 0, .int .i64 0, .int .i64 0, .int .i64 0, .int .i64 0], .agg #[.int .i64 0, .int .i64 0, .int .i64 0, .int .i64 0, .int .i64 0, .int .i64 0], .string (strB D), .int .i64 fi] w4 _ from h) ?_
    rintro e w' ⟨toks, hj, rfl, hb⟩
    rw [hj.zero rfl rfl, HD.out]
    exact ⟨rfl, hb⟩)
  generalize strB D = T at *
  go_wp2_with fail
  refine hcall.out.mono ?_
  rintro e w5 ⟨rfl, hb5⟩
  have B5 := Lib.hid (bthen B4.out hb5)
  clear hb5
  go_wp2_with fail
  go_ret
  exact ⟨by simp, B5.out⟩

theorem fnJoinNothing_wrow (os : Os) {H : Type} (enc : TypeId × Value → H) :
    (Rows.OpenSpec.upto Rows.fnJoinNothingSpec).preRow enc Tryd.prog Tryd.f9 Rows.fnJoinNothingUptoRow.domain false Rows.fnJoinNothingUptoRow.laid ((laidWorld os).forCall (fun _ _ => 0) ⟨#[], #[.slice none 0 0], []⟩).memory #[.slice none 0 0] := by
  have hw : ((DataW.whole enc Tryd.prog ((laidWorld os).forCall (fun _ _ => 0) ⟨#[], #[.slice none 0 0], []⟩).memory Tryd.f9.params.toList (Rows.OpenSpec.upto Rows.fnJoinNothingSpec).vars false (#[.slice none 0 0] : Array Value).toList 8).map (fun x => (x.1, x.2.1))) =
      some ([.nil], []) := by kernel_rfl
  obtain ⟨⟨x1, x2, x3⟩, hx, hx1⟩ := Option.map_eq_some_iff.1 hw
  simp only [Prod.mk.injEq] at hx1
  obtain ⟨rfl, rfl⟩ := hx1
  exact OpenSpec.preRow_of_cond 8 hx (by kernel_rfl) (fun k hk => by cases hk; kernel_rfl) (by kernel_rfl) (laid_met os _)

set_option maxRecDepth 100000 in
theorem fnJoinNothing_lifted (os : Os) (started : os.Started) (H : Type) (enc : TypeId × Value → H) (F : Stop.Interp) :
    ReturnsInHanded {} Tryd.checked os 9 .any ((Rows.OpenSpec.upto Rows.fnJoinNothingSpec).preRow enc Tryd.prog Tryd.f9 Rows.fnJoinNothingUptoRow.domain false Rows.fnJoinNothingUptoRow.laid) (((Rows.OpenSpec.upto Rows.fnJoinNothingSpec).at F).post enc Tryd.prog Tryd.f9 false true false false) := by
  refine returnsInHanded_of_row (C := Tryd.checked) (s := Rows.OpenSpec.upto Rows.fnJoinNothingSpec) own started (by kernel_rfl) Tryd.func9
    (witness_row_atRef (enc := enc) (C := Tryd.checked) false (laidWorld os) #[.slice none 0 0] rfl (by kernel_rfl) (by kernel_rfl) (by kernel_rfl) (fnJoinNothing_wrow os enc)) ?_
  intro W base args ds gs before hval0 hW _ hcond hsz0 hL _ _
  have hT : B64 W.heap.size W := b64_of_laid hL
  have hval : ∀ (j : Nat) t v, Tryd.f9.params[j]? = some t → args[j]? = some v → Value.okWide Tryd.prog W .any base t v := hval0
  have hW' := hW
  obtain ⟨p, q, hA0, hV, rfl, hfz, hnd⟩ := hW
  have hA : DataW.TrodAll enc Tryd.prog W 0 (fun _ => true) true Tryd.f9.params.toList args.toList ds p := hA0
  rw [Tryd.params9] at hA hval
  obtain ⟨v0, vs0, d0, ds0, p0, q0, hargs, rfl, rfl, h0, r0⟩ := trodAll_cons hA
  obtain ⟨rfl, rfl, rfl⟩ := trodAll_nil r0
  obtain rfl : args = #[v0] := by cases args; simp_all
  obtain ⟨a0, n0, c0, z0, rfl, k0, b0, e0⟩ := open_rows5 Tryd.underlying54 Tryd.underlying57 Tryd.underlying3 (by kernel_rfl) (by kernel_rfl) (hval 0 54 v0 rfl rfl) h0
  have hbk : Rows.uptoBulkAll _ ≤ 1048576 := of_decide_eq_true (hcond _ rfl)
  simp [Rows.uptoBulkAll] at hbk
  refine (fnJoinNothing_walk W a0 n0 c0 z0 k0 e0 (by omega) hT).mono fun e W' ⟨he, hb⟩ => ⟨_, he, ?_⟩
  exact law_post (s := Rows.fnJoinNothingSpec) (f := Tryd.f9) (tb := 4) (by kernel_rfl) (by kernel_rfl) (by kernel_rfl) Tryd.underlying4 rfl (fun ds h => by rw [Tryd.params9] at h; match ds, h with | [_], _ => rfl) hW' hb

theorem fnJoinNothing_said : Rows.FnJoinNothingUptoSaid :=
  OpenClaim.holds_of_cond 9 Tryd.f9 rfl rfl rfl rfl rfl rfl rfl ⟨rfl, rfl, rfl, rfl, rfl⟩ rfl rfl rfl rfl rfl (by kernel_rfl) Tryd.func9 (by kernel_rfl)
    (of_decide_eq_true (by kernel_rfl)) (by unfold Func.isWrapper; first | (rw [if_pos (by decide +kernel)]; kernel_rfl) | (rw [if_neg (by decide +kernel)]; exact ⟨rfl, rfl⟩))
    (fun os started H enc _ F => by rw [OpenClaim.pre_eq_preRow]; exact fnJoinNothing_lifted os started H enc F)

theorem fnJoinNothing_plain (f : FuncId) (fn : Func) (hf : Tryd.pinned.checked.prog.funcNamed "mapthread/laws.FnJoinNothing" = some f) (hfn : Tryd.pinned.checked.prog.funcs[f]? = some fn) :
    false = Tryd.pinned.checked.prog.looks [] ∧ ∀ (j : Nat) t, fn.params[j]? = some t → Tryd.pinned.checked.prog.wantsStandIn t = false := by
  obtain rfl : f = 9 := Option.some.inj ((show Tryd.prog.funcNamed "mapthread/laws.FnJoinNothing" = some 9 by kernel_rfl).symm.trans hf) |>.symm
  obtain rfl : fn = Tryd.f9 := (Option.some.inj (Tryd.func9.symm.trans hfn)).symm
  refine ⟨by kernel_rfl, fun j t ht => ?_⟩
  rw [Tryd.params9] at ht
  have hm := Array.mem_of_getElem? ht
  simp at hm
  subst hm
  exact (show Tryd.prog.wantsStandIn 54 = false by kernel_rfl)

theorem fnJoinNothingUpto_card : Rows.FnJoinNothingUptoCardSaid :=
  Claim7.holds_tied_plain_at .later [] _ _ _ _ fnJoinNothing_said (fun _ h => by cases h) (by kernel_rfl) (fun _ h => by cases h) fnJoinNothingUpto_row_tie rfl ⟨rfl, rfl⟩ (by kernel_rfl) rfl fnJoinNothing_plain (by kernel_rfl)
#print axioms fnJoinNothingUpto_card
end Go.Proofs.YtnokiikgnplpmaaDoor

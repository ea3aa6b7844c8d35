/-
  laws.FnLonger returns true for every input: digits 0 more at a number's end change nothing but where it ends. Conditions: the table of signs lies in its variable.
-/
import Derived.Test.YtahfnlhpodbbaaaDoorNumLaw
import Derived.Test.YtahfnlhpodbbaaaDoorLaidKit
namespace Go.Proofs.YtahfnlhpodbbaaaDoor
open Go.RowKit Go.ChangeShapes Go.WideShapes Go.ChangeAt

theorem fnLonger_walk (n k : Int) (_ : (Lit.int .i64 n).wf = true) (_ : (Lit.int .i64 k).wf = true) (w : World) (hT : B64 w.heap.size w) :
    Calls Tryd.prog 3 #[.int .i64 n, .int .i64 k] w fun e w' => e = .returned (.bool true) ∧ Below w.heap.size w w' := by
  have hn := tmod_abs n 32768 (by decide)
  have hk := place_in k 3 (by decide)
  go_enter Tryd.func3, Tryd.ntmps3
  go_wp2_with fail
  refine (place_any k 3 w (by decide) (by decide)).mono ?_
  rintro e w1 ⟨rfl, rfl⟩
  generalize n.tmod 32768 = n1 at *
  generalize (k.tmod 3 + 3) % 3 = k1 at *
  go_wp2_with fail
  refine (number_any n1 k1 w1 (by omega) (by omega) (by omega) (by omega)).mono ?_
  rintro e w2 ⟨rfl, rfl⟩
  obtain ⟨l, d, e1, hd, hl, hlen, hv⟩ := digs_all n1 k1.toNat (by omega) (by omega) (by omega)
  rw [e1]
  have hsz := tx_size (l ++ [d])
  have hall : ∀ y ∈ l ++ [d], y < 64 := by
    intro y hy
    rcases List.mem_append.1 hy with h | h
    · exact (hl y h).2
    · simp at h; omega
  have hdg := tx_digit (l ++ [d]) hall
  generalize tx (l ++ [d]) = s at *
  simp at hsz
  clear e1
  go_wp2_with fail
  refine (dec_any s 0 w2.heap.size l d w2 hT (Nat.le_refl _) (by omega) (by omega) (fun j h => by rw [Nat.zero_add]; exact hdg j h) hl hd (by omega)).mono ?_
  rintro e w3 ⟨rfl, hb⟩
  rw [hv]
  clear hdg hall hl
  have H := Lib.hid hb
  clear hb
  have hs2 : (s.size : Int) = ((0 + l.length + 1 : Nat) : Int) := by omega
  go_wp2_with fail
  go_ret
  exact ⟨by simp, H.out⟩

theorem fnLonger_wrow (os : Os) {H : Type} (enc : TypeId × Value → H) :
    (OpenSpec.ofChange Rows.fnLongerSpec).preRow enc Tryd.prog Tryd.f3 Rows.fnLongerRow.domain false Rows.fnLongerRow.laid ((laidWorld os).forCall (fun _ _ => 0) ⟨#[], #[.int .i64 0, .int .i64 0], []⟩).memory #[.int .i64 0, .int .i64 0] := by
  have hw : ((DataW.whole enc Tryd.prog ((laidWorld os).forCall (fun _ _ => 0) ⟨#[], #[.int .i64 0, .int .i64 0], []⟩).memory Tryd.f3.params.toList (OpenSpec.ofChange Rows.fnLongerSpec).vars false (#[.int .i64 0, .int .i64 0] : Array Value).toList 8).map (fun x => (x.1, x.2.1))) =
      some ([.lit (.int .i64 0), .lit (.int .i64 0)], []) := by kernel_rfl
  obtain ⟨⟨x1, x2, x3⟩, hx, hx1⟩ := Option.map_eq_some_iff.1 hw
  simp only [Prod.mk.injEq] at hx1
  obtain ⟨rfl, rfl⟩ := hx1
  exact OpenSpec.preRow_of_cond 8 hx (by kernel_rfl) (fun k hk => by cases hk) (by kernel_rfl) (laid_met os _)

set_option maxRecDepth 100000 in
theorem fnLonger_lifted (os : Os) (started : os.Started) (H : Type) (enc : TypeId × Value → H) (F : Stop.Interp) :
    ReturnsInHanded {} Tryd.checked os 3 .any ((OpenSpec.ofChange Rows.fnLongerSpec).preRow enc Tryd.prog Tryd.f3 Rows.fnLongerRow.domain false Rows.fnLongerRow.laid) (((OpenSpec.ofChange Rows.fnLongerSpec).at F).post enc Tryd.prog Tryd.f3 false true false false) := by
  refine returnsInHanded_of_row (C := Tryd.checked) (s := OpenSpec.ofChange Rows.fnLongerSpec) own started (by kernel_rfl) Tryd.func3
    (witness_row_atRef (enc := enc) (C := Tryd.checked) false (laidWorld os) #[.int .i64 0, .int .i64 0] rfl (by kernel_rfl) (by kernel_rfl) (by kernel_rfl) (fnLonger_wrow os enc)) ?_
  intro W base args ds gs before hval0 hW _ hcond hsz0 hL _ _
  have hT : B64 W.heap.size W := b64_of_laid hL
  have hval : ∀ (j : Nat) t v, Tryd.f3.params[j]? = some t → args[j]? = some v → Value.okWide Tryd.prog W .any base t v := hval0
  have hW' := hW
  obtain ⟨p, q, hA0, hV, rfl, hfz, hnd⟩ := hW
  have hA : DataW.TrodAll enc Tryd.prog W 0 (fun _ => true) true Tryd.f3.params.toList args.toList ds p := hA0
  rw [Tryd.params3] at hA hval
  obtain ⟨v0, vs0, d0, ds0, p0, q0, hargs, rfl, rfl, h0, r0⟩ := trodAll_cons hA
  obtain ⟨v1, vs1, d1, ds1, p1, q1, rfl, rfl, rfl, h1, r1⟩ := trodAll_cons r0
  obtain ⟨rfl, rfl, rfl⟩ := trodAll_nil r1
  obtain rfl : args = #[v0, v1] := by cases args; simp_all
  obtain ⟨a0, rfl, rfl, rfl, w0⟩ := open_int Tryd.underlying3 (hval 0 3 v0 rfl rfl) h0
  obtain ⟨a1, rfl, rfl, rfl, w1⟩ := open_int Tryd.underlying3 (hval 1 3 v1 rfl rfl) h1
  refine (fnLonger_walk a0 a1 w0 w1 W hT).mono fun e W' ⟨he, hb⟩ => ⟨_, he, ?_⟩
  exact law_post (s := Rows.fnLongerSpec) (f := Tryd.f3) (tb := 4) (by kernel_rfl) (by kernel_rfl) (by kernel_rfl) Tryd.underlying4 rfl (fun ds h => by rw [Tryd.params3] at h; match ds, h with | [_, _], _ => rfl) hW' hb

theorem fnLonger_said : Rows.FnLongerSaid :=
  OpenClaim.holds_of_cond 3 Tryd.f3 rfl rfl rfl rfl rfl rfl rfl ⟨rfl, rfl, rfl, rfl, rfl⟩ rfl rfl rfl rfl rfl (by kernel_rfl) Tryd.func3 (by kernel_rfl)
    (of_decide_eq_true (by kernel_rfl)) (by unfold Func.isWrapper; first | (rw [if_pos (by decide +kernel)]; kernel_rfl) | (rw [if_neg (by decide +kernel)]; exact ⟨rfl, rfl⟩))
    (fun os started H enc _ F => by rw [OpenClaim.pre_eq_preRow]; exact fnLonger_lifted os started H enc F)

theorem fnLonger_plain (f : FuncId) (fn : Func) (hf : Tryd.pinned.checked.prog.funcNamed "mapthread/laws.FnLonger" = some f) (hfn : Tryd.pinned.checked.prog.funcs[f]? = some fn) :
    false = Tryd.pinned.checked.prog.looks [] ∧ ∀ (j : Nat) t, fn.params[j]? = some t → Tryd.pinned.checked.prog.wantsStandIn t = false := by
  obtain rfl : f = 3 := Option.some.inj ((show Tryd.prog.funcNamed "mapthread/laws.FnLonger" = some 3 by kernel_rfl).symm.trans hf) |>.symm
  obtain rfl : fn = Tryd.f3 := (Option.some.inj (Tryd.func3.symm.trans hfn)).symm
  refine ⟨by kernel_rfl, fun j t ht => ?_⟩
  rw [Tryd.params3] at ht
  have hm := Array.mem_of_getElem? ht
  simp at hm
  subst hm
  exact (show Tryd.prog.wantsStandIn 3 = false by kernel_rfl)

theorem fnLonger_card : Rows.FnLongerCardSaid :=
  Claim7.holds_tied_plain_at .later [] _ _ _ _ fnLonger_said (fun _ h => by cases h) (by kernel_rfl) (fun _ h => by cases h) fnLonger_row_tie rfl ⟨rfl, rfl⟩ (by kernel_rfl) rfl fnLonger_plain (by kernel_rfl)
#print axioms fnLonger_card
end Go.Proofs.YtahfnlhpodbbaaaDoor

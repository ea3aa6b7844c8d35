/-
  laws.FnNumber returns true for every input: what is read of a number's text, whatever stands ahead of it and behind it, is the number, and where it ends. Conditions: the table of signs lies in its variable.
-/
import Derived.Test.YtahfnlhpodbbaaaDoorNumLaw
import Derived.Test.YtahfnlhpodbbaaaDoorLaidKit
import Derived.ChangeMaps
namespace Go.Proofs.YtahfnlhpodbbaaaDoor
open Go.RowKit Go.ChangeShapes Go.WideShapes Go.ChangeAt

theorem cat_mid (x y z : ByteArray) (j : Nat) (h : j < y.size) : ((x ++ y ++ z).data.toList.getD (x.size + j) 0).toNat = (y.data.toList.getD j 0).toNat := by
  have h1 : x.data.toList.length = x.size := by rw [Array.length_toList]; rfl
  have h2 : y.data.toList.length = y.size := by rw [Array.length_toList]; rfl
  have e : (x ++ y ++ z).data.toList = x.data.toList ++ y.data.toList ++ z.data.toList := by simp
  rw [e, List.getD_eq_getElem?_getD, List.getD_eq_getElem?_getD, List.getElem?_append_left (by simp; omega), List.getElem?_append_right (by omega), h1, Nat.add_sub_cancel_left]

theorem fnNumber_walk (n : Int) (f b : ByteArray) (_ : (Lit.int .i64 n).wf = true) (hf : f.size ≤ 140737488351232) (hb : b.size ≤ 140737488351232) (w : World) (hT : B64 w.heap.size w) :
    Calls Tryd.prog 4 #[.int .i64 n, .string f, .string b] w fun e w' => e = .returned (.bool true) ∧ Below w.heap.size w w' := by
  have ks : ∀ (W : World) (x y : ByteArray), x.size + y.size ≤ 9223372036854775807 → (Op.stringOp .add x y).run Tryd.prog W = .ok (.string (x ++ y)) W := fun W x y h => run_string_add_sum W x y h
  have hn := tmod_abs n 1073741824 (by decide)
  go_enter Tryd.func4, Tryd.ntmps4
  go_wp2_with fail
  refine (fit_any n w).mono ?_
  rintro e w1 ⟨rfl, rfl⟩
  generalize n.tmod 1073741824 = n1 at *
  go_wp2_with fail
  refine (number_any n1 0 w1 (by omega) (by omega) (by omega) (by omega)).mono ?_
  rintro e w2 ⟨rfl, rfl⟩
  obtain ⟨l, d, e1, hd, hl, hlen, hv⟩ := digs_all n1 0 (by omega) (by omega) (by omega)
  rw [show (0 : Int).toNat = 0 from rfl, e1]
  have hsz := tx_size (l ++ [d])
  have hall : ∀ y ∈ l ++ [d], y < 64 := by
    intro y hy
    rcases List.mem_append.1 hy with h | h
    · exact (hl y h).2
    · simp at h; omega
  have hdg := tx_digit (l ++ [d]) hall
  generalize tx (l ++ [d]) = s at *
  have hdg2 : ∀ j (h : j < (l ++ [d]).length), ((f ++ s ++ b).data.toList.getD (f.size + j) 0).toNat = sg ((l ++ [d])[j]) := fun j h => by rw [cat_mid f s b j (by omega)]; exact hdg j h
  simp at hsz
  have hz : (f ++ s ++ b).size = f.size + s.size + b.size := by simp
  clear e1 hdg
  have hz2 : (f ++ s).size = f.size + s.size := by simp
  go_wp2_with fail
  generalize f ++ s ++ b = x at *
  refine (dec_any x f.size w2.heap.size l d w2 hT (Nat.le_refl _) (by omega) (by omega) hdg2 hl hd (by omega)).mono ?_
  rintro e w3 ⟨rfl, hb⟩
  rw [hv]
  clear hdg2 hall hl
  have H := Lib.hid hb
  clear hb
  go_wp2_with fail
  go_ret
  exact ⟨by simp; omega, H.out⟩

theorem fnNumber_wrow (os : Os) {H : Type} (enc : TypeId × Value → H) :
    (OpenSpec.ofChange Rows.fnNumberSpec).preRow enc Tryd.prog Tryd.f4 Rows.fnNumberRow.domain false Rows.fnNumberRow.laid ((laidWorld os).forCall (fun _ _ => 0) ⟨#[], #[.int .i64 0, .string ⟨#[]⟩, .string ⟨#[]⟩], []⟩).memory #[.int .i64 0, .string ⟨#[]⟩, .string ⟨#[]⟩] := by
  have hw : ((DataW.whole enc Tryd.prog ((laidWorld os).forCall (fun _ _ => 0) ⟨#[], #[.int .i64 0, .string ⟨#[]⟩, .string ⟨#[]⟩], []⟩).memory Tryd.f4.params.toList (OpenSpec.ofChange Rows.fnNumberSpec).vars false (#[.int .i64 0, .string ⟨#[]⟩, .string ⟨#[]⟩] : Array Value).toList 8).map (fun x => (x.1, x.2.1))) =
      some ([.lit (.int .i64 0), .lit (.string []), .lit (.string [])], []) := by kernel_rfl
  obtain ⟨⟨x1, x2, x3⟩, hx, hx1⟩ := Option.map_eq_some_iff.1 hw
  simp only [Prod.mk.injEq] at hx1
  obtain ⟨rfl, rfl⟩ := hx1
  exact OpenSpec.preRow_of_cond 8 hx (by kernel_rfl) (fun k hk => by cases hk) (by kernel_rfl) (laid_met os _)

set_option maxRecDepth 100000 in
theorem fnNumber_lifted (os : Os) (started : os.Started) (H : Type) (enc : TypeId × Value → H) (F : Stop.Interp) :
    ReturnsInHanded {} Tryd.checked os 4 .any ((OpenSpec.ofChange Rows.fnNumberSpec).preRow enc Tryd.prog Tryd.f4 Rows.fnNumberRow.domain false Rows.fnNumberRow.laid) (((OpenSpec.ofChange Rows.fnNumberSpec).at F).post enc Tryd.prog Tryd.f4 false true false false) := by
  refine returnsInHanded_of_row (C := Tryd.checked) (s := OpenSpec.ofChange Rows.fnNumberSpec) own started (by kernel_rfl) Tryd.func4
    (witness_row_atRef (enc := enc) (C := Tryd.checked) false (laidWorld os) #[.int .i64 0, .string ⟨#[]⟩, .string ⟨#[]⟩] rfl (by kernel_rfl) (by kernel_rfl) (by kernel_rfl) (fnNumber_wrow os enc)) ?_
  intro W base args ds gs before hval0 hW _ hcond hsz0 hL _ _
  have hT : B64 W.heap.size W := b64_of_laid hL
  have hval : ∀ (j : Nat) t v, Tryd.f4.params[j]? = some t → args[j]? = some v → Value.okWide Tryd.prog W .any base t v := hval0
  have hW' := hW
  obtain ⟨p, q, hA0, hV, rfl, hfz, hnd⟩ := hW
  have hA : DataW.TrodAll enc Tryd.prog W 0 (fun _ => true) true Tryd.f4.params.toList args.toList ds p := hA0
  have hsz : (DataW.weightsEach Tryd.prog (Tryd.f4.params.toList ++ (OpenSpec.ofChange Rows.fnNumberSpec).bare.plain.varTypes Tryd.prog) (ds ++ gs)).all (· ≤ reachBytes) = true := hsz0
  rw [Tryd.params4] at hA hval hsz
  obtain ⟨v0, vs0, d0, ds0, p0, q0, hargs, rfl, rfl, h0, r0⟩ := trodAll_cons hA
  obtain ⟨v1, vs1, d1, ds1, p1, q1, rfl, rfl, rfl, h1, r1⟩ := trodAll_cons r0
  obtain ⟨v2, vs2, d2, ds2, p2, q2, rfl, rfl, rfl, h2, r2⟩ := trodAll_cons r1
  obtain ⟨rfl, rfl, rfl⟩ := trodAll_nil r2
  obtain rfl : args = #[v0, v1, v2] := by cases args; simp_all
  obtain ⟨a0, rfl, rfl, rfl, w0⟩ := open_int Tryd.underlying3 (hval 0 3 v0 rfl rfl) h0
  obtain ⟨a1, rfl, rfl, rfl, w1⟩ := ChangeMaps.open_string Tryd.underlying9 (hval 1 9 v1 rfl rfl) h1
  obtain ⟨a2, rfl, rfl, rfl, w2⟩ := ChangeMaps.open_string Tryd.underlying9 (hval 2 9 v2 rfl rfl) h2
  have s1 : a1.size ≤ 140737488351232 := by have h := sized_string hsz (j := 1) (t := 9) rfl rfl; simpa [reachBytes] using h
  have s2 : a2.size ≤ 140737488351232 := by have h := sized_string hsz (j := 2) (t := 9) rfl rfl; simpa [reachBytes] using h
  refine (fnNumber_walk a0 a1 a2 w0 s1 s2 W hT).mono fun e W' ⟨he, hb⟩ => ⟨_, he, ?_⟩
  exact law_post (s := Rows.fnNumberSpec) (f := Tryd.f4) (tb := 4) (by kernel_rfl) (by kernel_rfl) (by kernel_rfl) Tryd.underlying4 rfl (fun ds h => by rw [Tryd.params4] at h; match ds, h with | [_, _, _], _ => rfl) hW' hb

theorem fnNumber_said : Rows.FnNumberSaid :=
  OpenClaim.holds_of_cond 4 Tryd.f4 rfl rfl rfl rfl rfl rfl rfl ⟨rfl, rfl, rfl, rfl, rfl⟩ rfl rfl rfl rfl rfl (by kernel_rfl) Tryd.func4 (by kernel_rfl)
    (of_decide_eq_true (by kernel_rfl)) (by unfold Func.isWrapper; first | (rw [if_pos (by decide +kernel)]; kernel_rfl) | (rw [if_neg (by decide +kernel)]; exact ⟨rfl, rfl⟩))
    (fun os started H enc _ F => by rw [OpenClaim.pre_eq_preRow]; exact fnNumber_lifted os started H enc F)

theorem fnNumber_plain (f : FuncId) (fn : Func) (hf : Tryd.pinned.checked.prog.funcNamed "mapthread/laws.FnNumber" = some f) (hfn : Tryd.pinned.checked.prog.funcs[f]? = some fn) :
    false = Tryd.pinned.checked.prog.looks [] ∧ ∀ (j : Nat) t, fn.params[j]? = some t → Tryd.pinned.checked.prog.wantsStandIn t = false := by
  obtain rfl : f = 4 := Option.some.inj ((show Tryd.prog.funcNamed "mapthread/laws.FnNumber" = some 4 by kernel_rfl).symm.trans hf) |>.symm
  obtain rfl : fn = Tryd.f4 := (Option.some.inj (Tryd.func4.symm.trans hfn)).symm
  refine ⟨by kernel_rfl, fun j t ht => ?_⟩
  rw [Tryd.params4] at ht
  have hm := Array.mem_of_getElem? ht
  simp at hm
  rcases hm with rfl | rfl
  · exact (show Tryd.prog.wantsStandIn 3 = false by kernel_rfl)
  · exact (show Tryd.prog.wantsStandIn 9 = false by kernel_rfl)

theorem fnNumber_card : Rows.FnNumberCardSaid :=
  Claim7.holds_tied_plain_at .later [] _ _ _ _ fnNumber_said (fun _ h => by cases h) (by kernel_rfl) (fun _ h => by cases h) fnNumber_row_tie rfl ⟨rfl, rfl⟩ (by kernel_rfl) rfl fnNumber_plain (by kernel_rfl)
#print axioms fnNumber_card
end Go.Proofs.YtahfnlhpodbbaaaDoor

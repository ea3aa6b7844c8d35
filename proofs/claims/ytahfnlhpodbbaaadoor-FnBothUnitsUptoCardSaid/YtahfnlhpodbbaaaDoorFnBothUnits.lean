/-
  laws.FnBothUnits returns true where the text behind the number is of at most 1048576 bytes: both ways to read a number give the same. Conditions: the table of signs lies in its variable.
-/
import Derived.Test.YtahfnlhpodbbaaaDoorFnUnits
import Derived.Test.YtahfnlhpodbbaaaDoorFnNumber
namespace Go.Proofs.YtahfnlhpodbbaaaDoor
open Go.RowKit Go.ChangeShapes Go.WideShapes Go.ChangeAt

theorem own_below {w W : World} {base n : Nat} {v : Value} {xs : List Value} {t : TypeId} (h : w.ownsRow base t 1 v n xs) (hb : Below w.heap.size w W) : W.ownsRow base t 1 v n xs :=
  h.kept (Kep.to_grown (row := none) (Kep.of_below hb)) (by
    cases e : v.ownBlock with
    | none => exact .inl rfl
    | some k => exact .inr (by simp))

set_option maxHeartbeats 1000000 in
set_option maxRecDepth 100000 in
theorem fnBothUnits_walk (n : Int) (b : ByteArray) (_ : (Lit.int .i64 n).wf = true) (hbz : b.size ≤ 1048576) (w : World) (hT : B64 w.heap.size w) :
    Calls Tryd.prog 9 #[.int .i64 n, .string b] w fun e w' => e = .returned (.bool true) ∧ Below w.heap.size w w' := by
  have ks : ∀ (W : World) (x y : ByteArray), x.size + y.size ≤ 9223372036854775807 → (Op.stringOp .add x y).run Tryd.prog W = .ok (.string (x ++ y)) W := fun W x y h => run_string_add_sum W x y h
  obtain ⟨i0, hi0, hz0, hz1, hz2⟩ := info_parts info_u16
  have hn := tmod_abs n 1073741824 (by decide)
  go_enter Tryd.func9, Tryd.ntmps9
  go_wp2_with fail
  refine (fit_any n w).mono ?_
  rintro e w1 ⟨rfl, hw1⟩
  obtain rfl := hw1.symm
  generalize n.tmod 1073741824 = n1 at *
  go_wp2_with fail
  refine (number_any n1 0 w (by omega) (by omega) (by omega) (by omega)).mono ?_
  rintro e w1 ⟨rfl, hw1⟩
  obtain rfl := hw1.symm
  obtain ⟨l, d, e1, hd, hl, hlen, hv, hv2⟩ := digs_30 n1 (by omega) (by omega)
  rw [show (0 : Int).toNat = 0 from rfl, e1]
  have hsz := tx_size (l ++ [d])
  have hall : ∀ y ∈ l ++ [d], y < 64 := by
    intro y hy
    rcases List.mem_append.1 hy with h | h
    · exact (hl y h).2
    · simp at h; omega
  simp at hsz
  clear e1
  have hu2 := u16c_tx (l ++ [d]) hall
  have hdg := tx_digit (l ++ [d]) hall
  have hul : (u16c (tx (l ++ [d])).data.toList).length = l.length + 1 := by rw [u16c_len, Array.length_toList]; exact hsz
  generalize tx (l ++ [d]) = s at *
  have hdg2 : ∀ j (h : j < (l ++ [d]).length), ((s ++ b).data.toList.getD (0 + j) 0).toNat = sg ((l ++ [d])[j]) := fun j h => by
    have h1 : s.data.toList.length = s.size := by rw [Array.length_toList]; rfl
    have e : (s ++ b).data.toList = s.data.toList ++ b.data.toList := by simp
    rw [Nat.zero_add, e, List.getD_eq_getElem?_getD, List.getElem?_append_left (by simp at h; omega), ← List.getD_eq_getElem?_getD]
    exact hdg j h
  have hz3 : (s ++ b).size = s.size + b.size := by simp
  clear hdg
  go_wp2_with fail
  generalize s ++ b = x at *
  refine (dec_any x 0 w.heap.size l d w hT (Nat.le_refl _) (by omega) (by omega) hdg2 hl hd (by omega)).mono ?_
  rintro e w1 ⟨rfl, hb1⟩
  rw [hv]
  have h23 := hT.below hb1
  clear hdg2
  go_wp2_with fail
  refine (units_any s w1 (by omega)).mono ?_
  rintro e w2 ⟨v1, rfl, ho1, hb2⟩
  rw [hsz] at ho1
  go_wp2_with fail
  refine (units_any b w2 (by omega)).mono ?_
  rintro e w3 ⟨v2, rfl, ho2, hb3⟩
  have ho1' := own_below ho1 hb3
  have hb03 : Below w.heap.size w w3 := (hb1.trans (hb2.mono hb1.size)).trans (hb3.mono (Nat.le_trans hb1.size hb2.size))
  have hs1 := hb1.size
  have hs2 := hb2.size
  have hs3 := hb3.size
  have hbl : (u16c b.data.toList).length = b.size := by rw [u16c_len, Array.length_toList]; rfl
  have key : ∀ v W, W.ownsRow w1.heap.size 35 1 v (l.length + 1 + b.size) (u16c s.data.toList ++ u16c b.data.toList) → Below w.heap.size w W → Calls Tryd.prog 14 #[v] W fun e w' => e = .returned (.tuple #[.int .i64 n1, .int .i64 ((l.length + 1 : Nat) : Int), .bool true]) ∧ ∃ m, w' = W.drewN m :=
    fun v W ho hb => by
      have := own16 _ _ w.heap.size v _ W (hT.below hb) ho (by omega) l (some d) (by simp) (fun h => by cases h) (fun j h => by
        rw [List.getElem?_append_left (by rw [hul]; simpa using h)]
        exact hu2 j h) hl (fun d h => by cases h; omega) hlen hv2
      rw [read64_some hv] at this
      exact this
  have Key := Lib.hid key
  have HB := Lib.hid hb03
  clear key hT h23 hu2 hb1 hb2 hb3 hb03 ho1
  rcases own_cells ho2 with ⟨rfl, h0⟩ | ⟨g, cap, rfl, hg1, hg2, hcell⟩
  · have hx0 : u16c b.data.toList = [] := List.length_eq_zero_iff.1 (by omega)
    go_wp2_with (at_builtin; refine wpList_append_own_none rfl (.tmp 23) (.tmp 25) _ rfl w1.heap.size 35 i0 1 Tryd.underlying33 hi0 v1 (l.length + 1) _ rfl ho1' rfl ?_)
    refine (Key.out _ _ (by rw [hx0, h0]; simpa using ho1') HB.out).mono ?_
    rintro e w5 ⟨rfl, m, rfl⟩
    have HB3 := Lib.hid (below_drewN (m := m) HB.out)
    generalize w3.drewN m = w5 at *
    go_wp2_with fail
    go_ret
    exact ⟨by simp, HB3.out⟩
  · go_wp2_with (at_builtin; refine wpList_append_own_at _ rfl (.tmp 23) (.tmp 25) _ rfl w1.heap.size 35 i0 _ 1 2 Tryd.underlying33 hi0 hz0 hz1 hz2 rfl (by omega) v1 (l.length + 1) _ rfl ho1' ⟨g, 0, none⟩ b.size cap (u16c b.data.toList) rfl (by omega) (fun j u hu => by
      rw [Addr.add_lit, Nat.zero_add, hcell j (by have := (List.getElem?_eq_some_iff.1 hu).1; omega)]; exact hu) (by intro u hu; obtain ⟨z, _, rfl⟩ := List.mem_map.1 hu; rfl) (by unfold maxLen; omega) (by omega) (by omega) ?_; intro v4 w4 hown2 hg2 hnil2 hat2; clear hnil2)
    refine (Key.out _ _ hown2 (below_grown HB.out hg2 (fun k hk => by have := (ho1'.lt k hk).1; omega))).mono ?_
    rintro e w5 ⟨rfl, m, rfl⟩
    have HB3 := Lib.hid (below_drewN (m := m) (below_grown HB.out hg2 (fun k hk => by have := (ho1'.lt k hk).1; omega)))
    generalize w4.drewN m = w5 at *
    go_wp2_with fail
    go_ret
    exact ⟨by simp, HB3.out⟩

theorem fnBothUnits_wrow (os : Os) {H : Type} (enc : TypeId × Value → H) :
    (Rows.OpenSpec.upto Rows.fnBothUnitsSpec).preRow enc Tryd.prog Tryd.f9 Rows.fnBothUnitsUptoRow.domain false Rows.fnBothUnitsUptoRow.laid ((laidWorld os).forCall (fun _ _ => 0) ⟨#[], #[.int .i64 0, .string ⟨#[]⟩], []⟩).memory #[.int .i64 0, .string ⟨#[]⟩] := by
  have hw : ((DataW.whole enc Tryd.prog ((laidWorld os).forCall (fun _ _ => 0) ⟨#[], #[.int .i64 0, .string ⟨#[]⟩], []⟩).memory Tryd.f9.params.toList (Rows.OpenSpec.upto Rows.fnBothUnitsSpec).vars false (#[.int .i64 0, .string ⟨#[]⟩] : Array Value).toList 8).map (fun x => (x.1, x.2.1))) =
      some ([.lit (.int .i64 0), .lit (.string [])], []) := by kernel_rfl
  obtain ⟨⟨x1, x2, x3⟩, hx, hx1⟩ := Option.map_eq_some_iff.1 hw
  simp only [Prod.mk.injEq] at hx1
  obtain ⟨rfl, rfl⟩ := hx1
  exact OpenSpec.preRow_of_cond 8 hx (by kernel_rfl) (fun k hk => by cases hk; kernel_rfl) (by kernel_rfl) (laid_met os _)

set_option maxRecDepth 100000 in
theorem fnBothUnits_lifted (os : Os) (started : os.Started) (H : Type) (enc : TypeId × Value → H) (F : Stop.Interp) :
    ReturnsInHanded {} Tryd.checked os 9 .any ((Rows.OpenSpec.upto Rows.fnBothUnitsSpec).preRow enc Tryd.prog Tryd.f9 Rows.fnBothUnitsUptoRow.domain false Rows.fnBothUnitsUptoRow.laid) (((Rows.OpenSpec.upto Rows.fnBothUnitsSpec).at F).post enc Tryd.prog Tryd.f9 false true false false) := by
  refine returnsInHanded_of_row (C := Tryd.checked) (s := Rows.OpenSpec.upto Rows.fnBothUnitsSpec) own started (by kernel_rfl) Tryd.func9
    (witness_row_atRef (enc := enc) (C := Tryd.checked) false (laidWorld os) #[.int .i64 0, .string ⟨#[]⟩] rfl (by kernel_rfl) (by kernel_rfl) (by kernel_rfl) (fnBothUnits_wrow os enc)) ?_
  intro W base args ds gs before hval0 hW _ hcond hsz0 hL _ _
  have hT : B64 W.heap.size W := b64_of_laid hL
  have hval : ∀ (j : Nat) t v, Tryd.f9.params[j]? = some t → args[j]? = some v → Value.okWide Tryd.prog W .any base t v := hval0
  have hW' := hW
  obtain ⟨p, q, hA0, hV, rfl, hfz, hnd⟩ := hW
  have hA : DataW.TrodAll enc Tryd.prog W 0 (fun _ => true) true Tryd.f9.params.toList args.toList ds p := hA0
  have hsz : (DataW.weightsEach Tryd.prog (Tryd.f9.params.toList ++ (Rows.OpenSpec.upto Rows.fnBothUnitsSpec).bare.plain.varTypes Tryd.prog) (ds ++ gs)).all (· ≤ reachBytes) = true := hsz0
  rw [Tryd.params9] at hA hval hsz
  obtain ⟨v0, vs0, d0, ds0, p0, q0, hargs, rfl, rfl, h0, r0⟩ := trodAll_cons hA
  obtain ⟨v1, vs1, d1, ds1, p1, q1, rfl, rfl, rfl, h1, r1⟩ := trodAll_cons r0
  obtain ⟨rfl, rfl, rfl⟩ := trodAll_nil r1
  obtain rfl : args = #[v0, v1] := by cases args; simp_all
  obtain ⟨a0, rfl, rfl, rfl, w0⟩ := open_int Tryd.underlying3 (hval 0 3 v0 rfl rfl) h0
  obtain ⟨a1, rfl, rfl, rfl, w1⟩ := ChangeMaps.open_string Tryd.underlying9 (hval 1 9 v1 rfl rfl) h1
  have s1 : a1.size ≤ 140737488351232 := by have h := sized_string hsz (j := 1) (t := 9) rfl rfl; simpa [reachBytes] using h
  have hbk : Rows.uptoBulkAll _ ≤ 1048576 := of_decide_eq_true (hcond _ rfl)
  simp [Rows.uptoBulkAll, Rows.uptoBulk] at hbk
  have b1 : a1.size ≤ 1048576 := by have e : a1.data.size = a1.size := rfl; omega
  refine (fnBothUnits_walk a0 a1 w0 b1 W hT).mono fun e W' ⟨he, hb⟩ => ⟨_, he, ?_⟩
  exact law_post (s := Rows.fnBothUnitsSpec) (f := Tryd.f9) (tb := 4) (by kernel_rfl) (by kernel_rfl) (by kernel_rfl) Tryd.underlying4 rfl (fun ds h => by rw [Tryd.params9] at h; match ds, h with | [_, _], _ => rfl) hW' hb

theorem fnBothUnits_said : Rows.FnBothUnitsUptoSaid :=
  OpenClaim.holds_of_cond 9 Tryd.f9 rfl rfl rfl rfl rfl rfl rfl ⟨rfl, rfl, rfl, rfl, rfl⟩ rfl rfl rfl rfl rfl (by kernel_rfl) Tryd.func9 (by kernel_rfl)
    (of_decide_eq_true (by kernel_rfl)) (by unfold Func.isWrapper; first | (rw [if_pos (by decide +kernel)]; kernel_rfl) | (rw [if_neg (by decide +kernel)]; exact ⟨rfl, rfl⟩))
    (fun os started H enc _ F => by rw [OpenClaim.pre_eq_preRow]; exact fnBothUnits_lifted os started H enc F)

theorem fnBothUnits_plain (f : FuncId) (fn : Func) (hf : Tryd.pinned.checked.prog.funcNamed "mapthread/laws.FnBothUnits" = some f) (hfn : Tryd.pinned.checked.prog.funcs[f]? = some fn) :
    false = Tryd.pinned.checked.prog.looks [] ∧ ∀ (j : Nat) t, fn.params[j]? = some t → Tryd.pinned.checked.prog.wantsStandIn t = false := by
  obtain rfl : f = 9 := Option.some.inj ((show Tryd.prog.funcNamed "mapthread/laws.FnBothUnits" = some 9 by kernel_rfl).symm.trans hf) |>.symm
  obtain rfl : fn = Tryd.f9 := (Option.some.inj (Tryd.func9.symm.trans hfn)).symm
  refine ⟨by kernel_rfl, fun j t ht => ?_⟩
  rw [Tryd.params9] at ht
  have hm := Array.mem_of_getElem? ht
  simp at hm
  rcases hm with rfl | rfl
  · exact (show Tryd.prog.wantsStandIn 3 = false by kernel_rfl)
  · exact (show Tryd.prog.wantsStandIn 9 = false by kernel_rfl)

theorem fnBothUnitsUpto_card : Rows.FnBothUnitsUptoCardSaid :=
  Claim7.holds_tied_plain_at .later [] _ _ _ _ fnBothUnits_said (fun _ h => by cases h) (by kernel_rfl) (fun _ h => by cases h) fnBothUnitsUpto_row_tie rfl ⟨rfl, rfl⟩ (by kernel_rfl) rfl fnBothUnits_plain (by kernel_rfl)
#print axioms fnBothUnitsUpto_card
end Go.Proofs.YtahfnlhpodbbaaaDoor

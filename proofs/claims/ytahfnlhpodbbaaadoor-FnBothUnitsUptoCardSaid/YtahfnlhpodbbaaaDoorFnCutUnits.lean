/-
  laws.FnCutUnits returns true for every input: units that break off ahead of a number's last digit are no number. Conditions: the table of signs lies in its variable.
-/
import Derived.Test.YtahfnlhpodbbaaaDoorOwn16
import Derived.Test.YtahfnlhpodbbaaaDoorLaidKit
namespace Go.Proofs.YtahfnlhpodbbaaaDoor
open Go.RowKit Go.ChangeShapes Go.WideShapes Go.ChangeAt

/-- The digits of a number of up to 30 bits: all that a reader of units needs. -/
theorem digs_30 (n : Int) (h1 : -1073741824 < n) (h2 : n < 1073741824) :
    ∃ l d, digs 12 (vl n) 0 = l ++ [d] ∧ d < 32 ∧ (∀ y ∈ l, 32 ≤ y ∧ y < 64) ∧ l.length ≤ 6 ∧ unvl (val (l ++ [d])) = n ∧ val (l ++ [d]) < 2147483648 := by
  have hv : vl n < 2147483648 := by unfold vl; split <;> omega
  have hp : vl n < 32 ^ 13 := Nat.lt_of_lt_of_le hv (by decide)
  obtain ⟨l, d, e, hd, hl⟩ := digs_form 12 (vl n) 0 hp (.inl rfl)
  have hlen := digs_len2 12 (vl n) 0 6 (Nat.lt_of_lt_of_le hv (by decide))
  have hlt := digs_lt 12 (vl n) 0
  have hval := val_digs 12 (vl n) 0 hp
  rw [e] at hlen hlt hval
  refine ⟨l, d, e, hd, fun y hy => ⟨hl y hy, hlt y (by simp [hy])⟩, by simp at hlen; omega, ?_, by rw [hval]; exact hv⟩
  rw [hval, unvl_vl]

theorem read64_some {l : List Nat} {d : Nat} {n : Int} (h : unvl (val (l ++ [d])) = n) : read64 l (some d) = .tuple #[.int .i64 n, .int .i64 ((l.length + 1 : Nat) : Int), .bool true] := by
  rw [← h]
  rfl
theorem tx_extract (l : List Nat) (k : Nat) : (tx l).extract 0 k = tx (l.take k) := by
  unfold tx
  apply ByteArray.ext
  rw [ByteArray.data_extract]
  simp [List.map_take]

theorem u16c_tx (l : List Nat) (hl : ∀ y ∈ l, y < 64) (j : Nat) (h : j < l.length) : (u16c (tx l).data.toList)[j]? = some (.int .u16 (sg l[j] : Int)) := by
  have := sg_mod l[j] (hl _ (List.getElem_mem h))
  simp [u16c, tx, h, this]
theorem u16c_len (l : List UInt8) : (u16c l).length = l.length := by simp [u16c]

set_option maxHeartbeats 1000000 in
set_option maxRecDepth 100000 in
theorem fnCutUnits_walk (n c : Int) (_ : (Lit.int .i64 n).wf = true) (_ : (Lit.int .i64 c).wf = true) (w : World) (hT : B64 w.heap.size w) :
    Calls Tryd.prog 6 #[.int .i64 n, .int .i64 c] w fun e w' => e = .returned (.bool true) ∧ Below w.heap.size w w' := by
  have hn := tmod_abs n 1073741824 (by decide)
  go_enter Tryd.func6, Tryd.ntmps6
  go_wp2_with fail
  refine (fit_any n w).mono ?_
  rintro e w1 ⟨rfl, rfl⟩
  go_wp2_with fail
  refine (number_any (n.tmod 1073741824) 0 w1 (by omega) (by omega) (by omega) (by omega)).mono ?_
  rintro e w2 ⟨rfl, rfl⟩
  obtain ⟨l, d, e1, hd, hl, hlen, hv, hv2⟩ := digs_30 (n.tmod 1073741824) (by omega) (by omega)
  rw [show (0 : Int).toNat = 0 from rfl, e1]
  have hsz := tx_size (l ++ [d])
  have hall : ∀ y ∈ l ++ [d], y < 64 := by
    intro y hy
    rcases List.mem_append.1 hy with h | h
    · exact (hl y h).2
    · simp at h; omega
  simp at hsz
  clear e1
  have hk := place_in c ((l.length : Int) + 1) (by omega)
  obtain ⟨k, hkk⟩ : ∃ k : Nat, (c.tmod ((l.length : Int) + 1) + ((l.length : Int) + 1)) % ((l.length : Int) + 1) = (k : Int) := ⟨_, (Int.toNat_of_nonneg hk.1).symm⟩
  have hk2 := hk.2
  rw [hkk] at hk2
  have hex := tx_extract (l ++ [d]) k
  have htk : (l ++ [d]).take k = l.take k := List.take_append_of_le_length (by omega)
  rw [htk] at hex
  have hs2 := tx_size (l.take k)
  rw [List.length_take, Nat.min_eq_left (by omega)] at hs2
  have hpl := place_any c ((l.length : Int) + 1) w2 (by omega) (by omega)
  rw [hkk] at hpl
  have hu1 := u16c_tx (l.take k) (fun y hy => (hl y (List.mem_of_mem_take hy)).2)
  have hu2 := u16c_tx (l ++ [d]) hall
  have hzz : (tx (l ++ [d])).size = l.length + 1 := hsz
  clear hk hkk
  generalize tx (l.take k) = s2 at *
  generalize tx (l ++ [d]) = s at *
  go_wp2_with fail
  refine hpl.mono ?_
  rintro e w3 ⟨rfl, rfl⟩
  clear hpl
  go_wp2_with fail
  clear hex
  refine (units_any s2 w3 (by omega)).mono ?_
  rintro e w4 ⟨v1, rfl, ho1, hb1⟩
  go_wp2_with fail
  rw [hs2] at ho1
  refine (own16 _ _ w3.heap.size v1 _ w4 (hT.below hb1) ho1 (by omega) (l.take k) none (by simp; omega) (fun _ => by simp; omega) (fun j h => by
    simp only [Option.toList_none, List.append_nil] at h ⊢
    exact hu1 j h) (fun y hy => hl y (List.mem_of_mem_take hy)) (fun d h => by cases h) (by simp; omega) (by
      have h1 := val_pre (l.take k) (l.drop k ++ [d])
      rw [← List.append_assoc, List.take_append_drop] at h1
      simp only [Option.toList_none, List.append_nil]
      omega)).mono ?_
  rintro e w5 ⟨rfl, m, rfl⟩
  unfold read64
  have hb5 : Below w3.heap.size w3 (w4.drewN m) := ⟨hb1.os, hb1.tape, hb1.output, hb1.size, hb1.block⟩
  generalize w4.drewN m = w5 at *
  have hb5s := hb5.size
  have HB := Lib.hid hb5
  have hT5 := hT.below hb5
  clear hb5 hb1 ho1 hu1
  go_wp2_with fail
  refine (units_any s w5 (by omega)).mono ?_
  rintro e w6 ⟨v2, rfl, ho2, hb2⟩
  have hT6 := hT5.below (hb2.mono hb5s)
  have HB2 := Lib.hid (HB.out.trans (hb2.mono hb5s))
  go_wp2_with fail
  rw [hzz] at ho2
  refine (own16 _ _ w3.heap.size v2 _ w6 hT6 ho2 (by omega) l (some d) (by simp) (fun h => by cases h) (fun j h => hu2 j h) hl (fun d h => by cases h; omega) hlen hv2).mono ?_
  rintro e w7 ⟨rfl, m, rfl⟩
  rw [read64_some hv]
  go_wp2_with fail
  refine (fit_any n _).mono ?_
  rintro e w8 ⟨rfl, rfl⟩
  go_wp2_with fail
  go_ret
  have hb := HB2.out
  exact ⟨by simp, hb.os, hb.tape, hb.output, hb.size, hb.block⟩

theorem fnCutUnits_wrow (os : Os) {H : Type} (enc : TypeId × Value → H) :
    (OpenSpec.ofChange Rows.fnCutUnitsSpec).preRow enc Tryd.prog Tryd.f6 Rows.fnCutUnitsRow.domain false Rows.fnCutUnitsRow.laid ((laidWorld os).forCall (fun _ _ => 0) ⟨#[], #[.int .i64 0, .int .i64 0], []⟩).memory #[.int .i64 0, .int .i64 0] := by
  have hw : ((DataW.whole enc Tryd.prog ((laidWorld os).forCall (fun _ _ => 0) ⟨#[], #[.int .i64 0, .int .i64 0], []⟩).memory Tryd.f6.params.toList (OpenSpec.ofChange Rows.fnCutUnitsSpec).vars false (#[.int .i64 0, .int .i64 0] : Array Value).toList 8).map (fun x => (x.1, x.2.1))) =
      some ([.lit (.int .i64 0), .lit (.int .i64 0)], []) := by kernel_rfl
  obtain ⟨⟨x1, x2, x3⟩, hx, hx1⟩ := Option.map_eq_some_iff.1 hw
  simp only [Prod.mk.injEq] at hx1
  obtain ⟨rfl, rfl⟩ := hx1
  exact OpenSpec.preRow_of_cond 8 hx (by kernel_rfl) (fun k hk => by cases hk) (by kernel_rfl) (laid_met os _)

set_option maxRecDepth 100000 in
theorem fnCutUnits_lifted (os : Os) (started : os.Started) (H : Type) (enc : TypeId × Value → H) (F : Stop.Interp) :
    ReturnsInHanded {} Tryd.checked os 6 .any ((OpenSpec.ofChange Rows.fnCutUnitsSpec).preRow enc Tryd.prog Tryd.f6 Rows.fnCutUnitsRow.domain false Rows.fnCutUnitsRow.laid) (((OpenSpec.ofChange Rows.fnCutUnitsSpec).at F).post enc Tryd.prog Tryd.f6 false true false false) := by
  refine returnsInHanded_of_row (C := Tryd.checked) (s := OpenSpec.ofChange Rows.fnCutUnitsSpec) own started (by kernel_rfl) Tryd.func6
    (witness_row_atRef (enc := enc) (C := Tryd.checked) false (laidWorld os) #[.int .i64 0, .int .i64 0] rfl (by kernel_rfl) (by kernel_rfl) (by kernel_rfl) (fnCutUnits_wrow os enc)) ?_
  intro W base args ds gs before hval0 hW _ hcond hsz0 hL _ _
  have hT : B64 W.heap.size W := b64_of_laid hL
  have hval : ∀ (j : Nat) t v, Tryd.f6.params[j]? = some t → args[j]? = some v → Value.okWide Tryd.prog W .any base t v := hval0
  have hW' := hW
  obtain ⟨p, q, hA0, hV, rfl, hfz, hnd⟩ := hW
  have hA : DataW.TrodAll enc Tryd.prog W 0 (fun _ => true) true Tryd.f6.params.toList args.toList ds p := hA0
  rw [Tryd.params6] at hA hval
  obtain ⟨v0, vs0, d0, ds0, p0, q0, hargs, rfl, rfl, h0, r0⟩ := trodAll_cons hA
  obtain ⟨v1, vs1, d1, ds1, p1, q1, rfl, rfl, rfl, h1, r1⟩ := trodAll_cons r0
  obtain ⟨rfl, rfl, rfl⟩ := trodAll_nil r1
  obtain rfl : args = #[v0, v1] := by cases args; simp_all
  obtain ⟨a0, rfl, rfl, rfl, w0⟩ := open_int Tryd.underlying3 (hval 0 3 v0 rfl rfl) h0
  obtain ⟨a1, rfl, rfl, rfl, w1⟩ := open_int Tryd.underlying3 (hval 1 3 v1 rfl rfl) h1
  refine (fnCutUnits_walk a0 a1 w0 w1 W hT).mono fun e W' ⟨he, hb⟩ => ⟨_, he, ?_⟩
  exact law_post (s := Rows.fnCutUnitsSpec) (f := Tryd.f6) (tb := 4) (by kernel_rfl) (by kernel_rfl) (by kernel_rfl) Tryd.underlying4 rfl (fun ds h => by rw [Tryd.params6] at h; match ds, h with | [_, _], _ => rfl) hW' hb

theorem fnCutUnits_said : Rows.FnCutUnitsSaid :=
  OpenClaim.holds_of_cond 6 Tryd.f6 rfl rfl rfl rfl rfl rfl rfl ⟨rfl, rfl, rfl, rfl, rfl⟩ rfl rfl rfl rfl rfl (by kernel_rfl) Tryd.func6 (by kernel_rfl)
    (of_decide_eq_true (by kernel_rfl)) (by unfold Func.isWrapper; first | (rw [if_pos (by decide +kernel)]; kernel_rfl) | (rw [if_neg (by decide +kernel)]; exact ⟨rfl, rfl⟩))
    (fun os started H enc _ F => by rw [OpenClaim.pre_eq_preRow]; exact fnCutUnits_lifted os started H enc F)

theorem fnCutUnits_plain (f : FuncId) (fn : Func) (hf : Tryd.pinned.checked.prog.funcNamed "mapthread/laws.FnCutUnits" = some f) (hfn : Tryd.pinned.checked.prog.funcs[f]? = some fn) :
    false = Tryd.pinned.checked.prog.looks [] ∧ ∀ (j : Nat) t, fn.params[j]? = some t → Tryd.pinned.checked.prog.wantsStandIn t = false := by
  obtain rfl : f = 6 := Option.some.inj ((show Tryd.prog.funcNamed "mapthread/laws.FnCutUnits" = some 6 by kernel_rfl).symm.trans hf) |>.symm
  obtain rfl : fn = Tryd.f6 := (Option.some.inj (Tryd.func6.symm.trans hfn)).symm
  refine ⟨by kernel_rfl, fun j t ht => ?_⟩
  rw [Tryd.params6] at ht
  have hm := Array.mem_of_getElem? ht
  simp at hm
  subst hm
  exact (show Tryd.prog.wantsStandIn 3 = false by kernel_rfl)

theorem fnCutUnits_card : Rows.FnCutUnitsCardSaid :=
  Claim7.holds_tied_plain_at .later [] _ _ _ _ fnCutUnits_said (fun _ h => by cases h) (by kernel_rfl) (fun _ h => by cases h) fnCutUnits_row_tie rfl ⟨rfl, rfl⟩ (by kernel_rfl) rfl fnCutUnits_plain (by kernel_rfl)
#print axioms fnCutUnits_card
end Go.Proofs.YtahfnlhpodbbaaaDoor

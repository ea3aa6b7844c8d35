/-
  laws.FnNumbers returns true for every input: numbers one behind the other are read one after the other. Conditions: the table of signs lies in its variable.
-/
import Derived.Test.YtahfnlhpodbbaaaDoorNumLaw
import Derived.Test.YtahfnlhpodbbaaaDoorLaidKit
import Derived.Test.YtahfnlhpodbbaaaDoorRowKit
namespace Go.Proofs.YtahfnlhpodbbaaaDoor
open Go.RowKit Go.ChangeShapes Go.WideShapes Go.ChangeAt

/-- The digits of numbers, one behind the other. -/
def nums (zs : List Int) : List Nat := zs.flatMap fun z => digs 12 (vl (z.tmod 1073741824)) 0

theorem digs_len7 (z : Int) : (digs 12 (vl (z.tmod 1073741824)) 0).length ≤ 7 := by
  have htm := tmod_abs z 1073741824 (by decide)
  have hv : vl (z.tmod 1073741824) < 2147483648 := by unfold vl; split <;> omega
  have := digs_len2 12 (vl (z.tmod 1073741824)) 0 6 (Nat.lt_of_lt_of_le hv (by decide))
  omega
theorem nums_len (zs : List Int) : (nums zs).length ≤ 7 * zs.length := by
  induction zs with
  | nil => simp [nums]
  | cons z zs ih =>
    have h := digs_len7 z
    have e : nums (z :: zs) = digs 12 (vl (z.tmod 1073741824)) 0 ++ nums zs := by simp [nums]
    rw [e, List.length_append, List.length_cons]
    omega
theorem num_step1 (zs : List Int) (i : Nat) (h : i < zs.length) : tx (nums (zs.take i)) ++ tx (digs 12 (vl (zs[i].tmod 1073741824)) 0) = tx (nums (zs.take (i + 1))) := by
  rw [tx_app, List.take_succ_eq_append_getElem h]
  congr 1
  unfold nums
  rw [List.flatMap_append]
  simp
theorem nums_lt (zs : List Int) : ∀ d ∈ nums zs, d < 64 := by
  intro d hd
  obtain ⟨z, _, h⟩ := List.mem_flatMap.1 hd
  exact digs_lt _ _ _ d h
theorem nums_split (zs : List Int) (i : Nat) (h : i < zs.length) : nums zs = nums (zs.take i) ++ (digs 12 (vl (zs[i].tmod 1073741824)) 0 ++ nums (zs.drop (i + 1))) := by
  have e : zs = zs.take i ++ (zs[i] :: zs.drop (i + 1)) := by rw [List.getElem_cons_drop, List.take_append_drop]
  conv => lhs; rw [e]
  unfold nums
  rw [List.flatMap_append, List.flatMap_cons]
theorem nums_digit (zs : List Int) (i : Nat) (h : i < zs.length) (l : List Nat) (e : digs 12 (vl (zs[i].tmod 1073741824)) 0 = l) (j : Nat) (hj : j < l.length) :
    ((tx (nums zs)).data.toList.getD ((nums (zs.take i)).length + j) 0).toNat = sg l[j] := by
  have hs := nums_split zs i h
  rw [e] at hs
  have hl : (nums (zs.take i)).length + j < (nums zs).length := by rw [hs]; simp; omega
  rw [tx_digit (nums zs) (nums_lt zs) _ hl]
  congr 1
  have : (nums zs)[(nums (zs.take i)).length + j]? = l[j]? := by
    rw [hs, List.getElem?_append_right (by omega), Nat.add_sub_cancel_left, List.getElem?_append_left hj]
  rw [List.getElem?_eq_getElem hl, List.getElem?_eq_getElem hj] at this
  exact Option.some.inj this
theorem nums_take_len (zs : List Int) (i : Nat) (h : i < zs.length) (l : List Nat) (e : digs 12 (vl (zs[i].tmod 1073741824)) 0 = l) : (nums (zs.take (i + 1))).length = (nums (zs.take i)).length + l.length := by
  rw [List.take_succ_eq_append_getElem h]
  unfold nums
  rw [List.flatMap_append]
  simp [e]
theorem nums_le (zs : List Int) (i : Nat) (h : i < zs.length) (l : List Nat) (e : digs 12 (vl (zs[i].tmod 1073741824)) 0 = l) : (nums (zs.take i)).length + l.length ≤ (nums zs).length := by
  rw [nums_split zs i h, e]
  simp

set_option maxHeartbeats 1000000 in
set_option maxRecDepth 100000 in
theorem fnNumbers_walk (a : Option Addr) (cap : Nat) (zs : List Int) (hz : zs.length ≤ 17592186043904) (w : World) (hr : IntRow .i64 w a zs) (hT : B64 w.heap.size w) :
    Calls Tryd.prog 5 #[.slice a zs.length cap] w fun e w' => e = .returned (.bool true) ∧ Below w.heap.size w w' := by
  have ks : ∀ (W : World) (x y : ByteArray), x.size + y.size ≤ 9223372036854775807 → (Op.stringOp .add x y).run Tryd.prog W = .ok (.string (x ++ y)) W := fun W x y h => run_string_add_sum W x y h
  go_enter Tryd.func5, Tryd.ntmps5
  go_wp2_with fail
  go_loopg [3, 15] zs.length (fun f s3 s15 wr => ∃ i : Nat, i + f = zs.length ∧ s15 = .int .i64 (i : Int) ∧ s3 = .string (tx (nums (zs.take i))) ∧ w = wr)
  case atStart => exact ⟨0, by omega, rfl, rfl, rfl⟩
  case round =>
    obtain ⟨i, hi, rfl, rfl, rfl⟩ := hrel
    by_cases hin : i < zs.length
    · obtain ⟨b, o, rfl, hb, hc⟩ := hr i hin
      have hq : (i : Int) < (zs.length : Int) := by omega
      obtain ⟨f, rfl⟩ : ∃ f, gk = f + 1 := ⟨gk - 1, by omega⟩
      have hsz := nums_len (zs.take i)
      have hsn := num_step1 zs i hin
      have HS := Lib.hid hsn
      have hszl : (tx (nums (zs.take i))).size ≤ 123145302310912 := by rw [tx_size]; have : (zs.take i).length ≤ zs.length := by simp; omega
                                                                       omega
      have htm := tmod_abs zs[i] 1073741824 (by decide)
      generalize zs[i] = z at *
      clear hsn hsz
      go_wp2_with fail
      refine (fit_any z w).mono ?_
      rintro e w1 ⟨rfl, rfl⟩
      go_wp2_with fail
      refine (number_any (z.tmod 1073741824) 0 w1 (by omega) (by omega) (by omega) (by omega)).mono ?_
      rintro e w2 ⟨rfl, rfl⟩
      rw [show (0 : Int).toNat = 0 from rfl]
      have hs3 : (tx (digs 12 (vl (z.tmod 1073741824)) 0)).size ≤ 13 := by rw [tx_size]; exact digs_len _ _ _
      generalize tx (digs 12 (vl (z.tmod 1073741824)) 0) = y at *
      generalize tx (nums (zs.take i)) = x at *
      go_wp2_with fail
      go_roundg f
      case measure => omega
      case rel => exact ⟨i + 1, by omega, by go_num, congrArg Value.string HS.out, rfl⟩
    · have hq : ¬ (i : Int) < (zs.length : Int) := by omega
      obtain rfl : i = zs.length := by omega
      rw [List.take_length]
      clear hin hi hq
      go_wp2_with fail
      go_loopg [6, 27] zs.length (fun f s6 s27 wr => ∃ i : Nat, i + f = zs.length ∧ s27 = .int .i64 (i : Int) ∧ s6 = .int .i64 ((nums (zs.take i)).length : Int) ∧ Below w.heap.size w wr)
      case atStart => exact ⟨0, by omega, rfl, rfl, Below.refl _ _⟩
      case round =>
        obtain ⟨i, hi, rfl, rfl, hbw⟩ := hrel
        have hT2 := hT.below hbw
        have hsz := hbw.size
        have hnl := nums_len zs
        by_cases hin : i < zs.length
        · obtain ⟨b, o, rfl, hb, hc⟩ := hr i hin
          have hc2 := (hbw.cell (p := ⟨b, o + i, none⟩) hb).trans hc
          have hq : (i : Int) < (zs.length : Int) := by omega
          obtain ⟨f, rfl⟩ : ∃ f, gk = f + 1 := ⟨gk - 1, by omega⟩
          have htm := tmod_abs zs[i] 1073741824 (by decide)
          obtain ⟨l, d, e1, hd, hl, hlen, hv⟩ := digs_all (zs[i].tmod 1073741824) 0 (by omega) (by omega) (by omega)
          have hdg := nums_digit zs i hin _ e1
          have hln := nums_take_len zs i hin _ e1
          have hle := nums_le zs i hin _ e1
          simp only [List.length_append, List.length_cons, List.length_nil] at hln hle
          have HB := Lib.hid hbw
          clear hc e1 hbw
          generalize zs[i] = z at *
          have htx := tx_size (nums zs)
          generalize tx (nums zs) = s at *
          generalize (nums (zs.take i)).length = L at *
          have HL := Lib.hid hln
          clear hln
          go_wp2_with fail
          refine (dec_any s L w.heap.size l d wr hT2 hsz (by omega) (by omega) hdg hl hd (by omega)).mono ?_
          rintro e w3 ⟨rfl, hb3⟩
          rw [hv]
          have H3 := Lib.hid (HB.out.trans (hb3.mono hsz))
          clear hb3 hdg hl
          go_wp2_with fail
          refine (fit_any z w3).mono ?_
          rintro e w4 ⟨rfl, rfl⟩
          go_wp2_with fail
          go_roundg f
          case measure => omega
          case rel => exact ⟨i + 1, by omega, by go_num, by rw [HL.out]; go_num, H3.out⟩
        · have hq : ¬ (i : Int) < (zs.length : Int) := by omega
          obtain rfl : i = zs.length := by omega
          rw [List.take_length]
          have htx := tx_size (nums zs)
          generalize tx (nums zs) = s at *
          go_wp2_with fail
          refine (dec_any ⟨#[67]⟩ 0 w.heap.size [] 2 wr hT2 hsz (by decide) (by decide) (fun j h => ?_) (by simp) (by decide) (by decide)).mono ?_
          · obtain rfl : j = 0 := by simp at h; omega
            rfl
          · rintro e w3 ⟨rfl, hb3⟩
            have H3 := Lib.hid (hbw.trans (hb3.mono hsz))
            rw [show unvl (val ([] ++ [2])) = 1 from rfl]
            clear hb3 hbw
            go_wp2_with fail
            go_ret
            exact ⟨by simp, H3.out⟩

theorem fnNumbers_wrow (os : Os) {H : Type} (enc : TypeId × Value → H) :
    (OpenSpec.ofChange Rows.fnNumbersSpec).preRow enc Tryd.prog Tryd.f5 Rows.fnNumbersRow.domain false Rows.fnNumbersRow.laid ((laidWorld os).forCall (fun _ _ => 0) ⟨#[], #[.slice none 0 0], []⟩).memory #[.slice none 0 0] := by
  have hw : ((DataW.whole enc Tryd.prog ((laidWorld os).forCall (fun _ _ => 0) ⟨#[], #[.slice none 0 0], []⟩).memory Tryd.f5.params.toList (OpenSpec.ofChange Rows.fnNumbersSpec).vars false (#[.slice none 0 0] : Array Value).toList 8).map (fun x => (x.1, x.2.1))) =
      some ([.nil], []) := by kernel_rfl
  obtain ⟨⟨x1, x2, x3⟩, hx, hx1⟩ := Option.map_eq_some_iff.1 hw
  simp only [Prod.mk.injEq] at hx1
  obtain ⟨rfl, rfl⟩ := hx1
  exact OpenSpec.preRow_of_cond 8 hx (by kernel_rfl) (fun k hk => by cases hk) (by kernel_rfl) (laid_met os _)

set_option maxRecDepth 100000 in
theorem fnNumbers_lifted (os : Os) (started : os.Started) (H : Type) (enc : TypeId × Value → H) (F : Stop.Interp) :
    ReturnsInHanded {} Tryd.checked os 5 .any ((OpenSpec.ofChange Rows.fnNumbersSpec).preRow enc Tryd.prog Tryd.f5 Rows.fnNumbersRow.domain false Rows.fnNumbersRow.laid) (((OpenSpec.ofChange Rows.fnNumbersSpec).at F).post enc Tryd.prog Tryd.f5 false true false false) := by
  refine returnsInHanded_of_row (C := Tryd.checked) (s := OpenSpec.ofChange Rows.fnNumbersSpec) own started (by kernel_rfl) Tryd.func5
    (witness_row_atRef (enc := enc) (C := Tryd.checked) false (laidWorld os) #[.slice none 0 0] rfl (by kernel_rfl) (by kernel_rfl) (by kernel_rfl) (fnNumbers_wrow os enc)) ?_
  intro W base args ds gs before hval0 hW _ hcond hsz0 hL _ _
  have hT : B64 W.heap.size W := b64_of_laid hL
  have hval : ∀ (j : Nat) t v, Tryd.f5.params[j]? = some t → args[j]? = some v → Value.okWide Tryd.prog W .any base t v := hval0
  have hW' := hW
  obtain ⟨p, q, hA0, hV, rfl, hfz, hnd⟩ := hW
  have hA : DataW.TrodAll enc Tryd.prog W 0 (fun _ => true) true Tryd.f5.params.toList args.toList ds p := hA0
  have hsz : (DataW.weightsEach Tryd.prog (Tryd.f5.params.toList ++ (OpenSpec.ofChange Rows.fnNumbersSpec).bare.plain.varTypes Tryd.prog) (ds ++ gs)).all (· ≤ reachBytes) = true := hsz0
  rw [Tryd.params5] at hA hval hsz
  obtain ⟨v0, vs0, d0, ds0, p0, q0, hargs, rfl, rfl, h0, r0⟩ := trodAll_cons hA
  obtain ⟨rfl, rfl, rfl⟩ := trodAll_nil r0
  obtain rfl : args = #[v0] := by cases args; simp_all
  obtain ⟨a0, c0, z0, rfl, R0, w0, D0⟩ := open_introw Tryd.underlying29 Tryd.underlying3 (by kernel_rfl) (hval 0 29 v0 rfl rfl) h0
  have s0 : z0.length ≤ 17592186043904 := by
    rcases D0 with ⟨_, _, rfl⟩ | ⟨_, rest, _, _, rfl⟩
    · simp
    · have h := sized_slice hsz (j := 0) (t := 29) (e := 3) rfl rfl Tryd.underlying29
      rw [show Tryd.prog.bytesOf 3 = 8 by kernel_rfl] at h
      simp [lits, reachBytes] at h
      omega
  refine (fnNumbers_walk a0 c0 z0 s0 W R0 hT).mono fun e W' ⟨he, hb⟩ => ⟨_, he, ?_⟩
  exact law_post (s := Rows.fnNumbersSpec) (f := Tryd.f5) (tb := 4) (by kernel_rfl) (by kernel_rfl) (by kernel_rfl) Tryd.underlying4 rfl (fun ds h => by rw [Tryd.params5] at h; match ds, h with | [_], _ => rfl) hW' hb

theorem fnNumbers_said : Rows.FnNumbersSaid :=
  OpenClaim.holds_of_cond 5 Tryd.f5 rfl rfl rfl rfl rfl rfl rfl ⟨rfl, rfl, rfl, rfl, rfl⟩ rfl rfl rfl rfl rfl (by kernel_rfl) Tryd.func5 (by kernel_rfl)
    (of_decide_eq_true (by kernel_rfl)) (by unfold Func.isWrapper; first | (rw [if_pos (by decide +kernel)]; kernel_rfl) | (rw [if_neg (by decide +kernel)]; exact ⟨rfl, rfl⟩))
    (fun os started H enc _ F => by rw [OpenClaim.pre_eq_preRow]; exact fnNumbers_lifted os started H enc F)

theorem fnNumbers_plain (f : FuncId) (fn : Func) (hf : Tryd.pinned.checked.prog.funcNamed "mapthread/laws.FnNumbers" = some f) (hfn : Tryd.pinned.checked.prog.funcs[f]? = some fn) :
    false = Tryd.pinned.checked.prog.looks [] ∧ ∀ (j : Nat) t, fn.params[j]? = some t → Tryd.pinned.checked.prog.wantsStandIn t = false := by
  obtain rfl : f = 5 := Option.some.inj ((show Tryd.prog.funcNamed "mapthread/laws.FnNumbers" = some 5 by kernel_rfl).symm.trans hf) |>.symm
  obtain rfl : fn = Tryd.f5 := (Option.some.inj (Tryd.func5.symm.trans hfn)).symm
  refine ⟨by kernel_rfl, fun j t ht => ?_⟩
  rw [Tryd.params5] at ht
  have hm := Array.mem_of_getElem? ht
  simp at hm
  subst hm
  exact (show Tryd.prog.wantsStandIn 29 = false by kernel_rfl)

theorem fnNumbers_card : Rows.FnNumbersCardSaid :=
  Claim7.holds_tied_plain_at .later [] _ _ _ _ fnNumbers_said (fun _ h => by cases h) (by kernel_rfl) (fun _ h => by cases h) fnNumbers_row_tie rfl ⟨rfl, rfl⟩ (by kernel_rfl) rfl fnNumbers_plain (by kernel_rfl)
#print axioms fnNumbers_card
end Go.Proofs.YtahfnlhpodbbaaaDoor

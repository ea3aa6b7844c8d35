/-
  laws.FnChunkLines: for all sources and outputs of UTF-8 it does not matter how many lines are foretold. Conditions: the arguments hold together at most 1048576 values and letters (the second form); the table of signs is as its text lays it.
-/
import Derived.Test.YtnokiikgnplpmaaDoorTurnsKit
namespace Go.Proofs.YtnokiikgnplpmaaDoor
open Go.RowKit Go.ChangeShapes Go.WideShapes Go.ChangeAt

set_option maxHeartbeats 4000000 in
set_option maxRecDepth 100000 in
theorem fnChunkLines_walk (W : World) (a0 : ByteArray) (a1 a2 : Int) (a3 : Option Addr) (c3 : Nat) (z3 : List (ByteArray × Int)) (a4 : ByteArray) (b0 : a0.size ≤ 1048576) (_w1 : (Lit.int .i64 a1).wf = true) (_w2 : (Lit.int .i64 a2).wf = true) (t3 : TurnsIn W a3 z3) (n3 : a3 = none → z3.length = 0 ∧ c3 = 0) (e3 : tsz z3 ≤ 1048576) (b4 : a4.size ≤ 1048576) (hT : B64 W.heap.size W) :
    Calls Tryd.prog 3 #[.string a0, .int .i64 a1, .int .i64 a2, .slice a3 z3.length c3, .string a4] W fun e W' => e = .returned (.bool true) ∧ Below W.heap.size W W' := by
  obtain ⟨iT, hiT, hT0, hT1, hT2⟩ := info_parts info_turn
  have HN3 := Lib.hid n3
  have HT3 := Lib.hid t3
  clear n3 t3
  have hzl := tsz_len z3
  go_enter Tryd.func3, Tryd.ntmps3
  go_wp2_with fail
  refine (validT_any a0 _ (by omega)).mono ?_
  rintro e W1 ⟨⟨rs, hrs, hz0, rfl⟩, hb1⟩
  go_wp2_with fail
  refine (validT_any a4 _ (by omega)).mono ?_
  rintro e W2 ⟨⟨rest, hrest, hz4, rfl⟩, hb2⟩
  have HB2 := Lib.hid (bthen hb1 hb2)
  have hs2 := HB2.out.size
  have T2 := Lib.hid (HT3.out.after HB2.out)
  clear hb1 hb2 HT3
  go_wp2_with (at_builtin; refine wpList_append_own_src _ rfl (.tmp 26) (.tmp 27) 22 22 rfl W2.heap.size 25 iT _ 2 24 Tryd.underlying22 hiT hT0 hT1 hT2 rfl (by omega) (.slice (some ⟨W2.heap.size, 0, none⟩) 1 1) 1 (turnsC [(⟨#[97, 98]⟩, 0)]) rfl (turns_new W2 (⟨#[97, 98]⟩, 0) W2.heap.size (Nat.le_refl _)) (.slice a3 z3.length c3) z3.length (turnsC z3) rfl (turns_src (T2.out.after (balloc (Below.refl _ _) _)) HN3.out) (by unfold maxLen; omega) (by omega) (by simp) ?_; intro v3 w3 ho3 hg3 hat3; have O3 := Lib.hid ho3; have G3 := Lib.hid hg3; clear ho3 hg3 hat3)
  have HB3 := Lib.hid (bgrown (balloc HB2.out _) (Nat.le_refl _) G3.out (fun k hk => by simp [Value.ownBlock] at hk; omega))
  have O3' : w3.ownsRow W2.heap.size 25 2 v3 ((⟨#[97, 98]⟩, 0) :: z3 : List (ByteArray × Int)).length (turnsC ((⟨#[97, 98]⟩, 0) :: z3)) := by
    rw [List.length_cons, Nat.add_comm, turnsC_cons]
    exact O3.out
  have hts := tsz_cons (⟨#[97, 98]⟩, 0) z3
  have hsz2 : (⟨#[97, 98]⟩ : ByteArray).size = 2 := rfl
  have htz : tsz ((⟨#[97, 98]⟩, 0) :: z3 : List (ByteArray × Int)) ≤ 2097152 := by rw [hts]; simp only [hsz2]; omega
  clear hts hsz2
  have TA := Lib.hid (turns_own O3' (by simp))
  have h0 : Hid (0 < (encs (stepR (⟨#[97, 98]⟩ : ByteArray))).length) := Lib.hid (by rw [step_ab]; omega)
  have hl1 : Hid ((mkSteps (txt rs) ((⟨#[97, 98]⟩, 0) :: z3)).length = ((⟨#[97, 98]⟩, 0) :: z3 : List (ByteArray × Int)).length) := Lib.hid (by simp [mkSteps])
  obtain ⟨X, hX⟩ : ∃ X : ByteArray × Int, X = (⟨#[97, 98]⟩, 0) := ⟨_, rfl⟩
  rw [← hX] at htz TA hl1
  have h1 : Hid (0 < (encs (stepR X.1)).length) := Lib.hid (by rw [hX]; exact h0.out)
  clear O3 G3 O3' T2 HN3 HB2 h0 hX
  refine (made_any (txt rs) (X :: z3) v3 w3 (by omega) (by omega) TA.out).mono ?_
  rintro e w4 ⟨u, rfl, ho4, hb4⟩
  rw [← hl1.out] at ho4
  have SA := Lib.hid (steps_own ho4 (by rw [hl1.out]; simp))
  have HB4 := Lib.hid (HB3.out.trans (hb4.mono HB3.out.size))
  have hT4 := Lib.hid (hT.below HB4.out)
  have hs4 := HB4.out.size
  clear ho4 hb4 HB3 TA hT
  obtain ⟨D, hD⟩ : ∃ D, D = cend (tabsOf (txt rs)) (mkSteps (txt rs) (X :: z3)) rest := ⟨_, rfl⟩
  have hsm : 0 < D.sm.length := by rw [hD]; exact cend_sm _ _ _ _
  have HDD := Lib.hid hD
  clear hD
  go_wp2_with fail
  refine (place_nat _ _ _ (by omega) (by omega)).mono ?_
  rintro e w' ⟨⟨p1, hp1, hq1, rfl⟩, rfl⟩
  clear hq1
  go_wp2_with fail
  refine (chunkT_any rs hrs (by omega) p1 X z3 u rest (by omega) w4 W.heap.size hT4.out hs4 (by omega) SA.out htz h1.out).mono ?_
  rintro e w5 ⟨rfl, hb5⟩
  rw [← HDD.out]
  have HB5 := Lib.hid (HB4.out.trans (hb5.mono hs4))
  have hs5 := HB5.out.size
  have SA5 := Lib.hid (SA.out.below hb5)
  have hT5 := Lib.hid (hT4.out.below (hb5.mono hs4))
  have hs45 := hb5.size
  clear SA HB4 hT4 hb5
  unfold stC
  go_upto_region 5 with fail
  have Y5 := Lib.hid (Blk.new w5 30 #[.int .i64 D.st.gl, .int .i64 D.st.gc, .int .i64 D.st.si, .int .i64 D.st.ol, .int .i64 D.st.oc, .int .i64 D.st.on])
  have HB6 := Lib.hid (balloc HB5.out (.cells #[.int .i64 D.st.gl, .int .i64 D.st.gc, .int .i64 D.st.si, .int .i64 D.st.ol, .int .i64 D.st.oc, .int .i64 D.st.on] 30))
  have SA6 := Lib.hid (SA5.out.below ((balloc (Below.refl w5.heap.size w5) (.cells #[.int .i64 D.st.gl, .int .i64 D.st.gc, .int .i64 D.st.si, .int .i64 D.st.ol, .int .i64 D.st.oc, .int .i64 D.st.on] 30)).mono hs45))
  have hT6 := Lib.hid (hT5.out.below ((balloc (Below.refl w5.heap.size w5) (.cells #[.int .i64 D.st.gl, .int .i64 D.st.gc, .int .i64 D.st.si, .int .i64 D.st.ol, .int .i64 D.st.oc, .int .i64 D.st.on] 30)).mono hs5))
  generalize w5.alloc (.cells #[.int .i64 D.st.gl, .int .i64 D.st.gc, .int .i64 D.st.si, .int .i64 D.st.ol, .int .i64 D.st.oc, .int .i64 D.st.on] 30) = w6 at *
  have hs6 := HB6.out.size
  clear HB5 SA5 hT5
  go_wp2_with fail
  refine (place_nat _ _ _ (by omega) (by omega)).mono ?_
  rintro e w' ⟨⟨p2, hp2, hq2, rfl⟩, rfl⟩
  clear hq2
  go_wp2_with fail
  have hz6 : w4.heap.size ≤ w6.heap.size := by have := Y5.out.lt; omega
  have SA6' : Hid (StepsAt w6 w6.heap.size u (mkSteps (txt rs) (X :: z3))) := Lib.hid (by
    obtain ⟨R, c, h1, h2, h3⟩ := SA6.out
    exact ⟨R, c, h1, by omega, h3⟩)
  refine (chunkT_any rs hrs (by omega) p2 X z3 u rest (by omega) w6 W.heap.size hT6.out hs6 (by omega) SA6'.out htz h1.out).mono ?_
  rintro e w7 ⟨rfl, hb7⟩
  rw [← HDD.out]
  have HB7 := Lib.hid (HB6.out.trans (hb7.mono hs6))
  have Y7 := Y5.out.kep (Kep.of_below (X := fun _ => False) hb7) (fun q => q)
  have y0 : w7.cell? ⟨w5.heap.size, 0, none⟩ = some (.int .i64 D.st.gl) := Y7.cell 0
  have y1 : w7.cell? ⟨w5.heap.size, 1, none⟩ = some (.int .i64 D.st.gc) := Y7.cell 1
  have y2 : w7.cell? ⟨w5.heap.size, 2, none⟩ = some (.int .i64 D.st.si) := Y7.cell 2
  have y3 : w7.cell? ⟨w5.heap.size, 3, none⟩ = some (.int .i64 D.st.ol) := Y7.cell 3
  have y4 : w7.cell? ⟨w5.heap.size, 4, none⟩ = some (.int .i64 D.st.oc) := Y7.cell 4
  have y5 : w7.cell? ⟨w5.heap.size, 5, none⟩ = some (.int .i64 D.st.on) := Y7.cell 5
  have yl : w5.heap.size < w7.heap.size := Y7.lt
  clear HB6 SA6 SA6' hT6 hb7 Y5 Y7
  unfold stC
  have hne : (⟨D.sm.toArray⟩ : ByteArray).toList.isEmpty = false := by
    rw [toList_empty]
    have : (⟨D.sm.toArray⟩ : ByteArray).size = D.sm.length := by simp [ByteArray.size]
    simp [this]
    intro q
    rw [q] at hsm
    simp at hsm
  generalize (⟨D.sm.toArray⟩ : ByteArray) = bs at *
  go_wp2_with fail
  go_ret
  exact ⟨rfl, balloc HB7.out _⟩

theorem fnChunkLines_wrow (os : Os) {H : Type} (enc : TypeId × Value → H) :
    (Rows.OpenSpec.upto Rows.fnChunkLinesSpec).preRow enc Tryd.prog Tryd.f3 Rows.fnChunkLinesUptoRow.domain false Rows.fnChunkLinesUptoRow.laid ((laidWorld os).forCall (fun _ _ => 0) ⟨#[], #[.string ⟨#[]⟩, .int .i64 0, .int .i64 0, .slice none 0 0, .string ⟨#[]⟩], []⟩).memory #[.string ⟨#[]⟩, .int .i64 0, .int .i64 0, .slice none 0 0, .string ⟨#[]⟩] := by
  have hw : ((DataW.whole enc Tryd.prog ((laidWorld os).forCall (fun _ _ => 0) ⟨#[], #[.string ⟨#[]⟩, .int .i64 0, .int .i64 0, .slice none 0 0, .string ⟨#[]⟩], []⟩).memory Tryd.f3.params.toList (Rows.OpenSpec.upto Rows.fnChunkLinesSpec).vars false (#[.string ⟨#[]⟩, .int .i64 0, .int .i64 0, .slice none 0 0, .string ⟨#[]⟩] : Array Value).toList 8).map (fun x => (x.1, x.2.1))) =
      some ([.lit (.string []), .lit (.int .i64 0), .lit (.int .i64 0), .nil, .lit (.string [])], []) := by kernel_rfl
  obtain ⟨⟨x1, x2, x3⟩, hx, hx1⟩ := Option.map_eq_some_iff.1 hw
  simp only [Prod.mk.injEq] at hx1
  obtain ⟨rfl, rfl⟩ := hx1
  exact OpenSpec.preRow_of_cond 8 hx (by kernel_rfl) (fun k hk => by cases hk; kernel_rfl) (by kernel_rfl) (laid_met os _)

set_option maxRecDepth 100000 in
theorem fnChunkLines_lifted (os : Os) (started : os.Started) (H : Type) (enc : TypeId × Value → H) (F : Stop.Interp) :
    ReturnsInHanded {} Tryd.checked os 3 .any ((Rows.OpenSpec.upto Rows.fnChunkLinesSpec).preRow enc Tryd.prog Tryd.f3 Rows.fnChunkLinesUptoRow.domain false Rows.fnChunkLinesUptoRow.laid) (((Rows.OpenSpec.upto Rows.fnChunkLinesSpec).at F).post enc Tryd.prog Tryd.f3 false true false false) := by
  refine returnsInHanded_of_row (C := Tryd.checked) (s := Rows.OpenSpec.upto Rows.fnChunkLinesSpec) own started (by kernel_rfl) Tryd.func3
    (witness_row_atRef (enc := enc) (C := Tryd.checked) false (laidWorld os) #[.string ⟨#[]⟩, .int .i64 0, .int .i64 0, .slice none 0 0, .string ⟨#[]⟩] rfl (by kernel_rfl) (by kernel_rfl) (by kernel_rfl) (fnChunkLines_wrow os enc)) ?_
  intro W base args ds gs before hval0 hW _ hcond hsz0 hL _ _
  have hT : B64 W.heap.size W := b64_of_laid hL
  have hval : ∀ (j : Nat) t v, Tryd.f3.params[j]? = some t → args[j]? = some v → Value.okWide Tryd.prog W .any base t v := hval0
  have hW' := hW
  obtain ⟨p, q, hA0, hV, rfl, hfz, hnd⟩ := hW
  have hA : DataW.TrodAll enc Tryd.prog W 0 (fun _ => true) true Tryd.f3.params.toList args.toList ds p := hA0
  have hsz : (DataW.weightsEach Tryd.prog (Tryd.f3.params.toList ++ (Rows.OpenSpec.upto Rows.fnChunkLinesSpec).bare.plain.varTypes Tryd.prog) (ds ++ gs)).all (· ≤ reachBytes) = true := hsz0
  rw [Tryd.params3] at hA hval hsz
  obtain ⟨v0, vs0, d0, ds0, p0, q0, hargs, rfl, rfl, h0, r0⟩ := trodAll_cons hA
  obtain ⟨v1, vs1, d1, ds1, p1, q1, rfl, rfl, rfl, h1, r1⟩ := trodAll_cons r0
  obtain ⟨v2, vs2, d2, ds2, p2, q2, rfl, rfl, rfl, h2, r2⟩ := trodAll_cons r1
  obtain ⟨v3, vs3, d3, ds3, p3, q3, rfl, rfl, rfl, h3, r3⟩ := trodAll_cons r2
  obtain ⟨v4, vs4, d4, ds4, p4, q4, rfl, rfl, rfl, h4, r4⟩ := trodAll_cons r3
  obtain ⟨rfl, rfl, rfl⟩ := trodAll_nil r4
  obtain rfl : args = #[v0, v1, v2, v3, v4] := by cases args; simp_all
  obtain ⟨a0, rfl, rfl, rfl, w0⟩ := ChangeMaps.open_string Tryd.underlying9 (hval 0 9 v0 rfl rfl) h0
  obtain ⟨a1, rfl, rfl, rfl, w1⟩ := open_int Tryd.underlying3 (hval 1 3 v1 rfl rfl) h1
  obtain ⟨a2, rfl, rfl, rfl, w2⟩ := open_int Tryd.underlying3 (hval 2 3 v2 rfl rfl) h2
  obtain ⟨a4, rfl, rfl, rfl, w4⟩ := ChangeMaps.open_string Tryd.underlying9 (hval 4 9 v4 rfl rfl) h4
  obtain ⟨a3, c3, z3, rfl, t3, b3, n3⟩ := open_turns Tryd.underlying22 Tryd.underlying25 (by kernel_rfl) rfl rfl (by kernel_rfl) (by kernel_rfl) Tryd.underlying9 Tryd.underlying3 (hval 3 22 v3 rfl rfl) h3
  have s0 : a0.size ≤ 140737488351232 := by have h := sized_string hsz (j := 0) (t := 9) rfl rfl; simpa [reachBytes] using h
  have s4 : a4.size ≤ 140737488351232 := by have h := sized_string hsz (j := 4) (t := 9) rfl rfl; simpa [reachBytes] using h
  have hbk : Rows.uptoBulkAll _ ≤ 1048576 := of_decide_eq_true (hcond _ rfl)
  simp [Rows.uptoBulkAll, Rows.uptoBulk] at hbk
  have b0 : a0.size ≤ 1048576 := by have e : a0.data.size = a0.size := rfl; omega
  have e3 : tsz z3 ≤ 1048576 := by omega
  have b4 : a4.size ≤ 1048576 := by have e : a4.data.size = a4.size := rfl; omega
  refine (fnChunkLines_walk W a0 a1 a2 a3 c3 z3 a4 b0 w1 w2 t3 n3 e3 b4 hT).mono fun e W' ⟨he, hb⟩ => ⟨_, he, ?_⟩
  exact law_post (s := Rows.fnChunkLinesSpec) (f := Tryd.f3) (tb := 4) (by kernel_rfl) (by kernel_rfl) (by kernel_rfl) Tryd.underlying4 rfl (fun ds h => by rw [Tryd.params3] at h; match ds, h with | [_, _, _, _, _], _ => rfl) hW' hb

theorem fnChunkLines_said : Rows.FnChunkLinesUptoSaid :=
  OpenClaim.holds_of_cond 3 Tryd.f3 rfl rfl rfl rfl rfl rfl rfl ⟨rfl, rfl, rfl, rfl, rfl⟩ rfl rfl rfl rfl rfl (by kernel_rfl) Tryd.func3 (by kernel_rfl)
    (of_decide_eq_true (by kernel_rfl)) (by unfold Func.isWrapper; first | (rw [if_pos (by decide +kernel)]; kernel_rfl) | (rw [if_neg (by decide +kernel)]; exact ⟨rfl, rfl⟩))
    (fun os started H enc _ F => by rw [OpenClaim.pre_eq_preRow]; exact fnChunkLines_lifted os started H enc F)

theorem fnChunkLines_plain (f : FuncId) (fn : Func) (hf : Tryd.pinned.checked.prog.funcNamed "mapthread/laws.FnChunkLines" = some f) (hfn : Tryd.pinned.checked.prog.funcs[f]? = some fn) :
    false = Tryd.pinned.checked.prog.looks [] ∧ ∀ (j : Nat) t, fn.params[j]? = some t → Tryd.pinned.checked.prog.wantsStandIn t = false := by
  obtain rfl : f = 3 := Option.some.inj ((show Tryd.prog.funcNamed "mapthread/laws.FnChunkLines" = some 3 by kernel_rfl).symm.trans hf) |>.symm
  obtain rfl : fn = Tryd.f3 := (Option.some.inj (Tryd.func3.symm.trans hfn)).symm
  refine ⟨by kernel_rfl, fun j t ht => ?_⟩
  rw [Tryd.params3] at ht
  have hm := Array.mem_of_getElem? ht
  simp at hm
  rcases hm with rfl | rfl | rfl | rfl
  · exact (show Tryd.prog.wantsStandIn 9 = false by kernel_rfl)
  · exact (show Tryd.prog.wantsStandIn 3 = false by kernel_rfl)
  · exact (show Tryd.prog.wantsStandIn 22 = false by kernel_rfl)
  · exact (show Tryd.prog.wantsStandIn 9 = false by kernel_rfl)

theorem fnChunkLinesUpto_card : Rows.FnChunkLinesUptoCardSaid :=
  Claim7.holds_tied_plain_at .later [] _ _ _ _ fnChunkLines_said (fun _ h => by cases h) (by kernel_rfl) (fun _ h => by cases h) fnChunkLinesUpto_row_tie rfl ⟨rfl, rfl⟩ (by kernel_rfl) rfl fnChunkLines_plain (by kernel_rfl)
#print axioms fnChunkLinesUpto_card
end Go.Proofs.YtnokiikgnplpmaaDoor

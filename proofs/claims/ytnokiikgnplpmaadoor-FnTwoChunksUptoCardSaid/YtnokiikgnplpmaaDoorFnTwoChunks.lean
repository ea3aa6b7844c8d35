/-
  laws.FnTwoChunks: what is made of a second output, appended to that of a first one, begins where this one ends. Conditions: the arguments hold together at most 1048576 values and letters (the second form); the table of signs is as its text lays it.
-/
import Derived.Test.YtnokiikgnplpmaaDoorTwoCnt
namespace Go.Proofs.YtnokiikgnplpmaaDoor
open Go.RowKit Go.ChangeShapes Go.WideShapes Go.ChangeAt

/-- An append behind a guard. -/
theorem wpList_append_src_g {P : Program} (w : World) {ops : Array Oper} {rest : List Oper} {o : Oper} {a : Act} {Q : Exit → Act → World → Prop} (hw : Region.wanted o (yielded ops a.tmps) = true) (s x : Operand) (t tx : TypeId)
    (ho : o.op = .call { callee := .builtin .append, args := #[s, x], argTypes := #[t, tx] })
    (base : Nat) (e : TypeId) (i : TypeInfo) (z : Value) (size bytes : Nat) (ht : P.underlying t = some (.slice e)) (hi : P.info? e = some i) (hz : i.zero = some z)
    (hsize : i.size = size) (hby : i.bytes = bytes) (hzs : z.cells.size = size) (hsz : 0 < size) (v : Value) (n : Nat) (xs : List Value) (hs : a.eval s = v) (hown : w.ownsRow base e size v n xs)
    (xv : Value) (m : Nat) (news : List Value) (hx : a.eval x = xv) (hsrc : Src P size tx xv m news w) (h63 : n + m ≤ maxLen) (hbytes : (n + m) * bytes ≤ 140737488355328) (hbase : base ≤ w.heap.size)
    (h : ∀ v' w', w'.ownsRow base e size v' (n + m) (xs ++ news) → w.grownBy w' v.ownBlock → (v'.ownBlock = v.ownBlock ∨ v'.ownBlock = some w.heap.size) → wpList P ops Q rest (a.put o.dst v') w') :
    wpList P ops Q (o :: rest) a w := by
  refine wpList_step fun K hK => ?_
  rw [if_pos hw]
  obtain ⟨v', w', hr, h2, h3, h4⟩ := run_append_own_src (P := P) w base t tx o.type e i z size bytes ht hi hz hsize hby hzs hsz v n xs hown xv m news hsrc h63 hbytes hbase
  unfold Oper.wp execOp
  simp only [ho, resolve, invoke, builtin, Sem.run_bind, Sem.run_pure, Result.andThen_ok, List.map_toArray, List.map_cons, List.map_nil, hs, hx, hr]
  exact hK _ _ (h v' w' h2 h3 h4)
set_option maxHeartbeats 4000000 in
set_option maxRecDepth 100000 in
theorem fnTwoChunks_walk (W : World) (a0 a1 : ByteArray) (a2 : Option Addr) (c2 : Nat) (z2 : List (ByteArray × Int)) (a3 : Option Addr) (c3 : Nat) (z3 : List (ByteArray × Int)) (a4 a5 : ByteArray) (b0 : a0.size ≤ 1048576) (b1 : a1.size ≤ 1048576) (t2 : TurnsIn W a2 z2) (n2 : a2 = none → z2.length = 0 ∧ c2 = 0) (e2 : tsz z2 ≤ 1048576) (t3 : TurnsIn W a3 z3) (n3 : a3 = none → z3.length = 0 ∧ c3 = 0) (e3 : tsz z3 ≤ 1048576) (b4 : a4.size ≤ 1048576) (b5 : a5.size ≤ 1048576) (hT : B64 W.heap.size W) :
    Calls Tryd.prog 5 #[.string a0, .string a1, .slice a2 z2.length c2, .slice a3 z3.length c3, .string a4, .string a5] W fun e W' => e = .returned (.bool true) ∧ Below W.heap.size W W' := by
  have ks : ∀ (W : World) (x y : ByteArray), x.size + y.size ≤ 9223372036854775807 → (Op.stringOp .add x y).run Tryd.prog W = .ok (.string (x ++ y)) W := fun W x y h => run_string_add_sum W x y h
  obtain ⟨iT, hiT, hT0, hT1, hT2⟩ := info_parts info_turn
  obtain ⟨iS, hiS, hS0, hS1, hS2⟩ := info_parts info_seg
  have HN2 := Lib.hid n2
  have HN3 := Lib.hid n3
  have HT2 := Lib.hid t2
  have HT3 := Lib.hid t3
  have HT := Lib.hid hT
  clear n2 t2 n3 t3 hT
  have hzl := tsz_len z2
  have hzm := tsz_len z3
  go_enter Tryd.func5, Tryd.ntmps5
  go_wp2_with fail
  refine (validT_any a0 _ (by omega)).mono ?_
  rintro e W1 ⟨⟨rs1, hrs1, hz1, rfl⟩, hb1⟩
  go_wp2_with fail
  refine (validT_any a1 _ (by omega)).mono ?_
  rintro e W2 ⟨⟨rs2, hrs2, hz2, rfl⟩, hb2⟩
  go_wp2_with fail
  refine (validT_any a4 _ (by omega)).mono ?_
  rintro e W3 ⟨⟨re1, hre1, hz4, rfl⟩, hb3⟩
  go_wp2_with fail
  refine (validT_any a5 _ (by omega)).mono ?_
  rintro e W4 ⟨⟨re2, hre2, hz5, rfl⟩, hb4⟩
  have HB4 := Lib.hid (bthen (bthen (bthen hb1 hb2) hb3) hb4)
  have hs4 := HB4.out.size
  have T2 := Lib.hid (HT2.out.after HB4.out)
  clear hb1 hb2 hb3 hb4 HT2
  go_wp2_with (first
    | (at_builtin; refine wpList_append_own_src _ rfl (.tmp 40) (.tmp 41) 22 22 rfl W4.heap.size 25 iT _ 2 24 Tryd.underlying22 hiT hT0 hT1 hT2 rfl (by omega) (.slice (some ⟨W4.heap.size, 0, none⟩) 1 1) 1 (turnsC [(⟨#[97, 98]⟩, 0)]) rfl (turns_new W4 (⟨#[97, 98]⟩, 0) W4.heap.size (Nat.le_refl _)) (.slice a2 z2.length c2) z2.length (turnsC z2) rfl (turns_src (T2.out.after (balloc (Below.refl _ _) _)) HN2.out) (by unfold maxLen; omega) (by omega) (by simp) ?_; intro v5 w5 ho5 hg5 hat5; have O5 := Lib.hid ho5; have G5 := Lib.hid hg5; clear ho5 hg5 hat5; have HB5 := Lib.hid (bgrown (balloc HB4.out _) (Nat.le_refl _) G5.out (fun k hk => by simp [Value.ownBlock] at hk; omega)); have T3 := Lib.hid (HT3.out.after HB5.out))
    | (at_builtin; refine wpList_append_own_src _ rfl (.tmp 44) (.tmp 45) 22 22 rfl w5.heap.size 25 iT _ 2 24 Tryd.underlying22 hiT hT0 hT1 hT2 rfl (by omega) (.slice (some ⟨w5.heap.size, 0, none⟩) 1 1) 1 (turnsC [(⟨#[99]⟩, 0)]) rfl (turns_new w5 (⟨#[99]⟩, 0) w5.heap.size (Nat.le_refl _)) (.slice a3 z3.length c3) z3.length (turnsC z3) rfl (turns_src (T3.out.after (balloc (Below.refl _ _) _)) HN3.out) (by unfold maxLen; omega) (by omega) (by simp) ?_; intro v6 w6 ho6 hg6 hat6; have O6 := Lib.hid ho6; have G6 := Lib.hid hg6; clear ho6 hg6 hat6))
  have O5' : w5.ownsRow W4.heap.size 25 2 v5 ((⟨#[97, 98]⟩, 0) :: z2 : List (ByteArray × Int)).length (turnsC ((⟨#[97, 98]⟩, 0) :: z2)) := by
    rw [List.length_cons, Nat.add_comm, turnsC_cons]
    exact O5.out
  have htz5 : tsz ((⟨#[97, 98]⟩, 0) :: z2 : List (ByteArray × Int)) ≤ 1048579 := by
    rw [tsz_cons]
    have : (⟨#[97, 98]⟩ : ByteArray).size ≤ 2 := by decide
    simp only
    omega
  have h05 : Hid (0 < (encs (stepR (⟨#[97, 98]⟩ : ByteArray))).length) := Lib.hid (by rw [step_ab]; omega)
  have O6' : w6.ownsRow w5.heap.size 25 2 v6 ((⟨#[99]⟩, 0) :: z3 : List (ByteArray × Int)).length (turnsC ((⟨#[99]⟩, 0) :: z3)) := by
    rw [List.length_cons, Nat.add_comm, turnsC_cons]
    exact O6.out
  have htz6 : tsz ((⟨#[99]⟩, 0) :: z3 : List (ByteArray × Int)) ≤ 1048579 := by
    rw [tsz_cons]
    have : (⟨#[99]⟩ : ByteArray).size ≤ 2 := by decide
    simp only
    omega
  have h06 : Hid (0 < (encs (stepR (⟨#[99]⟩ : ByteArray))).length) := Lib.hid (by rw [step_c]; omega)
  have hb56 := bgrown (balloc (Below.refl w5.heap.size w5) _) (Nat.le_refl _) G6.out (fun k hk => by simp [Value.ownBlock] at hk; omega)
  have HB6 := Lib.hid (bthen HB5.out hb56)
  have TA := Lib.hid (turns_own (own_below O5' hb56) (by simp))
  have TB := Lib.hid (turns_own O6' (by simp))
  obtain ⟨X1, hX1⟩ : ∃ X : ByteArray × Int, X = (⟨#[97, 98]⟩, 0) := ⟨_, rfl⟩
  obtain ⟨X2, hX2⟩ : ∃ X : ByteArray × Int, X = (⟨#[99]⟩, 0) := ⟨_, rfl⟩
  rw [← hX1] at htz5 TA
  rw [← hX2] at htz6 TB
  have h1 : Hid (0 < (encs (stepR X1.1)).length) := Lib.hid (by rw [hX1]; exact h05.out)
  have h2 : Hid (0 < (encs (stepR X2.1)).length) := Lib.hid (by rw [hX2]; exact h06.out)
  clear O5 O6 G5 G6 O5' O6' T2 T3 HN2 HN3 HB4 HB5 hb56 h05 h06 hX1 hX2 HT3
  -- what the builders make
  obtain ⟨tk1, hc1, _, hgl1, hgc1, _, hle1⟩ := endT_inv2 rs1 hrs1 (by omega) (X1 :: z2) re1 hre1 (by omega) (by omega)
  obtain ⟨tk2, hc2, _, _, _, _, hle2⟩ := endT_inv2 rs2 hrs2 (by omega) (X2 :: z3) re2 hre2 (by omega) (by omega)
  have hsp1 : 0 < (rsegs qz tk1).length := cend_segs _ _ _ _ tk1 hc1.tok
  have hsp2 : 0 < (rsegs qz tk2).length := cend_segs _ _ _ _ tk2 hc2.tok
  have hps1 := cend_PS (tabsOf (txt rs1)) (mkSteps (txt rs1) (X1 :: z2)) re1
  have hps2 := cend_PS (tabsOf (txt rs2)) (mkSteps (txt rs2) (X2 :: z3)) re2
  have hal1 := allR_len (txt rs1) (X1 :: z2)
  have hal2 := allR_len (txt rs2) (X2 :: z3)
  have hst1 : (mkSteps (txt rs1) (X1 :: z2)).length = (X1 :: z2).length := by simp [mkSteps]
  have hst2 : (mkSteps (txt rs2) (X2 :: z3)).length = (X2 :: z3).length := by simp [mkSteps]
  have htl1 := tsz_len (X1 :: z2)
  have htl2 := tsz_len (X2 :: z3)
  have hr1z : (encs re1).length ≤ 1048576 := by rw [← txt_size]; omega
  have hr2z : (encs re2).length ≤ 1048576 := by rw [← txt_size]; omega
  have hPS1 : PS (endT rs1 (X1 :: z2) re1) 500000000 := hps1.mono (by omega)
  have hPS2 : PS (endT rs2 (X2 :: z3) re2) 500000000 := hps2.mono (by omega)
  obtain ⟨q1, q2, q3, q4⟩ := hc1.tight hle1
  obtain ⟨p1, p2, p3, p4⟩ := hc2.tight hle2
  have hAR : okR (allR (mkSteps (txt rs1) (X1 :: z2)) ++ re1) := (allR_ok _ _).app hre1
  have hARz : (txt (allR (mkSteps (txt rs1) (X1 :: z2)) ++ re1)).size ≤ 4194304 := by rw [txt_size, encs_app, List.length_append]; omega
  have hasm := adv_small _ hAR
  obtain ⟨D1, hD1⟩ : ∃ D, D = endT rs1 (X1 :: z2) re1 := ⟨_, rfl⟩
  obtain ⟨D2, hD2⟩ : ∃ D, D = endT rs2 (X2 :: z3) re2 := ⟨_, rfl⟩
  rw [← hD1] at hc1 hgl1 hgc1 hPS1 q3
  rw [← hD2] at hc2 hPS2
  rw [← hgc1] at hasm
  have hcol : D1.gcol ≤ 8388608 := by omega
  have hl1 : (tokB true tk1).length ≤ 500000000 := by rw [← hc1.tok.sm]; exact hPS1.1
  have hl2 : (tokB true tk2).length ≤ 500000000 := by rw [← hc2.tok.sm]; exact hPS2.1
  have hns1 : NS D1 3145735 := by rw [hD1]; exact (cend_NS (tabsOf (txt rs1)) (mkSteps (txt rs1) (X1 :: z2)) re1).mono (by omega)
  have hns2 : NS D2 3145735 := by rw [hD2]; exact (cend_NS (tabsOf (txt rs2)) (mkSteps (txt rs2) (X2 :: z3)) re2).mono (by omega)
  have hn1 := hc1.count hns1
  have hn2 := hc2.count hns2
  obtain ⟨lx, hlx⟩ : ∃ lx, lx = rsegs qz tk1 := ⟨_, rfl⟩
  obtain ⟨ly, hly⟩ : ∃ ly, ly = rsegs qz tk2 := ⟨_, rfl⟩
  rw [← hlx] at hsp1 hn1
  rw [← hly] at hsp2 hn2
  have HLX := Lib.hid hlx
  have HLY := Lib.hid hly
  have HE1 := Lib.hid hD1
  have HE2 := Lib.hid hD2
  have HC1 := Lib.hid hc1
  have HC2 := Lib.hid hc2
  have HQ := Lib.hid (And.intro q1 (And.intro q2 q3))
  have HPT := Lib.hid (And.intro p1 p4)
  have HGL := Lib.hid hgl1
  have HGC := Lib.hid hgc1
  have HPS := Lib.hid hPS1.2
  have HAR := Lib.hid hAR
  clear hlx hly hns1 hns2 hD1 hD2 hc1 hc2 hgl1 hgc1 hle1 hle2 hps1 hps2 hPS1 hPS2 q1 q2 q3 q4 p1 p2 p3 p4 hal2 hst1 hst2 htl1 htl2 hAR hasm
  have hs6 := HB6.out.size
  refine (made_any (txt rs1) (X1 :: z2) v5 w6 (by omega) (by omega) TA.out).mono ?_
  rintro e w7 ⟨v7, rfl, ho7, hb7⟩
  have HB7 := Lib.hid (bthen HB6.out hb7)
  have hO7 := Lib.hid ho7
  have hTB7 : TurnsAt w7 w7.heap.size v6 (X2 :: z3) := by
    obtain ⟨R, c, g1, g2, g3⟩ := TB.out.below hb7
    exact ⟨R, c, g1, by have := hb7.size; omega, g3⟩
  have TB7 := Lib.hid hTB7
  have hz7 := hb7.size
  clear ho7 hb7 TA TB hTB7
  go_wp2_with fail
  refine (made_any (txt rs2) (X2 :: z3) v6 w7 (by omega) (by omega) TB7.out).mono ?_
  rintro e w8 ⟨v8, rfl, ho8, hb8⟩
  have HB8 := Lib.hid (bthen HB7.out hb8)
  have hO7' := Lib.hid (own_below hO7.out hb8)
  have hO8 := Lib.hid ho8
  have hz8 := hb8.size
  have hml1 : Hid ((mkSteps (txt rs1) (X1 :: z2)).length = (X1 :: z2).length) := Lib.hid (by simp [mkSteps])
  have hml2 : Hid ((mkSteps (txt rs2) (X2 :: z3)).length = (X2 :: z3).length) := Lib.hid (by simp [mkSteps])
  have SA : Hid (StepsAt w8 w8.heap.size v7 (mkSteps (txt rs1) (X1 :: z2))) := Lib.hid (steps_own (by rw [hml1.out]; exact hO7'.out) (by rw [hml1.out]; simp))
  have hT8 := Lib.hid (HT.out.below HB8.out)
  clear ho8 hb8 hO7 hO7' TB7
  go_wp2_with fail
  refine (chunkT_any rs1 hrs1 (by omega) 0 X1 z2 v7 re1 (by omega) w8 W.heap.size hT8.out (by omega) (by omega) SA.out (by omega) h1.out).mono ?_
  rintro e w9 ⟨rfl, hb9⟩
  rw [show cend (tabsOf (txt rs1)) (mkSteps (txt rs1) (X1 :: z2)) re1 = D1 from HE1.out.symm]
  have HB9 := Lib.hid (bthen HB8.out hb9)
  have hO9 := Lib.hid (own_below hO8.out hb9)
  have hz9 := hb9.size
  obtain ⟨S1, hS1⟩ : ∃ S : ByteArray, S = ⟨D1.sm.toArray⟩ := ⟨_, rfl⟩
  rw [← hS1]
  have HS1 := Lib.hid hS1
  clear hb9 hO8 SA hT8 hS1
  unfold stC
  go_wp2_with fail
  have K10 := Lib.hid (balloc (Below.refl w9.heap.size w9) (.cells #[.int .i64 D1.st.gl, .int .i64 D1.st.gc, .int .i64 D1.st.si, .int .i64 D1.st.ol, .int .i64 D1.st.oc, .int .i64 D1.st.on] 30))
  have E10 := Lib.hid (Blk.new w9 30 #[.int .i64 D1.st.gl, .int .i64 D1.st.gc, .int .i64 D1.st.si, .int .i64 D1.st.ol, .int .i64 D1.st.oc, .int .i64 D1.st.on])
  generalize w9.alloc (.cells #[.int .i64 D1.st.gl, .int .i64 D1.st.gc, .int .i64 D1.st.si, .int .i64 D1.st.ol, .int .i64 D1.st.oc, .int .i64 D1.st.on] 30) = V10 at *
  have HB10 := Lib.hid (bthen HB9.out K10.out)
  have hz10 := K10.out.size
  have hT10 := Lib.hid (HT.out.below HB10.out)
  have SB : Hid (StepsAt V10 V10.heap.size v8 (mkSteps (txt rs2) (X2 :: z3))) := Lib.hid (steps_own (by rw [hml2.out]; exact own_below hO9.out K10.out) (by rw [hml2.out]; simp))
  refine (chunkT_any rs2 hrs2 (by omega) 0 X2 z3 v8 re2 (by omega) V10 W.heap.size hT10.out (by omega) (by omega) SB.out (by omega) h2.out).mono ?_
  rintro e w11 ⟨rfl, hb11⟩
  rw [show cend (tabsOf (txt rs2)) (mkSteps (txt rs2) (X2 :: z3)) re2 = D2 from HE2.out.symm]
  have HB11 := Lib.hid (bthen HB10.out hb11)
  have E11 := Lib.hid (E10.out.below hb11)
  have hz11 := hb11.size
  obtain ⟨S2, hS2'⟩ : ∃ S : ByteArray, S = ⟨D2.sm.toArray⟩ := ⟨_, rfl⟩
  rw [← hS2']
  have HS2 := Lib.hid hS2'
  clear hb11 SB hT10 hS2' hO9 K10 E10
  unfold stC
  go_wp2_with fail
  have K12 := Lib.hid (balloc (Below.refl w11.heap.size w11) (.cells #[.int .i64 D2.st.gl, .int .i64 D2.st.gc, .int .i64 D2.st.si, .int .i64 D2.st.ol, .int .i64 D2.st.oc, .int .i64 D2.st.on] 30))
  generalize w11.alloc (.cells #[.int .i64 D2.st.gl, .int .i64 D2.st.gc, .int .i64 D2.st.si, .int .i64 D2.st.ol, .int .i64 D2.st.oc, .int .i64 D2.st.on] 30) = V12 at *
  have HB12 := Lib.hid (bthen HB11.out K12.out)
  have E12 := Lib.hid (E11.out.below K12.out)
  have hz12 := K12.out.size
  refine (read_any tk1 S1 V12 HC1.out.tok.ok (by rw [HS1.out]; simp [ByteArray.size, HC1.out.tok.sm]; omega) (by rw [HS1.out, HC1.out.tok.sm]) (by rw [← HLX.out]; omega)).mono ?_
  rintro e w13 ⟨u13, rfl, ho13, hb13⟩
  rw [← HLX.out] at ho13
  have HB13 := Lib.hid (bthen HB12.out hb13)
  have E13 := Lib.hid (E12.out.below hb13)
  have hz13 := hb13.size
  obtain ⟨A13, c13, rfl, hA13⟩ := own_form ho13
  obtain ⟨k13, rfl, _⟩ := hA13 hsp1
  have hk13 : V12.heap.size ≤ k13 ∧ k13 < w13.heap.size := own_lt ho13 rfl
  have hox := Lib.hid ho13
  clear ho13 hb13 hA13 E11 K12 E12
  go_wp2_with fail
  refine (read_any tk2 S2 w13 HC2.out.tok.ok (by rw [HS2.out]; simp [ByteArray.size, HC2.out.tok.sm]; omega) (by rw [HS2.out, HC2.out.tok.sm]) (by rw [← HLY.out]; omega)).mono ?_
  rintro e w14 ⟨u14, rfl, ho14, hb14⟩
  rw [← HLY.out] at ho14
  have HB14 := Lib.hid (bthen HB13.out hb14)
  have E14 := Lib.hid (E13.out.below hb14)
  have hox14 := Lib.hid (own_below hox.out hb14)
  have hz14 := hb14.size
  obtain ⟨A14, c14, rfl, hA14⟩ := own_form ho14
  obtain ⟨k14, rfl, _⟩ := hA14 hsp2
  have hsy := Lib.hid (segs_own ho14 hsp2)
  clear ho14 hb14 hA14 E13 hox
  have kadd : ∀ W, (Op.stringOp .add (txt (allR (mkSteps (txt rs1) (X1 :: z2)))) (txt re1)).run Tryd.prog W = .ok (.string (txt (allR (mkSteps (txt rs1) (X1 :: z2)) ++ re1))) W := fun W => by
    rw [ks W _ _ (by rw [txt_size, txt_size]; omega), txt_app]
  clear ks
  go_wp2_with fail
  refine (specA_any (allR (mkSteps (txt rs1) (X1 :: z2)) ++ re1) w14 HAR.out (by omega)).mono ?_
  rintro e w15 ⟨rfl, hb15⟩
  rw [← HGL.out, ← HGC.out]
  have HB15 := Lib.hid (bthen HB14.out hb15)
  have E15 := Lib.hid (E14.out.below hb15)
  have hox15 := Lib.hid (own_below hox14.out hb15)
  have hsy15 := Lib.hid ((hsy.out.below hb15).mono hb15.size)
  have hz15 := hb15.size
  clear hb15 kadd E14 hox14 hsy
  go_upto_region 10 with fail
  have K16 := Lib.hid (balloc (Below.refl w15.heap.size w15) (.cells #[.int .i64 D1.st.gl, .int .i64 (D1.gcol : Int)] 42))
  have P16 := Lib.hid (Blk.new w15 42 #[.int .i64 D1.st.gl, .int .i64 (D1.gcol : Int)])
  generalize w15.alloc (.cells #[.int .i64 D1.st.gl, .int .i64 (D1.gcol : Int)] 42) = V16 at *
  have HB16 := Lib.hid (bthen HB15.out K16.out)
  have E16 := E15.out.below K16.out
  have hz16 := K16.out.size
  have hlp := P16.out.lt
  have e0 : V16.cell? ⟨w9.heap.size, 0, none⟩ = some (.int .i64 D1.st.gl) := E16.cell 0
  have e1 : V16.cell? ⟨w9.heap.size, 1, none⟩ = some (.int .i64 D1.st.gc) := E16.cell 1
  have e2' : V16.cell? ⟨w9.heap.size, 2, none⟩ = some (.int .i64 D1.st.si) := E16.cell 2
  have e3' : V16.cell? ⟨w9.heap.size, 3, none⟩ = some (.int .i64 D1.st.ol) := E16.cell 3
  have e4 : V16.cell? ⟨w9.heap.size, 4, none⟩ = some (.int .i64 D1.st.oc) := E16.cell 4
  have e5 : V16.cell? ⟨w9.heap.size, 5, none⟩ = some (.int .i64 D1.st.on) := E16.cell 5
  have hlx := HLX.out
  have hly := HLY.out
  obtain ⟨ym, hym⟩ : ∃ ym, ym = ly.map (mvS ⟨D1.st.gl, (D1.gcol : Int), 1, 0, 0, 0, false⟩) := ⟨_, rfl⟩
  have hyl : 1 ≤ ym.length ∧ ym.length ≤ 3145735 := by rw [hym, List.length_map]; omega
  have HJC : Hid (Calls Tryd.prog 20 #[.string S1, .agg #[.int .i64 D1.st.gl, .int .i64 D1.st.gc, .int .i64 D1.st.si, .int .i64 D1.st.ol, .int .i64 D1.st.oc, .int .i64 D1.st.on], .agg #[.int .i64 0, .int .i64 (D1.gcol : Int), .int .i64 1, .int .i64 0, .int .i64 0, .int .i64 0], .string S2, .int .i64 (-1)] V16 fun e w' => ∃ toks, (rok qz toks ∧ rsegs qz toks = lx ++ ym ∧ (tokB true toks).length ≤ 3000000100) ∧ e = .returned (.string (strB (tokB true toks))) ∧ Below V16.heap.size V16 w') := Lib.hid (by
    obtain ⟨q1, q2, q3⟩ := HQ.out
    obtain ⟨p1, p4⟩ := HPT.out
    have h := joinU_any tk1 tk2 ⟨0, (D1.gcol : Int), 1, 0, 0, 0, false⟩ 0 W.heap.size V16 (HT.out.below HB16.out) (by have := HB16.out.size; omega) HC1.out.tok.ok q2 (by rw [HC1.out.tok.nm]; omega) p1 (by rw [← hly]; intro e; rw [e] at hsp2; simp at hsp2) ⟨by simp only; omega, by simp only; omega, by simp only; omega, by simp only; omega, by simp only; omega⟩ rfl (by omega) (by omega) _ q3 (-1) p4
    rw [HPS.out]
    have s1 : strB (tokB true tk1) = S1 := by rw [HS1.out, ← HC1.out.tok.sm]; rfl
    have s2 : strB (tokB true tk2) = S2 := by rw [HS2.out, ← HC2.out.tok.sm]; rfl
    rw [s1, s2] at h
    refine h.mono ?_
    rintro e w' ⟨toks, hj, hl, rfl, hb⟩
    refine ⟨toks, ⟨hj.ok, ?_, hl⟩, rfl, hb⟩
    rw [hj.segs, ← hlx, ← hly, hym]
    congr 1
    congr 1
    exact mvS_eq (by simp only; rw [HC1.out.tok.l]; omega) rfl rfl rfl rfl rfl)
  clear E16 hlx hly
  go_wp2_with fail
  refine HJC.out.mono ?_
  rintro e w17 ⟨toks, hj, rfl, hb17⟩
  have HJ := Lib.hid hj
  obtain ⟨TJ, hTJ⟩ : ∃ TJ, TJ = strB (tokB true toks) := ⟨_, rfl⟩
  rw [← hTJ]
  have HTJ := Lib.hid hTJ
  have HB17 := Lib.hid (bthen HB16.out hb17)
  have P17 := P16.out.below hb17
  have hox17 := Lib.hid (own_below (own_below hox15.out K16.out) hb17)
  have hsy17 : Hid (SegsAt w17 w17.heap.size (.slice (some ⟨k14, 0, none⟩) ly.length c14) ly) := Lib.hid ((hsy15.out.below (K16.out.trans (hb17.mono hz16))).mono (by have := hb17.size; omega))
  have hz17 := hb17.size
  have p0 : w17.cell? ⟨w15.heap.size, 0, none⟩ = some (.int .i64 D1.st.gl) := P17.cell 0
  have p1 : w17.cell? ⟨w15.heap.size, 1, none⟩ = some (.int .i64 (D1.gcol : Int)) := P17.cell 1
  have hlp17 := P17.lt
  have HYM := Lib.hid hym
  clear hj hb17 hTJ e0 e1 e2' e3' e4 e5 hox15 hsy15 P16 P17 K16 HJC hym E15
  go_upto_region 11 with fail
  have HMC : Hid (∀ V, Below w17.heap.size w17 V → Calls Tryd.prog 22 #[.slice (some ⟨k14, 0, none⟩) ly.length c14, .agg #[.int .i64 D1.st.gl, .int .i64 (D1.gcol : Int), .int .i64 1, .int .i64 0, .int .i64 0, .int .i64 0, .bool false]] V fun e w' => ∃ R c, e = .returned (.slice (some ⟨R, 0, none⟩) ym.length c) ∧ CellsAt w' R (sgs ym) ∧ Below V.heap.size V w') := Lib.hid (by
    intro V hV
    obtain ⟨q1, q2, q3⟩ := HQ.out
    have hgl := q2.1
    rw [HC1.out.tok.l] at hgl
    have h := moved_any ly ⟨D1.st.gl, (D1.gcol : Int), 1, 0, 0, 0, false⟩ (.slice (some ⟨k14, 0, none⟩) ly.length c14) V ((hsy17.out.below hV).mono hV.size) (by omega) (by rw [HLY.out]; exact HC2.out.bd) ⟨by simp only; omega, by simp only; omega, by simp only; omega, by simp only; omega, by simp only; omega, by simp only; omega⟩
    rw [← HYM.out] at h
    refine h.mono ?_
    rintro e w' ⟨u, rfl, ho, hb⟩
    obtain ⟨A, c, rfl, hA⟩ := own_form ho
    obtain ⟨R, rfl, _⟩ := hA (by omega)
    exact ⟨R, c, rfl, cells_own ho (by omega), hb⟩)
  have HSC : Hid (∀ V g c, CellsAt V g (sgs lx ++ sgs ym) → Calls Tryd.prog 21 #[.string TJ, .slice (some ⟨g, 0, none⟩) (lx.length + ym.length) c] V fun e w' => e = .returned (.bool true) ∧ Below V.heap.size V w') := Lib.hid (by
    intro V g c h3
    obtain ⟨h1, h2, h0⟩ := HJ.out
    have h := same_any toks (lx ++ ym) (.slice (some ⟨g, 0, none⟩) (lx ++ ym).length c) V h1 h2 (by omega) ⟨g, c, rfl, h3.1, fun j u hj => h3.2 j u (by rw [← sgs_app]; exact hj)⟩ (by rw [List.length_append]; omega)
    rw [List.length_append, ← HTJ.out] at h
    exact h)
  have h1c : Hid (∀ u ∈ sgs ym, u.oneCell' = true) := Lib.hid (fun u hu => by
    unfold sgs at hu
    obtain ⟨x, _, hx⟩ := List.mem_flatMap.1 hu
    exact seg_one x u hx)
  have hk13w : k13 < w17.heap.size := by omega
  have hnek : w15.heap.size ≠ k13 := by omega
  have hly0 : (0 : Int) < (ly.length : Int) := by omega
  have HW0 := Lib.hid (show W.heap.size ≤ k13 by have := HB12.out.size; omega)
  have HW1 := Lib.hid (show W.heap.size ≤ w17.heap.size from HB17.out.size)
  clear HQ HPT HGL HGC HPS HAR HC1 HC2 HE1 HE2 HS1 HS2 HJ HTJ hl1 hl2 hcol HLX HLY
  go_wp2_with fail
  refine (HMC.out _ (Below.refl _ _)).mono ?_
  rintro e w18 ⟨R, cR, rfl, hm, hb18⟩
  have HM := Lib.hid hm
  have hox18 := Lib.hid (own_below hox17.out hb18)
  have HB18 := Lib.hid (bthen HB17.out hb18)
  have hz18 := hb18.size
  clear hm hb18 p0 p1
  go_wp2_with (at_builtin; refine wpList_append_src_g _ (by rfl) (.tmp 110) (.tmp 114) 35 35 rfl V12.heap.size 45 iS _ 7 56 Tryd.underlying35 hiS hS0 hS1 hS2 rfl (by omega) (.slice (some ⟨k13, 0, none⟩) lx.length c13) lx.length (sgs lx) rfl hox18.out (.slice (some ⟨R, 0, none⟩) ym.length cR) ym.length (sgs ym) rfl (Src.ofSlice _ Tryd.underlying35 ⟨R, 0, none⟩ ym.length cR (sgs ym) (by rw [sgs_len]) (fun j u hj => by rw [Addr.add_lit, Nat.zero_add]; exact HM.out.2 j u hj) h1c.out) (by unfold maxLen; omega) (by omega) (by omega) ?_; intro v19 w19 ho19 hg19 hat19; have O19 := Lib.hid ho19; have HB19 := Lib.hid (bgrown HB18.out (Nat.le_refl _) hg19 (fun k hk => by simp [Value.ownBlock] at hk; have := HW0.out; omega)); clear ho19 hg19 hat19; obtain ⟨A19, c19, rfl, hA19⟩ := own_form O19.out; obtain ⟨k19, rfl, _⟩ := hA19 (by omega))
  refine (HSC.out _ _ _ (cells_own O19.out (by omega))).mono ?_
  rintro e w20 ⟨rfl, hb20⟩
  have HB20 := Lib.hid (bthen HB19.out hb20)
  clear hb20
  go_wp2_with fail
  go_ret
  exact ⟨rfl, HB20.out⟩

theorem fnTwoChunks_wrow (os : Os) {H : Type} (enc : TypeId × Value → H) :
    (Rows.OpenSpec.upto Rows.fnTwoChunksSpec).preRow enc Tryd.prog Tryd.f5 Rows.fnTwoChunksUptoRow.domain false Rows.fnTwoChunksUptoRow.laid ((laidWorld os).forCall (fun _ _ => 0) ⟨#[], #[.string ⟨#[]⟩, .string ⟨#[]⟩, .slice none 0 0, .slice none 0 0, .string ⟨#[]⟩, .string ⟨#[]⟩], []⟩).memory #[.string ⟨#[]⟩, .string ⟨#[]⟩, .slice none 0 0, .slice none 0 0, .string ⟨#[]⟩, .string ⟨#[]⟩] := by
  have hw : ((DataW.whole enc Tryd.prog ((laidWorld os).forCall (fun _ _ => 0) ⟨#[], #[.string ⟨#[]⟩, .string ⟨#[]⟩, .slice none 0 0, .slice none 0 0, .string ⟨#[]⟩, .string ⟨#[]⟩], []⟩).memory Tryd.f5.params.toList (Rows.OpenSpec.upto Rows.fnTwoChunksSpec).vars false (#[.string ⟨#[]⟩, .string ⟨#[]⟩, .slice none 0 0, .slice none 0 0, .string ⟨#[]⟩, .string ⟨#[]⟩] : Array Value).toList 8).map (fun x => (x.1, x.2.1))) =
      some ([.lit (.string []), .lit (.string []), .nil, .nil, .lit (.string []), .lit (.string [])], []) := by kernel_rfl
  obtain ⟨⟨x1, x2, x3⟩, hx, hx1⟩ := Option.map_eq_some_iff.1 hw
  simp only [Prod.mk.injEq] at hx1
  obtain ⟨rfl, rfl⟩ := hx1
  exact OpenSpec.preRow_of_cond 8 hx (by kernel_rfl) (fun k hk => by cases hk; kernel_rfl) (by kernel_rfl) (laid_met os _)

set_option maxRecDepth 100000 in
theorem fnTwoChunks_lifted (os : Os) (started : os.Started) (H : Type) (enc : TypeId × Value → H) (F : Stop.Interp) :
    ReturnsInHanded {} Tryd.checked os 5 .any ((Rows.OpenSpec.upto Rows.fnTwoChunksSpec).preRow enc Tryd.prog Tryd.f5 Rows.fnTwoChunksUptoRow.domain false Rows.fnTwoChunksUptoRow.laid) (((Rows.OpenSpec.upto Rows.fnTwoChunksSpec).at F).post enc Tryd.prog Tryd.f5 false true false false) := by
  refine returnsInHanded_of_row (C := Tryd.checked) (s := Rows.OpenSpec.upto Rows.fnTwoChunksSpec) own started (by kernel_rfl) Tryd.func5
    (witness_row_atRef (enc := enc) (C := Tryd.checked) false (laidWorld os) #[.string ⟨#[]⟩, .string ⟨#[]⟩, .slice none 0 0, .slice none 0 0, .string ⟨#[]⟩, .string ⟨#[]⟩] rfl (by kernel_rfl) (by kernel_rfl) (by kernel_rfl) (fnTwoChunks_wrow os enc)) ?_
  intro W base args ds gs before hval0 hW _ hcond hsz0 hL _ _
  have hT : B64 W.heap.size W := b64_of_laid hL
  have hval : ∀ (j : Nat) t v, Tryd.f5.params[j]? = some t → args[j]? = some v → Value.okWide Tryd.prog W .any base t v := hval0
  have hW' := hW
  obtain ⟨p, q, hA0, hV, rfl, hfz, hnd⟩ := hW
  have hA : DataW.TrodAll enc Tryd.prog W 0 (fun _ => true) true Tryd.f5.params.toList args.toList ds p := hA0
  have hsz : (DataW.weightsEach Tryd.prog (Tryd.f5.params.toList ++ (Rows.OpenSpec.upto Rows.fnTwoChunksSpec).bare.plain.varTypes Tryd.prog) (ds ++ gs)).all (· ≤ reachBytes) = true := hsz0
  rw [Tryd.params5] at hA hval hsz
  obtain ⟨v0, vs0, d0, ds0, p0, q0, hargs, rfl, rfl, h0, r0⟩ := trodAll_cons hA
  obtain ⟨v1, vs1, d1, ds1, p1, q1, rfl, rfl, rfl, h1, r1⟩ := trodAll_cons r0
  obtain ⟨v2, vs2, d2, ds2, p2, q2, rfl, rfl, rfl, h2, r2⟩ := trodAll_cons r1
  obtain ⟨v3, vs3, d3, ds3, p3, q3, rfl, rfl, rfl, h3, r3⟩ := trodAll_cons r2
  obtain ⟨v4, vs4, d4, ds4, p4, q4, rfl, rfl, rfl, h4, r4⟩ := trodAll_cons r3
  obtain ⟨v5, vs5, d5, ds5, p5, q5, rfl, rfl, rfl, h5, r5⟩ := trodAll_cons r4
  obtain ⟨rfl, rfl, rfl⟩ := trodAll_nil r5
  obtain rfl : args = #[v0, v1, v2, v3, v4, v5] := by cases args; simp_all
  obtain ⟨a0, rfl, rfl, rfl, w0⟩ := ChangeMaps.open_string Tryd.underlying9 (hval 0 9 v0 rfl rfl) h0
  obtain ⟨a1, rfl, rfl, rfl, w1⟩ := ChangeMaps.open_string Tryd.underlying9 (hval 1 9 v1 rfl rfl) h1
  obtain ⟨a4, rfl, rfl, rfl, w4⟩ := ChangeMaps.open_string Tryd.underlying9 (hval 4 9 v4 rfl rfl) h4
  obtain ⟨a5, rfl, rfl, rfl, w5⟩ := ChangeMaps.open_string Tryd.underlying9 (hval 5 9 v5 rfl rfl) h5
  obtain ⟨a2, c2, z2, rfl, t2, b2, n2⟩ := open_turns Tryd.underlying22 Tryd.underlying25 (by kernel_rfl) rfl rfl (by kernel_rfl) (by kernel_rfl) Tryd.underlying9 Tryd.underlying3 (hval 2 22 v2 rfl rfl) h2
  obtain ⟨a3, c3, z3, rfl, t3, b3, n3⟩ := open_turns Tryd.underlying22 Tryd.underlying25 (by kernel_rfl) rfl rfl (by kernel_rfl) (by kernel_rfl) Tryd.underlying9 Tryd.underlying3 (hval 3 22 v3 rfl rfl) h3
  have s0 : a0.size ≤ 140737488351232 := by have h := sized_string hsz (j := 0) (t := 9) rfl rfl; simpa [reachBytes] using h
  have s1 : a1.size ≤ 140737488351232 := by have h := sized_string hsz (j := 1) (t := 9) rfl rfl; simpa [reachBytes] using h
  have s4 : a4.size ≤ 140737488351232 := by have h := sized_string hsz (j := 4) (t := 9) rfl rfl; simpa [reachBytes] using h
  have s5 : a5.size ≤ 140737488351232 := by have h := sized_string hsz (j := 5) (t := 9) rfl rfl; simpa [reachBytes] using h
  have hbk : Rows.uptoBulkAll _ ≤ 1048576 := of_decide_eq_true (hcond _ rfl)
  simp [Rows.uptoBulkAll, Rows.uptoBulk] at hbk
  have b0 : a0.size ≤ 1048576 := by have e : a0.data.size = a0.size := rfl; omega
  have b1 : a1.size ≤ 1048576 := by have e : a1.data.size = a1.size := rfl; omega
  have e2 : tsz z2 ≤ 1048576 := by omega
  have e3 : tsz z3 ≤ 1048576 := by omega
  have b4 : a4.size ≤ 1048576 := by have e : a4.data.size = a4.size := rfl; omega
  have b5 : a5.size ≤ 1048576 := by have e : a5.data.size = a5.size := rfl; omega
  refine (fnTwoChunks_walk W a0 a1 a2 c2 z2 a3 c3 z3 a4 a5 b0 b1 t2 n2 e2 t3 n3 e3 b4 b5 hT).mono fun e W' ⟨he, hb⟩ => ⟨_, he, ?_⟩
  exact law_post (s := Rows.fnTwoChunksSpec) (f := Tryd.f5) (tb := 4) (by kernel_rfl) (by kernel_rfl) (by kernel_rfl) Tryd.underlying4 rfl (fun ds h => by rw [Tryd.params5] at h; match ds, h with | [_, _, _, _, _, _], _ => rfl) hW' hb

theorem fnTwoChunks_said : Rows.FnTwoChunksUptoSaid :=
  OpenClaim.holds_of_cond 5 Tryd.f5 rfl rfl rfl rfl rfl rfl rfl ⟨rfl, rfl, rfl, rfl, rfl⟩ rfl rfl rfl rfl rfl (by kernel_rfl) Tryd.func5 (by kernel_rfl)
    (of_decide_eq_true (by kernel_rfl)) (by unfold Func.isWrapper; first | (rw [if_pos (by decide +kernel)]; kernel_rfl) | (rw [if_neg (by decide +kernel)]; exact ⟨rfl, rfl⟩))
    (fun os started H enc _ F => by rw [OpenClaim.pre_eq_preRow]; exact fnTwoChunks_lifted os started H enc F)

theorem fnTwoChunks_plain (f : FuncId) (fn : Func) (hf : Tryd.pinned.checked.prog.funcNamed "mapthread/laws.FnTwoChunks" = some f) (hfn : Tryd.pinned.checked.prog.funcs[f]? = some fn) :
    false = Tryd.pinned.checked.prog.looks [] ∧ ∀ (j : Nat) t, fn.params[j]? = some t → Tryd.pinned.checked.prog.wantsStandIn t = false := by
  obtain rfl : f = 5 := Option.some.inj ((show Tryd.prog.funcNamed "mapthread/laws.FnTwoChunks" = some 5 by kernel_rfl).symm.trans hf) |>.symm
  obtain rfl : fn = Tryd.f5 := (Option.some.inj (Tryd.func5.symm.trans hfn)).symm
  refine ⟨by kernel_rfl, fun j t ht => ?_⟩
  rw [Tryd.params5] at ht
  have hm := Array.mem_of_getElem? ht
  simp at hm
  rcases hm with rfl | rfl | rfl
  · exact (show Tryd.prog.wantsStandIn 9 = false by kernel_rfl)
  · exact (show Tryd.prog.wantsStandIn 22 = false by kernel_rfl)
  · exact (show Tryd.prog.wantsStandIn 9 = false by kernel_rfl)

theorem fnTwoChunksUpto_card : Rows.FnTwoChunksUptoCardSaid :=
  Claim7.holds_tied_plain_at .later [] _ _ _ _ fnTwoChunks_said (fun _ h => by cases h) (by kernel_rfl) (fun _ h => by cases h) fnTwoChunksUpto_row_tie rfl ⟨rfl, rfl⟩ (by kernel_rfl) rfl fnTwoChunks_plain (by kernel_rfl)
#print axioms fnTwoChunksUpto_card
end Go.Proofs.YtnokiikgnplpmaaDoor

/-
  laws.FnChunkEnd: for all sources and outputs of UTF-8 the state at the end has the line of the output's end, and all else of the last mapping. Conditions: the arguments hold together at most 1048576 values and letters (the second form); the table of signs is as its text lays it.
-/
import Derived.Test.YtnokiikgnplpmaaDoorM16
import Derived.Test.YtnokiikgnplpmaaDoorM7
import Derived.Test.YtnokiikgnplpmaaDoorM5
import Derived.Test.YtnokiikgnplpmaaDoorM2
namespace Go.Proofs.YtnokiikgnplpmaaDoor
open Go.RowKit Go.ChangeShapes Go.WideShapes Go.ChangeAt
attribute [local go_sem ↓] Go.wp_at_zero Go.wp_at_succ
theorem blk_new2 (w : World) (o : Obj) (t : TypeId) (cs : Array Value) : Blk ((w.alloc o).alloc (.cells cs t)) (w.heap.size + 1) t cs := by
  have h := Blk.new (w.alloc o) t cs
  rw [show (w.alloc o).heap.size = w.heap.size + 1 by simp] at h
  exact h

theorem spec0_any (rs : List Nat) (w : World) (hv : okR rs) (hs : (txt rs).size ≤ 1125899906842624) :
    Calls Tryd.prog 17 #[.agg #[.int .i64 0, .int .i64 0], .string (txt rs)] w fun e w' => e = .returned (.agg #[.int .i64 ((advI rs (0, 0)).1 : Int), .int .i64 ((advI rs (0, 0)).2 : Int)]) ∧ Below w.heap.size w w' :=
  specT_any rs 0 0 w hv hs (by omega) (by omega)

set_option maxHeartbeats 8000000 in
set_option maxRecDepth 100000 in
theorem fnChunkEnd_walk (W : World) (a0 : ByteArray) (a1 : Int) (a2 : Option Addr) (c2 : Nat) (z2 : List (ByteArray × Int)) (a3 : ByteArray) (b0 : a0.size ≤ 1048576) (_w1 : (Lit.int .i64 a1).wf = true) (t2 : TurnsIn W a2 z2) (n2 : a2 = none → z2.length = 0 ∧ c2 = 0) (e2 : tsz z2 ≤ 1048576) (b3 : a3.size ≤ 1048576) (hT : B64 W.heap.size W) :
    Calls Tryd.prog 11 #[.string a0, .int .i64 a1, .slice a2 z2.length c2, .string a3] W fun e W' => e = .returned (.bool true) ∧ Below W.heap.size W W' := by
  have ks : ∀ (W : World) (x y : ByteArray), x.size + y.size ≤ 9223372036854775807 → (Op.stringOp .add x y).run Tryd.prog W = .ok (.string (x ++ y)) W := fun W x y h => run_string_add_sum W x y h
  obtain ⟨iT, hiT, hT0, hT1, hT2⟩ := info_parts info_turn
  have HN3 := Lib.hid n2
  have HT3 := Lib.hid t2
  clear n2 t2
  have hzl := tsz_len z2
  go_enter Tryd.func11, Tryd.ntmps11
  go_wp2_with fail
  refine (validT_any a0 _ (by omega)).mono ?_
  rintro e W1 ⟨⟨rs, hrs, hz0, rfl⟩, hb1⟩
  go_wp2_with fail
  refine (validT_any a3 _ (by omega)).mono ?_
  rintro e W2 ⟨⟨rest, hrest, hz4, rfl⟩, hb2⟩
  have HB2 := Lib.hid (bthen hb1 hb2)
  have hs2 := HB2.out.size
  have T2 := Lib.hid (HT3.out.after HB2.out)
  clear hb1 hb2 HT3
  go_wp2_with (at_builtin; refine wpList_append_own_src _ rfl (.tmp 22) (.tmp 23) 22 22 rfl W2.heap.size 25 iT _ 2 24 Tryd.underlying22 hiT hT0 hT1 hT2 rfl (by omega) (.slice (some ⟨W2.heap.size, 0, none⟩) 1 1) 1 (turnsC [(⟨#[97, 98]⟩, 0)]) rfl (turns_new W2 (⟨#[97, 98]⟩, 0) W2.heap.size (Nat.le_refl _)) (.slice a2 z2.length c2) z2.length (turnsC z2) rfl (turns_src (T2.out.after (balloc (Below.refl _ _) _)) HN3.out) (by unfold maxLen; omega) (by omega) (by simp) ?_; intro v3 w3 ho3 hg3 hat3; have O3 := Lib.hid ho3; have G3 := Lib.hid hg3; clear ho3 hg3 hat3)
  have HB3 := Lib.hid (bgrown (balloc HB2.out _) (Nat.le_refl _) G3.out (fun k hk => by simp [Value.ownBlock] at hk; omega))
  have O3' : w3.ownsRow W2.heap.size 25 2 v3 ((⟨#[97, 98]⟩, 0) :: z2 : List (ByteArray × Int)).length (turnsC ((⟨#[97, 98]⟩, 0) :: z2)) := by
    rw [List.length_cons, Nat.add_comm, turnsC_cons]
    exact O3.out
  have hts := tsz_cons (⟨#[97, 98]⟩, 0) z2
  have hsz2 : (⟨#[97, 98]⟩ : ByteArray).size = 2 := rfl
  have htz : tsz ((⟨#[97, 98]⟩, 0) :: z2 : List (ByteArray × Int)) ≤ 2097152 := by rw [hts]; simp only [hsz2]; omega
  clear hts hsz2
  have TA := Lib.hid (turns_own O3' (by simp))
  have h0 : Hid (0 < (encs (stepR (⟨#[97, 98]⟩ : ByteArray))).length) := Lib.hid (by rw [step_ab]; omega)
  obtain ⟨X, hX⟩ : ∃ X : ByteArray × Int, X = (⟨#[97, 98]⟩, 0) := ⟨_, rfl⟩
  rw [← hX] at htz TA
  have h1 : Hid (0 < (encs (stepR X.1)).length) := Lib.hid (by rw [hX]; exact h0.out)
  clear O3 G3 O3' T2 HN3 HB2 h0 hX
  obtain ⟨toks, hbt, hgl, hgc, hsm⟩ := endT_inv rs hrs (by omega) (X :: z2) rest hrest (by omega) htz
  have hsp : 0 < (rsegs qz toks).length := cend_segs _ _ _ _ toks hbt
  have hT3' := Lib.hid (hT.below HB3.out)
  have hs3 := HB3.out.size
  have hT3 : B64 w3.heap.size w3 := hT3'.out.mono hs3
  refine (chunkL_any rs hrs (by omega) a1 X z2 v3 rest (by omega) w3 hT3 TA.out htz h1.out toks hbt hsm).mono ?_
  rintro e w4 ⟨u4, rfl, ho4, hb4⟩
  have HB4 := Lib.hid (HB3.out.trans (hb4.mono hs3))
  have TA4 := Lib.hid (TA.out.below hb4)
  have hz34 := hb4.size
  obtain ⟨xl, hxl⟩ : ∃ xl, (rsegs qz toks).getLast? = some xl := by
    rcases hx : (rsegs qz toks).getLast? with _ | y
    · rw [List.getLast?_eq_none_iff] at hx; rw [hx] at hsp; simp at hsp
    · exact ⟨y, rfl⟩
  obtain ⟨p1, p2, p3, p4, p5, p6⟩ := last_seg toks qz xl hxl
  rw [hbt.l] at p4 p5 p6
  rw [hbt.c] at p5 p6
  rw [hbt.s] at p1
  rw [hbt.fl] at p2
  rw [hbt.fc] at p3
  obtain ⟨D, hD⟩ : ∃ D, D = endT rs (X :: z2) rest := ⟨_, rfl⟩
  rw [← hD] at p1 p2 p3 p4 p5 p6 hgl hgc
  rw [← hD]
  have HF := Lib.hid (And.intro p1 (And.intro p2 (And.intro p3 (And.intro p4 (And.intro p5 (And.intro p6 (And.intro hgl hgc)))))))
  have hall := allR_len (txt rs) (X :: z2)
  have hlast : Hid ((sgs (rsegs qz toks)).drop (((rsegs qz toks).length - 1) * 7) = xl.cells) := Lib.hid (by
    rcases List.eq_nil_or_concat (rsegs qz toks) with e | ⟨l, y, e⟩
    · rw [e] at hsp; simp at hsp
    · rw [e, List.concat_eq_append] at hxl ⊢
      simp at hxl
      subst hxl
      rw [sgs_snoc, List.length_append, List.length_singleton, Nat.add_sub_cancel, ← sgs_len, List.drop_left])
  have hlen : (rsegs qz toks).length ≤ 549755813888 := by
    have := rsegs_short hbt.ok true
    rw [← hbt.sm] at this
    omega
  generalize hgn : (rsegs qz toks).length = gn at *
  generalize hgs : sgs (rsegs qz toks) = gs at *
  clear p1 p2 p3 p4 p5 p6 hgl hgc hD hbt hsm hxl hb4 hT3 hT3' TA HB3 hgn hgs hT
  obtain ⟨A4, c4, rfl, hA4⟩ := own_form ho4
  obtain ⟨k4, rfl, hk4⟩ := hA4 hsp
  have hk4z : k4 < w4.heap.size := (own_lt ho4 rfl).2
  have hcl : Hid (∀ j u, xl.cells[j]? = some u → w4.cell? ⟨k4, (gn - 1) * 7 + j, none⟩ = some u) := Lib.hid (fun j u hj => by
    refine hk4 _ _ ?_
    rw [← hlast.out, List.getElem?_drop] at hj
    exact hj)
  clear ho4 hA4 hk4 hlast
  unfold stC
  go_upto_region 6 with fail
  have Y5 := Lib.hid (Blk.new w4 30 #[.int .i64 D.st.gl, .int .i64 D.st.gc, .int .i64 D.st.si, .int .i64 D.st.ol, .int .i64 D.st.oc, .int .i64 D.st.on])
  have hba := balloc (Below.refl w4.heap.size w4) (.cells #[.int .i64 D.st.gl, .int .i64 D.st.gc, .int .i64 D.st.si, .int .i64 D.st.ol, .int .i64 D.st.oc, .int .i64 D.st.on] 30)
  have hsB := HB4.out.size
  have HB5 := Lib.hid (HB4.out.trans (hba.mono hsB))
  have TA5 := Lib.hid (TA4.out.below (hba.mono hz34))
  have hcl5 : Hid (∀ j u, xl.cells[j]? = some u → (w4.alloc (.cells #[.int .i64 D.st.gl, .int .i64 D.st.gc, .int .i64 D.st.si, .int .i64 D.st.ol, .int .i64 D.st.oc, .int .i64 D.st.on] 30)).cell? ⟨k4, (gn - 1) * 7 + j, none⟩ = some u) := Lib.hid (fun j u hj => (hba.cell (p := ⟨k4, _, none⟩) hk4z).trans (hcl.out j u hj))
  generalize hw5 : w4.alloc (.cells #[.int .i64 D.st.gl, .int .i64 D.st.gc, .int .i64 D.st.si, .int .i64 D.st.ol, .int .i64 D.st.oc, .int .i64 D.st.on] 30) = w5 at *
  have hz5 : w5.heap.size = w4.heap.size + 1 := by rw [← hw5]; simp
  have HZ5 := Lib.hid hz5
  clear hba hcl HB4 TA4 hw5 hz5
  go_wp2_with fail
  have TB : TurnsAt w5 w5.heap.size v3 (X :: z2) := by
    obtain ⟨R, c, g1, g2, g3⟩ := TA5.out
    exact ⟨R, c, g1, by have := HZ5.out; omega, g3⟩
  refine (made_any (txt rs) (X :: z2) v3 w5 (by omega) (by omega) TB).mono ?_
  rintro e w6 ⟨u6, rfl, ho6, hb6⟩
  have hsB5 := HB5.out.size
  have HB6 := Lib.hid (HB5.out.trans (hb6.mono hsB5))
  have Y6 := Lib.hid (Y5.out.kep (Kep.of_below (X := fun _ => False) hb6) (fun q => q))
  have hk45 : k4 < w5.heap.size := by have := HZ5.out; omega
  have hcl6 : Hid (∀ j u, xl.cells[j]? = some u → w6.cell? ⟨k4, (gn - 1) * 7 + j, none⟩ = some u) := Lib.hid (fun j u hj => (hb6.cell (p := ⟨k4, _, none⟩) hk45).trans (hcl5.out j u hj))
  have hz56 := hb6.size
  clear ho6 hb6 HB5 Y5 hcl5 TB TA5
  have hvall := allR_ok (txt rs) (X :: z2)
  have hasz : (txt (allR (mkSteps (txt rs) (X :: z2)))).size ≤ 2097152 := by rw [txt_size]; omega
  have HCAT : Hid (txt (allR (mkSteps (txt rs) (X :: z2))) ++ txt rest = txt (allR (mkSteps (txt rs) (X :: z2)) ++ rest)) := Lib.hid (txt_app _ _)
  have hvar := Lib.hid (hvall.app hrest)
  have hrz2 : (txt rest).size ≤ 1048576 := by omega
  have hcz : (txt (allR (mkSteps (txt rs) (X :: z2)) ++ rest)).size ≤ 4194304 := by
    rw [← HCAT.out, ByteArray.size_append]
    omega
  obtain ⟨AR, hAR⟩ : ∃ AR, AR = allR (mkSteps (txt rs) (X :: z2)) := ⟨_, rfl⟩
  rw [← hAR] at HF HCAT hvar hcz hasz
  rw [← hAR]
  clear hAR hvall
  have g0 : w6.cell? ⟨k4, (gn - 1) * 7, none⟩ = some (.int .i64 xl.l) := hcl6.out 0 _ rfl
  have g1 : w6.cell? ⟨k4, (gn - 1) * 7 + 1, none⟩ = some (.int .i64 xl.c) := hcl6.out 1 _ rfl
  have g2 : w6.cell? ⟨k4, (gn - 1) * 7 + 2, none⟩ = some (.int .i64 xl.s) := hcl6.out 2 _ rfl
  have g3 : w6.cell? ⟨k4, (gn - 1) * 7 + 3, none⟩ = some (.int .i64 xl.fl) := hcl6.out 3 _ rfl
  have g4 : w6.cell? ⟨k4, (gn - 1) * 7 + 4, none⟩ = some (.int .i64 xl.fc) := hcl6.out 4 _ rfl
  have g5 : w6.cell? ⟨k4, (gn - 1) * 7 + 5, none⟩ = some (.int .i64 xl.nm) := hcl6.out 5 _ rfl
  have g6 : w6.cell? ⟨k4, (gn - 1) * 7 + 6, none⟩ = some (.bool xl.nd) := hcl6.out 6 _ rfl
  have i1 : IntKind.i64.wrap ((gn : Int) - 1) = (gn : Int) - 1 := IntWalk.i64_in _ (by omega)
  have i2 : (1 : Int) ≤ (gn : Int) := by omega
  have i3 : 1 ≤ gn := by omega
  have i4 : ((gn : Int) - 1).toNat = gn - 1 := by omega
  have i5 : gn - 1 < gn := by omega
  have i6 : (gn : Int) - 1 < (gn : Int) := by omega
  go_wp2_with fail
  have hk6 : k4 < w6.heap.size := by omega
  have hB6 : Below w6.heap.size w6 w6 := Below.refl _ _
  have kadd : ∀ W, (Op.stringOp .add (txt AR) (txt rest)).run Tryd.prog W = .ok (.string (txt (AR ++ rest))) W := fun W => by
    rw [ks W _ _ (by omega), HCAT.out]
  clear ks
  go_cut [15, 16] (fun s15 s16 wx => ∃ h15 h16 : Nat, s15 = .pointer (some ⟨h15, 0, none⟩) ∧ s16 = .pointer (some ⟨h16, 0, none⟩) ∧ Out2 w6 #[.int .i64 xl.l, .int .i64 xl.c, .int .i64 xl.s, .int .i64 xl.fl, .int .i64 xl.fc, .int .i64 xl.nm, .bool xl.nd] #[.int .i64 ((advI (AR ++ rest) (0, 0)).1 : Int), .int .i64 ((advI (AR ++ rest) (0, 0)).2 : Int)] h15 h16 wx)
  case first =>
    clear Y6 HB6 HF hcl6 HZ5 hzl hz0 hz4 hs2 hs3 hz34 hsB hsB5 hk45 hz56 hall hlen HCAT
    have qk1 := Nat.ne_of_lt hk6
    have qk2 := Nat.ne_of_lt (Nat.lt_succ_of_lt hk6)
    go_region_with ((first | (go_at_call 17; refine (spec0_any (AR ++ rest) _ hvar.out (by omega)).mono ?_; rintro e w' ⟨rfl, hbq⟩; have hX := bthen (by with_reducible exact hB6.drew) hbq; have q0 := (hX.cell (p := ⟨k4, (gn - 1) * 7, none⟩) hk6).trans g0; have q1 := (hX.cell (p := ⟨k4, (gn - 1) * 7 + 1, none⟩) hk6).trans g1; have q2 := (hX.cell (p := ⟨k4, (gn - 1) * 7 + 2, none⟩) hk6).trans g2; have q3 := (hX.cell (p := ⟨k4, (gn - 1) * 7 + 3, none⟩) hk6).trans g3; have q4 := (hX.cell (p := ⟨k4, (gn - 1) * 7 + 4, none⟩) hk6).trans g4; have q5 := (hX.cell (p := ⟨k4, (gn - 1) * 7 + 5, none⟩) hk6).trans g5; have q6 := (hX.cell (p := ⟨k4, (gn - 1) * 7 + 6, none⟩) hk6).trans g6; have qw := hX.size; have qz := Nat.lt_of_lt_of_le hk6 hX.size; have qn := Nat.ne_of_lt qz; have qm := (Nat.ne_of_lt hk6).symm) | (go_at_call 17; refine (spec0_any (AR ++ rest) _ hvar.out (by omega)).mono ?_; rintro e w' ⟨rfl, hbq⟩; have hX := bthen (by with_reducible exact (balloc hB6 (.cells #[.int .i64 0, .int .i64 0, .int .i64 0, .int .i64 0, .int .i64 0, .int .i64 0, .bool false] 45)).drew) hbq; have q0 := (hX.cell (p := ⟨k4, (gn - 1) * 7, none⟩) hk6).trans g0; have q1 := (hX.cell (p := ⟨k4, (gn - 1) * 7 + 1, none⟩) hk6).trans g1; have q2 := (hX.cell (p := ⟨k4, (gn - 1) * 7 + 2, none⟩) hk6).trans g2; have q3 := (hX.cell (p := ⟨k4, (gn - 1) * 7 + 3, none⟩) hk6).trans g3; have q4 := (hX.cell (p := ⟨k4, (gn - 1) * 7 + 4, none⟩) hk6).trans g4; have q5 := (hX.cell (p := ⟨k4, (gn - 1) * 7 + 5, none⟩) hk6).trans g5; have q6 := (hX.cell (p := ⟨k4, (gn - 1) * 7 + 6, none⟩) hk6).trans g6; have qw := hX.size; have qz := Nat.lt_of_lt_of_le hk6 hX.size; have qn := Nat.ne_of_lt qz; have qm := (Nat.ne_of_lt hk6).symm; have ya := Blk.kep (Blk.drew (Blk.new w6 45 #[.int .i64 0, .int .i64 0, .int .i64 0, .int .i64 0, .int .i64 0, .int .i64 0, .bool false])) (Kep.of_below (X := fun _ => False) hbq) (fun q => q); have yac0 : w'.cell? ⟨w6.heap.size, 0, none⟩ = some (.int .i64 0) := ya.cell 0; have yaf0 := ya.frozen 0; have yac1 : w'.cell? ⟨w6.heap.size, 1, none⟩ = some (.int .i64 0) := ya.cell 1; have yaf1 := ya.frozen 1; have yac2 : w'.cell? ⟨w6.heap.size, 2, none⟩ = some (.int .i64 0) := ya.cell 2; have yaf2 := ya.frozen 2; have yac3 : w'.cell? ⟨w6.heap.size, 3, none⟩ = some (.int .i64 0) := ya.cell 3; have yaf3 := ya.frozen 3; have yac4 : w'.cell? ⟨w6.heap.size, 4, none⟩ = some (.int .i64 0) := ya.cell 4; have yaf4 := ya.frozen 4; have yac5 : w'.cell? ⟨w6.heap.size, 5, none⟩ = some (.int .i64 0) := ya.cell 5; have yaf5 := ya.frozen 5; have yac6 : w'.cell? ⟨w6.heap.size, 6, none⟩ = some (.bool false) := ya.cell 6; have yaf6 := ya.frozen 6; have yaz := ya.lt; have HYA := Lib.hid ya; clear ya) | (go_at_call 17; refine (spec0_any (AR ++ rest) _ hvar.out (by omega)).mono ?_; rintro e w' ⟨rfl, hbq⟩; have hX := bthen (by with_reducible exact (balloc hB6 (.cells #[.int .i64 0, .int .i64 0] 42)).drew) hbq; have q0 := (hX.cell (p := ⟨k4, (gn - 1) * 7, none⟩) hk6).trans g0; have q1 := (hX.cell (p := ⟨k4, (gn - 1) * 7 + 1, none⟩) hk6).trans g1; have q2 := (hX.cell (p := ⟨k4, (gn - 1) * 7 + 2, none⟩) hk6).trans g2; have q3 := (hX.cell (p := ⟨k4, (gn - 1) * 7 + 3, none⟩) hk6).trans g3; have q4 := (hX.cell (p := ⟨k4, (gn - 1) * 7 + 4, none⟩) hk6).trans g4; have q5 := (hX.cell (p := ⟨k4, (gn - 1) * 7 + 5, none⟩) hk6).trans g5; have q6 := (hX.cell (p := ⟨k4, (gn - 1) * 7 + 6, none⟩) hk6).trans g6; have qw := hX.size; have qz := Nat.lt_of_lt_of_le hk6 hX.size; have qn := Nat.ne_of_lt qz; have qm := (Nat.ne_of_lt hk6).symm; have yb := Blk.kep (Blk.drew (Blk.new w6 42 #[.int .i64 0, .int .i64 0])) (Kep.of_below (X := fun _ => False) hbq) (fun q => q); have ybc0 : w'.cell? ⟨w6.heap.size, 0, none⟩ = some (.int .i64 0) := yb.cell 0; have ybf0 := yb.frozen 0; have ybc1 : w'.cell? ⟨w6.heap.size, 1, none⟩ = some (.int .i64 0) := yb.cell 1; have ybf1 := yb.frozen 1; have ybz := yb.lt; have HYB := Lib.hid yb; clear yb) | (go_at_call 17; refine (spec0_any (AR ++ rest) _ hvar.out (by omega)).mono ?_; rintro e w' ⟨rfl, hbq⟩; have hX := bthen (by with_reducible exact (balloc (balloc hB6 (.cells #[.int .i64 0, .int .i64 0, .int .i64 0, .int .i64 0, .int .i64 0, .int .i64 0, .bool false] 45)) (.cells #[.int .i64 0, .int .i64 0] 42)).drew) hbq; have q0 := (hX.cell (p := ⟨k4, (gn - 1) * 7, none⟩) hk6).trans g0; have q1 := (hX.cell (p := ⟨k4, (gn - 1) * 7 + 1, none⟩) hk6).trans g1; have q2 := (hX.cell (p := ⟨k4, (gn - 1) * 7 + 2, none⟩) hk6).trans g2; have q3 := (hX.cell (p := ⟨k4, (gn - 1) * 7 + 3, none⟩) hk6).trans g3; have q4 := (hX.cell (p := ⟨k4, (gn - 1) * 7 + 4, none⟩) hk6).trans g4; have q5 := (hX.cell (p := ⟨k4, (gn - 1) * 7 + 5, none⟩) hk6).trans g5; have q6 := (hX.cell (p := ⟨k4, (gn - 1) * 7 + 6, none⟩) hk6).trans g6; have qw := hX.size; have qz := Nat.lt_of_lt_of_le hk6 hX.size; have qn := Nat.ne_of_lt qz; have qm := (Nat.ne_of_lt hk6).symm; have ya := Blk.kep (Blk.drew ((Blk.new w6 45 #[.int .i64 0, .int .i64 0, .int .i64 0, .int .i64 0, .int .i64 0, .int .i64 0, .bool false]).alloc (.cells #[.int .i64 0, .int .i64 0] 42))) (Kep.of_below (X := fun _ => False) hbq) (fun q => q); have yac0 : w'.cell? ⟨w6.heap.size, 0, none⟩ = some (.int .i64 0) := ya.cell 0; have yaf0 := ya.frozen 0; have yac1 : w'.cell? ⟨w6.heap.size, 1, none⟩ = some (.int .i64 0) := ya.cell 1; have yaf1 := ya.frozen 1; have yac2 : w'.cell? ⟨w6.heap.size, 2, none⟩ = some (.int .i64 0) := ya.cell 2; have yaf2 := ya.frozen 2; have yac3 : w'.cell? ⟨w6.heap.size, 3, none⟩ = some (.int .i64 0) := ya.cell 3; have yaf3 := ya.frozen 3; have yac4 : w'.cell? ⟨w6.heap.size, 4, none⟩ = some (.int .i64 0) := ya.cell 4; have yaf4 := ya.frozen 4; have yac5 : w'.cell? ⟨w6.heap.size, 5, none⟩ = some (.int .i64 0) := ya.cell 5; have yaf5 := ya.frozen 5; have yac6 : w'.cell? ⟨w6.heap.size, 6, none⟩ = some (.bool false) := ya.cell 6; have yaf6 := ya.frozen 6; have yaz := ya.lt; have HYA := Lib.hid ya; clear ya; have yb := Blk.kep (Blk.drew (blk_new2 w6 (.cells #[.int .i64 0, .int .i64 0, .int .i64 0, .int .i64 0, .int .i64 0, .int .i64 0, .bool false] 45) 42 #[.int .i64 0, .int .i64 0])) (Kep.of_below (X := fun _ => False) hbq) (fun q => q); have ybc0 : w'.cell? ⟨w6.heap.size + 1, 0, none⟩ = some (.int .i64 0) := yb.cell 0; have ybf0 := yb.frozen 0; have ybc1 : w'.cell? ⟨w6.heap.size + 1, 1, none⟩ = some (.int .i64 0) := yb.cell 1; have ybf1 := yb.frozen 1; have ybz := yb.lt; have HYB := Lib.hid yb; clear yb) | (go_at_call 17; refine (spec0_any (AR ++ rest) _ hvar.out (by omega)).mono ?_; rintro e w' ⟨rfl, hbq⟩; have hX := bthen (by with_reducible exact (balloc (balloc hB6 (.cells #[.int .i64 0, .int .i64 0] 42)) (.cells #[.int .i64 0, .int .i64 0, .int .i64 0, .int .i64 0, .int .i64 0, .int .i64 0, .bool false] 45)).drew) hbq; have q0 := (hX.cell (p := ⟨k4, (gn - 1) * 7, none⟩) hk6).trans g0; have q1 := (hX.cell (p := ⟨k4, (gn - 1) * 7 + 1, none⟩) hk6).trans g1; have q2 := (hX.cell (p := ⟨k4, (gn - 1) * 7 + 2, none⟩) hk6).trans g2; have q3 := (hX.cell (p := ⟨k4, (gn - 1) * 7 + 3, none⟩) hk6).trans g3; have q4 := (hX.cell (p := ⟨k4, (gn - 1) * 7 + 4, none⟩) hk6).trans g4; have q5 := (hX.cell (p := ⟨k4, (gn - 1) * 7 + 5, none⟩) hk6).trans g5; have q6 := (hX.cell (p := ⟨k4, (gn - 1) * 7 + 6, none⟩) hk6).trans g6; have qw := hX.size; have qz := Nat.lt_of_lt_of_le hk6 hX.size; have qn := Nat.ne_of_lt qz; have qm := (Nat.ne_of_lt hk6).symm; have yb := Blk.kep (Blk.drew ((Blk.new w6 42 #[.int .i64 0, .int .i64 0]).alloc (.cells #[.int .i64 0, .int .i64 0, .int .i64 0, .int .i64 0, .int .i64 0, .int .i64 0, .bool false] 45))) (Kep.of_below (X := fun _ => False) hbq) (fun q => q); have ybc0 : w'.cell? ⟨w6.heap.size, 0, none⟩ = some (.int .i64 0) := yb.cell 0; have ybf0 := yb.frozen 0; have ybc1 : w'.cell? ⟨w6.heap.size, 1, none⟩ = some (.int .i64 0) := yb.cell 1; have ybf1 := yb.frozen 1; have ybz := yb.lt; have HYB := Lib.hid yb; clear yb; have ya := Blk.kep (Blk.drew (blk_new2 w6 (.cells #[.int .i64 0, .int .i64 0] 42) 45 #[.int .i64 0, .int .i64 0, .int .i64 0, .int .i64 0, .int .i64 0, .int .i64 0, .bool false])) (Kep.of_below (X := fun _ => False) hbq) (fun q => q); have yac0 : w'.cell? ⟨w6.heap.size + 1, 0, none⟩ = some (.int .i64 0) := ya.cell 0; have yaf0 := ya.frozen 0; have yac1 : w'.cell? ⟨w6.heap.size + 1, 1, none⟩ = some (.int .i64 0) := ya.cell 1; have yaf1 := ya.frozen 1; have yac2 : w'.cell? ⟨w6.heap.size + 1, 2, none⟩ = some (.int .i64 0) := ya.cell 2; have yaf2 := ya.frozen 2; have yac3 : w'.cell? ⟨w6.heap.size + 1, 3, none⟩ = some (.int .i64 0) := ya.cell 3; have yaf3 := ya.frozen 3; have yac4 : w'.cell? ⟨w6.heap.size + 1, 4, none⟩ = some (.int .i64 0) := ya.cell 4; have yaf4 := ya.frozen 4; have yac5 : w'.cell? ⟨w6.heap.size + 1, 5, none⟩ = some (.int .i64 0) := ya.cell 5; have yaf5 := ya.frozen 5; have yac6 : w'.cell? ⟨w6.heap.size + 1, 6, none⟩ = some (.bool false) := ya.cell 6; have yaf6 := ya.frozen 6; have yaz := ya.lt; have HYA := Lib.hid ya; clear ya)))
    all_goals go_wp2_with fail
    all_goals go_meet
    all_goals clear i1 i4
    all_goals
      refine ⟨_, _, rfl, rfl, ?_⟩
      first | (with_reducible exact out_1 hX _ _) | (with_reducible exact out_2 hX _ _) | (with_reducible exact out_3 hX _ _ _ _ _ _ _ _ HYA.out) | (with_reducible exact out_5 hX _ _ _ HYB.out) | (with_reducible exact out_4 hX _ _ _ _ _ _ _ _ _ HYA.out HYB.out) | (with_reducible exact out_6 hX _ _ _ _ _ _ _ _ _ HYA.out HYB.out)
  case rest =>
    obtain ⟨h15, h16, rfl, rfl, hO⟩ := hcut
    obtain ⟨hX, hP, hne, hl1, hl2, hbw⟩ := hO
    obtain ⟨p1, p2, p3, p4, p5, p6, p7, p8⟩ := HF.out
    have Yw := Y6.out.kep (Kep.of_below (X := fun _ => False) hbw) (fun q => q)
    have hz46 : w4.heap.size < w6.heap.size := Y6.out.lt
    have hBw : Below W.heap.size W wc := HB6.out.trans (hbw.mono (by omega))
    rw [p1, p2, p3, p7] at Yw
    rw [p7] at p4 p5 p6
    rw [p8]
    clear HF Y6 HB6 hcl6 p1 p2 p3 p7 p8 g0 g1 g2 g3 g4 g5 g6 i1 i2 i3 i4 i5 i6 hbw hB6 kadd HCAT hvar
    obtain ⟨P, hPP⟩ : ∃ P, P = (advI (AR ++ rest) (0, 0)).1 := ⟨_, rfl⟩
    obtain ⟨C, hCC⟩ : ∃ C, C = (advI (AR ++ rest) (0, 0)).2 := ⟨_, rfl⟩
    rw [← hPP] at p4 p5 p6 hP Yw
    rw [← hCC] at hP ⊢
    clear hPP hCC
    obtain ⟨a1, a2, a3, a4, a5, a6, a7⟩ := xl
    simp only at p4 p5 p6 hX Yw
    obtain ⟨gc, hgc⟩ : ∃ gc, gc = D.st.gc := ⟨_, rfl⟩
    rw [← hgc] at p5 p6 Yw
    clear hgc
    have hX1 := hX.lt
    have hP1 := hP.lt
    have hY1 := Yw.lt
    have x0 : wc.cell? ⟨h15, 0, none⟩ = some (.int .i64 a1) := hX.cell 0
    have x1 : wc.cell? ⟨h15, 1, none⟩ = some (.int .i64 a2) := hX.cell 1
    have x2 : wc.cell? ⟨h15, 2, none⟩ = some (.int .i64 a3) := hX.cell 2
    have x3 : wc.cell? ⟨h15, 3, none⟩ = some (.int .i64 a4) := hX.cell 3
    have x4 : wc.cell? ⟨h15, 4, none⟩ = some (.int .i64 a5) := hX.cell 4
    have xf := hX.frozen 1
    have o0 : wc.cell? ⟨h16, 0, none⟩ = some (.int .i64 (P : Int)) := hP.cell 0
    have o1 : wc.cell? ⟨h16, 1, none⟩ = some (.int .i64 (C : Int)) := hP.cell 1
    have y0 : wc.cell? ⟨w4.heap.size, 0, none⟩ = some (.int .i64 (P : Int)) := Yw.cell 0
    have y1 : wc.cell? ⟨w4.heap.size, 1, none⟩ = some (.int .i64 gc) := Yw.cell 1
    have y2 : wc.cell? ⟨w4.heap.size, 2, none⟩ = some (.int .i64 a3) := Yw.cell 2
    have y3 : wc.cell? ⟨w4.heap.size, 3, none⟩ = some (.int .i64 a4) := Yw.cell 3
    have y4 : wc.cell? ⟨w4.heap.size, 4, none⟩ = some (.int .i64 a5) := Yw.cell 4
    clear hX hP Yw
    have HBW := Lib.hid hBw
    clear hBw
    have ne1 : h15 ≠ w4.heap.size := by omega
    have ne2 : h16 ≠ w4.heap.size := by omega
    generalize w4.heap.size = h10 at *
    by_cases hlt : a1 < (P : Int)
    · obtain rfl := p5 hlt
      clear p5 p6 p4
      go_wp2_with fail
      go_ret
      exact ⟨rfl, HBW.out.setCell (by simp only; omega) _⟩
    · obtain rfl := p6 (by omega)
      obtain rfl : a1 = (P : Int) := by omega
      clear p5 p6 p4 hlt
      go_wp2_with fail
      go_ret
      exact ⟨rfl, HBW.out⟩

theorem fnChunkEnd_wrow (os : Os) {H : Type} (enc : TypeId × Value → H) :
    (Rows.OpenSpec.upto Rows.fnChunkEndSpec).preRow enc Tryd.prog Tryd.f11 Rows.fnChunkEndUptoRow.domain false Rows.fnChunkEndUptoRow.laid ((laidWorld os).forCall (fun _ _ => 0) ⟨#[], #[.string ⟨#[]⟩, .int .i64 0, .slice none 0 0, .string ⟨#[]⟩], []⟩).memory #[.string ⟨#[]⟩, .int .i64 0, .slice none 0 0, .string ⟨#[]⟩] := by
  have hw : ((DataW.whole enc Tryd.prog ((laidWorld os).forCall (fun _ _ => 0) ⟨#[], #[.string ⟨#[]⟩, .int .i64 0, .slice none 0 0, .string ⟨#[]⟩], []⟩).memory Tryd.f11.params.toList (Rows.OpenSpec.upto Rows.fnChunkEndSpec).vars false (#[.string ⟨#[]⟩, .int .i64 0, .slice none 0 0, .string ⟨#[]⟩] : Array Value).toList 8).map (fun x => (x.1, x.2.1))) =
      some ([.lit (.string []), .lit (.int .i64 0), .nil, .lit (.string [])], []) := by kernel_rfl
  obtain ⟨⟨x1, x2, x3⟩, hx, hx1⟩ := Option.map_eq_some_iff.1 hw
  simp only [Prod.mk.injEq] at hx1
  obtain ⟨rfl, rfl⟩ := hx1
  exact OpenSpec.preRow_of_cond 8 hx (by kernel_rfl) (fun k hk => by cases hk; kernel_rfl) (by kernel_rfl) (laid_met os _)

set_option maxRecDepth 100000 in
theorem fnChunkEnd_lifted (os : Os) (started : os.Started) (H : Type) (enc : TypeId × Value → H) (F : Stop.Interp) :
    ReturnsInHanded {} Tryd.checked os 11 .any ((Rows.OpenSpec.upto Rows.fnChunkEndSpec).preRow enc Tryd.prog Tryd.f11 Rows.fnChunkEndUptoRow.domain false Rows.fnChunkEndUptoRow.laid) (((Rows.OpenSpec.upto Rows.fnChunkEndSpec).at F).post enc Tryd.prog Tryd.f11 false true false false) := by
  refine returnsInHanded_of_row (C := Tryd.checked) (s := Rows.OpenSpec.upto Rows.fnChunkEndSpec) own started (by kernel_rfl) Tryd.func11
    (witness_row_atRef (enc := enc) (C := Tryd.checked) false (laidWorld os) #[.string ⟨#[]⟩, .int .i64 0, .slice none 0 0, .string ⟨#[]⟩] rfl (by kernel_rfl) (by kernel_rfl) (by kernel_rfl) (fnChunkEnd_wrow os enc)) ?_
  intro W base args ds gs before hval0 hW _ hcond hsz0 hL _ _
  have hT : B64 W.heap.size W := b64_of_laid hL
  have hval : ∀ (j : Nat) t v, Tryd.f11.params[j]? = some t → args[j]? = some v → Value.okWide Tryd.prog W .any base t v := hval0
  have hW' := hW
  obtain ⟨p, q, hA0, hV, rfl, hfz, hnd⟩ := hW
  have hA : DataW.TrodAll enc Tryd.prog W 0 (fun _ => true) true Tryd.f11.params.toList args.toList ds p := hA0
  have hsz : (DataW.weightsEach Tryd.prog (Tryd.f11.params.toList ++ (Rows.OpenSpec.upto Rows.fnChunkEndSpec).bare.plain.varTypes Tryd.prog) (ds ++ gs)).all (· ≤ reachBytes) = true := hsz0
  rw [Tryd.params11] at hA hval hsz
  obtain ⟨v0, vs0, d0, ds0, p0, q0, hargs, rfl, rfl, h0, r0⟩ := trodAll_cons hA
  obtain ⟨v1, vs1, d1, ds1, p1, q1, rfl, rfl, rfl, h1, r1⟩ := trodAll_cons r0
  obtain ⟨v2, vs2, d2, ds2, p2, q2, rfl, rfl, rfl, h2, r2⟩ := trodAll_cons r1
  obtain ⟨v3, vs3, d3, ds3, p3, q3, rfl, rfl, rfl, h3, r3⟩ := trodAll_cons r2
  obtain ⟨rfl, rfl, rfl⟩ := trodAll_nil r3
  obtain rfl : args = #[v0, v1, v2, v3] := by cases args; simp_all
  obtain ⟨a0, rfl, rfl, rfl, w0⟩ := ChangeMaps.open_string Tryd.underlying9 (hval 0 9 v0 rfl rfl) h0
  obtain ⟨a1, rfl, rfl, rfl, w1⟩ := open_int Tryd.underlying3 (hval 1 3 v1 rfl rfl) h1
  obtain ⟨a3, rfl, rfl, rfl, w3⟩ := ChangeMaps.open_string Tryd.underlying9 (hval 3 9 v3 rfl rfl) h3
  obtain ⟨a2, c2, z2, rfl, t2, b2, n2⟩ := open_turns Tryd.underlying22 Tryd.underlying25 (by kernel_rfl) rfl rfl (by kernel_rfl) (by kernel_rfl) Tryd.underlying9 Tryd.underlying3 (hval 2 22 v2 rfl rfl) h2
  have s0 : a0.size ≤ 140737488351232 := by have h := sized_string hsz (j := 0) (t := 9) rfl rfl; simpa [reachBytes] using h
  have s3 : a3.size ≤ 140737488351232 := by have h := sized_string hsz (j := 3) (t := 9) rfl rfl; simpa [reachBytes] using h
  have hbk : Rows.uptoBulkAll _ ≤ 1048576 := of_decide_eq_true (hcond _ rfl)
  simp [Rows.uptoBulkAll, Rows.uptoBulk] at hbk
  have b0 : a0.size ≤ 1048576 := by have e : a0.data.size = a0.size := rfl; omega
  have e2 : tsz z2 ≤ 1048576 := by omega
  have b3 : a3.size ≤ 1048576 := by have e : a3.data.size = a3.size := rfl; omega
  refine (fnChunkEnd_walk W a0 a1 a2 c2 z2 a3 b0 w1 t2 n2 e2 b3 hT).mono fun e W' ⟨he, hb⟩ => ⟨_, he, ?_⟩
  exact law_post (s := Rows.fnChunkEndSpec) (f := Tryd.f11) (tb := 4) (by kernel_rfl) (by kernel_rfl) (by kernel_rfl) Tryd.underlying4 rfl (fun ds h => by rw [Tryd.params11] at h; match ds, h with | [_, _, _, _], _ => rfl) hW' hb

theorem fnChunkEnd_said : Rows.FnChunkEndUptoSaid :=
  OpenClaim.holds_of_cond 11 Tryd.f11 rfl rfl rfl rfl rfl rfl rfl ⟨rfl, rfl, rfl, rfl, rfl⟩ rfl rfl rfl rfl rfl (by kernel_rfl) Tryd.func11 (by kernel_rfl)
    (of_decide_eq_true (by kernel_rfl)) (by unfold Func.isWrapper; first | (rw [if_pos (by decide +kernel)]; kernel_rfl) | (rw [if_neg (by decide +kernel)]; exact ⟨rfl, rfl⟩))
    (fun os started H enc _ F => by rw [OpenClaim.pre_eq_preRow]; exact fnChunkEnd_lifted os started H enc F)

theorem fnChunkEnd_plain (f : FuncId) (fn : Func) (hf : Tryd.pinned.checked.prog.funcNamed "mapthread/laws.FnChunkEnd" = some f) (hfn : Tryd.pinned.checked.prog.funcs[f]? = some fn) :
    false = Tryd.pinned.checked.prog.looks [] ∧ ∀ (j : Nat) t, fn.params[j]? = some t → Tryd.pinned.checked.prog.wantsStandIn t = false := by
  obtain rfl : f = 11 := Option.some.inj ((show Tryd.prog.funcNamed "mapthread/laws.FnChunkEnd" = some 11 by kernel_rfl).symm.trans hf) |>.symm
  obtain rfl : fn = Tryd.f11 := (Option.some.inj (Tryd.func11.symm.trans hfn)).symm
  refine ⟨by kernel_rfl, fun j t ht => ?_⟩
  rw [Tryd.params11] at ht
  have hm := Array.mem_of_getElem? ht
  simp at hm
  rcases hm with rfl | rfl | rfl | rfl
  · exact (show Tryd.prog.wantsStandIn 9 = false by kernel_rfl)
  · exact (show Tryd.prog.wantsStandIn 3 = false by kernel_rfl)
  · exact (show Tryd.prog.wantsStandIn 22 = false by kernel_rfl)
  · exact (show Tryd.prog.wantsStandIn 9 = false by kernel_rfl)

theorem fnChunkEndUpto_card : Rows.FnChunkEndUptoCardSaid :=
  Claim7.holds_tied_plain_at .later [] _ _ _ _ fnChunkEnd_said (fun _ h => by cases h) (by kernel_rfl) (fun _ h => by cases h) fnChunkEndUpto_row_tie rfl ⟨rfl, rfl⟩ (by kernel_rfl) rfl fnChunkEnd_plain (by kernel_rfl)
#print axioms fnChunkEndUpto_card
end Go.Proofs.YtnokiikgnplpmaaDoor

/-
  laws.FnChunk: for all sources and outputs of UTF-8 each mapping that leads to another place than the one before is there, from its place of the output to its place of the source. Conditions: the arguments hold together at most 1048576 values and letters (the second form); the table of signs is as its text lays it.
-/
import Derived.Test.YtnokiikgnplpmaaDoorChunkAll
import Derived.Test.YtnokiikgnplpmaaDoorM2
import Derived.StillTailTactics
import Derived.Deep.RegionHeld3
namespace Go.Proofs.YtnokiikgnplpmaaDoor
open Go.RowKit Go.ChangeShapes Go.WideShapes Go.ChangeAt

/-- A mapping as a value. -/
def sv (x : Seg) : Value := .agg #[.int .i64 x.l, .int .i64 x.c, .int .i64 x.s, .int .i64 x.fl, .int .i64 x.fc, .int .i64 x.nm, .bool x.nd]
set_option maxHeartbeats 4000000 in
set_option maxRecDepth 100000 in
theorem fnChunk_walk (W : World) (a0 : ByteArray) (a1 : Int) (a2 : Option Addr) (c2 : Nat) (z2 : List (ByteArray × Int)) (a3 : ByteArray) (b0 : a0.size ≤ 1048576) (_w1 : (Lit.int .i64 a1).wf = true) (t2 : TurnsIn W a2 z2) (n2 : a2 = none → z2.length = 0 ∧ c2 = 0) (e2 : tsz z2 ≤ 1048576) (b3 : a3.size ≤ 1048576) (hT : B64 W.heap.size W) :
    Calls Tryd.prog 10 #[.string a0, .int .i64 a1, .slice a2 z2.length c2, .string a3] W fun e W' => e = .returned (.bool true) ∧ Below W.heap.size W W' := by
  have ks : ∀ (W : World) (x y : ByteArray), x.size + y.size ≤ 9223372036854775807 → (Op.stringOp .add x y).run Tryd.prog W = .ok (.string (x ++ y)) W := fun W x y h => run_string_add_sum W x y h
  obtain ⟨iT, hiT, hT0, hT1, hT2⟩ := info_parts info_turn
  have HN3 := Lib.hid n2
  have HT3 := Lib.hid t2
  clear n2 t2
  have hzl := tsz_len z2
  go_enter Tryd.func10, Tryd.ntmps10
  go_wp2_with fail
  refine (validT_any a0 _ (by omega)).mono ?_
  rintro e W1 ⟨⟨rs, hrs, hz0, rfl⟩, hb1⟩
  go_wp2_with fail
  refine (validT_any a3 _ (by omega)).mono ?_
  rintro e W2 ⟨⟨rest, hrest, hz4, rfl⟩, hb2⟩
  have HB2 := Lib.hid (bthen hb1 hb2)
  have hs2 := HB2.out.size
  have T2 := Lib.hid (HT3.out.after HB2.out)
  clear hb1 hb2 HT3
  go_wp2_with (at_builtin; refine wpList_append_own_src _ rfl (.tmp 26) (.tmp 27) 22 22 rfl W2.heap.size 25 iT _ 2 24 Tryd.underlying22 hiT hT0 hT1 hT2 rfl (by omega) (.slice (some ⟨W2.heap.size, 0, none⟩) 1 1) 1 (turnsC [(⟨#[97, 98]⟩, 0)]) rfl (turns_new W2 (⟨#[97, 98]⟩, 0) W2.heap.size (Nat.le_refl _)) (.slice a2 z2.length c2) z2.length (turnsC z2) rfl (turns_src (T2.out.after (balloc (Below.refl _ _) _)) HN3.out) (by unfold maxLen; omega) (by omega) (by simp) ?_; intro v3 w3 ho3 hg3 hat3; have O3 := Lib.hid ho3; have G3 := Lib.hid hg3; clear ho3 hg3 hat3)
  have HB3 := Lib.hid (bgrown (balloc HB2.out _) (Nat.le_refl _) G3.out (fun k hk => by simp [Value.ownBlock] at hk; omega))
  have O3' : w3.ownsRow W2.heap.size 25 2 v3 ((⟨#[97, 98]⟩, 0) :: z2 : List (ByteArray × Int)).length (turnsC ((⟨#[97, 98]⟩, 0) :: z2)) := by
    rw [List.length_cons, Nat.add_comm, turnsC_cons]
    exact O3.out
  have hts := tsz_cons (⟨#[97, 98]⟩, 0) z2
  have hsz2 : (⟨#[97, 98]⟩ : ByteArray).size = 2 := rfl
  have htz : tsz ((⟨#[97, 98]⟩, 0) :: z2 : List (ByteArray × Int)) ≤ 2097152 := by rw [hts]; simp only [hsz2]; omega
  clear hts hsz2
  have TA := Lib.hid (turns_own O3' (by simp))
  have h0 : Hid (0 < (encs (stepR (⟨#[97, 98]⟩ : ByteArray))).length) := Lib.hid (by rw [step_ab]; omega)
  obtain ⟨X, hX⟩ : ∃ X : ByteArray × Int, X = (⟨#[97, 98]⟩, 0) := ⟨_, rfl⟩
  rw [← hX] at htz TA
  have h1 : Hid (0 < (encs (stepR X.1)).length) := Lib.hid (by rw [hX]; exact h0.out)
  clear O3 G3 O3' T2 HN3 HB2 h0 hX
  obtain ⟨toks, hci, hnew, _, _, hsm, _⟩ := endT_inv2 rs hrs (by omega) (X :: z2) rest hrest (by omega) htz
  have hsp : 0 < (rsegs qz toks).length := cend_segs _ _ _ _ toks hci.tok
  have hT3' := Lib.hid (hT.below HB3.out)
  have hs3 := HB3.out.size
  have hT3 : B64 w3.heap.size w3 := hT3'.out.mono hs3
  refine (chunkL_any rs hrs (by omega) a1 X z2 v3 rest (by omega) w3 hT3 TA.out htz h1.out toks hci.tok hsm).mono ?_
  rintro e w4 ⟨u4, rfl, ho4, hb4⟩
  have HB4 := Lib.hid (HB3.out.trans (hb4.mono hs3))
  have TA4 := Lib.hid (TA.out.below hb4)
  have hz34 := hb4.size
  have hlen : (rsegs qz toks).length ≤ 549755813888 := by
    have := rsegs_short hci.tok.ok true
    rw [← hci.tok.sm] at this
    omega
  have HSEG := Lib.hid hci.seg
  have HNEW := Lib.hid hnew
  have HBD := Lib.hid hci.bd
  have HSRT := Lib.hid hci.srt
  have hstl : (mkSteps (txt rs) (X :: z2)).length = (X :: z2).length := by simp [mkSteps]
  obtain ⟨ts, hts⟩ : ∃ ts, ts = tabsOf (txt rs) := ⟨_, rfl⟩
  have HTS := Lib.hid hts
  obtain ⟨D, hD⟩ : ∃ D, D = endT rs (X :: z2) rest := ⟨_, rfl⟩
  rw [← hD]
  rw [← hts] at HSEG HNEW
  generalize hG : rsegs qz toks = G at *
  obtain ⟨A4, c4, rfl, hA4⟩ := own_form ho4
  obtain ⟨k4, rfl, hk4⟩ := hA4 hsp
  have hk4z : k4 < w4.heap.size := (own_lt ho4 rfl).2
  have HCL4 := Lib.hid hk4
  obtain ⟨gn, hgn⟩ : ∃ gn, gn = G.length := ⟨_, rfl⟩
  rw [← hgn] at hsp hlen ⊢
  have HGN := Lib.hid hgn
  clear hci hnew hsm ho4 hA4 hk4 hD hG hb4 hT3 hT3' TA HB3 hgn hts hT
  unfold stC
  have hmm := @run_makeMap Tryd.prog
  go_upto_region 7 with fail
  clear hmm
  have K5 := Lib.hid (balloc (balloc (Below.refl w4.heap.size w4) (.cells #[.int .i64 D.st.gl, .int .i64 D.st.gc, .int .i64 D.st.si, .int .i64 D.st.ol, .int .i64 D.st.oc, .int .i64 D.st.on] 30)) (.map #[] 0))
  have hset0 := SetIn.made (w4.alloc (.cells #[.int .i64 D.st.gl, .int .i64 D.st.gc, .int .i64 D.st.si, .int .i64 D.st.ol, .int .i64 D.st.oc, .int .i64 D.st.on] 30)) 45
  rw [show (w4.alloc (.cells #[.int .i64 D.st.gl, .int .i64 D.st.gc, .int .i64 D.st.si, .int .i64 D.st.ol, .int .i64 D.st.oc, .int .i64 D.st.on] 30)).heap.size = w4.heap.size + 1 by simp] at hset0
  have HS0 := Lib.hid hset0
  clear hset0
  generalize (w4.alloc (.cells #[.int .i64 D.st.gl, .int .i64 D.st.gc, .int .i64 D.st.si, .int .i64 D.st.ol, .int .i64 D.st.oc, .int .i64 D.st.on] 30)).alloc (.map #[] 0) = V5 at *
  have hz5 := K5.out.size
  have hl5 := HS0.out.lt
  have TA5 := Lib.hid ((TA4.out.below (K5.out.mono hz34)))
  obtain ⟨mb, hmb⟩ : ∃ mb, mb = w4.heap.size + 1 := ⟨_, rfl⟩
  rw [← hmb] at HS0 hl5 ⊢
  have hmb4 : w4.heap.size < mb := by omega
  have HMB := Lib.hid hmb
  clear hmb
  go_wp2_with fail
  go_loopg [44] gn (fun f s44 wr => ∃ i : Nat, i + f = gn ∧ s44 = .int .i64 (i : Int) ∧ SetIn wr 45 mb i ((G.take i).map sv) ∧ Kep (fun k => k = mb) V5 wr)
  case atStart => exact ⟨0, by omega, rfl, by simpa using HS0.out, Kep.refl _ _⟩
  case round =>
    obtain ⟨i, hi, rfl, hset, hkp⟩ := hrel
    have HSET := Lib.hid hset
    have HKP := Lib.hid hkp
    have HI := Lib.hid hi
    have hzr := hkp.size
    have hml := hset.lt
    by_cases hlt : i < gn
    · obtain ⟨f, rfl⟩ : ∃ f, gk = f + 1 := ⟨gk - 1, by omega⟩
      have hltG : i < G.length := by have := HGN.out; omega
      obtain ⟨x, hx⟩ : ∃ x, x = G[i]'hltG := ⟨_, rfl⟩
      have key : ∀ q u, q < 7 → x.cells[q]? = some u → wr.cell? ⟨k4, i * 7 + q, none⟩ = some u := fun q u hq hu => by
        have h1 := HCL4.out (i * 7 + q) u (by rw [sgs_at G i q hltG hq, ← hx]; exact hu)
        exact (hkp.cell (p := ⟨k4, i * 7 + q, none⟩) (by simp only; omega) (by simp only; omega)).trans ((K5.out.cell (p := ⟨k4, i * 7 + q, none⟩) hk4z).trans h1)
      obtain ⟨b1, b2, b3, b4, b5, b6, b7⟩ := HBD.out x (by rw [hx]; exact List.getElem_mem hltG)
      have hSx : Hid ((G.take (i + 1)).map sv = (G.take i).map sv ++ [sv x]) := Lib.hid (by rw [List.take_succ_eq_append_getElem hltG, List.map_append, ← hx]; rfl)
      generalize (G.take i).map sv = S at *
      obtain ⟨kl, hkl⟩ := key_seg x.l x.c x.s x.fl x.fc x.nm x.nd (wf64 _ (by omega)) (wf64 _ (by omega)) (wf64 _ (by omega)) (wf64 _ (by omega)) (wf64 _ (by omega)) (wf64 _ (by omega))
      have HSX : Hid (sv x = .agg #[.int .i64 x.l, .int .i64 x.c, .int .i64 x.s, .int .i64 x.fl, .int .i64 x.fc, .int .i64 x.nm, .bool x.nd]) := Lib.hid rfl
      obtain ⟨xl, xc, xs, xfl, xfc, xnm, xnd⟩ := x
      simp only at hkl HSX
      rw [HSX.out] at hSx
      have c0 : wr.cell? ⟨k4, i * 7, none⟩ = some (.int .i64 xl) := key 0 _ (by omega) rfl
      have c1 : wr.cell? ⟨k4, i * 7 + 1, none⟩ = some (.int .i64 xc) := key 1 _ (by omega) rfl
      have c2' : wr.cell? ⟨k4, i * 7 + 2, none⟩ = some (.int .i64 xs) := key 2 _ (by omega) rfl
      have c3 : wr.cell? ⟨k4, i * 7 + 3, none⟩ = some (.int .i64 xfl) := key 3 _ (by omega) rfl
      have c4' : wr.cell? ⟨k4, i * 7 + 4, none⟩ = some (.int .i64 xfc) := key 4 _ (by omega) rfl
      have c5 : wr.cell? ⟨k4, i * 7 + 5, none⟩ = some (.int .i64 xnm) := key 5 _ (by omega) rfl
      have c6' : wr.cell? ⟨k4, i * 7 + 6, none⟩ = some (.bool xnd) := key 6 _ (by omega) rfl
      have k1 : (0 : Int) ≤ (i : Int) := by omega
      have k2 : (i : Int) < (gn : Int) := by omega
      have KA := Lib.hid (balloc (Below.refl wr.heap.size wr) (.cells #[.int .i64 xl, .int .i64 xc, .int .i64 xs, .int .i64 xfl, .int .i64 xfc, .int .i64 xnm, .bool xnd] 45))
      have XA := Lib.hid (Blk.new wr 45 #[.int .i64 xl, .int .i64 xc, .int .i64 xs, .int .i64 xfl, .int .i64 xfc, .int .i64 xnm, .bool xnd])
      clear hset hkp key hx b1 b2 b3 b4 b5 b6 b7 hi
      go_upto_region 10 with fail
      generalize wr.alloc (.cells #[.int .i64 xl, .int .i64 xc, .int .i64 xs, .int .i64 xfl, .int .i64 xfc, .int .i64 xnm, .bool xnd] 45) = V7 at *
      have y0 : V7.cell? ⟨wr.heap.size, 0, none⟩ = some (.int .i64 xl) := XA.out.cell 0
      have y1 : V7.cell? ⟨wr.heap.size, 1, none⟩ = some (.int .i64 xc) := XA.out.cell 1
      have y2 : V7.cell? ⟨wr.heap.size, 2, none⟩ = some (.int .i64 xs) := XA.out.cell 2
      have y3 : V7.cell? ⟨wr.heap.size, 3, none⟩ = some (.int .i64 xfl) := XA.out.cell 3
      have y4 : V7.cell? ⟨wr.heap.size, 4, none⟩ = some (.int .i64 xfc) := XA.out.cell 4
      have y5 : V7.cell? ⟨wr.heap.size, 5, none⟩ = some (.int .i64 xnm) := XA.out.cell 5
      have y6 : V7.cell? ⟨wr.heap.size, 6, none⟩ = some (.bool xnd) := XA.out.cell 6
      have hset8 := Lib.hid (HSET.out.below KA.out hml)
      have KP8 := Lib.hid (HKP.out.then (Kep.of_below (X := fun _ => False) KA.out) (fun _ q => q.elim))
      clear c0 c1 c2' c3 c4' c5 c6' HSET
      go_wp2_with (at_mapUpdate; refine wpList_set_put rfl (.tmp 48) (.tmp 49) _ 68 45 rfl law_seg Tryd.underlying68 mb i S rfl hset8.out (by unfold maxLen; omega) (.agg #[.int .i64 xl, .int .i64 xc, .int .i64 xs, .int .i64 xfl, .int .i64 xfc, .int .i64 xnm, .bool xnd]) kl rfl rfl hkl ?_; intro w9 hs9 hg9; have HS9 := Lib.hid hs9; have HG9 := Lib.hid hg9; clear hs9 hg9)
      go_roundg f
      case measure => omega
      case rel =>
        refine ⟨i + 1, by have := HI.out; omega, by go_num, by rw [hSx.out]; exact HS9.out, KP8.out.grown HG9.out (fun k hk => .inl (by injection hk with hk; exact hk.symm))⟩
    · obtain rfl : i = gn := by omega
      have hall : SetIn wr 45 mb i (G.map sv) := by rw [List.take_of_length_le (by have := HGN.out; omega)] at hset; exact hset
      have HALL := Lib.hid hall
      obtain ⟨wo, rfl⟩ : ∃ wo : World, wo = wr := ⟨_, rfl⟩
      have HBO := Lib.hid (HB4.out.trans ((K5.out.mono (by have := HB4.out.size; omega)).trans (hkp.below (B := W.heap.size) (by have := HB4.out.size; omega) (fun k hk e => by have := HB4.out.size; omega))))
      have hTO : TurnsAt wo wo.heap.size v3 (X :: z2) := by
        obtain ⟨R, c, g1, g2, g3⟩ := TA5.out
        refine ⟨R, c, g1, by omega, fun j hj => ⟨(hkp.cell (p := ⟨R, j * 2, none⟩) (by simp only; omega) (by simp only; omega)).trans (g3 j hj).1, (hkp.cell (p := ⟨R, j * 2 + 1, none⟩) (by simp only; omega) (by simp only; omega)).trans (g3 j hj).2⟩⟩
      have HTO := Lib.hid hTO
      clear hset hall hkp HKP HSET HCL4 K5 HB4 HS0 TA5 TA4 hTO
      go_wp2_with fail
      refine (made_any (txt rs) (X :: z2) v3 wo (by omega) (by omega) HTO.out).mono ?_
      rintro e w6 ⟨u6, rfl, ho6, hb6⟩
      obtain ⟨A6, c6, rfl, hA6⟩ := own_form ho6
      obtain ⟨k6, rfl, hk6⟩ := hA6 (by simp)
      have hk6z : wo.heap.size ≤ k6 ∧ k6 < w6.heap.size := own_lt ho6 rfl
      have HB6 := Lib.hid (HBO.out.trans (hb6.mono HBO.out.size))
      have HS6 := Lib.hid (HALL.out.below hb6 hml)
      have hz6 := hb6.size
      have hml6 := HS6.out.lt
      obtain ⟨ST, hST⟩ : ∃ ST, ST = mkSteps (txt rs) (X :: z2) := ⟨_, rfl⟩
      rw [← hST] at hk6 HNEW hstl
      have HCL6 := Lib.hid hk6
      have HSTE := Lib.hid hST
      obtain ⟨sn, hsn⟩ : ∃ sn, sn = (X :: z2).length := ⟨_, rfl⟩
      rw [← hsn] at hstl ⊢
      have hsn2 : sn ≤ 2097152 := by rw [hsn]; have := tsz_len (X :: z2); omega
      clear ho6 hA6 hk6 hb6 HTO hST hsn HBO HALL
      go_wp2_with fail
      go_loopg [18, 59] sn (fun f s18 s59 wr => ∃ j : Nat, j + f = sn ∧ s59 = .int .i64 (j : Int) ∧ s18 = .string (txt (allR (ST.take j))) ∧ Below w6.heap.size w6 wr)
      case atStart => exact ⟨0, by omega, rfl, rfl, Below.refl _ _⟩
      case round =>
        obtain ⟨j, hj, rfl, rfl, hbw⟩ := hrel
        have HBW := Lib.hid hbw
        have HJ := Lib.hid hj
        have hzw := hbw.size
        by_cases hjl : j < sn
        · obtain ⟨f, rfl⟩ : ∃ f, gk = f + 1 := ⟨gk - 1, by omega⟩
          have hjS : j < ST.length := by omega
          obtain ⟨x, hx⟩ : ∃ x, x = ST[j]'hjS := ⟨_, rfl⟩
          have hmem : x ∈ mkSteps (txt rs) (X :: z2) := by rw [← HSTE.out, hx]; exact List.getElem_mem hjS
          have key : ∀ (p : Nat) (hp : p < ST.length) (q : Nat) (u : Value), q < 3 → (stpC (ST[p]'hp))[q]? = some u → wr.cell? ⟨k6, p * 3 + q, none⟩ = some u := fun p hp q u hq hu => by
            have h1 := HCL6.out (p * 3 + q) u (by rw [stpsC_at ST p q hp hq]; exact hu)
            exact (hbw.cell (p := ⟨k6, p * 3 + q, none⟩) hk6z.2).trans h1
          have c0 : wr.cell? ⟨k6, j * 3, none⟩ = some (.string (txt x.1)) := key j hjS 0 _ (by omega) (by rw [hx]; rfl)
          have c1 : wr.cell? ⟨k6, j * 3 + 1, none⟩ = some (.int .i64 (x.2 : Int)) := key j hjS 1 _ (by omega) (by rw [hx]; rfl)
          have c2' : wr.cell? ⟨k6, j * 3 + 2, none⟩ = some (.string ByteArray.empty) := key j hjS 2 _ (by omega) rfl
          have hjp : j - 1 < ST.length := by omega
          have hprev : Hid (0 < j → ∃ y : Nat, y = (ST[j - 1]'hjp).2 ∧ wr.cell? ⟨k6, (j - 1) * 3 + 1, none⟩ = some (.int .i64 (y : Int))) := Lib.hid (fun h0 => ⟨_, rfl, key (j - 1) hjp 1 _ (by omega) rfl⟩)
          have hsm := fromT_small rs hrs (by omega) (X :: z2) x hmem
          have hadv := fun W => advTo_any rs hrs (by omega) (X :: z2) x hmem W
          rw [← HTS.out] at hsm hadv
          have hbd : x.2 ≤ (txt rs).size := by obtain ⟨_, _, _, _, _, _, _, h⟩ := step_place rs hrs (X :: z2) x hmem; exact h
          have htk : ∀ q, ST.take q = mkSteps (txt rs) ((X :: z2).take q) := fun q => by rw [HSTE.out]; unfold mkSteps; rw [List.map_take]
          have hpre : ∀ q, (txt (allR (ST.take q))).size ≤ 2097152 ∧ okR (allR (ST.take q)) := fun q => by
            rw [htk q]
            have h := allR_len (txt rs) ((X :: z2).take q)
            have h2 := tsz_le (X :: z2) q
            rw [txt_size]
            exact ⟨by omega, allR_ok _ _⟩
          have hall1 : allR (ST.take (j + 1)) = allR (ST.take j) ++ x.1 := by rw [List.take_succ_eq_append_getElem hjS, allR_snoc, ← hx]
          obtain ⟨P, hP⟩ : ∃ P, P = advI (allR (ST.take (j + 1))) (0, 0) := ⟨_, rfl⟩
          obtain ⟨Fr, hFr⟩ : ∃ Fr, Fr = fromT ts x.2 := ⟨_, rfl⟩
          have hPs := adv_small _ (hpre (j + 1)).2
          have hPz := (hpre (j + 1)).1
          rw [← hP] at hPs
          rw [← hFr] at hsm
          have HA1 : Hid (∀ W, Calls Tryd.prog 17 #[.agg #[.int .i64 0, .int .i64 0], .string (txt (allR (ST.take (j + 1))))] W fun e w' => e = .returned (.agg #[.int .i64 (P.1 : Int), .int .i64 (P.2 : Int)]) ∧ Below W.heap.size W w') := Lib.hid (fun W => by
            rw [hP]
            exact specA_any _ W (hpre (j + 1)).2 (by omega))
          have HA2 : Hid (∀ W, Calls Tryd.prog 17 #[.agg #[.int .i64 0, .int .i64 0], .string ((txt rs).extract 0 x.2)] W fun e w' => e = .returned (.agg #[.int .i64 (Fr.1 : Int), .int .i64 (Fr.2 : Int)]) ∧ Below W.heap.size W w') := Lib.hid (fun W => by
            rw [hFr]
            exact hadv W)
          have HKEY : Hid (news ST j → (.agg #[.int .i64 (P.1 : Int), .int .i64 (P.2 : Int), .int .i64 0, .int .i64 (Fr.1 : Int), .int .i64 (Fr.2 : Int), .int .i64 0, .bool false] : Value) ∈ G.map sv) := Lib.hid (fun hn => by
            have h := HNEW.out j hjS hn
            rw [← hx] at h
            have h2 := List.mem_map_of_mem (f := sv) h
            unfold stSeg at h2
            rw [← hP, ← hFr] at h2
            exact h2)
          have kadd : ∀ W, (Op.stringOp .add (txt (allR (ST.take j))) (txt x.1)).run Tryd.prog W = .ok (.string (txt (allR (ST.take (j + 1))))) W := fun W => by
            have h1 := (hpre j).1
            have h2 := (hpre (j + 1)).1
            rw [hall1, txt_size, encs_app, List.length_append] at h2
            rw [ks W _ _ (by rw [txt_size, txt_size]; omega), txt_app, hall1]
          obtain ⟨kl, hkl⟩ := key_seg (P.1 : Int) (P.2 : Int) 0 (Fr.1 : Int) (Fr.2 : Int) 0 false (wf64 _ (by omega)) (wf64 _ (by omega)) (wf64 _ (by omega)) (wf64 _ (by omega)) (wf64 _ (by omega)) (wf64 _ (by omega))
          have hnews0 : Hid (j = 0 → news ST j) := Lib.hid (fun h _ => .inl h)
          have hnews1 : Hid (x.2 ≠ (ST[j - 1]'hjp).2 → news ST j) := Lib.hid (fun hne hi => .inr (by rw [← hx]; exact hne))
          have HSW := Lib.hid (HS6.out.below hbw hml6)
          have k1 : (0 : Int) ≤ (j : Int) := by omega
          have k2 : (j : Int) < (sn : Int) := by omega
          have k3 : (0 : Int) ≤ (x.2 : Int) := by omega
          have k4' : (x.2 : Int) ≤ ((txt rs).size : Int) := by omega
          have KA := Lib.hid (balloc (Below.refl wr.heap.size wr) (.cells #[.string (txt x.1), .int .i64 (x.2 : Int), .string ByteArray.empty] 40))
          have XA := Lib.hid (Blk.new wr 40 #[.string (txt x.1), .int .i64 (x.2 : Int), .string ByteArray.empty])
          clear hj hx hmem key hsm hadv hbd htk hpre hall1 hP hFr hPs hPz hbw ks
          go_upto_region 17 with fail
          have v0 : (wr.alloc (.cells #[.string (txt x.1), .int .i64 (x.2 : Int), .string ByteArray.empty] 40)).cell? ⟨wr.heap.size, 0, none⟩ = some (.string (txt x.1)) := XA.out.cell 0
          generalize wr.alloc (.cells #[.string (txt x.1), .int .i64 (x.2 : Int), .string ByteArray.empty] 40) = V at *
          go_upto_region 18 with fail
          have hlv := XA.out.lt
          have hsv := HSW.out.below KA.out (by have := HSW.out.lt; omega)
          have HSV := Lib.hid hsv
          have hmv : mb < V.heap.size := hsv.lt
          have v1 : V.cell? ⟨wr.heap.size, 1, none⟩ = some (.int .i64 (x.2 : Int)) := XA.out.cell 1
          have HK := Lib.hid (Below.refl V.heap.size V)
          have HKW := Lib.hid (HBW.out.trans (KA.out.mono hzw))
          have hzV := KA.out.size
          have hk6w : k6 < wr.heap.size := by omega
          clear hsv c0 c1 c2' HSW kadd v0
          go_cut [80] (fun s80 wx => (∃ b : Bool, s80 = .bool b ∧ (b = false → news ST j)) ∧ Below V.heap.size V wx)
          case first =>
            rcases Nat.eq_zero_or_pos j with h0 | h0
            · have hnw := hnews0.out h0
              have HNW := Lib.hid hnw
              have g0 : ¬ ((0 : Int) < (j : Int)) := by omega
              have g1 : ¬ (0 < j) := by omega
              clear hnw hprev hnews0 hnews1 h0
              go_quiet (fail)
              go_wp2_with fail
              go_meet
              exact ⟨⟨false, rfl, fun _ => HNW.out⟩, below_drewN HK.out _⟩
            · obtain ⟨y, hy, cy⟩ := hprev.out h0
              have p1 : V.cell? ⟨k6, (j - 1) * 3 + 1, none⟩ = some (.int .i64 (y : Int)) := (KA.out.cell (p := ⟨k6, (j - 1) * 3 + 1, none⟩) hk6w).trans cy
              have i1 : IntKind.i64.wrap ((j : Int) - 1) = (j : Int) - 1 := IntWalk.i64_in _ (by omega)
              have i2 : (1 : Int) ≤ (j : Int) := by omega
              have i3 : 1 ≤ j := h0
              have i4 : ((j : Int) - 1).toNat = j - 1 := by omega
              have i5 : j - 1 < sn := by omega
              have i6 : (j : Int) - 1 < (sn : Int) := by omega
              have i7 : (0 : Int) < (j : Int) := by omega
              by_cases hne : x.2 = y
              · have hne' : (x.2 : Int) = (y : Int) := by omega
                clear hprev hnews0 hnews1 hy cy
                go_quiet (fail)
                go_wp2_with fail
                go_meet
                exact ⟨⟨true, by simp, fun q => by cases q⟩, below_drewN HK.out _⟩
              · have HNW := Lib.hid (hnews1.out (by rw [← hy]; exact hne))
                have hne' : ¬ ((x.2 : Int) = (y : Int)) := by omega
                clear hprev hnews0 hnews1 hy cy
                go_quiet (fail)
                go_wp2_with fail
                go_meet
                exact ⟨⟨false, by simp [hne'], fun _ => HNW.out⟩, below_drewN HK.out _⟩
          case rest =>
            obtain ⟨⟨b, rfl, hb⟩, hbx⟩ := hcut
            have HB2 := Lib.hid hb
            have HBX := Lib.hid (HKW.out.trans (hbx.mono (by omega)))
            have hzc := hbx.size
            have v1c : wc.cell? ⟨wr.heap.size, 1, none⟩ = some (.int .i64 (x.2 : Int)) := (hbx.cell (p := ⟨wr.heap.size, 1, none⟩) hlv).trans v1
            have HSC := Lib.hid (HSV.out.below hbx hmv)
            clear v1 hprev hnews0 hnews1 HK hb hbx HSV
            rcases b with _ | _
            · have hkey := HKEY.out (HB2.out rfl)
              have hlc : wr.heap.size < wc.heap.size := by omega
              have hmc : mb < wc.heap.size := by omega
              have HK := Lib.hid (Below.refl wc.heap.size wc)
              obtain ⟨SJ, hSJ⟩ : ∃ SJ, SJ = txt (allR (ST.take (j + 1))) := ⟨_, rfl⟩
              rw [← hSJ] at HA1 ⊢
              have HSJ := Lib.hid hSJ
              clear hSJ
              go_upto_region 19 with fail
              go_cut [93] (fun s93 wx => s93 = .bool false ∧ Below wc.heap.size wc wx)
              case first =>
                go_region_held3 (fun w' => w'.cell? ⟨wr.heap.size, 1, none⟩ = some (.int .i64 (x.2 : Int)) ∧ (Instr.lookup 68 (.map (some mb)) (.agg #[.int .i64 (P.1 : Int), .int .i64 (P.2 : Int), .int .i64 0, .int .i64 (Fr.1 : Int), .int .i64 (Fr.2 : Int), .int .i64 0, .bool false]) false).run Tryd.prog w' = .ok (.bool true) w')
                  (first
                    | exact ⟨(HK.out.cell (p := ⟨wr.heap.size, 1, none⟩) hlc).trans v1c, set_look law_seg Tryd.underlying68 (HSC.out.below HK.out hmc) hkl hkey⟩
                    | exact ⟨(HK.out.drew.cell (p := ⟨wr.heap.size, 1, none⟩) hlc).trans v1c, set_look law_seg Tryd.underlying68 (HSC.out.below HK.out.drew hmc) hkl hkey⟩)
                  (first
                    | (go_at_call 17; with_reducible refine (HA1.out _).mono ?_; rintro e w' ⟨rfl, hb⟩; have HK : Hid (Below wc.heap.size wc w') := Lib.hid (by first | exact bthen HK.out hb | exact bthen HK.out.drew hb); clear hb)
                    | (go_at_call 17; with_reducible refine (HA2.out _).mono ?_; rintro e w' ⟨rfl, hb⟩; have HK : Hid (Below wc.heap.size wc w') := Lib.hid (by first | exact bthen HK.out hb | exact bthen HK.out.drew hb); clear hb))
                all_goals go_wp2_with fail
                all_goals go_meet
                all_goals exact ⟨rfl, by first | exact HK.out | exact HK.out.drew⟩
              case rest =>
                obtain ⟨rfl, hbz⟩ := hcut
                have HBZ := Lib.hid (HBX.out.trans (hbz.mono (by omega)))
                clear hbz v1c hkey
                go_wp2_with fail
                go_roundg f
                case measure => omega
                case rel => exact ⟨j + 1, by have := HJ.out; omega, by go_num, by rw [HSJ.out], HBZ.out⟩
            · clear v1c
              go_wp2_with fail
              go_roundg f
              case measure => omega
              case rel => exact ⟨j + 1, by have := HJ.out; omega, by go_num, rfl, HBX.out⟩
        · obtain rfl : j = sn := by omega
          clear hbw
          go_wp2_with fail
          go_ret
          exact ⟨rfl, HB6.out.trans (HBW.out.mono (by have := HB6.out.size; omega))⟩

theorem fnChunk_wrow (os : Os) {H : Type} (enc : TypeId × Value → H) :
    (Rows.OpenSpec.upto Rows.fnChunkSpec).preRow enc Tryd.prog Tryd.f10 Rows.fnChunkUptoRow.domain false Rows.fnChunkUptoRow.laid ((laidWorld os).forCall (fun _ _ => 0) ⟨#[], #[.string ⟨#[]⟩, .int .i64 0, .slice none 0 0, .string ⟨#[]⟩], []⟩).memory #[.string ⟨#[]⟩, .int .i64 0, .slice none 0 0, .string ⟨#[]⟩] := by
  have hw : ((DataW.whole enc Tryd.prog ((laidWorld os).forCall (fun _ _ => 0) ⟨#[], #[.string ⟨#[]⟩, .int .i64 0, .slice none 0 0, .string ⟨#[]⟩], []⟩).memory Tryd.f10.params.toList (Rows.OpenSpec.upto Rows.fnChunkSpec).vars false (#[.string ⟨#[]⟩, .int .i64 0, .slice none 0 0, .string ⟨#[]⟩] : Array Value).toList 8).map (fun x => (x.1, x.2.1))) =
      some ([.lit (.string []), .lit (.int .i64 0), .nil, .lit (.string [])], []) := by kernel_rfl
  obtain ⟨⟨x1, x2, x3⟩, hx, hx1⟩ := Option.map_eq_some_iff.1 hw
  simp only [Prod.mk.injEq] at hx1
  obtain ⟨rfl, rfl⟩ := hx1
  exact OpenSpec.preRow_of_cond 8 hx (by kernel_rfl) (fun k hk => by cases hk; kernel_rfl) (by kernel_rfl) (laid_met os _)

set_option maxRecDepth 100000 in
theorem fnChunk_lifted (os : Os) (started : os.Started) (H : Type) (enc : TypeId × Value → H) (F : Stop.Interp) :
    ReturnsInHanded {} Tryd.checked os 10 .any ((Rows.OpenSpec.upto Rows.fnChunkSpec).preRow enc Tryd.prog Tryd.f10 Rows.fnChunkUptoRow.domain false Rows.fnChunkUptoRow.laid) (((Rows.OpenSpec.upto Rows.fnChunkSpec).at F).post enc Tryd.prog Tryd.f10 false true false false) := by
  refine returnsInHanded_of_row (C := Tryd.checked) (s := Rows.OpenSpec.upto Rows.fnChunkSpec) own started (by kernel_rfl) Tryd.func10
    (witness_row_atRef (enc := enc) (C := Tryd.checked) false (laidWorld os) #[.string ⟨#[]⟩, .int .i64 0, .slice none 0 0, .string ⟨#[]⟩] rfl (by kernel_rfl) (by kernel_rfl) (by kernel_rfl) (fnChunk_wrow os enc)) ?_
  intro W base args ds gs before hval0 hW _ hcond hsz0 hL _ _
  have hT : B64 W.heap.size W := b64_of_laid hL
  have hval : ∀ (j : Nat) t v, Tryd.f10.params[j]? = some t → args[j]? = some v → Value.okWide Tryd.prog W .any base t v := hval0
  have hW' := hW
  obtain ⟨p, q, hA0, hV, rfl, hfz, hnd⟩ := hW
  have hA : DataW.TrodAll enc Tryd.prog W 0 (fun _ => true) true Tryd.f10.params.toList args.toList ds p := hA0
  have hsz : (DataW.weightsEach Tryd.prog (Tryd.f10.params.toList ++ (Rows.OpenSpec.upto Rows.fnChunkSpec).bare.plain.varTypes Tryd.prog) (ds ++ gs)).all (· ≤ reachBytes) = true := hsz0
  rw [Tryd.params10] at hA hval hsz
  obtain ⟨v0, vs0, d0, ds0, p0, q0, hargs, rfl, rfl, h0, r0⟩ := trodAll_cons hA
  obtain ⟨v1, vs1, d1, ds1, p1, q1, rfl, rfl, rfl, h1, r1⟩ := trodAll_cons r0
  obtain ⟨v2, vs2, d2, ds2, p2, q2, rfl, rfl, rfl, h2, r2⟩ := trodAll_cons r1
  obtain ⟨v3, vs3, d3, ds3, p3, q3, rfl, rfl, rfl, h3, r3⟩ := trodAll_cons r2
  obtain ⟨rfl, rfl, rfl⟩ := trodAll_nil r3
  obtain rfl : args = #[v0, v1, v2, v3] := by cases args; simp_all
  obtain ⟨a0, rfl, rfl, rfl, w0⟩ := ChangeMaps.open_string Tryd.underlying9 (hval 0 9 v0 rfl rfl) h0
  obtain ⟨a1, rfl, rfl, rfl, w1⟩ := open_int Tryd.underlying3 (hval 1 3 v1 rfl rfl) h1
  obtain ⟨a3, rfl, rfl, rfl, w3⟩ := ChangeMaps.open_string Tryd.underlying9 (hval 3 9 v3 rfl rfl) h3
  obtain ⟨a2, c2, z2, rfl, t2, b2, n2⟩ := open_turns Tryd.underlying22 Tryd.underlying25 (by kernel_rfl) rfl rfl (by kernel_rfl) (by kernel_rfl) Tryd.underlying9 Tryd.underlying3 (hval 2 22 v2 rfl rfl) h2
  have s0 : a0.size ≤ 140737488351232 := by have h := sized_string hsz (j := 0) (t := 9) rfl rfl; simpa [reachBytes] using h
  have s3 : a3.size ≤ 140737488351232 := by have h := sized_string hsz (j := 3) (t := 9) rfl rfl; simpa [reachBytes] using h
  have hbk : Rows.uptoBulkAll _ ≤ 1048576 := of_decide_eq_true (hcond _ rfl)
  simp [Rows.uptoBulkAll, Rows.uptoBulk] at hbk
  have b0 : a0.size ≤ 1048576 := by have e : a0.data.size = a0.size := rfl; omega
  have e2 : tsz z2 ≤ 1048576 := by omega
  have b3 : a3.size ≤ 1048576 := by have e : a3.data.size = a3.size := rfl; omega
  refine (fnChunk_walk W a0 a1 a2 c2 z2 a3 b0 w1 t2 n2 e2 b3 hT).mono fun e W' ⟨he, hb⟩ => ⟨_, he, ?_⟩
  exact law_post (s := Rows.fnChunkSpec) (f := Tryd.f10) (tb := 4) (by kernel_rfl) (by kernel_rfl) (by kernel_rfl) Tryd.underlying4 rfl (fun ds h => by rw [Tryd.params10] at h; match ds, h with | [_, _, _, _], _ => rfl) hW' hb

theorem fnChunk_said : Rows.FnChunkUptoSaid :=
  OpenClaim.holds_of_cond 10 Tryd.f10 rfl rfl rfl rfl rfl rfl rfl ⟨rfl, rfl, rfl, rfl, rfl⟩ rfl rfl rfl rfl rfl (by kernel_rfl) Tryd.func10 (by kernel_rfl)
    (of_decide_eq_true (by kernel_rfl)) (by unfold Func.isWrapper; first | (rw [if_pos (by decide +kernel)]; kernel_rfl) | (rw [if_neg (by decide +kernel)]; exact ⟨rfl, rfl⟩))
    (fun os started H enc _ F => by rw [OpenClaim.pre_eq_preRow]; exact fnChunk_lifted os started H enc F)

theorem fnChunk_plain (f : FuncId) (fn : Func) (hf : Tryd.pinned.checked.prog.funcNamed "mapthread/laws.FnChunk" = some f) (hfn : Tryd.pinned.checked.prog.funcs[f]? = some fn) :
    false = Tryd.pinned.checked.prog.looks [] ∧ ∀ (j : Nat) t, fn.params[j]? = some t → Tryd.pinned.checked.prog.wantsStandIn t = false := by
  obtain rfl : f = 10 := Option.some.inj ((show Tryd.prog.funcNamed "mapthread/laws.FnChunk" = some 10 by kernel_rfl).symm.trans hf) |>.symm
  obtain rfl : fn = Tryd.f10 := (Option.some.inj (Tryd.func10.symm.trans hfn)).symm
  refine ⟨by kernel_rfl, fun j t ht => ?_⟩
  rw [Tryd.params10] at ht
  have hm := Array.mem_of_getElem? ht
  simp at hm
  rcases hm with rfl | rfl | rfl | rfl
  · exact (show Tryd.prog.wantsStandIn 9 = false by kernel_rfl)
  · exact (show Tryd.prog.wantsStandIn 3 = false by kernel_rfl)
  · exact (show Tryd.prog.wantsStandIn 22 = false by kernel_rfl)
  · exact (show Tryd.prog.wantsStandIn 9 = false by kernel_rfl)

theorem fnChunkUpto_card : Rows.FnChunkUptoCardSaid :=
  Claim7.holds_tied_plain_at .later [] _ _ _ _ fnChunk_said (fun _ h => by cases h) (by kernel_rfl) (fun _ h => by cases h) fnChunkUpto_row_tie rfl ⟨rfl, rfl⟩ (by kernel_rfl) rfl fnChunk_plain (by kernel_rfl)
#print axioms fnChunkUpto_card
end Go.Proofs.YtnokiikgnplpmaaDoor

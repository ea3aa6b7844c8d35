/-
  laws.FnChunkOnly: for all sources and outputs of UTF-8 each mapping leads to a place to which a mapping was added, and they are in the order of the output. Conditions: the arguments hold together at most 1048576 values and letters (the second form); the table of signs is as its text lays it.
-/
import Derived.Test.YtnokiikgnplpmaaDoorChunkAll
import Derived.Test.YtnokiikgnplpmaaDoorM2
import Derived.Deep.RegionHeld3
namespace Go.Proofs.YtnokiikgnplpmaaDoor
open Go.RowKit Go.ChangeShapes Go.WideShapes Go.ChangeAt

set_option maxHeartbeats 4000000 in
set_option maxRecDepth 100000 in
theorem fnChunkOnly_walk (W : World) (a0 : ByteArray) (a1 : Int) (a2 : Option Addr) (c2 : Nat) (z2 : List (ByteArray × Int)) (a3 : ByteArray) (b0 : a0.size ≤ 1048576) (_w1 : (Lit.int .i64 a1).wf = true) (t2 : TurnsIn W a2 z2) (n2 : a2 = none → z2.length = 0 ∧ c2 = 0) (e2 : tsz z2 ≤ 1048576) (b3 : a3.size ≤ 1048576) (hT : B64 W.heap.size W) :
    Calls Tryd.prog 4 #[.string a0, .int .i64 a1, .slice a2 z2.length c2, .string a3] W fun e W' => e = .returned (.bool true) ∧ Below W.heap.size W W' := by
  obtain ⟨iT, hiT, hT0, hT1, hT2⟩ := info_parts info_turn
  have HN3 := Lib.hid n2
  have HT3 := Lib.hid t2
  clear n2 t2
  have hzl := tsz_len z2
  go_enter Tryd.func4, Tryd.ntmps4
  go_wp2_with fail
  refine (validT_any a0 _ (by omega)).mono ?_
  rintro e W1 ⟨⟨rs, hrs, hz0, rfl⟩, hb1⟩
  go_wp2_with fail
  refine (validT_any a3 _ (by omega)).mono ?_
  rintro e W2 ⟨⟨rest, hrest, hz4, rfl⟩, hb2⟩
  have HB2 := Lib.hid (bthen hb1 hb2)
  have hs2 := HB2.out.size
  have T2 := Lib.hid (HT3.out.after HB2.out)
  clear hb1 hb2 HT3
  go_wp2_with (at_builtin; refine wpList_append_own_src _ rfl (.tmp 25) (.tmp 26) 22 22 rfl W2.heap.size 25 iT _ 2 24 Tryd.underlying22 hiT hT0 hT1 hT2 rfl (by omega) (.slice (some ⟨W2.heap.size, 0, none⟩) 1 1) 1 (turnsC [(⟨#[97, 98]⟩, 0)]) rfl (turns_new W2 (⟨#[97, 98]⟩, 0) W2.heap.size (Nat.le_refl _)) (.slice a2 z2.length c2) z2.length (turnsC z2) rfl (turns_src (T2.out.after (balloc (Below.refl _ _) _)) HN3.out) (by unfold maxLen; omega) (by omega) (by simp) ?_; intro v3 w3 ho3 hg3 hat3; have O3 := Lib.hid ho3; have G3 := Lib.hid hg3; clear ho3 hg3 hat3)
  have HB3 := Lib.hid (bgrown (balloc HB2.out _) (Nat.le_refl _) G3.out (fun k hk => by simp [Value.ownBlock] at hk; omega))
  have O3' : w3.ownsRow W2.heap.size 25 2 v3 ((⟨#[97, 98]⟩, 0) :: z2 : List (ByteArray × Int)).length (turnsC ((⟨#[97, 98]⟩, 0) :: z2)) := by
    rw [List.length_cons, Nat.add_comm, turnsC_cons]
    exact O3.out
  have hts := tsz_cons (⟨#[97, 98]⟩, 0) z2
  have hsz2 : (⟨#[97, 98]⟩ : ByteArray).size = 2 := rfl
  have htz : tsz ((⟨#[97, 98]⟩, 0) :: z2 : List (ByteArray × Int)) ≤ 2097152 := by rw [hts]; simp only [hsz2]; omega
  clear hts hsz2
  have TA := Lib.hid (turns_own O3' (by simp))
  have h0 : Hid (0 < (encs (stepR (⟨#[97, 98]⟩ : ByteArray))).length) := Lib.hid (by rw [step_ab]; omega)
  obtain ⟨X, hX⟩ : ∃ X : ByteArray × Int, X = (⟨#[97, 98]⟩, 0) := ⟨_, rfl⟩
  rw [← hX] at htz TA
  have h1 : Hid (0 < (encs (stepR X.1)).length) := Lib.hid (by rw [hX]; exact h0.out)
  clear O3 G3 O3' T2 HN3 HB2 h0 hX
  obtain ⟨toks, hci, _, _, _, hsm, _⟩ := endT_inv2 rs hrs (by omega) (X :: z2) rest hrest (by omega) htz
  have hsp : 0 < (rsegs qz toks).length := cend_segs _ _ _ _ toks hci.tok
  have hT3' := Lib.hid (hT.below HB3.out)
  have hs3 := HB3.out.size
  have hT3 : B64 w3.heap.size w3 := hT3'.out.mono hs3
  refine (chunkL_any rs hrs (by omega) a1 X z2 v3 rest (by omega) w3 hT3 TA.out htz h1.out toks hci.tok hsm).mono ?_
  rintro e w4 ⟨u4, rfl, ho4, hb4⟩
  have HB4 := Lib.hid (HB3.out.trans (hb4.mono hs3))
  have TA4 := Lib.hid (TA.out.below hb4)
  have hz34 := hb4.size
  have hlen : (rsegs qz toks).length ≤ 549755813888 := by
    have := rsegs_short hci.tok.ok true
    rw [← hci.tok.sm] at this
    omega
  have HSEG := Lib.hid hci.seg
  have HBD := Lib.hid hci.bd
  have HSRT := Lib.hid hci.srt
  have hstl : (mkSteps (txt rs) (X :: z2)).length = (X :: z2).length := by simp [mkSteps]
  obtain ⟨ts, hts⟩ : ∃ ts, ts = tabsOf (txt rs) := ⟨_, rfl⟩
  have HTS := Lib.hid hts
  obtain ⟨D, hD⟩ : ∃ D, D = endT rs (X :: z2) rest := ⟨_, rfl⟩
  rw [← hD]
  rw [← hts] at HSEG
  generalize hG : rsegs qz toks = G at *
  obtain ⟨A4, c4, rfl, hA4⟩ := own_form ho4
  obtain ⟨k4, rfl, hk4⟩ := hA4 hsp
  have hk4z : k4 < w4.heap.size := (own_lt ho4 rfl).2
  have HCL4 := Lib.hid hk4
  obtain ⟨gn, hgn⟩ : ∃ gn, gn = G.length := ⟨_, rfl⟩
  rw [← hgn] at hsp hlen ⊢
  have HGN := Lib.hid hgn
  clear hci hsm ho4 hA4 hk4 hD hG hb4 hT3 hT3' TA HB3 hgn hts hT
  unfold stC
  have hmm := @run_makeMap Tryd.prog
  go_upto_region 5 with fail
  clear hmm
  have K5 := Lib.hid (balloc (balloc (Below.refl w4.heap.size w4) (.cells #[.int .i64 D.st.gl, .int .i64 D.st.gc, .int .i64 D.st.si, .int .i64 D.st.ol, .int .i64 D.st.oc, .int .i64 D.st.on] 30)) (.map #[] 0))
  have hset0 := SetIn.made (w4.alloc (.cells #[.int .i64 D.st.gl, .int .i64 D.st.gc, .int .i64 D.st.si, .int .i64 D.st.ol, .int .i64 D.st.oc, .int .i64 D.st.on] 30)) 42
  rw [show (w4.alloc (.cells #[.int .i64 D.st.gl, .int .i64 D.st.gc, .int .i64 D.st.si, .int .i64 D.st.ol, .int .i64 D.st.oc, .int .i64 D.st.on] 30)).heap.size = w4.heap.size + 1 by simp] at hset0
  have HS0 := Lib.hid hset0
  clear hset0
  generalize (w4.alloc (.cells #[.int .i64 D.st.gl, .int .i64 D.st.gc, .int .i64 D.st.si, .int .i64 D.st.ol, .int .i64 D.st.oc, .int .i64 D.st.on] 30)).alloc (.map #[] 0) = V5 at *
  have hz5 := K5.out.size
  have hl5 := HS0.out.lt
  have TA5 := Lib.hid ((TA4.out.below (K5.out.mono hz34)))
  obtain ⟨mb, hmb⟩ : ∃ mb, mb = w4.heap.size + 1 := ⟨_, rfl⟩
  rw [← hmb] at HS0 hl5 ⊢
  have hmb4 : w4.heap.size < mb := by omega
  have HMB := Lib.hid hmb
  clear hmb
  go_wp2_with fail
  have TB : TurnsAt V5 V5.heap.size v3 (X :: z2) := by
    obtain ⟨R, c, g1, g2, g3⟩ := TA5.out
    exact ⟨R, c, g1, by omega, g3⟩
  refine (made_any (txt rs) (X :: z2) v3 V5 (by omega) (by omega) TB).mono ?_
  rintro e w6 ⟨u6, rfl, ho6, hb6⟩
  obtain ⟨A6, c6, rfl, hA6⟩ := own_form ho6
  obtain ⟨k6, rfl, hk6⟩ := hA6 (by simp)
  have hk6z : V5.heap.size ≤ k6 ∧ k6 < w6.heap.size := own_lt ho6 rfl
  have HK6 := Lib.hid (K5.out.trans (hb6.mono hz5))
  have HS6 := Lib.hid (HS0.out.below hb6 hl5)
  have hz6 := hb6.size
  obtain ⟨ST, hST⟩ : ∃ ST, ST = mkSteps (txt rs) (X :: z2) := ⟨_, rfl⟩
  rw [← hST] at hk6 HSEG hstl
  have HCL6 := Lib.hid hk6
  have HSTE := Lib.hid hST
  obtain ⟨sn, hsn⟩ : ∃ sn, sn = (X :: z2).length := ⟨_, rfl⟩
  rw [← hsn] at hstl ⊢
  have hsn2 : sn ≤ 2097152 := by rw [hsn]; have := tsz_len (X :: z2); omega
  clear ho6 hA6 hk6 hb6 TB TA5 TA4 HS0 K5 hST hsn
  go_wp2_with fail
  go_loopg [47] sn (fun f s47 wr => ∃ i : Nat, i + f = sn ∧ s47 = .int .i64 (i : Int) ∧ SetIn wr 42 mb i ((ST.take i).map fun x => pv (fromT ts x.2)) ∧ Kep (fun k => k = mb) w6 wr)
  case atStart => exact ⟨0, by omega, rfl, by simpa using HS6.out, Kep.refl _ _⟩
  case round =>
    obtain ⟨i, hi, rfl, hset, hkp⟩ := hrel
    have HSET := Lib.hid hset
    have HKP := Lib.hid hkp
    have hzr := hkp.size
    have hml := hset.lt
    by_cases hlt : i < sn
    · obtain ⟨f, rfl⟩ : ∃ f, gk = f + 1 := ⟨gk - 1, by omega⟩
      have hltS : i < ST.length := by omega
      obtain ⟨x, hx⟩ : ∃ x, x = ST[i]'hltS := ⟨_, rfl⟩
      have hmem : x ∈ mkSteps (txt rs) (X :: z2) := by rw [← HSTE.out, hx]; exact List.getElem_mem hltS
      have key : ∀ j u, j < 3 → (stpC x)[j]? = some u → wr.cell? ⟨k6, i * 3 + j, none⟩ = some u := fun j u hj hu => by
        have h1 := HCL6.out (i * 3 + j) u (by rw [stpsC_at ST i j hltS hj, ← hx]; exact hu)
        exact (hkp.cell (p := ⟨k6, i * 3 + j, none⟩) hk6z.2 (by simp only; omega)).trans h1
      have c0 : wr.cell? ⟨k6, i * 3, none⟩ = some (.string (txt x.1)) := key 0 _ (by omega) rfl
      have c1 : wr.cell? ⟨k6, i * 3 + 1, none⟩ = some (.int .i64 (x.2 : Int)) := key 1 _ (by omega) rfl
      have c2' : wr.cell? ⟨k6, i * 3 + 2, none⟩ = some (.string ByteArray.empty) := key 2 _ (by omega) rfl
      have hsm := fromT_small rs hrs (by omega) (X :: z2) x hmem
      have hadv := fun W => advTo_any rs hrs (by omega) (X :: z2) x hmem W
      rw [← HTS.out] at hsm hadv
      have HADV := Lib.hid hadv
      have hbd : x.2 ≤ (txt rs).size := by obtain ⟨_, _, _, _, _, _, _, h⟩ := step_place rs hrs (X :: z2) x hmem; exact h
      have hSx : Hid ((ST.take (i + 1)).map (fun x => pv (fromT ts x.2)) = (ST.take i).map (fun x => pv (fromT ts x.2)) ++ [pv (fromT ts x.2)]) := Lib.hid (by rw [List.take_succ_eq_append_getElem hltS, List.map_append, ← hx]; rfl)
      generalize (ST.take i).map (fun x => pv (fromT ts x.2)) = S at *
      obtain ⟨P, hP⟩ : ∃ P, P = fromT ts x.2 := ⟨_, rfl⟩
      rw [← hP] at hsm hSx
      simp only [← hP] at HADV
      obtain ⟨kl, hkl⟩ := key_place (P.1 : Int) (P.2 : Int) (wf64 _ (by omega)) (wf64 _ (by omega))
      have k1 : (0 : Int) ≤ (i : Int) := by omega
      have k2 : (i : Int) < (sn : Int) := by omega
      have k3 : (0 : Int) ≤ (x.2 : Int) := by omega
      have k4' : (x.2 : Int) ≤ ((txt rs).size : Int) := by omega
      have HI := Lib.hid hi
      clear hset hkp key hmem hadv hx hP hi
      have KA := Lib.hid (balloc (Below.refl wr.heap.size wr) (.cells #[.string (txt x.1), .int .i64 (x.2 : Int), .string ByteArray.empty] 40))
      have XA := Lib.hid (Blk.new wr 40 #[.string (txt x.1), .int .i64 (x.2 : Int), .string ByteArray.empty])
      go_upto_region 9 with fail
      generalize wr.alloc (.cells #[.string (txt x.1), .int .i64 (x.2 : Int), .string ByteArray.empty] 40) = V7 at *
      have y1 : V7.cell? ⟨wr.heap.size, 1, none⟩ = some (.int .i64 (x.2 : Int)) := XA.out.cell 1
      have hset7 := Lib.hid (HSET.out.below KA.out hml)
      have hz7 := KA.out.size
      clear c0 c1 c2' HSET
      go_wp2_with fail
      refine (HADV.out V7).mono ?_
      rintro e w8 ⟨rfl, hb8⟩
      have hset8 := Lib.hid (hset7.out.below hb8 (by omega))
      have KP8 := Lib.hid ((HKP.out.then (Kep.of_below (X := fun _ => False) KA.out) (fun _ q => q.elim)).then (Kep.of_below (X := fun _ => False) hb8) (fun _ q => q.elim))
      have hz8 := hb8.size
      clear hb8 y1 hset7
      go_wp2_with (at_mapUpdate; refine wpList_set_put rfl (.tmp 51) (.tmp 57) _ 38 42 rfl law_place Tryd.underlying38 mb i S rfl hset8.out (by unfold maxLen; omega) (pv P) kl rfl rfl hkl ?_; intro w9 hs9 hg9; have HS9 := Lib.hid hs9; have HG9 := Lib.hid hg9; clear hs9 hg9)
      go_roundg f
      case measure => omega
      case rel =>
        refine ⟨i + 1, by have := HI.out; omega, by go_num, by rw [hSx.out]; exact HS9.out, KP8.out.grown HG9.out (fun k hk => .inl (by injection hk with hk; exact hk.symm))⟩
    · obtain rfl : i = sn := by omega
      have hall : SetIn wr 42 mb i (ST.map fun x => pv (fromT ts x.2)) := by rw [List.take_of_length_le (by omega)] at hset; exact hset
      have HALL := Lib.hid hall
      obtain ⟨wo, rfl⟩ : ∃ wo : World, wo = wr := ⟨_, rfl⟩
      have hk4o : k4 < w6.heap.size := by omega
      have hcl : Hid (∀ (j : Nat) (u : Value), (sgs G)[j]? = some u → wo.cell? ⟨k4, j, none⟩ = some u) := Lib.hid (fun j u hj => (hkp.cell (p := ⟨k4, j, none⟩) hk4o (by simp only; omega)).trans ((HK6.out.cell (p := ⟨k4, j, none⟩) hk4z).trans (HCL4.out j u hj)))
      have HBO := Lib.hid (HB4.out.trans ((HK6.out.mono (by have := HB4.out.size; omega)).trans (hkp.below (B := W.heap.size) (by have := HB4.out.size; omega) (fun k hk e => by have := HB4.out.size; omega))))
      clear hset hall hkp HKP HSET HCL6 HCL4 HK6 HB4 HS6
      go_wp2_with fail
      go_loopg [61] gn (fun f s61 wr => ∃ j : Nat, j + f = gn ∧ s61 = .int .i64 (j : Int) ∧ Below wo.heap.size wo wr)
      case atStart => exact ⟨0, by omega, rfl, Below.refl _ _⟩
      case round =>
        obtain ⟨j, hj, rfl, hbw⟩ := hrel
        have HBW := Lib.hid hbw
        have hzw := hbw.size
        by_cases hjl : j < gn
        · obtain ⟨f, rfl⟩ : ∃ f, gk = f + 1 := ⟨gk - 1, by omega⟩
          have hjG : j < G.length := by have := HGN.out; omega
          obtain ⟨x, hx⟩ : ∃ x, x = G[j]'hjG := ⟨_, rfl⟩
          have hxm : x ∈ G := by rw [hx]; exact List.getElem_mem hjG
          obtain ⟨x1, x2, x3, y, hy, e1, e2⟩ := HSEG.out x hxm
          obtain ⟨b1, b2, b3, b4, b5, b6, b7⟩ := HBD.out x hxm
          have hk4w : k4 < wo.heap.size := by omega
          have key : ∀ q u, q < 7 → x.cells[q]? = some u → wr.cell? ⟨k4, j * 7 + q, none⟩ = some u := fun q u hq hu => by
            have h1 := hcl.out (j * 7 + q) u (by rw [sgs_at G j q hjG hq, ← hx]; exact hu)
            exact (hbw.cell (p := ⟨k4, j * 7 + q, none⟩) hk4w).trans h1
          have hkey : pv (fromT ts y.2) ∈ ST.map fun x => pv (fromT ts x.2) := List.mem_map_of_mem hy
          have epv : pv (fromT ts y.2) = .agg #[.int .i64 x.fl, .int .i64 x.fc] := by unfold pv; rw [e1, e2]
          rw [epv] at hkey
          obtain ⟨kl, hkl⟩ := key_place x.fl x.fc (wf64 _ (by omega)) (wf64 _ (by omega))
          have HSW := Lib.hid (HALL.out.below hbw hml)
          have hprev : Hid (0 < j → ∃ z : Seg, (∀ q u, q < 7 → z.cells[q]? = some u → wr.cell? ⟨k4, (j - 1) * 7 + q, none⟩ = some u) ∧ ¬ (x.l < z.l ∨ x.l = z.l ∧ x.c < z.c)) := Lib.hid (fun h0 => by
            have hjp : j - 1 < G.length := by omega
            refine ⟨G[j - 1]'hjp, fun q u hq hu => ?_, ?_⟩
            · have h1 := hcl.out ((j - 1) * 7 + q) u (by rw [sgs_at G (j - 1) q hjp hq]; exact hu)
              exact (hbw.cell (p := ⟨k4, (j - 1) * 7 + q, none⟩) hk4w).trans h1
            · have h2 := List.pairwise_iff_getElem.1 HSRT.out (j - 1) j hjp hjG (by omega)
              rw [← hx] at h2
              omega)
          obtain ⟨xl, xc, xs, xfl, xfc, xnm, xnd⟩ := x
          simp only at x1 x2 x3 hkey hkl hprev
          subst x1 x2 x3
          have c0 : wr.cell? ⟨k4, j * 7, none⟩ = some (.int .i64 xl) := key 0 _ (by omega) rfl
          have c1 : wr.cell? ⟨k4, j * 7 + 1, none⟩ = some (.int .i64 xc) := key 1 _ (by omega) rfl
          have c2' : wr.cell? ⟨k4, j * 7 + 2, none⟩ = some (.int .i64 0) := key 2 _ (by omega) rfl
          have c3 : wr.cell? ⟨k4, j * 7 + 3, none⟩ = some (.int .i64 xfl) := key 3 _ (by omega) rfl
          have c4' : wr.cell? ⟨k4, j * 7 + 4, none⟩ = some (.int .i64 xfc) := key 4 _ (by omega) rfl
          have c5 : wr.cell? ⟨k4, j * 7 + 5, none⟩ = some (.int .i64 0) := key 5 _ (by omega) rfl
          have c6' : wr.cell? ⟨k4, j * 7 + 6, none⟩ = some (.bool false) := key 6 _ (by omega) rfl
          have HJ := Lib.hid hj
          have k1 : (0 : Int) ≤ (j : Int) := by omega
          have k2 : (j : Int) < (gn : Int) := by omega
          have KA := Lib.hid (balloc (Below.refl wr.heap.size wr) (.cells #[.int .i64 xl, .int .i64 xc, .int .i64 0, .int .i64 xfl, .int .i64 xfc, .int .i64 0, .bool false] 45))
          have XA := Lib.hid (Blk.new wr 45 #[.int .i64 xl, .int .i64 xc, .int .i64 0, .int .i64 xfl, .int .i64 xfc, .int .i64 0, .bool false])
          clear hj hx hxm hy e1 e2 b1 b2 b3 b4 b5 b6 b7 key epv hbw
          go_upto_region 14 with fail
          generalize wr.alloc (.cells #[.int .i64 xl, .int .i64 xc, .int .i64 0, .int .i64 xfl, .int .i64 xfc, .int .i64 0, .bool false] 45) = V at *
          have hsv := HSW.out.below KA.out (by omega)
          have HSV := Lib.hid hsv
          have hlv := XA.out.lt
          have hmv : mb < V.heap.size := hsv.lt
          have hkv : k4 < V.heap.size := by have := KA.out.size; omega
          have v0 : V.cell? ⟨wr.heap.size, 0, none⟩ = some (.int .i64 xl) := XA.out.cell 0
          have v1 : V.cell? ⟨wr.heap.size, 1, none⟩ = some (.int .i64 xc) := XA.out.cell 1
          have v2 : V.cell? ⟨wr.heap.size, 2, none⟩ = some (.int .i64 0) := XA.out.cell 2
          have v3' : V.cell? ⟨wr.heap.size, 3, none⟩ = some (.int .i64 xfl) := XA.out.cell 3
          have v4 : V.cell? ⟨wr.heap.size, 4, none⟩ = some (.int .i64 xfc) := XA.out.cell 4
          have v5 : V.cell? ⟨wr.heap.size, 5, none⟩ = some (.int .i64 0) := XA.out.cell 5
          have v6 : V.cell? ⟨wr.heap.size, 6, none⟩ = some (.bool false) := XA.out.cell 6
          have HK := Lib.hid (Below.refl V.heap.size V)
          have HKW := Lib.hid (HBW.out.trans (KA.out.mono hzw))
          have hzV := KA.out.size
          clear hsv c0 c1 c2' c3 c4' c5 c6' HSW
          go_cut [94] (fun s94 wx => s94 = .bool false ∧ Below V.heap.size V wx)
          case first =>
            rcases Nat.eq_zero_or_pos j with h0 | h0
            · have g0 : ¬ ((0 : Int) < (j : Int)) := by omega
              have g1 : ¬ (0 < j) := by omega
              have hlk : ∀ m, (Instr.lookup 38 (.map (some mb)) (.agg #[.int .i64 xfl, .int .i64 xfc]) false).run Tryd.prog (V.drewN m) = .ok (.bool true) (V.drewN m) := fun m => set_look (w := V.drewN m) law_place Tryd.underlying38 HSV.out hkl hkey
              clear h0 hprev
              go_quiet (fail)
              go_wp2_with fail
              go_meet
              exact ⟨rfl, below_drewN HK.out _⟩
            · obtain ⟨z, hz, hnb⟩ := hprev.out h0
              obtain ⟨zl, zc, zs, zfl, zfc, znm, znd⟩ := z
              simp only at hnb
              have p0 : V.cell? ⟨k4, (j - 1) * 7, none⟩ = some (.int .i64 zl) := (KA.out.cell (p := ⟨k4, (j - 1) * 7, none⟩) (by simp only; omega)).trans (hz 0 _ (by omega) rfl)
              have p1 : V.cell? ⟨k4, (j - 1) * 7 + 1, none⟩ = some (.int .i64 zc) := (KA.out.cell (p := ⟨k4, (j - 1) * 7 + 1, none⟩) (by simp only; omega)).trans (hz 1 _ (by omega) rfl)
              have HBF : Hid (∀ W, Calls Tryd.prog 18 #[.agg #[.int .i64 xl, .int .i64 xc], .agg #[.int .i64 zl, .int .i64 zc]] W fun e w' => e = .returned (.bool false) ∧ Below W.heap.size W w') := Lib.hid (fun W => by
                have h := before_any xl xc zl zc W
                rw [decide_eq_false hnb] at h
                exact h)
              have i1 : IntKind.i64.wrap ((j : Int) - 1) = (j : Int) - 1 := IntWalk.i64_in _ (by omega)
              have i2 : (1 : Int) ≤ (j : Int) := by omega
              have i3 : 1 ≤ j := h0
              have i4 : ((j : Int) - 1).toNat = j - 1 := by omega
              have i5 : j - 1 < gn := by omega
              have i6 : (j : Int) - 1 < (gn : Int) := by omega
              have i7 : (0 : Int) < (j : Int) := by omega
              clear hprev hz hnb
              go_region_held3 (fun w' => w'.cell? ⟨wr.heap.size, 0, none⟩ = some (.int .i64 xl) ∧ w'.cell? ⟨wr.heap.size, 1, none⟩ = some (.int .i64 xc) ∧ w'.cell? ⟨wr.heap.size, 2, none⟩ = some (.int .i64 0) ∧ w'.cell? ⟨wr.heap.size, 3, none⟩ = some (.int .i64 xfl) ∧ w'.cell? ⟨wr.heap.size, 4, none⟩ = some (.int .i64 xfc) ∧ w'.cell? ⟨wr.heap.size, 5, none⟩ = some (.int .i64 0) ∧ w'.cell? ⟨wr.heap.size, 6, none⟩ = some (.bool false) ∧ w'.cell? ⟨k4, (j - 1) * 7, none⟩ = some (.int .i64 zl) ∧ w'.cell? ⟨k4, (j - 1) * 7 + 1, none⟩ = some (.int .i64 zc) ∧ (Instr.lookup 38 (.map (some mb)) (.agg #[.int .i64 xfl, .int .i64 xfc]) false).run Tryd.prog w' = .ok (.bool true) w')
                (first
                  | exact ⟨(HK.out.cell (p := ⟨wr.heap.size, 0, none⟩) hlv).trans v0, (HK.out.cell (p := ⟨wr.heap.size, 1, none⟩) hlv).trans v1, (HK.out.cell (p := ⟨wr.heap.size, 2, none⟩) hlv).trans v2, (HK.out.cell (p := ⟨wr.heap.size, 3, none⟩) hlv).trans v3', (HK.out.cell (p := ⟨wr.heap.size, 4, none⟩) hlv).trans v4, (HK.out.cell (p := ⟨wr.heap.size, 5, none⟩) hlv).trans v5, (HK.out.cell (p := ⟨wr.heap.size, 6, none⟩) hlv).trans v6, (HK.out.cell (p := ⟨k4, (j - 1) * 7, none⟩) hkv).trans p0, (HK.out.cell (p := ⟨k4, (j - 1) * 7 + 1, none⟩) hkv).trans p1, set_look law_place Tryd.underlying38 (HSV.out.below HK.out hmv) hkl hkey⟩
                  | exact ⟨(HK.out.drew.cell (p := ⟨wr.heap.size, 0, none⟩) hlv).trans v0, (HK.out.drew.cell (p := ⟨wr.heap.size, 1, none⟩) hlv).trans v1, (HK.out.drew.cell (p := ⟨wr.heap.size, 2, none⟩) hlv).trans v2, (HK.out.drew.cell (p := ⟨wr.heap.size, 3, none⟩) hlv).trans v3', (HK.out.drew.cell (p := ⟨wr.heap.size, 4, none⟩) hlv).trans v4, (HK.out.drew.cell (p := ⟨wr.heap.size, 5, none⟩) hlv).trans v5, (HK.out.drew.cell (p := ⟨wr.heap.size, 6, none⟩) hlv).trans v6, (HK.out.drew.cell (p := ⟨k4, (j - 1) * 7, none⟩) hkv).trans p0, (HK.out.drew.cell (p := ⟨k4, (j - 1) * 7 + 1, none⟩) hkv).trans p1, set_look law_place Tryd.underlying38 (HSV.out.below HK.out.drew hmv) hkl hkey⟩)
                (first
                  | (go_at_call 18; refine (HBF.out _).mono ?_; rintro e w' ⟨rfl, hb⟩; have HK : Hid (Below V.heap.size V w') := Lib.hid (by first | exact bthen HK.out hb | exact bthen HK.out.drew hb); clear hb))
              all_goals go_wp2_with fail
              all_goals go_meet
              all_goals exact ⟨rfl, by first | exact HK.out | exact HK.out.drew⟩
          case rest =>
            obtain ⟨rfl, hbx⟩ := hcut
            have HBX := Lib.hid (HKW.out.trans (hbx.mono (by omega)))
            clear hbx v0 v1 v2 v3' v4 v5 v6
            go_wp2_with fail
            go_roundg f
            case measure => omega
            case rel => exact ⟨j + 1, by have := HJ.out; omega, by go_num, HBX.out⟩
        · obtain rfl : j = gn := by omega
          have hpos : (0 : Int) < (j : Int) := by omega
          clear hbw
          go_wp2_with fail
          go_ret
          exact ⟨rfl, HBO.out.trans (HBW.out.mono (by have := HBO.out.size; omega))⟩

theorem fnChunkOnly_wrow (os : Os) {H : Type} (enc : TypeId × Value → H) :
    (Rows.OpenSpec.upto Rows.fnChunkOnlySpec).preRow enc Tryd.prog Tryd.f4 Rows.fnChunkOnlyUptoRow.domain false Rows.fnChunkOnlyUptoRow.laid ((laidWorld os).forCall (fun _ _ => 0) ⟨#[], #[.string ⟨#[]⟩, .int .i64 0, .slice none 0 0, .string ⟨#[]⟩], []⟩).memory #[.string ⟨#[]⟩, .int .i64 0, .slice none 0 0, .string ⟨#[]⟩] := by
  have hw : ((DataW.whole enc Tryd.prog ((laidWorld os).forCall (fun _ _ => 0) ⟨#[], #[.string ⟨#[]⟩, .int .i64 0, .slice none 0 0, .string ⟨#[]⟩], []⟩).memory Tryd.f4.params.toList (Rows.OpenSpec.upto Rows.fnChunkOnlySpec).vars false (#[.string ⟨#[]⟩, .int .i64 0, .slice none 0 0, .string ⟨#[]⟩] : Array Value).toList 8).map (fun x => (x.1, x.2.1))) =
      some ([.lit (.string []), .lit (.int .i64 0), .nil, .lit (.string [])], []) := by kernel_rfl
  obtain ⟨⟨x1, x2, x3⟩, hx, hx1⟩ := Option.map_eq_some_iff.1 hw
  simp only [Prod.mk.injEq] at hx1
  obtain ⟨rfl, rfl⟩ := hx1
  exact OpenSpec.preRow_of_cond 8 hx (by kernel_rfl) (fun k hk => by cases hk; kernel_rfl) (by kernel_rfl) (laid_met os _)

set_option maxRecDepth 100000 in
theorem fnChunkOnly_lifted (os : Os) (started : os.Started) (H : Type) (enc : TypeId × Value → H) (F : Stop.Interp) :
    ReturnsInHanded {} Tryd.checked os 4 .any ((Rows.OpenSpec.upto Rows.fnChunkOnlySpec).preRow enc Tryd.prog Tryd.f4 Rows.fnChunkOnlyUptoRow.domain false Rows.fnChunkOnlyUptoRow.laid) (((Rows.OpenSpec.upto Rows.fnChunkOnlySpec).at F).post enc Tryd.prog Tryd.f4 false true false false) := by
  refine returnsInHanded_of_row (C := Tryd.checked) (s := Rows.OpenSpec.upto Rows.fnChunkOnlySpec) own started (by kernel_rfl) Tryd.func4
    (witness_row_atRef (enc := enc) (C := Tryd.checked) false (laidWorld os) #[.string ⟨#[]⟩, .int .i64 0, .slice none 0 0, .string ⟨#[]⟩] rfl (by kernel_rfl) (by kernel_rfl) (by kernel_rfl) (fnChunkOnly_wrow os enc)) ?_
  intro W base args ds gs before hval0 hW _ hcond hsz0 hL _ _
  have hT : B64 W.heap.size W := b64_of_laid hL
  have hval : ∀ (j : Nat) t v, Tryd.f4.params[j]? = some t → args[j]? = some v → Value.okWide Tryd.prog W .any base t v := hval0
  have hW' := hW
  obtain ⟨p, q, hA0, hV, rfl, hfz, hnd⟩ := hW
  have hA : DataW.TrodAll enc Tryd.prog W 0 (fun _ => true) true Tryd.f4.params.toList args.toList ds p := hA0
  have hsz : (DataW.weightsEach Tryd.prog (Tryd.f4.params.toList ++ (Rows.OpenSpec.upto Rows.fnChunkOnlySpec).bare.plain.varTypes Tryd.prog) (ds ++ gs)).all (· ≤ reachBytes) = true := hsz0
  rw [Tryd.params4] at hA hval hsz
  obtain ⟨v0, vs0, d0, ds0, p0, q0, hargs, rfl, rfl, h0, r0⟩ := trodAll_cons hA
  obtain ⟨v1, vs1, d1, ds1, p1, q1, rfl, rfl, rfl, h1, r1⟩ := trodAll_cons r0
  obtain ⟨v2, vs2, d2, ds2, p2, q2, rfl, rfl, rfl, h2, r2⟩ := trodAll_cons r1
  obtain ⟨v3, vs3, d3, ds3, p3, q3, rfl, rfl, rfl, h3, r3⟩ := trodAll_cons r2
  obtain ⟨rfl, rfl, rfl⟩ := trodAll_nil r3
  obtain rfl : args = #[v0, v1, v2, v3] := by cases args; simp_all
  obtain ⟨a0, rfl, rfl, rfl, w0⟩ := ChangeMaps.open_string Tryd.underlying9 (hval 0 9 v0 rfl rfl) h0
  obtain ⟨a1, rfl, rfl, rfl, w1⟩ := open_int Tryd.underlying3 (hval 1 3 v1 rfl rfl) h1
  obtain ⟨a3, rfl, rfl, rfl, w3⟩ := ChangeMaps.open_string Tryd.underlying9 (hval 3 9 v3 rfl rfl) h3
  obtain ⟨a2, c2, z2, rfl, t2, b2, n2⟩ := open_turns Tryd.underlying22 Tryd.underlying25 (by kernel_rfl) rfl rfl (by kernel_rfl) (by kernel_rfl) Tryd.underlying9 Tryd.underlying3 (hval 2 22 v2 rfl rfl) h2
  have s0 : a0.size ≤ 140737488351232 := by have h := sized_string hsz (j := 0) (t := 9) rfl rfl; simpa [reachBytes] using h
  have s3 : a3.size ≤ 140737488351232 := by have h := sized_string hsz (j := 3) (t := 9) rfl rfl; simpa [reachBytes] using h
  have hbk : Rows.uptoBulkAll _ ≤ 1048576 := of_decide_eq_true (hcond _ rfl)
  simp [Rows.uptoBulkAll, Rows.uptoBulk] at hbk
  have b0 : a0.size ≤ 1048576 := by have e : a0.data.size = a0.size := rfl; omega
  have e2 : tsz z2 ≤ 1048576 := by omega
  have b3 : a3.size ≤ 1048576 := by have e : a3.data.size = a3.size := rfl; omega
  refine (fnChunkOnly_walk W a0 a1 a2 c2 z2 a3 b0 w1 t2 n2 e2 b3 hT).mono fun e W' ⟨he, hb⟩ => ⟨_, he, ?_⟩
  exact law_post (s := Rows.fnChunkOnlySpec) (f := Tryd.f4) (tb := 4) (by kernel_rfl) (by kernel_rfl) (by kernel_rfl) Tryd.underlying4 rfl (fun ds h => by rw [Tryd.params4] at h; match ds, h with | [_, _, _, _], _ => rfl) hW' hb

theorem fnChunkOnly_said : Rows.FnChunkOnlyUptoSaid :=
  OpenClaim.holds_of_cond 4 Tryd.f4 rfl rfl rfl rfl rfl rfl rfl ⟨rfl, rfl, rfl, rfl, rfl⟩ rfl rfl rfl rfl rfl (by kernel_rfl) Tryd.func4 (by kernel_rfl)
    (of_decide_eq_true (by kernel_rfl)) (by unfold Func.isWrapper; first | (rw [if_pos (by decide +kernel)]; kernel_rfl) | (rw [if_neg (by decide +kernel)]; exact ⟨rfl, rfl⟩))
    (fun os started H enc _ F => by rw [OpenClaim.pre_eq_preRow]; exact fnChunkOnly_lifted os started H enc F)

theorem fnChunkOnly_plain (f : FuncId) (fn : Func) (hf : Tryd.pinned.checked.prog.funcNamed "mapthread/laws.FnChunkOnly" = some f) (hfn : Tryd.pinned.checked.prog.funcs[f]? = some fn) :
    false = Tryd.pinned.checked.prog.looks [] ∧ ∀ (j : Nat) t, fn.params[j]? = some t → Tryd.pinned.checked.prog.wantsStandIn t = false := by
  obtain rfl : f = 4 := Option.some.inj ((show Tryd.prog.funcNamed "mapthread/laws.FnChunkOnly" = some 4 by kernel_rfl).symm.trans hf) |>.symm
  obtain rfl : fn = Tryd.f4 := (Option.some.inj (Tryd.func4.symm.trans hfn)).symm
  refine ⟨by kernel_rfl, fun j t ht => ?_⟩
  rw [Tryd.params4] at ht
  have hm := Array.mem_of_getElem? ht
  simp at hm
  rcases hm with rfl | rfl | rfl | rfl
  · exact (show Tryd.prog.wantsStandIn 9 = false by kernel_rfl)
  · exact (show Tryd.prog.wantsStandIn 3 = false by kernel_rfl)
  · exact (show Tryd.prog.wantsStandIn 22 = false by kernel_rfl)
  · exact (show Tryd.prog.wantsStandIn 9 = false by kernel_rfl)

theorem fnChunkOnlyUpto_card : Rows.FnChunkOnlyUptoCardSaid :=
  Claim7.holds_tied_plain_at .later [] _ _ _ _ fnChunkOnly_said (fun _ h => by cases h) (by kernel_rfl) (fun _ h => by cases h) fnChunkOnlyUpto_row_tie rfl ⟨rfl, rfl⟩ (by kernel_rfl) rfl fnChunkOnly_plain (by kernel_rfl)
#print axioms fnChunkOnlyUpto_card
end Go.Proofs.YtnokiikgnplpmaaDoor

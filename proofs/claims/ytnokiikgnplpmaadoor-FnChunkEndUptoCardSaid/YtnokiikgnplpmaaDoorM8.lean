/-
  The contract of (*ChunkBuilder).AddSourceMapping, without a name. Conditions: the output is not empty, the tables' lines begin at rising places, and all is of at most 2^32.
-/
import Derived.Test.YtnokiikgnplpmaaDoorM6
import Derived.Test.YtnokiikgnplpmaaDoorM5
namespace Go.Proofs.YtnokiikgnplpmaaDoor
open Go.RowKit

/-- What is added, once the line and the column are known. -/
def add_of (d : Bd) (ob : List UInt8) (tail : ByteArray) (loc li cx : Nat) : Bd :=
  let u : Bd := { upd tail tail.size 0 { d with ploc := loc, plen := ob.length } with lu := ob.length }
  let e : Bd := if u.lsm = false ∧ 0 < u.gcol ∧ u.has = true then u.emit u.cover else u
  { e.emit { gl := e.st.gl, gc := e.gcol, si := 0, ol := (li : Int), oc := (cx : Int), on := 0 } with lsm := true }
theorem add_eq {d : Bd} {ts : List LT} {ob : List UInt8} {tail : ByteArray} {loc : Nat} (h : ¬ d.ploc = (loc : Int)) : d.add ts ob tail loc = add_of d ob tail loc (lineNo ts loc - 1) (colOf (ts.getD (lineNo ts loc - 1) ⟨none, 0, 0⟩) loc) := by
  unfold Bd.add add_of; rw [if_neg h]

theorem tab_bounds {ts : List LT} {loc li : Nat} (hli : li < ts.length) (h : LocOk ts loc) (e : lineNo ts loc = li + 1) : ∀ l, (ts[li]'hli).cols = some l → (ts[li]'hli).first ≤ loc - (ts[li]'hli).start → loc - (ts[li]'hli).start - (ts[li]'hli).first < l.length := by
  have h1 : lineNo ts loc - 1 = li := by omega
  intro l hl hf
  have := h (by omega) l
  simp only [h1] at this
  exact this hl hf

set_option maxHeartbeats 30000000 in
set_option maxRecDepth 100000 in
theorem addsrc_any (w : World) (g base B k n cap N loc : Nat) (v mp tv : Value) (d : Bd) (ob : List UInt8) (ts : List LT) (h : Bld w g base v mp tv d) (hT : B64 B w) (hB : B ≤ g) (hob : OutAt w k n ob) (hkg : k ≠ g) (hkv : v.ownBlock ≠ some k)
    (hn : 0 < n) (hcap : n ≤ cap) (hlu : d.lu ≤ n) (hle : d.le N) (hN : N + 2 * n ≤ 4294967296) (htb : TabAt w B tv ts) (hts : TabOk ts) (hloc : LocOk ts loc) (hlm : loc ≤ 1073741824) (htl : ts.length ≤ 1073741824) (htd : TabBd ts) :
    Calls Tryd.prog 31 #[.pointer (some ⟨g, 0, none⟩), .agg #[.int .i32 (loc : Int)], .string ByteArray.empty, .slice (some ⟨k, 0, none⟩) n cap] w fun e w' => e = .returned (.tuple #[]) ∧ ∃ v', Bld w' g base v' mp tv (d.add ts ob (tailOf ob d.lu) loc) ∧ Bst w g v w' v' := by
  have c16 : w.cell? ⟨g, 16, none⟩ = some (.int .i32 d.ploc) := h.1.cell 16
  have c15 : w.cell? ⟨g, 15, none⟩ = some (.int .i64 d.plen) := h.1.cell 15
  have c5 : w.cell? ⟨g, 5, none⟩ = some (.string ByteArray.empty) := h.1.cell 5
  have hgw : g < w.heap.size := h.1.lt
  have hb0 := balloc (Below.refl w.heap.size w) (.cells #[.int .i32 (loc : Int)] 79)
  have bL := Blk.new w 79 #[.int .i32 (loc : Int)]
  have H := Lib.hid h
  clear h
  go_enter Tryd.func31, Tryd.ntmps31
  go_upto_region 1 with fail
  go_cut [37] (fun s37 wx => s37 = .bool (decide (d.ploc = (loc : Int))) ∧ ∃ q, wx = (w.alloc (.cells #[.int .i32 (loc : Int)] 79)).drewN q)
  case first =>
    as_aux_lemma =>
      by_cases e : d.ploc = (loc : Int)
      · rw [e] at c16
        by_cases e2 : d.plen = n
        · have e3 : ((d.plen : Int) == (n : Int)) = true := by simp; omega
          have E := Lib.hid e
          clear e e2
          go_quiet (fail)
          go_wp2_with fail
          go_meet
          exact ⟨by rw [E.out]; simp, _, rfl⟩
        · have e3 : ((d.plen : Int) == (n : Int)) = false := by simp; omega
          have E := Lib.hid e
          clear e e2
          go_quiet (fail)
          go_wp2_with fail
          go_meet
          exact ⟨by rw [E.out]; simp, _, rfl⟩
      · have e1 : ((loc : Int) == d.ploc) = false := by simp; omega
        have E := Lib.hid e
        clear e
        go_quiet (fail)
        go_wp2_with fail
        go_meet
        exact ⟨by simp [E.out], _, rfl⟩
  case rest =>
    obtain ⟨rfl, q, hq⟩ := hcut
    obtain ⟨W, hW⟩ : ∃ W, W = wc := ⟨_, rfl⟩
    rw [← hW] at hq
    rw [← hW]
    have hb1 : Below w.heap.size w W := by rw [hq]; exact ⟨hb0.os, hb0.tape, hb0.output, hb0.size, hb0.block⟩
    have bL1 : Blk W w.heap.size 79 #[.int .i32 (loc : Int)] := by rw [hq]; exact bL
    clear hW hq hb0 bL c16 c15 c5
    have hBW := H.out.after hb1
    have hSW : Bst w g v W v := ⟨Kep.of_below hb1, .inl rfl⟩
    by_cases hdup : d.ploc = (loc : Int)
    · have e1 : decide (d.ploc = (loc : Int)) = true := by simp [hdup]
      have e2 : d.add ts ob (tailOf ob d.lu) loc = d := by unfold Bd.add; rw [if_pos hdup]
      have E2 := Lib.hid e2
      have E1 := Lib.hid e1
      rw [e1]
      clear e1 e2 hdup
      go_wp2_with fail
      refine bodyPost_ret (results_none rfl _ _ _) rfl ?_
      exact ⟨rfl, v, by rw [E2.out]; exact hBW, hSW⟩
    · have e1 : decide (d.ploc = (loc : Int)) = false := by simp [hdup]
      rw [e1]
      have HD := Lib.hid hdup
      clear e1 hdup
      have c16 : W.cell? ⟨g, 16, none⟩ = some (.int .i32 d.ploc) := hBW.1.cell 16
      have c15 : W.cell? ⟨g, 15, none⟩ = some (.int .i64 d.plen) := hBW.1.cell 15
      have c5 : W.cell? ⟨g, 5, none⟩ = some (.string ByteArray.empty) := hBW.1.cell 5
      have f16 : W.frozen? ⟨g, 16, none⟩ = false := hBW.1.frozen 16
      have f15 : W.frozen? ⟨g, 15, none⟩ = false := hBW.1.frozen 15
      have f5 : W.frozen? ⟨g, 5, none⟩ = false := hBW.1.frozen 5
      have l0 : W.cell? ⟨w.heap.size, 0, none⟩ = some (.int .i32 (loc : Int)) := bL1.cell 0
      have hgz : ¬ g = w.heap.size := by omega
      have hB3 : Bld (((W.setCell ⟨g, 16, none⟩ (.int .i32 (loc : Int))).setCell ⟨g, 15, none⟩ (.int .i64 (n : Int))).setCell ⟨g, 5, none⟩ (.string ByteArray.empty)) g base v mp tv { d with ploc := loc, plen := n } :=
        ((hBW.put (d' := { d with ploc := loc }) 16 _ (by simp [Bd.cells]) rfl).put (d' := { d with ploc := loc, plen := n }) 15 _ (by simp [Bd.cells]) rfl).put 5 _ (by simp [Bd.cells]) rfl
      have hS3 : Bst w g v (((W.setCell ⟨g, 16, none⟩ (.int .i32 (loc : Int))).setCell ⟨g, 15, none⟩ (.int .i64 (n : Int))).setCell ⟨g, 5, none⟩ (.string ByteArray.empty)) v := ((hSW.put 16 _).put 15 _).put 5 _
      have bL3 : Blk (((W.setCell ⟨g, 16, none⟩ (.int .i32 (loc : Int))).setCell ⟨g, 15, none⟩ (.int .i64 (n : Int))).setCell ⟨g, 5, none⟩ (.string ByteArray.empty)) w.heap.size 79 #[.int .i32 (loc : Int)] := ((bL1.far (p := ⟨g, 16, none⟩) (by show w.heap.size ≠ g; omega) _).far (p := ⟨g, 15, none⟩) (by show w.heap.size ≠ g; omega) _).far (p := ⟨g, 5, none⟩) (by show w.heap.size ≠ g; omega) _
      have HH := Lib.hid (And.intro hB3 (And.intro hS3 bL3))
      clear hB3 hS3 bL3 hBW hSW bL1 hb1
      go_upto_region 5 with fail
      obtain ⟨hB3, hS3, bL3⟩ := HH.out
      clear HH c16 c15 c5 f16 f15 f5 l0
      generalize (((W.setCell ⟨g, 16, none⟩ (.int .i32 (loc : Int))).setCell ⟨g, 15, none⟩ (.int .i64 (n : Int))).setCell ⟨g, 5, none⟩ (.string ByteArray.empty)) = W3 at *
      have hbw3 : Below B w W3 := hS3.1.below (by omega) (fun q hq => by rintro (rfl | e); omega; have := own_lt H.out.2.1 e; have := H.out.2.2.1; omega)
      have htb3 := htb.below hbw3
      have hT3 := hT.below hbw3
      have hob3 : OutAt W3 k n ob := ⟨hob.1, Nat.lt_of_lt_of_le hob.2.1 hS3.1.size, fun j hj => (hS3.1.cell (p := ⟨k, j, none⟩) hob.2.1 (by rintro (q | q); exact hkg q; exact hkv q)).trans (hob.2.2 j hj)⟩
      obtain ⟨tb, tcap, htv, htbB, htc⟩ := htb3
      subst htv
      have q4 : W3.cell? ⟨g, 4, none⟩ = some (.slice (some ⟨tb, 0, none⟩) ts.length tcap) := hB3.1.cell 4
      have l0 : W3.cell? ⟨w.heap.size, 0, none⟩ = some (.int .i32 (loc : Int)) := bL3.cell 0
      have hl31 : (loc : Int) ≤ 1073741824 := by omega
      have HB3 := Lib.hid hB3
      have HS3 := Lib.hid hS3
      have HTC := Lib.hid htc
      have HOK := Lib.hid hts
      have HLO := Lib.hid hloc
      clear hB3 hS3 htc hts hloc
      go_wp2_with fail
      go_loopg [9, 10] ts.length (fun f s9 s10 wr => ∃ cnt idx : Nat, s9 = .int .i64 (cnt : Int) ∧ s10 = .int .i64 (idx : Int) ∧ cnt ≤ f ∧ idx + cnt ≤ ts.length ∧ Hid (∀ (j : Nat) (hj : j < ts.length), j < idx → (ts[j]'hj).start ≤ loc) ∧ Hid (∀ (j : Nat) (hj : j < ts.length), idx + cnt ≤ j → loc < (ts[j]'hj).start) ∧ ∃ q, W3.drewN q = wr)
      case atStart => exact ⟨ts.length, 0, rfl, rfl, Nat.le_refl _, by omega, fun j hj h => absurd h (by omega), fun j hj h => absurd h (by omega), 0, rfl⟩
      case round =>
        obtain ⟨cnt, idx, rfl, rfl, hcf, hic, hlo, hhi, q, rfl⟩ := hrel
        by_cases hc0 : cnt = 0
        · subst hc0
          have hidx : lineNo ts loc = idx := lineNo_is (by omega) hlo.out (fun j hj h => hhi.out j hj (by omega))
          have hpos := lineNo_pos HOK.out loc
          rw [hidx] at hpos
          obtain ⟨li, hli⟩ : ∃ li, idx = li + 1 := ⟨idx - 1, by omega⟩
          subst hli
          have hlt : li < ts.length := by omega
          have HIX := Lib.hid hidx
          obtain ⟨cv, t0, t1, t2, tcol⟩ := HTC.out li hlt
          have hstl := lineNo_start hlt (loc := loc) (by omega)
          have hbnd := tab_bounds hlt HLO.out hidx
          obtain ⟨t, ht⟩ : ∃ t, t = ts[li]'hlt := ⟨_, rfl⟩
          rw [← ht] at t1 t2 tcol hstl hbnd
          have htd1 := htd t (by rw [ht]; exact List.getElem_mem _)
          have HT0 := Lib.hid ht
          clear hidx ht hlo hhi hpos
          obtain ⟨tcols, tfirst, tstart⟩ := t
          simp only at t1 t2 tcol hstl hbnd htd1
          obtain ⟨hf30, hs30, hc30⟩ := htd1
          have HC30 := Lib.hid hc30
          clear hc30
          have hd0 : (tstart : Int) ≤ (loc : Int) := by omega
          have hc3 : ¬ ((0 : Int) > 0) := by omega
          have HTCOL := Lib.hid tcol
          have HBND := Lib.hid hbnd
          clear tcol hbnd
          go_upto_region 17 with fail
          go_quiet (fail)
          go_upto_region 18 with fail
          obtain ⟨W4, hW4⟩ : ∃ W4, W4 = (W3.drewN q).drewN nq := ⟨_, rfl⟩
          have t0' : W4.cell? ⟨tb, li * 3, none⟩ = some cv := by rw [hW4]; exact t0
          have t1' : W4.cell? ⟨tb, li * 3 + 1, none⟩ = some (.int .i32 (tfirst : Int)) := by rw [hW4]; exact t1
          have hB4 : Bld W4 g base v mp (.slice (some ⟨tb, 0, none⟩) ts.length tcap) { d with ploc := loc, plen := n } := by rw [hW4]; exact HB3.out
          have hS4 : Bst w g v W4 v := by rw [hW4]; exact ⟨⟨HS3.out.1.os, HS3.out.1.tape, HS3.out.1.output, HS3.out.1.size, HS3.out.1.block⟩, HS3.out.2⟩
          have hcol4 : ColAt W4 B cv tcols := by rw [hW4]; cases tcols <;> exact HTCOL.out
          have hob4 : OutAt W4 k n ob := by rw [hW4]; exact hob3
          have hT4 : B64 B W4 := by rw [hW4]; exact hT3
          rw [← hW4]
          clear hW4 t0 t1 t2 HB3 HS3 HTCOL hob3 hT3 q4 l0 HTC
          have HB4 := Lib.hid hB4
          have HS4 := Lib.hid hS4
          have HCOL := Lib.hid hcol4
          clear hB4 hS4 hcol4
          obtain ⟨bcol, hbc⟩ : ∃ bcol, bcol = (tcols.isSome && decide (tfirst ≤ loc - tstart)) := ⟨_, rfl⟩
          have HBC := Lib.hid hbc
          clear hbc
          have hneq := fun (a : Option Addr) (n c : Nat) (W : World) => run_neq_slice_nil_any (P := Tryd.prog) W 110 21 a n c 0 0 Tryd.underlying110
          go_cut [105] (fun s105 wx => s105 = .bool bcol ∧ W4 = wx)
          case first =>
            as_aux_lemma =>
              rcases htc2 : tcols with _ | l
              · have hcv := HCOL.out
                rw [htc2] at hcv
                have HB := Lib.hid HBC.out
                rw [htc2] at HB
                clear htc2
                have hcv' : cv = .slice none 0 0 := hcv
                subst hcv'
                clear hcv HBC HBND HCOL
                go_wp2_with fail
                go_meet
                exact ⟨by rw [HB.out]; rfl, rfl⟩
              · have hcv := HCOL.out
                rw [htc2] at hcv
                have HB := Lib.hid HBC.out
                rw [htc2] at HB
                clear htc2
                obtain ⟨kb, cc, hcv', _, _⟩ := hcv
                subst hcv'
                clear HBC HBND HCOL
                by_cases hf : tfirst ≤ loc - tstart
                · have hf2 : ((loc : Int) - (tstart : Int)) ≥ (tfirst : Int) := by omega
                  have HF := Lib.hid hf
                  clear hf
                  go_wp2_with fail
                  go_meet
                  exact ⟨by rw [HB.out]; simp [HF.out], rfl⟩
                · have hf2 : ¬ ((loc : Int) - (tstart : Int)) ≥ (tfirst : Int) := by omega
                  have HF := Lib.hid hf
                  clear hf
                  go_wp2_with fail
                  go_meet
                  exact ⟨by rw [HB.out]; simp [HF.out], rfl⟩
          case rest =>
          obtain ⟨rfl, rfl⟩ := hcut
          go_upto_if 105 with fail
          go_cut [14] (fun s14 wx => s14 = .int .i64 ((colOf ⟨tcols, tfirst, tstart⟩ loc : Nat) : Int) ∧ ∃ q', W4.drewN q' = wx)
          case first =>
            as_aux_lemma =>
              rcases bcol with _ | _
              · have e : colOf ⟨tcols, tfirst, tstart⟩ loc = loc - tstart := by
                  have hb := HBC.out
                  unfold colOf
                  cases tcols with
                  | none => rfl
                  | some l =>
                    simp at hb
                    simp only
                    rw [if_neg (by omega)]
                have E := Lib.hid e
                clear e hneq
                go_wp2_with fail
                go_meet
                exact ⟨by rw [E.out]; go_num, 0, rfl⟩
              · cases tcols with
                | none => exact absurd HBC.out (by simp)
                | some l =>
                  have hf : tfirst ≤ loc - tstart := by have := HBC.out; simpa using this
                  obtain ⟨kb, cc, hcv', hkb, hkc⟩ := HCOL.out
                  subst hcv'
                  have hin := HBND.out l rfl hf
                  have lc := hkc (loc - tstart - tfirst) hin
                  have e : colOf ⟨some l, tfirst, tstart⟩ loc = l[loc - tstart - tfirst]'hin := by
                    unfold colOf
                    simp only
                    rw [if_pos hf]
                    simp [hin]
                  have E := Lib.hid e
                  have hcl : l[loc - tstart - tfirst]'hin ≤ 1073741824 := HC30.out l rfl _ (List.getElem_mem _)
                  generalize l[loc - tstart - tfirst]'hin = cx at *
                  have i1 : (0 : Int) ≤ (loc : Int) - (tstart : Int) - (tfirst : Int) := by omega
                  have i2 : (loc : Int) - (tstart : Int) - (tfirst : Int) < (l.length : Int) := by omega
                  clear e hneq hkc HBND HCOL HBC
                  go_wp2_with fail
                  go_quiet (fail)
                  go_wp2_with fail
                  go_meet
                  exact ⟨by rw [E.out], _, rfl⟩
          case rest =>
          obtain ⟨rfl, q', hq'⟩ := hcut
          have hB5 : Bld wc g base v mp (.slice (some ⟨tb, 0, none⟩) ts.length tcap) { d with ploc := loc, plen := n } := by rw [← hq']; exact HB4.out
          have hS5 : Bst w g v wc v := by rw [← hq']; exact ⟨⟨HS4.out.1.os, HS4.out.1.tape, HS4.out.1.output, HS4.out.1.size, HS4.out.1.block⟩, HS4.out.2⟩
          have hob5 : OutAt wc k n ob := by rw [← hq']; exact hob4
          have hT5 : B64 B wc := by rw [← hq']; exact hT4
          have hcx : colOf ⟨tcols, tfirst, tstart⟩ loc ≤ 1073741824 := by
            unfold colOf
            cases tcols with
            | none => simp only; omega
            | some l =>
              simp only
              split
              · rcases Nat.lt_or_ge (loc - tstart - tfirst) l.length with q1 | q1
                · simp only [List.getD, List.getElem?_eq_getElem q1, Option.getD_some]
                  exact HC30.out l rfl _ (List.getElem_mem _)
                · simp [List.getD, List.getElem?_eq_none q1]
              · omega
          have hadd : d.add ts ob (tailOf ob d.lu) loc = add_of d ob (tailOf ob d.lu) loc li (colOf ⟨tcols, tfirst, tstart⟩ loc) := by
            rw [add_eq HD.out, HIX.out]
            rw [show li + 1 - 1 = li by omega]
            have : ts.getD li ⟨none, 0, 0⟩ = ⟨tcols, tfirst, tstart⟩ := by rw [HT0.out]; simp [hlt]
            rw [this]
          have HADD := Lib.hid hadd
          clear hadd hq' HB4 HS4 hob4 hT4 hneq HBND HCOL HBC HC30 HT0 HIX t0' t1' htd
          generalize colOf ⟨tcols, tfirst, tstart⟩ loc = cx at *
          obtain ⟨W5, hW5⟩ : ∃ W5, W5 = wc := ⟨_, rfl⟩
          rw [← hW5] at hB5 hS5 hob5 hT5
          rw [← hW5]
          clear hW5
          have HB5 := Lib.hid hB5
          have HS5 := Lib.hid hS5
          clear hB5 hS5
          go_wp2_with fail
          refine (update_any W5 g base B k n cap N v mp (.slice (some ⟨tb, 0, none⟩) ts.length tcap) { d with ploc := loc, plen := n } ob HB5.out hT5 hB hob5 hkg hkv hn hcap hlu hle (by omega)).mono ?_
          rintro e w6 ⟨rfl, v6, hb6, hs6⟩
          obtain ⟨u, hu⟩ : ∃ u : Bd, u = { upd (tailOf ob d.lu) (tailOf ob d.lu).size 0 { d with ploc := loc, plen := n } with lu := n } := ⟨_, rfl⟩
          have hb6' : Bld w6 g base v6 mp (.slice (some ⟨tb, 0, none⟩) ts.length tcap) u := by rw [hu]; exact hb6
          have hs6' := HS5.out.trans hs6
          have hT6 : B64 B w6 := hT.below (hs6'.1.below (by omega) (fun q hq => by rintro (rfl | e); omega; have := own_lt H.out.2.1 e; have := H.out.2.2.1; omega))
          have hadd2 : d.add ts ob (tailOf ob d.lu) loc = { u.topped.emit { gl := u.topped.st.gl, gc := u.topped.gcol, si := 0, ol := (li : Int), oc := (cx : Int), on := 0 } with lsm := true } := by
            rw [HADD.out]
            have hnn := hob.1
            rw [hu]
            subst hnn
            rfl
          have hlu6 : u.le (N + 2 * n) := by
            rw [hu]
            exact (upd_le _ _ _ (d := { d with ploc := loc, plen := n }) hle).mono (by have := tail_size ob d.lu; have := hob.1; omega)
          have HADD2 := Lib.hid hadd2
          have HB6 := Lib.hid hb6'
          have HS6 := Lib.hid hs6'
          clear hadd2 HADD hu hb6 hs6 HB5 HS5 hT5 hob5
          have c21 : w6.cell? ⟨g, 21, none⟩ = some (.bool true) := hb6'.1.cell 21
          have c20 : w6.cell? ⟨g, 20, none⟩ = some (.bool u.lsm) := hb6'.1.cell 20
          have c18 : w6.cell? ⟨g, 18, none⟩ = some (.bool u.has) := hb6'.1.cell 18
          have c14 : w6.cell? ⟨g, 14, none⟩ = some (.int .i64 u.gcol) := hb6'.1.cell 14
          clear hb6' hs6'
          go_upto_region 21 with fail
          obtain ⟨cv3, hcv3⟩ : ∃ cv3, cv3 = (!u.lsm && decide (0 < u.gcol) && u.has) := ⟨_, rfl⟩
          have HCV := Lib.hid hcv3
          clear hcv3
          go_cut [146] (fun s146 wx => s146 = .bool cv3 ∧ w6 = wx)
          case first =>
            as_aux_lemma =>
              rcases hl : u.lsm with _ | _ <;> rcases hh : u.has with _ | _ <;> rcases Nat.eq_zero_or_pos u.gcol with hg0 | hg0 <;> rw [hl] at c20 <;> rw [hh] at c18 <;> (have HL1 := Lib.hid hl) <;> (have HH1 := Lib.hid hh) <;> (have HG1 := Lib.hid hg0) <;> clear hl hh
              all_goals go_wp2_with fail
              all_goals go_meet
              all_goals exact ⟨by rw [HCV.out, HL1.out, HH1.out]; simp <;> first | exact HG1.out | omega, rfl⟩
          case rest =>
          obtain ⟨rfl, rfl⟩ := hcut
          go_upto_if 146 with fail
          clear c21 c20 c18 c14
          go_cut [] (fun wx => ∃ v7, Bld wx g base v7 mp (.slice (some ⟨tb, 0, none⟩) ts.length tcap) u.topped ∧ Bst w6 g v6 wx v7)
          case first =>
            as_aux_lemma =>
              rcases cv3 with _ | _
              · have e2 : u.topped = u := by
                  unfold Bd.topped
                  rw [if_neg]
                  rintro ⟨h1, h2, h3⟩
                  have := HCV.out
                  rw [h1, h3] at this
                  simp at this
                  omega
                have E2 := Lib.hid e2
                clear e2
                go_wp2_with fail
                go_meet
                exact ⟨v6, by rw [E2.out]; exact HB6.out, Bst.refl _ _ _⟩
              · have e2 : u.topped = u.emit u.cover := by
                  unfold Bd.topped
                  rw [if_pos]
                  have := HCV.out
                  rcases hl : u.lsm with _ | _ <;> rcases hh : u.has with _ | _ <;> rw [hl, hh] at this <;> simp at this
                  exact ⟨rfl, this, rfl⟩
                have E2 := Lib.hid e2
                have q6 : w6.cell? ⟨g, 6, none⟩ = some (.int .i64 u.st.gl) := HB6.out.1.cell 6
                have q8 : w6.cell? ⟨g, 8, none⟩ = some (.int .i64 u.st.si) := HB6.out.1.cell 8
                have q9 : w6.cell? ⟨g, 9, none⟩ = some (.int .i64 u.st.ol) := HB6.out.1.cell 9
                have q10 : w6.cell? ⟨g, 10, none⟩ = some (.int .i64 u.st.oc) := HB6.out.1.cell 10
                clear e2
                go_wp2_with fail
                go_region_held3 (fun w' => w'.cell? ⟨g, 6, none⟩ = some (.int .i64 u.st.gl) ∧ w'.cell? ⟨g, 8, none⟩ = some (.int .i64 u.st.si) ∧ w'.cell? ⟨g, 9, none⟩ = some (.int .i64 u.st.ol) ∧ w'.cell? ⟨g, 10, none⟩ = some (.int .i64 u.st.oc))
                  (first | go_keep | (exact ⟨hb2.1.cell 6, hb2.1.cell 8, hb2.1.cell 9, hb2.1.cell 10⟩))
                  (first | (go_at_call 46; refine (emit_any _ g base B v6 mp (.slice (some ⟨tb, 0, none⟩) ts.length tcap) u u.cover (by exact HB6.out) (by exact hT6) hB (by have := hlu6.1; omega) (hlu6.ok (by omega)) (hlu6.cover_ok (by omega))).mono ?_; rintro e w2 ⟨rfl, v2, hb2, hs2⟩))
                go_wp2_with fail
                go_meet
                exact ⟨v2, by rw [E2.out]; exact hb2, ⟨hs2.1.os, hs2.1.tape, hs2.1.output, hs2.1.size, hs2.1.block⟩, hs2.2⟩
          case rest =>
          obtain ⟨v7, hb7, hs7⟩ := hcut
          obtain ⟨w7, hw7⟩ : ∃ w7, w7 = wc := ⟨_, rfl⟩
          rw [← hw7] at hb7 hs7
          rw [← hw7]
          clear hw7
          have hs7' := HS6.out.trans hs7
          have hT7 : B64 B w7 := hT.below (hs7'.1.below (by omega) (fun q hq => by rintro (rfl | e); omega; have := own_lt H.out.2.1 e; have := H.out.2.2.1; omega))
          have hle7 := hlu6.topped
          have q6 : w7.cell? ⟨g, 6, none⟩ = some (.int .i64 u.topped.st.gl) := hb7.1.cell 6
          have q14 : w7.cell? ⟨g, 14, none⟩ = some (.int .i64 u.topped.gcol) := hb7.1.cell 14
          have HB7 := Lib.hid hb7
          have HS7 := Lib.hid hs7'
          clear hb7 hs7 hs7' HB6 HS6 hT6
          go_wp2_with fail
          go_still_tail 14, (by kernel_rfl)
          change wpList _ _ _ _ _ w7.drew
          generalize hW2 : w7.drew = W2
          have HW2 := Lib.hid hW2
          clear hW2
          go_wp2_with fail
          refine (addmap_any W2 g base B v7 mp (.slice (some ⟨tb, 0, none⟩) ts.length tcap) u.topped ⟨u.topped.st.gl, u.topped.gcol, 0, (li : Int), (cx : Int), 0⟩ ?_ ?_ hB ?_ (hle7.ok (by omega)) ?_).mono ?_
          · rw [← HW2.out]; exact HB7.out
          · rw [← HW2.out]; exact hT7
          · have := hle7.1; omega
          · obtain ⟨a1, a2, a3, a4, a5, a6, a7⟩ := hle7
            unfold St.ok
            simp only
            omega
          rintro e w8 ⟨rfl, v8, hb8, hs8⟩
          have r1 : w8.cell? ⟨g, 20, none⟩ = some (.bool _) := hb8.1.cell 20
          have r2 : w8.frozen? ⟨g, 20, none⟩ = false := hb8.1.frozen 20
          have HB8 := Lib.hid hb8
          have HS8 := Lib.hid hs8
          clear hb8 hs8
          go_wp2_with fail
          go_end0
          refine ⟨rfl, v8, ?_, ?_⟩
          · rw [HADD2.out]
            exact HB8.out.put 20 _ (by simp [Bd.cells]) rfl
          · have hs9 : Bst w7.drew g v7 w8 v8 := by rw [HW2.out]; exact HS8.out
            have hs10 : Bst w7 g v7 w8 v8 := ⟨⟨hs9.1.os, hs9.1.tape, hs9.1.output, hs9.1.size, hs9.1.block⟩, hs9.2⟩
            exact (HS7.out.trans hs10).put 20 _
        · have hi2 : idx + cnt / 2 < ts.length := by omega
          obtain ⟨cv, t0, t1, t2, _⟩ := HTC.out (idx + cnt / 2) hi2
          clear t0 t1
          have e0 : ((cnt : Int) > 0) := by omega
          by_cases hst : (ts[idx + cnt / 2]'hi2).start ≤ loc
          · have L1 : Hid (∀ (j : Nat) (hj : j < ts.length), j < idx + cnt / 2 + 1 → (ts[j]'hj).start ≤ loc) := fun j hj hjj => by
              rcases Nat.lt_or_ge j (idx + cnt / 2) with q1 | q1
              · have := HOK.out.1 j (idx + cnt / 2) hj hi2 q1
                omega
              · obtain rfl : j = idx + cnt / 2 := by omega
                exact hst
            have L2 : Hid (∀ (j : Nat) (hj : j < ts.length), idx + cnt / 2 + 1 + (cnt - cnt / 2 - 1) ≤ j → loc < (ts[j]'hj).start) := fun j hj hjj => hhi.out j hj (by omega)
            have hst2 : ((ts[idx + cnt / 2]'hi2).start : Int) ≤ (loc : Int) := by omega
            clear hst
            generalize (ts[idx + cnt / 2]'hi2).start = st at *
            go_wp2_with fail
            go_quiet (fail)
            go_wp2_with fail
            go_roundg (cnt - cnt / 2 - 1)
            case measure => omega
            case rel => exact ⟨cnt - cnt / 2 - 1, idx + cnt / 2 + 1, by go_num, by go_num, Nat.le_refl _, by omega, L1, L2, _, rfl⟩
          · have L1 : Hid (∀ (j : Nat) (hj : j < ts.length), idx + cnt / 2 ≤ j → loc < (ts[j]'hj).start) := fun j hj hjj => by
              rcases Nat.lt_or_ge (idx + cnt / 2) j with q1 | q1
              · have := HOK.out.1 (idx + cnt / 2) j hi2 hj q1
                omega
              · obtain rfl : j = idx + cnt / 2 := by omega
                omega
            have hst2 : ¬ ((ts[idx + cnt / 2]'hi2).start : Int) ≤ (loc : Int) := by omega
            clear hst
            generalize (ts[idx + cnt / 2]'hi2).start = st at *
            go_wp2_with fail
            go_quiet (fail)
            go_wp2_with fail
            go_roundg (cnt / 2)
            case measure => omega
            case rel => exact ⟨cnt / 2, idx, by go_num, rfl, Nat.le_refl _, by omega, hlo, L1, q + nq, (World.drewN_drewN _ _ _).symm⟩
end Go.Proofs.YtnokiikgnplpmaaDoor

/-
  The contract of laws.chunk: what is made of turns, read again. Conditions: the source, the turns and the rest have at most 2^21 values and letters together.
-/
import Derived.Test.YtnokiikgnplpmaaDoorTurnsKit
import Derived.Test.YtnokiikgnplpmaaDoorReadFn
import Derived.Test.YtnokiikgnplpmaaDoorChunkPl
namespace Go.Proofs.YtnokiikgnplpmaaDoor
open Go.RowKit

theorem rsegs_short {q : Seg × Int} {toks : List (Option (List Int))} (h : rok q toks) (fr : Bool) : (rsegs q toks).length ≤ (tokB fr toks).length := by
  induction toks generalizing q fr with
  | nil => simp [rsegs]
  | cons t r ih => cases t with
    | none => have := ih h.2 true; simp only [rsegs, tokB, List.length_cons]; omega
    | some ns =>
      have := ih h.2.2 false
      have hn := h.2.1.1
      have hp : 1 ≤ (nums ns).length := by
        cases ns with
        | nil => simp at hn
        | cons n nt => rw [nums_cons, List.length_append]; have := nb_pos' n; omega
      simp only [rsegs, tokB, List.length_cons, List.length_append]
      omega
theorem cend_short (ts : List LT) (hts : TabBd ts) (hl : ts.length ≤ 1073741824) (l : List (List Nat × Nat)) (rest : List Nat) (hp : ∀ x ∈ l, x.2 ≤ 1073741824) (hz : (encs (allR l)).length + (encs rest).length + l.length ≤ 1073741824) : (cend ts l rest).sm.length ≤ 549755813888 := by
  obtain ⟨hlu, hle⟩ := cgo_le ts hts 1073741824 (Nat.le_refl _) hl l hp
  have hout := cgo_out ts l
  have hu := (upd_le (tailOf ((cgo ts l).2 ++ encs rest) (cgo ts l).1.lu) (tailOf ((cgo ts l).2 ++ encs rest) (cgo ts l).1.lu).size 0 hle).1
  have ht := tail_size ((cgo ts l).2 ++ encs rest) (cgo ts l).1.lu
  rw [hout] at hlu
  rw [List.length_append, hout] at ht
  have e : (cend ts l rest).sm = (upd (tailOf ((cgo ts l).2 ++ encs rest) (cgo ts l).1.lu) (tailOf ((cgo ts l).2 ++ encs rest) (cgo ts l).1.lu).size 0 (cgo ts l).1).sm := rfl
  rw [e]
  rw [hout] at hu ⊢
  omega
/-- What the steps of turns are. -/
theorem steps_ok2 (s : ByteArray) (tl : List (ByteArray × Int)) : (∀ x ∈ mkSteps s tl, okR x.1) ∧ (∀ x ∈ mkSteps s tl, x.1.getLast? ≠ some 13) := by
  constructor
  · intro x hx
    obtain ⟨y, _, rfl⟩ := List.mem_map.1 hx
    exact stepR_ok y.1
  · intro x hx
    obtain ⟨y, _, rfl⟩ := List.mem_map.1 hx
    exact stepR_last y.1
/-- The end of what is made of turns. -/
def endT (rs : List Nat) (tl : List (ByteArray × Int)) (rest : List Nat) : Bd := cend (tabsOf (txt rs)) (mkSteps (txt rs) tl) rest
theorem endT_inv (rs : List Nat) (hv : okR rs) (hs : (txt rs).size ≤ 1048576) (tl : List (ByteArray × Int)) (rest : List Nat) (hr : okR rest) (hrz : (txt rest).size ≤ 1048576) (hz : tsz tl ≤ 2097152) :
    ∃ toks, BTok (endT rs tl rest) toks ∧ (endT rs tl rest).st.gl = ((advI (allR (mkSteps (txt rs) tl) ++ rest) (0, 0)).1 : Int) ∧ (endT rs tl rest).gcol = (advI (allR (mkSteps (txt rs) tl) ++ rest) (0, 0)).2 ∧ (endT rs tl rest).sm.length ≤ 549755813888 := by
  have h1 := allR_len (txt rs) tl
  have h2 := tsz_len tl
  have h3 : (mkSteps (txt rs) tl).length = tl.length := by simp [mkSteps]
  have htd := tabs_bd (txt rs) (by omega)
  rw [txt_size] at hrz
  have hp := fun x hx => (steps_ok rs hv (by omega) tl x hx).1
  obtain ⟨toks, a1, a2, a3⟩ := cend_inv (tabsOf (txt rs)) htd.1 (by omega) (mkSteps (txt rs) tl) rest hp (steps_ok2 _ tl).1 (steps_ok2 _ tl).2 hr (by omega)
  exact ⟨toks, a1, a2, a3, cend_short _ htd.1 (by omega) _ rest hp (by omega)⟩

set_option maxHeartbeats 4000000 in
set_option maxRecDepth 100000 in
theorem chunkL_any (rs : List Nat) (hv : okR rs) (hs : (txt rs).size ≤ 1048576) (a1 : Int) (x : ByteArray × Int) (tl : List (ByteArray × Int)) (v : Value) (rest : List Nat) (hrz : (txt rest).size ≤ 1048576) (w : World) (hT : B64 w.heap.size w) (ht : TurnsAt w w.heap.size v (x :: tl))
    (hz : tsz (x :: tl) ≤ 2097152) (h0 : 0 < (encs (stepR x.1)).length) (toks : List (Option (List Int))) (hb : BTok (endT rs (x :: tl) rest) toks) (hsm : (endT rs (x :: tl) rest).sm.length ≤ 549755813888) :
    Calls Tryd.prog 16 #[.string (txt rs), .int .i64 a1, v, .string (txt rest)] w fun e w' => ∃ u, e = .returned (.tuple #[u, .agg (stC (endT rs (x :: tl) rest).st), .int .i64 ((endT rs (x :: tl) rest).gcol : Int), .bool true]) ∧ w'.ownsRow w.heap.size 45 7 u (rsegs qz toks).length (sgs (rsegs qz toks)) ∧ Below w.heap.size w w' := by
  have hrd := rsegs_short hb.ok true
  rw [← hb.sm] at hrd
  have hbA := balloc (Below.refl w.heap.size w) (.cells #[.int .i64 0, .int .i64 0, .int .i64 0, .int .i64 0, .int .i64 0, .int .i64 0] 30)
  have bA := Blk.new w 30 #[.int .i64 0, .int .i64 0, .int .i64 0, .int .i64 0, .int .i64 0, .int .i64 0]
  have HT1 := Lib.hid (ht.below hbA)
  have HA := Lib.hid hbA
  have HBA := Lib.hid bA
  have HTOK := Lib.hid hb
  have hl1 : Hid ((mkSteps (txt rs) (x :: tl)).length = (x :: tl).length) := Lib.hid (by simp [mkSteps])
  obtain ⟨D, hD⟩ : ∃ D, D = endT rs (x :: tl) rest := ⟨_, rfl⟩
  rw [← hD] at HTOK hsm hrd
  have HDD := Lib.hid hD
  clear hbA bA ht hb hD
  go_enter Tryd.func16, Tryd.ntmps16
  go_wp2_with fail
  generalize hWA : w.alloc (.cells #[.int .i64 0, .int .i64 0, .int .i64 0, .int .i64 0, .int .i64 0, .int .i64 0] 30) = WA at *
  have hzA : WA.heap.size = w.heap.size + 1 := by rw [← hWA]; simp
  have HWZ := Lib.hid hzA
  clear hWA
  have TA : TurnsAt WA WA.heap.size v (x :: tl) := by
    obtain ⟨R, c, h1, h2, h3⟩ := HT1.out
    exact ⟨R, c, h1, by omega, h3⟩
  clear hzA
  refine (made_any (txt rs) (x :: tl) v WA (by omega) (by omega) TA).mono ?_
  rintro e w4 ⟨u, rfl, ho4, hb4⟩
  rw [← hl1.out] at ho4
  have SA := Lib.hid (steps_own ho4 (by rw [hl1.out]; simp))
  have BA4 := Lib.hid (HBA.out.kep (Kep.of_below (X := fun _ => False) hb4) (fun q => q))
  have HB4 := Lib.hid (bthen HA.out hb4)
  have hT4 := Lib.hid (hT.below HB4.out)
  have hs4 := HB4.out.size
  clear ho4 hb4 TA HT1 hT HBA HA
  go_wp2_with fail
  refine (place_nat _ _ _ (by omega) (by omega)).mono ?_
  rintro e w' ⟨⟨p1, hp1, hq1, rfl⟩, rfl⟩
  clear hq1
  go_wp2_with fail
  refine (chunkT_any rs hv (by omega) p1 x tl u rest (by omega) w4 w.heap.size hT4.out hs4 (by omega) SA.out hz h0).mono ?_
  rintro e w5 ⟨rfl, hb5⟩
  have HB5 := Lib.hid (HB4.out.trans (hb5.mono hs4))
  have BA5 := Lib.hid (BA4.out.kep (Kep.of_below (X := fun _ => False) hb5) (fun q => q))
  clear SA HB4 hT4 BA4 hb5
  rw [show cend (tabsOf (txt rs)) (mkSteps (txt rs) (x :: tl)) rest = D from HDD.out.symm]
  unfold stC
  have k0 : w5.cell? ⟨w.heap.size, 0, none⟩ = some (.int .i64 0) := BA5.out.cell 0
  have k1 : w5.cell? ⟨w.heap.size, 1, none⟩ = some (.int .i64 0) := BA5.out.cell 1
  have k2 : w5.cell? ⟨w.heap.size, 2, none⟩ = some (.int .i64 0) := BA5.out.cell 2
  have k3 : w5.cell? ⟨w.heap.size, 3, none⟩ = some (.int .i64 0) := BA5.out.cell 3
  have k4 : w5.cell? ⟨w.heap.size, 4, none⟩ = some (.int .i64 0) := BA5.out.cell 4
  have k5 : w5.cell? ⟨w.heap.size, 5, none⟩ = some (.int .i64 0) := BA5.out.cell 5
  have f0 := BA5.out.frozen 0
  have f1 := BA5.out.frozen 1
  have f2 := BA5.out.frozen 2
  have f3 := BA5.out.frozen 3
  have f4 := BA5.out.frozen 4
  have f5 := BA5.out.frozen 5
  have z5 : w.heap.size < w5.heap.size := BA5.out.lt
  go_upto_region 3 with (refine wpList_store_blk rfl 30 (.tmp 9) (.tmp 30) rfl w.heap.size 30 #[.int .i64 0, .int .i64 0, .int .i64 0, .int .i64 0, .int .i64 0, .int .i64 0] #[.int .i64 D.st.gl, .int .i64 D.st.gc, .int .i64 D.st.si, .int .i64 D.st.ol, .int .i64 D.st.oc, .int .i64 D.st.on] rfl rfl BA5.out rfl size_st (stz_one _ _ _ _ _ _) ?_; intro w6 hb6 hk6 hz6; have HB6 := Lib.hid hb6; have HK6 := Lib.hid hk6; have HZ6 := Lib.hid hz6; clear hb6 hk6 hz6)
  have HBw6 := Lib.hid (HB5.out.trans (HK6.out.below (B := w.heap.size) (by omega) (fun k hk e => by omega)))
  have hz6 : w5.heap.size = w6.heap.size := HZ6.out.symm
  clear k0 k1 k2 k3 k4 k5 f0 f1 f2 f3 f4 f5 HB5 BA5 HK6 HZ6
  go_wp2_with fail
  refine (read_any toks _ w6 HTOK.out.ok (by simp [ByteArray.size]; omega) (by rw [HTOK.out.sm]) (by omega)).mono ?_
  rintro e w7 ⟨u7, rfl, ho7, hb7⟩
  have BS7 := Lib.hid (HB6.out.kep (Kep.of_below (X := fun _ => False) hb7) (fun q => q))
  have HB7 := Lib.hid (HBw6.out.trans (hb7.mono HBw6.out.size))
  have O7 := Lib.hid ho7
  clear HB6 hb7 ho7 HBw6
  have k0 : w7.cell? ⟨w.heap.size, 0, none⟩ = some (.int .i64 D.st.gl) := BS7.out.cell 0
  have k1 : w7.cell? ⟨w.heap.size, 1, none⟩ = some (.int .i64 D.st.gc) := BS7.out.cell 1
  have k2 : w7.cell? ⟨w.heap.size, 2, none⟩ = some (.int .i64 D.st.si) := BS7.out.cell 2
  have k3 : w7.cell? ⟨w.heap.size, 3, none⟩ = some (.int .i64 D.st.ol) := BS7.out.cell 3
  have k4 : w7.cell? ⟨w.heap.size, 4, none⟩ = some (.int .i64 D.st.oc) := BS7.out.cell 4
  have k5 : w7.cell? ⟨w.heap.size, 5, none⟩ = some (.int .i64 D.st.on) := BS7.out.cell 5
  have f0 := BS7.out.frozen 0
  have f1 := BS7.out.frozen 1
  have f2 := BS7.out.frozen 2
  have f3 := BS7.out.frozen 3
  have f4 := BS7.out.frozen 4
  have f5 := BS7.out.frozen 5
  have z7 : w.heap.size < w7.heap.size := BS7.out.lt
  go_wp2_with fail
  go_region
  have S8 : Blk ((((((w7.setCell ⟨w.heap.size, 0, none⟩ (.int .i64 D.st.gl)).setCell ⟨w.heap.size, 1, none⟩ (.int .i64 D.st.gc)).setCell ⟨w.heap.size, 2, none⟩ (.int .i64 D.st.si)).setCell ⟨w.heap.size, 3, none⟩ (.int .i64 D.st.ol)).setCell ⟨w.heap.size, 4, none⟩ (.int .i64 D.st.oc)).setCell ⟨w.heap.size, 5, none⟩ (.int .i64 D.st.on)).drew w.heap.size 30 (stC D.st) := Blk.drew ((((((BS7.out.set_ 0 (.int .i64 D.st.gl)).set_ 1 (.int .i64 D.st.gc)).set_ 2 (.int .i64 D.st.si)).set_ 3 (.int .i64 D.st.ol)).set_ 4 (.int .i64 D.st.oc)).set_ 5 (.int .i64 D.st.on))
  have B8 : Below w.heap.size w ((((((w7.setCell ⟨w.heap.size, 0, none⟩ (.int .i64 D.st.gl)).setCell ⟨w.heap.size, 1, none⟩ (.int .i64 D.st.gc)).setCell ⟨w.heap.size, 2, none⟩ (.int .i64 D.st.si)).setCell ⟨w.heap.size, 3, none⟩ (.int .i64 D.st.ol)).setCell ⟨w.heap.size, 4, none⟩ (.int .i64 D.st.oc)).setCell ⟨w.heap.size, 5, none⟩ (.int .i64 D.st.on)).drew := ((((((HB7.out.setCell (p := ⟨w.heap.size, 0, none⟩) (Nat.le_refl _) (.int .i64 D.st.gl)).setCell (p := ⟨w.heap.size, 1, none⟩) (Nat.le_refl _) (.int .i64 D.st.gc)).setCell (p := ⟨w.heap.size, 2, none⟩) (Nat.le_refl _) (.int .i64 D.st.si)).setCell (p := ⟨w.heap.size, 3, none⟩) (Nat.le_refl _) (.int .i64 D.st.ol)).setCell (p := ⟨w.heap.size, 4, none⟩) (Nat.le_refl _) (.int .i64 D.st.oc)).setCell (p := ⟨w.heap.size, 5, none⟩) (Nat.le_refl _) (.int .i64 D.st.on)).drew
  have O8 : ((((((w7.setCell ⟨w.heap.size, 0, none⟩ (.int .i64 D.st.gl)).setCell ⟨w.heap.size, 1, none⟩ (.int .i64 D.st.gc)).setCell ⟨w.heap.size, 2, none⟩ (.int .i64 D.st.si)).setCell ⟨w.heap.size, 3, none⟩ (.int .i64 D.st.ol)).setCell ⟨w.heap.size, 4, none⟩ (.int .i64 D.st.oc)).setCell ⟨w.heap.size, 5, none⟩ (.int .i64 D.st.on)).drew.ownsRow w6.heap.size 45 7 u7 (rsegs qz toks).length (sgs (rsegs qz toks)) := World.ownsRow.drew (ownsRow_setCell_below (ownsRow_setCell_below (ownsRow_setCell_below (ownsRow_setCell_below (ownsRow_setCell_below (ownsRow_setCell_below O7.out (a := ⟨w.heap.size, 0, none⟩) (by simp only; omega) (.int .i64 D.st.gl)) (a := ⟨w.heap.size, 1, none⟩) (by simp only; omega) (.int .i64 D.st.gc)) (a := ⟨w.heap.size, 2, none⟩) (by simp only; omega) (.int .i64 D.st.si)) (a := ⟨w.heap.size, 3, none⟩) (by simp only; omega) (.int .i64 D.st.ol)) (a := ⟨w.heap.size, 4, none⟩) (by simp only; omega) (.int .i64 D.st.oc)) (a := ⟨w.heap.size, 5, none⟩) (by simp only; omega) (.int .i64 D.st.on))
  clear k0 k1 k2 k3 k4 k5 f0 f1 f2 f3 f4 f5
  generalize ((((((w7.setCell ⟨w.heap.size, 0, none⟩ (.int .i64 D.st.gl)).setCell ⟨w.heap.size, 1, none⟩ (.int .i64 D.st.gc)).setCell ⟨w.heap.size, 2, none⟩ (.int .i64 D.st.si)).setCell ⟨w.heap.size, 3, none⟩ (.int .i64 D.st.ol)).setCell ⟨w.heap.size, 4, none⟩ (.int .i64 D.st.oc)).setCell ⟨w.heap.size, 5, none⟩ (.int .i64 D.st.on)).drew = W8 at *
  have t0 : W8.cell? ⟨w.heap.size, 0, none⟩ = some (.int .i64 D.st.gl) := S8.cell 0
  have t1 : W8.cell? ⟨w.heap.size, 1, none⟩ = some (.int .i64 D.st.gc) := S8.cell 1
  have t2 : W8.cell? ⟨w.heap.size, 2, none⟩ = some (.int .i64 D.st.si) := S8.cell 2
  have t3 : W8.cell? ⟨w.heap.size, 3, none⟩ = some (.int .i64 D.st.ol) := S8.cell 3
  have t4 : W8.cell? ⟨w.heap.size, 4, none⟩ = some (.int .i64 D.st.oc) := S8.cell 4
  have t5 : W8.cell? ⟨w.heap.size, 5, none⟩ = some (.int .i64 D.st.on) := S8.cell 5
  have HB8 := Lib.hid B8
  have HO8 := Lib.hid O8
  clear B8 S8 O8 BS7 HB7 O7
  go_wp2_with fail
  refine bodyPost_ret (v := .tuple #[u7, .agg (stC D.st), .int .i64 (D.gcol : Int), .bool true]) (by simp [results, Tryd.results16, go_sem, t0, t1, t2, t3, t4, t5, stC]) rfl ⟨u7, ?_, own_mono HO8.out (by omega), HB8.out⟩
  rw [← HDD.out]
end Go.Proofs.YtnokiikgnplpmaaDoor

/-
  The contract of (*ChunkBuilder).updateGeneratedLineAndColumn. Conditions: the output is not empty, and of at most 2^32 bytes together with what the builder holds.
-/
import Derived.Test.YtnokiikgnplpmaaDoorM5
import Derived.StillTailTactics
import Derived.Laws.IdiomStrings
namespace Go.Proofs.YtnokiikgnplpmaaDoor
open Go.RowKit

/-- A slice of bytes lies at the head of a block of its own. -/
def OutAt (w : World) (k n : Nat) (ob : List UInt8) : Prop := ob.length = n ∧ k < w.heap.size ∧ ∀ (j : Nat) (hj : j < ob.length), w.cell? ⟨k, j, none⟩ = some (.int .u8 ((ob[j]'hj).toNat : Int))

/-- The text from a place of the output on. -/
def tailOf (ob : List UInt8) (lu : Nat) : ByteArray := ⟨(ob.drop lu).toArray⟩

theorem get_at' (s : ByteArray) (j : Nat) (h : j < s.size) : s.get! j = s[j]'h := by
  simp [ByteArray.get!, getElem!_pos, h]
  rfl
theorem Bst.refl (w : World) (g : Nat) (v : Value) : Bst w g v w v := ⟨Kep.refl _ _, .inl rfl⟩

theorem tail_byte (ob : List UInt8) (lu j : Nat) (h : j < (tailOf ob lu).size) (h2 : lu + j < ob.length) : ((ob[lu + j]'h2).toNat : Int) = (btn (tailOf ob lu) j : Int) := by
  unfold btn
  rw [get_at' _ j h]
  have h3 : j < (ob.drop lu).length := by simpa [tailOf, ByteArray.size] using h
  have e : (tailOf ob lu)[j]'h = (ob.drop lu)[j]'h3 := rfl
  rw [e, List.getElem_drop]

theorem tail_size (ob : List UInt8) (lu : Nat) : (tailOf ob lu).size = ob.length - lu := by simp [tailOf, ByteArray.size]

theorem conv_tail (w : World) (k lu cap : Nat) (ob : List UInt8) (h : OutAt w k ob.length ob) (hl : lu ≤ ob.length) :
    (convert 72 9 (.slice (some ⟨k, lu, none⟩) (ob.length - lu) cap)).run Tryd.prog w = .ok (.string (tailOf ob lu)) w := by
  have := run_convert_bytes_back (P := Tryd.prog) w 72 9 5 ⟨k, lu, none⟩ cap (ob.drop lu) Tryd.underlying72 Tryd.underlying5 Tryd.underlying9 (fun j hj => by
    simp at hj
    rw [Addr.add_lit, h.2.2 (lu + j) (by omega)]
    simp)
  rw [List.length_drop] at this
  exact this

set_option maxHeartbeats 1000000 in
set_option maxRecDepth 100000 in
theorem update_any (w : World) (g base B k n cap N : Nat) (v mp tv : Value) (d : Bd) (ob : List UInt8) (h : Bld w g base v mp tv d) (hT : B64 B w) (hB : B ≤ g) (hob : OutAt w k n ob) (hkg : k ≠ g) (hkv : v.ownBlock ≠ some k)
    (hn : 0 < n) (hcap : n ≤ cap) (hlu : d.lu ≤ n) (hle : d.le N) (hN : N + 2 * n ≤ 8589934592) :
    Calls Tryd.prog 45 #[.pointer (some ⟨g, 0, none⟩), .slice (some ⟨k, 0, none⟩) n cap] w fun e w' => e = .returned (.tuple #[]) ∧ ∃ v', Bld w' g base v' mp tv { upd (tailOf ob d.lu) (tailOf ob d.lu).size 0 d with lu := n } ∧ Bst w g v w' v' := by
  have c13 : w.cell? ⟨g, 13, none⟩ = some (.int .i64 d.lu) := h.1.cell 13
  have hgw : g < w.heap.size := h.1.lt
  obtain rfl : n = ob.length := hob.1.symm
  obtain ⟨s, hs⟩ : ∃ s, s = tailOf ob d.lu := ⟨_, rfl⟩
  have HS := Lib.hid hs
  go_enter Tryd.func45, Tryd.ntmps45
  go_upto_region 0 with fail
  go_cut [14] (fun s14 wx => s14 = .pointer (some ⟨w.heap.size, 0, none⟩) ∧ w.iter s 0 = wx)
  case first =>
    have hconv := conv_tail w k d.lu (cap - d.lu) ob hob hlu
    rw [← hs] at hconv
    clear hs
    by_cases hc : cap = d.lu
    · have hconv0 : (convert 72 9 (.slice (some ⟨k, 0, none⟩) (ob.length - d.lu) 0)).run Tryd.prog w = .ok (.string s) w := by
        have e : ob.length - d.lu = 0 := by omega
        have e2 : s = ⟨([] : List UInt8).toArray⟩ := by rw [HS.out]; unfold tailOf; rw [List.drop_of_length_le (by omega)]
        rw [e, e2]
        exact run_convert_bytes_back (P := Tryd.prog) w 72 9 5 ⟨k, 0, none⟩ 0 [] Tryd.underlying72 Tryd.underlying5 Tryd.underlying9 (fun j hj => by simp at hj)
      go_wp2_with fail
      go_meet
      exact ⟨rfl, rfl⟩
    · go_wp2_with fail
      go_meet
      exact ⟨rfl, rfl⟩
  case rest =>
    obtain ⟨rfl, rfl⟩ := hcut
    clear hs
    have hsz : s.size = ob.length - d.lu := by rw [HS.out]; simp [tailOf, ByteArray.size]
    have Hsz := Lib.hid hsz
    have hsl : s.size ≤ ob.length := by omega
    clear hsz
    go_wp2_with fail
    go_loopg [] s.size (fun f wr => ∃ (pos : Nat) (d1 : Bd) (v1 : Value), wr.heap[w.heap.size]? = some (.stringIter s pos) ∧ upd s f pos d1 = upd s s.size 0 d ∧ s.size ≤ pos + f ∧ f ≤ s.size ∧ d1.lu = d.lu ∧ d1.le (N + 2 * (s.size - f)) ∧ Bld wr g base v1 mp tv d1 ∧ Bst w g v wr v1)
    case atStart =>
      refine ⟨0, d, v, World.iter_heap _ _ _, rfl, by omega, Nat.le_refl _, rfl, by simpa using hle, h.after (balloc (Below.refl _ _) _), Kep.of_below (balloc (Below.refl _ _) _), .inl rfl⟩
    case round =>
      obtain ⟨pos, d1, v1, hit, hupd, hfu, hfs, hlu1, hle1, hbl, hbs⟩ := hrel
      have HU := Lib.hid hupd
      have HIT := Lib.hid hit
      have hle2 : d1.le (N + 2 * s.size) := hle1.mono (by omega)
      clear hupd
      by_cases hp : pos < s.size
      · have hnx : ∀ ty, (Instr.next (.pointer (some ⟨w.heap.size, 0, none⟩)) true ty).run Tryd.prog wr = _ := fun ty => Lib.run_next_any_at wr w.heap.size s pos ty hit hp
        have hwd := width_pos s pos hp
        have hcle := decode_le s pos
        obtain ⟨f, rfl⟩ : ∃ f, gk = f + 1 := ⟨gk - 1, by omega⟩
        have hB1 := hbl.iterAt hit (pos + (Utf8.decode s pos).2)
        have hS1 : Bst w g v (wr.iterAt w.heap.size s (pos + (Utf8.decode s pos).2)) v1 := ⟨hbs.1.iterAt (.inr (Nat.le_refl _)) _ _, hbs.2⟩
        have hI1 := Lib.iterAt_heap wr w.heap.size s pos (pos + (Utf8.decode s pos).2) hit
        have e1 : upd s f (pos + (Utf8.decode s pos).2) (d1.step s pos (Utf8.decode s pos).1) = upd s s.size 0 d := by rw [← HU.out]; simp [upd, hp]
        generalize wr.iterAt w.heap.size s (pos + (Utf8.decode s pos).2) = W1 at *
        generalize hwid : (Utf8.decode s pos).2 = wd at *
        generalize hch : (Utf8.decode s pos).1 = c at *
        have HE1 := Lib.hid e1
        have HL1 := Lib.hid hle1
        clear e1 hit hwid hch HU hbl hbs HIT hle1
        have hrel : ∀ (v2 : Value) (w2 : World), Bld w2 g base v2 mp tv (d1.step s pos c) → Bst W1 g v1 w2 v2 → ∃ (pos : Nat) (d1 : Bd) (v1 : Value), w2.heap[w.heap.size]? = some (.stringIter s pos) ∧ upd s f pos d1 = upd s s.size 0 d ∧ s.size ≤ pos + f ∧ f ≤ s.size ∧ d1.lu = d.lu ∧ d1.le (N + 2 * (s.size - f)) ∧ Bld w2 g base v1 mp tv d1 ∧ Bst w g v w2 v1 := by
          intro v2 w2 q1 q2
          refine ⟨pos + wd, _, v2, iter_kept hB1 q2 hI1, HE1.out, by omega, by omega, (step_lu _ _ _ _).trans hlu1, (HL1.out.step s pos c).mono (by omega), q1, hS1.trans q2⟩
        have HR := Lib.hid hrel
        have HZ1 := Lib.hid hS1
        have hw1z : w.heap.size < W1.heap.size := (Array.getElem?_eq_some_iff.1 hI1).1
        have hlcell : ∀ (j : Nat) (hj : j < s.size), W1.cell? ⟨k, d.lu + j, none⟩ = some (.int .u8 (btn s j : Int)) := by
          intro j hj
          have hz := Hsz.out
          have hk1 : k < w.heap.size := hob.2.1
          rw [hS1.1.cell (p := ⟨k, d.lu + j, none⟩) hk1 (by rintro (q | q); exact hkg q; exact hkv q), hob.2.2 (d.lu + j) (by omega)]
          have e := HS.out
          subst e
          rw [tail_byte ob d.lu j hj (by omega)]
        clear hrel hS1 HE1 HL1 hI1
        by_cases hnl : isNl c = true
        · have hnc : c = 13 ∨ c = 10 ∨ c = 8232 ∨ c = 8233 := by simpa [isNl] using hnl
          have Hnl := Lib.hid hnl
          have HC := Lib.hid hnc
          have c13a : W1.cell? ⟨g, 13, none⟩ = some (.int .i64 d1.lu) := hB1.1.cell 13
          rw [hlu1] at c13a
          clear hnl hnc
          by_cases hcl : c = 13 ∧ lfAt s (pos + 1) = true
          · have hlf : pos + 1 < s.size ∧ btn s (pos + 1) = 10 := by simpa [lfAt] using hcl.2
            obtain ⟨rfl, hlf0⟩ := hcl
            have HB1 := Lib.hid hB1
            have Hl := Lib.hid hlf0
            have lc := hlcell (pos + 1) hlf.1
            rw [hlf.2] at lc
            have z1 : d.lu + pos + 1 < ob.length := by have := Hsz.out; omega
            rw [← Nat.add_assoc] at lc
            clear hlf0 hlcell hlf hB1
            go_wp2_with fail
            go_roundg f
            case measure => omega
            case rel =>
              refine HR.out v1 _ ?_ (Bst.refl _ _ _)
              rw [step_crlf _ _ _ _ Hnl.out ⟨rfl, Hl.out⟩]
              exact HB1.out
          · have HL := Lib.hid hcl
            clear hcl
            go_upto_if 36 with fail
            go_cut [36] (fun s36 wx => s36 = .bool true ∧ W1 = wx)
            case first =>
              clear hlcell
              rcases HC.out with rfl | rfl | rfl | rfl
              all_goals go_wp2_with fail
              all_goals go_meet
              all_goals exact ⟨rfl, rfl⟩
            case rest =>
            obtain ⟨rfl, rfl⟩ := hcut
            go_upto_if 42 with fail
            go_cut [] (fun wx => W1 = wx)
            case first =>
              by_cases hc13 : c = 13
              · subst hc13
                have hnlf : ¬ lfAt s (pos + 1) = true := fun q => HL.out ⟨rfl, q⟩
                by_cases hp1 : pos + 1 < s.size
                · have lc := hlcell (pos + 1) hp1
                  have hb10 : ((btn s (pos + 1) : Int) == 10) = false := by
                    have : ¬ btn s (pos + 1) = 10 := fun q => hnlf (by simp [lfAt, hp1, q])
                    simp; omega
                  have z1 : d.lu + pos + 1 < ob.length := by have := Hsz.out; omega
                  rw [← Nat.add_assoc] at lc
                  generalize btn s (pos + 1) = bb at *
                  clear hlcell hnlf
                  go_wp2_with fail
                  go_meet
                  rfl
                · have z1 : ¬ d.lu + pos + 1 < ob.length := by have := Hsz.out; omega
                  clear hlcell hnlf
                  go_wp2_with fail
                  go_meet
                  rfl
              · have h1 : ((c : Int) == 13) = false := by simp; omega
                clear hlcell
                go_wp2_with fail
                go_meet
                rfl
            case rest =>
            obtain rfl := hcut
            have hTW1 : B64 B W1 := hT.below (HZ1.out.1.below (by omega) (fun q hq => by rintro (rfl | e); omega; have := own_lt h.2.1 e; have := h.2.2.1; omega))
            have c21 : W1.cell? ⟨g, 21, none⟩ = some (.bool true) := hB1.1.cell 21
            have c20 : W1.cell? ⟨g, 20, none⟩ = some (.bool d1.lsm) := hB1.1.cell 20
            have c18 : W1.cell? ⟨g, 18, none⟩ = some (.bool d1.has) := hB1.1.cell 18
            clear hlcell
            go_upto_region 14 with fail
            obtain ⟨cv, hcv0⟩ : ∃ cv, cv = (!d1.lsm && d1.has) := ⟨_, rfl⟩
            have HCV := Lib.hid hcv0
            clear hcv0
            go_cut [77] (fun s77 wx => s77 = .bool cv ∧ W1 = wx)
            case first =>
              have HB1 := Lib.hid hB1
              clear hB1
              rcases hl : d1.lsm with _ | _ <;> rcases hh : d1.has with _ | _ <;> rw [hl] at c20 <;> rw [hh] at c18 <;> (have HL1 := Lib.hid hl) <;> (have HH1 := Lib.hid hh) <;> clear hl hh
              all_goals go_wp2_with fail
              all_goals go_meet
              all_goals exact ⟨by rw [HCV.out, HL1.out, HH1.out]; rfl, rfl⟩
            case rest =>
            obtain ⟨rfl, rfl⟩ := hcut
            go_upto_if 77 with fail
            go_cut [] (fun wx => ∃ v2, Bld wx g base v2 mp tv d1.covered ∧ Bst W1 g v1 wx v2)
            case first =>
              rcases cv with _ | _
              · have e2 : d1.covered = d1 := by
                  unfold Bd.covered
                  rw [if_neg]
                  rintro ⟨h1, h2⟩
                  have := HCV.out
                  rw [h1, h2] at this
                  cases this
                have E2 := Lib.hid e2
                have HB1 := Lib.hid hB1
                clear e2 hB1
                go_wp2_with fail
                go_meet
                exact ⟨v1, by rw [E2.out]; exact HB1.out, Bst.refl _ _ _⟩
              · have e2 : d1.covered = d1.emit d1.cover := by
                  unfold Bd.covered
                  rw [if_pos]
                  have := HCV.out
                  rcases hl : d1.lsm with _ | _ <;> rcases hh : d1.has with _ | _ <;> rw [hl, hh] at this <;> first | exact ⟨rfl, rfl⟩ | cases this
                have E2 := Lib.hid e2
                have q6 : W1.cell? ⟨g, 6, none⟩ = some (.int .i64 d1.st.gl) := hB1.1.cell 6
                have q8 : W1.cell? ⟨g, 8, none⟩ = some (.int .i64 d1.st.si) := hB1.1.cell 8
                have q9 : W1.cell? ⟨g, 9, none⟩ = some (.int .i64 d1.st.ol) := hB1.1.cell 9
                have q10 : W1.cell? ⟨g, 10, none⟩ = some (.int .i64 d1.st.oc) := hB1.1.cell 10
                have HB1 := Lib.hid hB1
                clear e2 hB1
                go_wp2_with fail
                go_still_tail 22, (by kernel_rfl)
                change wpList _ _ _ _ _ W1.drew
                generalize hW2 : W1.drew = W2
                have HW2 := Lib.hid hW2
                clear hW2
                go_wp2_with fail
                refine (emit_any W2 g base B v1 mp tv d1 d1.cover ?_ ?_ hB ?_ (hle2.ok (by omega)) (hle2.cover_ok (by omega))).mono ?_
                · rw [← HW2.out]; exact HB1.out
                · rw [← HW2.out]; exact hTW1
                · have := hle2.1; omega
                rintro e w2 ⟨rfl, v2, hb2, hs2⟩
                go_wp2_with fail
                go_meet
                refine ⟨v2, by rw [E2.out]; exact hb2, ?_⟩
                have hs3 : Bst W1.drew g v1 w2 v2 := by rw [HW2.out]; exact hs2
                exact ⟨⟨hs3.1.os, hs3.1.tape, hs3.1.output, hs3.1.size, hs3.1.block⟩, hs3.2⟩
            case rest =>
            obtain ⟨v2, hb2, hs2⟩ := hcut
            obtain ⟨w2, hw2⟩ : ∃ w2, w2 = wc := ⟨_, rfl⟩
            rw [← hw2] at hb2 hs2
            rw [← hw2]
            clear hw2 c21 c20 c18 hTW1 hB1
            have q6 : w2.cell? ⟨g, 6, none⟩ = some (.int .i64 d1.covered.st.gl) := hb2.1.cell 6
            have q7 : w2.cell? ⟨g, 7, none⟩ = some (.int .i64 d1.covered.st.gc) := hb2.1.cell 7
            have q14 : w2.cell? ⟨g, 14, none⟩ = some (.int .i64 d1.covered.gcol) := hb2.1.cell 14
            have f6 : w2.frozen? ⟨g, 6, none⟩ = false := hb2.1.frozen 6
            have f7 : w2.frozen? ⟨g, 7, none⟩ = false := hb2.1.frozen 7
            have f14 : w2.frozen? ⟨g, 14, none⟩ = false := hb2.1.frozen 14
            have hgl := covered_gl d1
            have hgl2 := hle2.2.1
            rw [← hgl] at hgl2
            clear hgl
            have hgl3 := hgl2.1
            have hgl4 : d1.covered.st.gl ≤ 8589934592 := Int.le_trans hgl2.2 (by omega)
            have hml := covered_len d1
            have hm2 : d1.covered.sm.length ≤ 549755815000 := by have := hle2.1; omega
            obtain ⟨dc, hdc⟩ : ∃ dc, dc = d1.covered := ⟨_, rfl⟩
            rw [← hdc] at hb2 q6 q7 q14 hgl3 hgl4 hm2
            have HDC := Lib.hid hdc
            clear hdc hgl2 hml
            have hb3 : Bld (((w2.setCell ⟨g, 6, none⟩ (.int .i64 (dc.st.gl + 1))).setCell ⟨g, 7, none⟩ (.int .i64 0)).setCell ⟨g, 14, none⟩ (.int .i64 0)) g base v2 mp tv { dc with st := { dc.st with gl := dc.st.gl + 1, gc := 0 }, gcol := 0 } :=
              ((hb2.put (d' := { dc with st := { dc.st with gl := dc.st.gl + 1 } }) 6 _ (by simp [Bd.cells]) rfl).put (d' := { dc with st := { dc.st with gl := dc.st.gl + 1, gc := 0 } }) 7 _ (by simp [Bd.cells]) rfl).put 14 _ (by simp [Bd.cells]) rfl
            have hs3 : Bst W1 g v1 (((w2.setCell ⟨g, 6, none⟩ (.int .i64 (dc.st.gl + 1))).setCell ⟨g, 7, none⟩ (.int .i64 0)).setCell ⟨g, 14, none⟩ (.int .i64 0)) v2 := ((hs2.put 6 _).put 7 _).put 14 _
            have HB3 := Lib.hid hb3
            have HS3 := Lib.hid hs3
            clear hb2 hs2 hb3 hs3
            go_upto_region 19 with fail
            have hb3 := HB3.out
            have hs3 := HS3.out
            clear HB3 HS3 q6 q7 q14 f6 f7 f14
            generalize (((w2.setCell ⟨g, 6, none⟩ (.int .i64 (dc.st.gl + 1))).setCell ⟨g, 7, none⟩ (.int .i64 0)).setCell ⟨g, 14, none⟩ (.int .i64 0)) = w3 at *
            obtain ⟨A3, cap3, hv2, _⟩ := own_form hb3.2.1
            subst hv2
            have q1 : w3.cell? ⟨g, 1, none⟩ = some (.slice A3 dc.sm.length cap3) := hb3.1.cell 1
            have ho3 := hb3.2.1
            have hgz : g < w3.heap.size := hb3.1.lt
            have hbz3 := hb3.2.2.2
            obtain ⟨i0, hi0, hz0, hz1, hz2⟩ := info_parts info_u8
            have ne3 : ¬ (Value.slice A3 dc.sm.length cap3).ownBlock = some g := fun e => by have := own_lt ho3 e; have := hb3.2.2.1; omega
            have HB3 := Lib.hid hb3
            clear hb3
            go_wp2_with (at_builtin; refine wpList_append_own_at _ rfl (.tmp 121) (.tmp 122) _ rfl base 5 i0 _ 1 1 Tryd.underlying72 hi0 hz0 hz1 hz2 rfl (by omega) (.slice A3 dc.sm.length cap3) dc.sm.length (bc dc.sm) rfl (ho3.alloc _) ⟨w3.heap.size, 0, none⟩ 1 1 [.int .u8 59] rfl rfl (cell_one_new _ _ _) (by intro u hu; simp at hu; subst hu; rfl) (by unfold maxLen; omega) (by omega) (by simp; omega) ?_; intro v4 w4 hown4 hg4 hnil4 hat4; clear hnil4; have b4 := HB3.out.1.kep (((Kep.refl _ _).alloc _).grown hg4 fun k hk => .inl hk) ne3; obtain ⟨A4, cap4, rfl, _⟩ := own_form hown4; have r1 : w4.cell? ⟨g, 1, none⟩ = some (.slice A3 dc.sm.length cap3) := b4.cell 1; have r2 : w4.frozen? ⟨g, 1, none⟩ = false := b4.frozen 1; have r3 : w4.cell? ⟨g, 20, none⟩ = some (.bool dc.lsm) := b4.cell 20; have r4 : w4.frozen? ⟨g, 20, none⟩ = false := b4.frozen 20; clear b4; have HP := Lib.hid (HB3.out.push (b := 59) hown4 hg4 (by simpa using hat4)); clear hown4 hg4 hat4)
            go_roundg f
            case measure => omega
            case rel =>
              refine HR.out _ _ ?_ ((hs3.trans HP.out.2).put 20 _)
              rw [step_nl _ _ _ _ Hnl.out HL.out, newline_eq, ← HDC.out]
              exact HP.out.1.put 20 _ (by simp [Bd.cells]) rfl
        · have h1 : ((c : Int) == 13) = false := by simp [isNl] at hnl; simp; omega
          have h2 : ((c : Int) == 10) = false := by simp [isNl] at hnl; simp; omega
          have h3 : ((c : Int) == 8232) = false := by simp [isNl] at hnl; simp; omega
          have h4 : ((c : Int) == 8233) = false := by simp [isNl] at hnl; simp; omega
          have c14 : W1.cell? ⟨g, 14, none⟩ = some (.int .i64 d1.gcol) := hB1.1.cell 14
          have f14 : W1.frozen? ⟨g, 14, none⟩ = false := hB1.1.frozen 14
          have hgc : d1.gcol ≤ 8589934592 := Nat.le_trans hle2.2.2.2.2.2.2 (by omega)
          have HB1 := Lib.hid hB1
          have Hnl := Lib.hid hnl
          clear hB1 hnl hlcell
          by_cases hc6 : c ≤ 65535
          · have h5 : ((c : Int) ≤ 65535) := by omega
            go_wp2_with fail
            go_roundg f
            case measure => omega
            case rel =>
              refine HR.out v1 _ ?_ ((Bst.refl _ _ _).put 14 _)
              rw [step_plain _ _ _ _ Hnl.out, if_pos hc6]
              exact HB1.out.put 14 _ (by simp [Bd.cells]) rfl
          · have h5 : ¬ ((c : Int) ≤ 65535) := by omega
            go_wp2_with fail
            go_roundg f
            case measure => omega
            case rel =>
              refine HR.out v1 _ ?_ ((Bst.refl _ _ _).put 14 _)
              rw [step_plain _ _ _ _ Hnl.out, if_neg hc6]
              exact HB1.out.put 14 _ (by simp [Bd.cells]) rfl
      · have hnx : ∀ ty, (Instr.next (.pointer (some ⟨w.heap.size, 0, none⟩)) true ty).run Tryd.prog wr = _ := fun ty => Lib.run_next_end_at wr w.heap.size s pos ty hit hp
        have e1 := HU.out
        rw [upd_end s gk pos d1 hp] at e1
        have HE := Lib.hid e1
        have c13' : wr.cell? ⟨g, 13, none⟩ = some (.int .i64 d1.lu) := hbl.1.cell 13
        have f13 : wr.frozen? ⟨g, 13, none⟩ = false := hbl.1.frozen 13
        clear HU e1 hit
        go_wp2_with fail
        go_end0
        refine ⟨rfl, v1, ?_, hbs.put _ _⟩
        rw [← HS.out, ← HE.out]
        exact hbl.put 13 _ (by simp [Bd.cells]) rfl
end Go.Proofs.YtnokiikgnplpmaaDoor

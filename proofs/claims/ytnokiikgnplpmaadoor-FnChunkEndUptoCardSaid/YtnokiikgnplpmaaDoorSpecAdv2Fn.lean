/-
  The contract of spec.Advance: the place behind a text. Conditions: all numbers are below 2^60.
-/
import Derived.Test.YtnokiikgnplpmaaDoorAdv
import Derived.Test.YtnokiikgnplpmaaDoorAdvLaw
import Derived.Test.YtnokiikgnplpmaaDoorUpd
import Derived.Test.YtnokiikgnplpmaaDoorTabRunes
namespace Go.Proofs.YtnokiikgnplpmaaDoor
open Go.RowKit

/-- A place in memory. -/
def pl (L C : Nat) : Array Value := #[.int .i64 (L : Int), .int .i64 (C : Int)]
theorem Blk.iterAt {w : World} {g : Nat} {t : TypeId} {cs : Array Value} (h : Blk w g t cs) {k : Nat} {s : ByteArray} {p : Nat} (hk : w.heap[k]? = some (.stringIter s p)) (p' : Nat) : Blk (w.iterAt k s p') g t cs := by
  unfold Blk at h ⊢
  rw [Lib.iterAt_other _ _ _ _ _ (by rintro rfl; rw [hk] at h; cases h)]
  exact h

set_option maxHeartbeats 2000000 in
set_option maxRecDepth 100000 in
theorem specAdv_any (s : ByteArray) (L C : Nat) (w : World) (hs : s.size ≤ 1125899906842624) (hL : L ≤ 1152921504606846976) (hC : C ≤ 1152921504606846976) :
    Calls Tryd.prog 17 #[.agg #[.int .i64 (L : Int), .int .i64 (C : Int)], .string s] w fun e w' => e = .returned (.agg #[.int .i64 ((advS 0 (runes s s.size 0) (L, C)).1 : Int), .int .i64 ((advS 0 (runes s s.size 0) (L, C)).2 : Int)]) ∧ Below w.heap.size w w' := by
  generalize hR : advS 0 (runes s s.size 0) (L, C) = R
  go_enter Tryd.func17, Tryd.ntmps17
  go_wp2_with fail
  go_loopg [5] s.size (fun f s5 wr => ∃ (pos L1 C1 was : Nat), s5 = .int .i32 (was : Int) ∧ was ≤ 2147483647 ∧ wr.heap[w.heap.size + 2]? = some (.stringIter s pos) ∧ Hid (advS was (runes s f pos) (L1, C1) = R) ∧ s.size ≤ pos + f ∧ f ≤ s.size ∧ L1 + f ≤ L + s.size ∧ C1 + 2 * f ≤ C + 2 * s.size ∧ Blk wr w.heap.size 42 (pl L1 C1) ∧ Blk wr (w.heap.size + 1) 42 (pl 0 0) ∧ Below w.heap.size w wr)
  case atStart =>
    refine ⟨0, L, C, 0, rfl, by omega, ?_, Lib.hid hR, by omega, Nat.le_refl _, Nat.le_refl _, Nat.le_refl _, ?_, ?_, ?_⟩
    · have := World.iter_heap ((w.alloc (Obj.cells #[Value.int IntKind.i64 ↑L, Value.int IntKind.i64 ↑C] 42)).alloc (Obj.cells #[Value.int IntKind.i64 0, Value.int IntKind.i64 0] 42)) s 0
      simpa using this
    · exact ((Blk.new w 42 (pl L C)).alloc _).alloc _
    · have := (Blk.new (w.alloc (.cells (pl L C) 42)) 42 (pl 0 0)).alloc (.stringIter s 0)
      rw [show (w.alloc (.cells (pl L C) 42)).heap.size = w.heap.size + 1 by simp] at this
      exact this
    · exact balloc (balloc (balloc (Below.refl _ _) _) _) _
  case round =>
    obtain ⟨pos, L1, C1, was, rfl, hwas, hit, hadv, hfu, hfs, hl1, hc1, hbl, hrb, hkp⟩ := hrel
    have hkz : w.heap.size + 2 < wr.heap.size := (Array.getElem?_eq_some_iff.1 hit).1
    by_cases hp : pos < s.size
    · obtain ⟨f, rfl⟩ : ∃ f, gk = f + 1 := ⟨gk - 1, by omega⟩
      have hnx : ∀ ty, (Instr.next (.pointer (some ⟨w.heap.size + 2, 0, none⟩)) true ty).run Tryd.prog wr = _ := fun ty => Lib.run_next_any_at wr (w.heap.size + 2) s pos ty hit hp
      have hwd := width1 s pos hp
      have hcle := decode_le s pos
      have hB1 := hbl.iterAt hit (pos + (Utf8.decode s pos).2)
      have hR1 := hrb.iterAt hit (pos + (Utf8.decode s pos).2)
      have hK1 : Below w.heap.size w (wr.iterAt (w.heap.size + 2) s (pos + (Utf8.decode s pos).2)) := (Kep.iterAt (X := fun _ => False) (Kep.of_below hkp) (.inr (by omega)) s _).below (Nat.le_refl _) (fun _ _ q => q)
      have hI1 := Lib.iterAt_heap wr (w.heap.size + 2) s pos (pos + (Utf8.decode s pos).2) hit
      have hrun : runes s (f + 1) pos = (Utf8.decode s pos).1 :: runes s f (pos + (Utf8.decode s pos).2) := by simp [runes, hp]
      have hst := hadv.out
      rw [hrun, advS_cons] at hst
      generalize wr.iterAt (w.heap.size + 2) s (pos + (Utf8.decode s pos).2) = W1 at *
      generalize (Utf8.decode s pos).2 = wd at *
      generalize (Utf8.decode s pos).1 = c at *
      clear hrun hadv hit hkp hbl hrb hkz
      have hw1 : w.heap.size < W1.heap.size := hB1.lt
      have g0 : W1.cell? ⟨w.heap.size, 0, none⟩ = some (.int .i64 (L1 : Int)) := hB1.cell 0
      have g1 : W1.cell? ⟨w.heap.size, 1, none⟩ = some (.int .i64 (C1 : Int)) := hB1.cell 1
      have gf0 := hB1.frozen 0
      have gf1 := hB1.frozen 1
      have HB1 := Lib.hid hB1
      have HR1 := Lib.hid hR1
      have HK1 := Lib.hid hK1
      have HI1 := Lib.hid hI1
      have keepI1 : Hid (∀ i u, (W1.setCell ⟨w.heap.size, i, none⟩ u).heap[w.heap.size + 2]? = some (.stringIter s (pos + wd))) := Lib.hid fun i u => (Below.heap_setCell W1 ⟨w.heap.size, i, none⟩ u (w.heap.size + 2) (by simp)).trans HI1.out
      have keepI : Hid (∀ i j u v, ((W1.setCell ⟨w.heap.size, i, none⟩ u).setCell ⟨w.heap.size, j, none⟩ v).heap[w.heap.size + 2]? = some (.stringIter s (pos + wd))) := Lib.hid fun i j u v => (Below.heap_setCell _ ⟨w.heap.size, j, none⟩ v (w.heap.size + 2) (by simp)).trans (keepI1.out i u)
      clear hB1 hK1 hI1 hR1
      by_cases hcw : c = 10 ∧ was = 13
      · rw [if_pos hcw] at hst
        have E := Lib.hid hst
        obtain ⟨rfl, rfl⟩ := hcw
        clear hst
        go_wp2_with fail
        go_roundg f
        case measure => omega
        case rel => exact ⟨pos + wd, L1, C1, _, rfl, by omega, HI1.out, E, by omega, by omega, by omega, by omega, HB1.out, HR1.out, HK1.out⟩
      · rw [if_neg hcw] at hst
        by_cases hn : isNlR c
        · rw [if_pos hn] at hst
          have E := Lib.hid hst
          clear hst
          have hn4 : Hid (c = 13 ∨ c = 10 ∨ c = 8232 ∨ c = 8233) := Lib.hid hn
          clear hn
          rcases hn4.out with rfl | rfl | rfl | rfl
          · clear hcw
            go_wp2_with fail
            go_roundg f
            case measure => omega
            case rel => exact ⟨pos + wd, L1 + 1, 0, _, rfl, by omega, keepI.out 0 1 _ _, E, by omega, by omega, by omega, by omega, (HB1.out.set_ 0 _).set_ 1 _, (HR1.out.far (by simp) _).far (by simp) _, (HK1.out.setCell (Nat.le_refl _) _).setCell (Nat.le_refl _) _⟩
          · have w13 : ((was : Int) == 13) = false := by simp at hcw; simp; omega
            clear hcw
            go_wp2_with fail
            go_roundg f
            case measure => omega
            case rel => exact ⟨pos + wd, L1 + 1, 0, _, rfl, by omega, keepI.out 0 1 _ _, E, by omega, by omega, by omega, by omega, (HB1.out.set_ 0 _).set_ 1 _, (HR1.out.far (by simp) _).far (by simp) _, (HK1.out.setCell (Nat.le_refl _) _).setCell (Nat.le_refl _) _⟩
          · clear hcw
            go_wp2_with fail
            go_roundg f
            case measure => omega
            case rel => exact ⟨pos + wd, L1 + 1, 0, _, rfl, by omega, keepI.out 0 1 _ _, E, by omega, by omega, by omega, by omega, (HB1.out.set_ 0 _).set_ 1 _, (HR1.out.far (by simp) _).far (by simp) _, (HK1.out.setCell (Nat.le_refl _) _).setCell (Nat.le_refl _) _⟩
          · clear hcw
            go_wp2_with fail
            go_roundg f
            case measure => omega
            case rel => exact ⟨pos + wd, L1 + 1, 0, _, rfl, by omega, keepI.out 0 1 _ _, E, by omega, by omega, by omega, by omega, (HB1.out.set_ 0 _).set_ 1 _, (HR1.out.far (by simp) _).far (by simp) _, (HK1.out.setCell (Nat.le_refl _) _).setCell (Nat.le_refl _) _⟩
        · rw [if_neg hn] at hst
          have E := Lib.hid hst
          have c13 : ((c : Int) == 13) = false := by have : ¬ c = 13 := fun q => hn (.inl q); simp; omega
          have c10 : ((c : Int) == 10) = false := by have : ¬ c = 10 := fun q => hn (.inr (.inl q)); simp; omega
          have c28 : ((c : Int) == 8232) = false := by have : ¬ c = 8232 := fun q => hn (.inr (.inr (.inl q))); simp; omega
          have c29 : ((c : Int) == 8233) = false := by have : ¬ c = 8233 := fun q => hn (.inr (.inr (.inr q))); simp; omega
          clear hst hn hcw
          by_cases hbig : c ≤ 65535
          · have hu : Hid (unitsR c = 1) := Lib.hid (by unfold unitsR; rw [if_pos hbig])
            have hle : ¬ (c : Int) > 65535 := by omega
            go_wp2_with fail
            go_roundg f
            case measure => omega
            case rel => exact ⟨pos + wd, L1, C1 + 1, _, rfl, by omega, keepI1.out 1 _, by rw [← hu.out]; exact E, by omega, by omega, by omega, by omega, HB1.out.set_ 1 _, HR1.out.far (by simp) _, HK1.out.setCell (Nat.le_refl _) _⟩
          · have hu : Hid (unitsR c = 2) := Lib.hid (by unfold unitsR; rw [if_neg hbig])
            have hle : (c : Int) > 65535 := by omega
            go_wp2_with fail
            go_roundg f
            case measure => omega
            case rel => exact ⟨pos + wd, L1, C1 + 2, _, rfl, by omega, keepI1.out 1 _, by rw [← hu.out]; exact E, by omega, by omega, by omega, by omega, HB1.out.set_ 1 _, HR1.out.far (by simp) _, HK1.out.setCell (Nat.le_refl _) _⟩
    · have hnx : ∀ ty, (Instr.next (.pointer (some ⟨w.heap.size + 2, 0, none⟩)) true ty).run Tryd.prog wr = _ := fun ty => Lib.run_next_end_at wr (w.heap.size + 2) s pos ty hit hp
      have e := hadv.out
      rw [runes_end s gk pos hp] at e
      have E := Lib.hid e
      have g0 : wr.cell? ⟨w.heap.size, 0, none⟩ = some (.int .i64 (L1 : Int)) := hbl.cell 0
      have g1 : wr.cell? ⟨w.heap.size, 1, none⟩ = some (.int .i64 (C1 : Int)) := hbl.cell 1
      have r0 : wr.cell? ⟨w.heap.size + 1, 0, none⟩ = some (.int .i64 0) := hrb.cell 0
      have r1 : wr.cell? ⟨w.heap.size + 1, 1, none⟩ = some (.int .i64 0) := hrb.cell 1
      have rf0 := hrb.frozen 0
      have rf1 := hrb.frozen 1
      have hz1 : w.heap.size + 1 < wr.heap.size := hrb.lt
      have HK := Lib.hid hkp
      have HRB := Lib.hid hrb
      clear hadv e hbl hkp hrb
      go_wp2_with fail
      have q0 : (wr.setCell ⟨w.heap.size + 1, 0, none⟩ (.int .i64 (L1 : Int))).cell? ⟨w.heap.size + 1, 0, none⟩ = some (.int .i64 (L1 : Int)) := (HRB.out.set_ 0 _).cell 0
      have q1 : ((wr.setCell ⟨w.heap.size + 1, 0, none⟩ (.int .i64 (L1 : Int))).setCell ⟨w.heap.size + 1, 1, none⟩ (.int .i64 (C1 : Int))).cell? ⟨w.heap.size + 1, 1, none⟩ = some (.int .i64 (C1 : Int)) := ((HRB.out.set_ 0 _).set_ 1 _).cell 1
      refine bodyPost_ret (v := .agg #[.int .i64 (L1 : Int), .int .i64 (C1 : Int)]) (by simp [results, Tryd.results17, go_sem, q0, q1]) rfl ⟨?_, ?_⟩
      · rw [← E.out]
        rfl
      · exact (HK.out.setCell (by simp) _).setCell (by simp) _
theorem specT_any (rs : List Nat) (L C : Nat) (w : World) (hv : okR rs) (hs : (txt rs).size ≤ 1125899906842624) (hL : L ≤ 1152921504606846976) (hC : C ≤ 1152921504606846976) :
    Calls Tryd.prog 17 #[.agg #[.int .i64 (L : Int), .int .i64 (C : Int)], .string (txt rs)] w fun e w' => e = .returned (.agg #[.int .i64 ((advI rs (L, C)).1 : Int), .int .i64 ((advI rs (L, C)).2 : Int)]) ∧ Below w.heap.size w w' := by
  have h := specAdv_any (txt rs) L C w hs hL hC
  rw [runes_txt rs hv, ← advI_S] at h
  exact h
end Go.Proofs.YtnokiikgnplpmaaDoor

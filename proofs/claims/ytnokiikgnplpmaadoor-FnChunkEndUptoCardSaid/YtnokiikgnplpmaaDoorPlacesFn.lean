/-
  The contract of laws.places: the places of a text at which something can begin. Conditions: the text has at most 2^24 bytes.
-/
import Derived.Test.YtnokiikgnplpmaaDoorTabRunes
namespace Go.Proofs.YtnokiikgnplpmaaDoor
open Go.RowKit

theorem info_int : (Tryd.prog.info? 3).map (fun i => (i.zero, i.size, i.bytes)) = some (some (.int .i64 0), 1, 8) := by kernel_rfl
/-- The cells of numbers. -/
def i64s (l : List Nat) : List Value := l.map fun (x : Nat) => Value.int .i64 (x : Int)
theorem i64s_snoc (l : List Nat) (x : Nat) : i64s (l ++ [x]) = i64s l ++ [Value.int .i64 (x : Int)] := by simp [i64s]

/-- A contract that leaves the world alone, told the other way round. -/
theorem calls_flip {P : Program} {f : FuncId} {args : Array Value} {w : World} {v : Value} (h : Calls P f args w fun e w' => e = .returned v ∧ w = w') : Calls P f args w fun e w' => e = .returned v ∧ w' = w := h.mono fun _ _ ⟨he, hm⟩ => ⟨he, hm.symm⟩

theorem bdrewN {B : Nat} {w W : World} (h : Below B w W) (m : Nat) : Below B w (W.drewN m) := ⟨h.os, h.tape, h.output, h.size, h.block⟩
theorem bgrown {a w w' : World} {B : Nat} {row : Option Nat} (h : Below B a w) (hB : B ≤ a.heap.size) (hg : w.grownBy w' row) (hr : ∀ k, row = some k → B ≤ k) : Below B a w' :=
  ⟨hg.os.trans h.os, hg.tape.trans h.tape, hg.output.trans h.output, Nat.le_trans h.size hg.size, fun k hk => (hg.block k (by have := h.size; omega) (fun q => by have := hr k q.symm; omega)).trans (h.block k hk)⟩
theorem own_notiter {w : World} {base e size n : Nat} {v : Value} {xs : List Value} (h : w.ownsRow base e size v n xs) {k : Nat} {s : ByteArray} {p : Nat} (hk : w.heap[k]? = some (.stringIter s p)) : v.ownBlock ≠ some k := by
  intro e
  rcases h.2 with ⟨rfl, _⟩ | ⟨g, cap, cur, rfl, hgb, hh, r⟩
  · simp [Value.ownBlock] at e
  · simp [Value.ownBlock] at e
    subst e
    rw [hk] at hh
    cases hh

set_option maxHeartbeats 2000000 in
set_option maxRecDepth 100000 in
theorem places_any (s : ByteArray) (w : World) (hs : s.size ≤ 16777216) :
    Calls Tryd.prog 28 #[.string s] w fun e w' => ∃ v, e = .returned v ∧ w'.ownsRow w.heap.size 3 1 v (placesL s).length (i64s (placesL s)) ∧ Below w.heap.size w w' := by
  obtain ⟨iI, hiI, hI0, hI1, hI2⟩ := info_parts info_int
  generalize hL : placesL s = L
  have HL := Lib.hid hL
  clear hL
  go_enter Tryd.func28, Tryd.ntmps28
  go_wp2_with fail
  go_loopg [3] s.size (fun f s3 wr => ∃ (pos : Nat) (acc : List Nat), wr.heap[w.heap.size]? = some (.stringIter s pos) ∧ wr.ownsRow w.heap.size 3 1 s3 acc.length (i64s acc) ∧ Hid (acc ++ ((posR s f pos).filter fun p => apartAt s p) ++ [s.size] = L) ∧ s.size ≤ pos + f ∧ pos ≤ s.size ∧ acc.length ≤ pos ∧ Below w.heap.size w wr)
  case atStart =>
    exact ⟨0, [], World.iter_heap _ _ _, ⟨by simp [i64s], .inl ⟨rfl, rfl⟩⟩, Lib.hid (by rw [← HL.out]; rfl), by omega, by omega, Nat.le_refl _, balloc (Below.refl _ _) _⟩
  case round =>
    obtain ⟨pos, acc, hit, hown, hrun, hfu, hps, hac, hbw⟩ := hrel
    have hkz : w.heap.size < wr.heap.size := (Array.getElem?_eq_some_iff.1 hit).1
    obtain ⟨A3, c3, rfl, _⟩ := own_form hown
    by_cases hp : pos < s.size
    · obtain ⟨f, rfl⟩ : ∃ f, gk = f + 1 := ⟨gk - 1, by omega⟩
      have hnx : ∀ ty, (Instr.next (.pointer (some ⟨w.heap.size, 0, none⟩)) true ty).run Tryd.prog wr = _ := fun ty => Lib.run_next_any_at wr w.heap.size s pos ty hit hp
      have hwd := width1 s pos hp
      have hwe := decode_end s pos hp
      have hO1 := Lib.hid (own_iter hown hit (pos + (Utf8.decode s pos).2))
      have hB1 : Hid (Below w.heap.size w (wr.iterAt w.heap.size s (pos + (Utf8.decode s pos).2))) := Lib.hid ((Kep.iterAt (X := fun _ => False) (Kep.of_below hbw) (.inr (by omega)) s _).below (Nat.le_refl _) (fun _ _ q => q))
      have hI1 := Lib.hid (Lib.iterAt_heap wr w.heap.size s pos (pos + (Utf8.decode s pos).2) hit)
      have hr1 : posR s (f + 1) pos = pos :: posR s f (pos + (Utf8.decode s pos).2) := by simp [posR, hp]
      have hst := hrun.out
      rw [hr1, List.filter_cons] at hst
      have HST := Lib.hid hst
      generalize wr.iterAt w.heap.size s (pos + (Utf8.decode s pos).2) = W2 at *
      generalize (Utf8.decode s pos).2 = wd at *
      clear hr1 hrun hit hbw hown hst hkz
      have z1 : (s.extract 0 pos).size ≤ 1125899906842624 := by rw [ByteArray.size_extract]; omega
      have z2 : (s.extract pos s.size).size ≤ 1125899906842624 := by rw [ByteArray.size_extract]; omega
      go_upto_region 5 with fail
      rcases hb : apartAt s pos with _ | _
      · have hap : ∀ W, Calls Tryd.prog 44 #[.string (s.extract 0 pos), .string (s.extract pos s.size)] W fun e w' => e = .returned (.bool false) ∧ w' = W := fun W => by
          have h := calls_flip (apart_any (s.extract 0 pos) (s.extract pos s.size) W z1 z2)
          rw [show apartB (s.extract 0 pos) (s.extract pos s.size) = false from hb] at h
          exact h
        have HS2 : Hid (acc ++ ((posR s f (pos + wd)).filter fun p => apartAt s p) ++ [s.size] = L) := Lib.hid (by rw [← HST.out, hb]; rfl)
        clear hb
        go_quiet ((go_at_call 44; refine Calls.quiet_of_same (hap _)))
        go_wp2_with fail
        go_roundg f
        case measure => omega
        case rel => exact ⟨pos + wd, acc, hI1.out, hO1.out, HS2, by omega, by omega, by omega, bdrewN hB1.out _⟩
      · have hap : ∀ W, Calls Tryd.prog 44 #[.string (s.extract 0 pos), .string (s.extract pos s.size)] W fun e w' => e = .returned (.bool true) ∧ w' = W := fun W => by
          have h := calls_flip (apart_any (s.extract 0 pos) (s.extract pos s.size) W z1 z2)
          rw [show apartB (s.extract 0 pos) (s.extract pos s.size) = true from hb] at h
          exact h
        have HS2 : Hid ((acc ++ [pos]) ++ ((posR s f (pos + wd)).filter fun p => apartAt s p) ++ [s.size] = L) := Lib.hid (by rw [← HST.out, hb]; simp)
        clear hb
        go_quiet ((go_at_call 44; refine Calls.quiet_of_same (hap _)))
        have hbz : w.heap.size ≤ W2.heap.size := hB1.out.size
        have HI3 : Hid ((W2.drewN nq).heap[w.heap.size]? = _) := hI1
        have HO3 : Hid ((W2.drewN nq).ownsRow w.heap.size 3 1 (.slice A3 acc.length c3) acc.length (i64s acc)) := hO1
        have HB3 := Lib.hid (bdrewN hB1.out nq)
        have hbz3 : w.heap.size ≤ (W2.drewN nq).heap.size := hbz
        generalize W2.drewN nq = W3 at *
        clear hI1 hO1 hB1
        go_wp2_with (at_builtin; refine wpList_append_own_at _ rfl (.tmp 17) (.tmp 19) _ rfl w.heap.size 3 iI _ 1 8 Tryd.underlying69 hiI hI0 hI1 hI2 rfl (by omega) (.slice A3 acc.length c3) acc.length (i64s acc) rfl (HO3.out.alloc _) ⟨W3.heap.size, 0, none⟩ 1 1 [.int .i64 (pos : Int)] rfl rfl (cell_one_new _ _ _) (by intro u hu; simp at hu; subst hu; rfl) (by unfold maxLen; omega) (by omega) (by simp; omega) ?_; intro v2 w2 hown2 hg2 hnil2 hat2; have O2 := Lib.hid hown2; have G2 := Lib.hid hg2; clear hnil2 hat2 hown2 hg2)
        go_roundg f
        case measure => omega
        case rel =>
          refine ⟨pos + wd, acc ++ [pos], ?_, ?_, HS2, by omega, by omega, by simp; omega, bgrown (balloc HB3.out _) (Nat.le_refl _) G2.out (fun k hk => (own_lt HO3.out hk).1)⟩
          · have hlt : w.heap.size < W3.heap.size := (Array.getElem?_eq_some_iff.1 HI3.out).1
            rw [G2.out.block _ (by simp; omega) (fun e => own_notiter HO3.out HI3.out e.symm), Below.heap_alloc _ _ _ hlt]
            exact HI3.out
          · rw [i64s_snoc]
            simpa using O2.out
    · have hnx : ∀ ty, (Instr.next (.pointer (some ⟨w.heap.size, 0, none⟩)) true ty).run Tryd.prog wr = _ := fun ty => Lib.run_next_end_at wr w.heap.size s pos ty hit hp
      have e := hrun.out
      rw [posR_end s gk pos hp] at e
      have E : Hid (acc ++ [s.size] = L) := Lib.hid (by simpa using e)
      have HO := Lib.hid hown
      have HB := Lib.hid hbw
      have hbz := hbw.size
      clear hrun e hown hbw hit
      go_wp2_with (at_builtin; refine wpList_append_own_at _ rfl (.tmp 21) (.tmp 24) _ rfl w.heap.size 3 iI _ 1 8 Tryd.underlying69 hiI hI0 hI1 hI2 rfl (by omega) (.slice A3 acc.length c3) acc.length (i64s acc) rfl (HO.out.alloc _) ⟨wr.heap.size, 0, none⟩ 1 1 [.int .i64 (s.size : Int)] rfl rfl (cell_one_new _ _ _) (by intro u hu; simp at hu; subst hu; rfl) (by unfold maxLen; omega) (by omega) (by simp; omega) ?_; intro v2 w2 hown2 hg2 hnil2 hat2; have O2 := Lib.hid hown2; have G2 := Lib.hid hg2; clear hnil2 hat2 hown2 hg2)
      go_ret
      refine ⟨v2, rfl, ?_, bgrown (balloc HB.out _) (Nat.le_refl _) G2.out (fun k hk => (own_lt HO.out hk).1)⟩
      rw [← E.out, i64s_snoc]
      simpa using O2.out
end Go.Proofs.YtnokiikgnplpmaaDoor

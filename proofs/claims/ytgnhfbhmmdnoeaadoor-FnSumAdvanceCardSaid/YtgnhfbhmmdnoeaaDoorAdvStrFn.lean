/-
  The contract of LineColumnOffset.AdvanceString. Conditions: the place is a block of two numbers below 2^60.
-/
import Derived.Test.YtgnhfbhmmdnoeaaDoorAdv
import Derived.Test.YtgnhfbhmmdnoeaaDoorKepKit
namespace Go.Proofs.YtgnhfbhmmdnoeaaDoor
open Go.RowKit

/-- A place in memory. -/
def pl (L C : Nat) : Array Value := #[.int .i64 (L : Int), .int .i64 (C : Int)]
/-- A byte of a text. -/
def btn (s : ByteArray) (i : Nat) : Nat := (s.data.toList.getD i 0).toNat
theorem btn_get (s : ByteArray) (i : Nat) (h : i < s.size) : ((s[i]'h)).toNat = btn s i := by
  unfold btn
  have h1 : i < s.data.toList.length := by rw [Array.length_toList]; exact h
  rw [List.getD_eq_getElem?_getD, List.getElem?_eq_getElem h1]
  rfl

/-- A rune is a LF where its byte is one. -/
theorem rune_lf (s : ByteArray) (pos : Nat) (h : pos < s.size) : (Utf8.decode s pos).1 = 10 ↔ btn s pos = 10 := by
  rw [← btn_get s pos h]
  by_cases ha : (s[pos]'h).toNat < 128
  · rw [decode_ascii s pos h ha]
  · have := decode_high s pos h (by omega)
    constructor
    · intro e; omega
    · intro e; omega
theorem cr_width (s : ByteArray) (pos : Nat) (h : pos < s.size) (hc : (Utf8.decode s pos).1 = 13) : (Utf8.decode s pos).2 = 1 := by
  by_cases ha : (s[pos]'h).toNat < 128
  · rw [decode_ascii s pos h ha]
  · have := decode_high s pos h (by omega)
    omega
theorem runes_head (s : ByteArray) (f pos : Nat) (hf : s.size ≤ pos + f) : (runes s f pos).head? = some 10 ↔ (pos < s.size ∧ btn s pos = 10) := by
  by_cases h : pos < s.size
  · obtain ⟨g, rfl⟩ : ∃ g, f = g + 1 := ⟨f - 1, by omega⟩
    unfold runes
    rw [if_pos h]
    simp [rune_lf s pos h, h]
  · rw [runes_end s f pos h]
    simp [h]

/-- One rune of the fold. -/
theorem advI_cons (c : Nat) (rs : List Nat) (p : Nat × Nat) : advI (c :: rs) p = if isNlR c then (if c = 13 ∧ rs.head? = some 10 then advI rs (p.1, p.2 + 1) else advI rs (p.1 + 1, 0)) else advI rs (p.1, p.2 + unitsR c) := rfl

set_option maxHeartbeats 2000000 in
set_option maxRecDepth 100000 in
theorem advStr_any (s : ByteArray) (b L C : Nat) (w : World) (hs : s.size ≤ 1125899906842624) (hb : Blk w b 37 (pl L C)) (hL : L ≤ 1152921504606846976) (hC : C ≤ 1152921504606846976) :
    Calls Tryd.prog 18 #[.pointer (some ⟨b, 0, none⟩), .string s] w fun e w' => e = .returned (.tuple #[]) ∧ Blk w' b 37 (pl (advI (runes s s.size 0) (L, C)).1 (advI (runes s s.size 0) (L, C)).2) ∧ Kep (fun k => k = b) w w' := by
  have h1 : w.cell? ⟨b, 1, none⟩ = some (.int .i64 (C : Int)) := hb.cell 1
  have hbw := hb.lt
  generalize hR : advI (runes s s.size 0) (L, C) = R
  go_enter Tryd.func18, Tryd.ntmps18
  go_wp2_with fail
  go_loopg [4] s.size (fun f s4 wr => ∃ (pos L1 C1 : Nat), s4 = .int .i64 (C1 : Int) ∧ wr.heap[w.heap.size]? = some (.stringIter s pos) ∧ Hid (advI (runes s f pos) (L1, C1) = R) ∧ s.size ≤ pos + f ∧ f ≤ s.size ∧ L1 + f ≤ L + s.size ∧ C1 + 2 * f ≤ C + 2 * s.size ∧ Blk wr b 37 (pl L1 C) ∧ Kep (fun k => k = b) w wr)
  case atStart => exact ⟨0, L, C, rfl, World.iter_heap _ _ _, Lib.hid hR, by omega, Nat.le_refl _, Nat.le_refl _, Nat.le_refl _, hb.alloc _, (Kep.refl _ _).alloc _⟩
  case round =>
    obtain ⟨pos, L1, C1, rfl, hit, hadv, hfu, hfs, hl1, hc1, hbl, hkp⟩ := hrel
    by_cases hp : pos < s.size
    · obtain ⟨f, rfl⟩ : ∃ f, gk = f + 1 := ⟨gk - 1, by omega⟩
      have hnx : ∀ ty, (Instr.next (.pointer (some ⟨w.heap.size, 0, none⟩)) true ty).run Tryd.prog wr = _ := fun ty => Lib.run_next_any_at wr w.heap.size s pos ty hit hp
      have hwd := width1 s pos hp
      have hcle := decode_le s pos
      have hB1 := hbl.iterAt hit (pos + (Utf8.decode s pos).2)
      have hK1 := hkp.iterAt (k := w.heap.size) (.inr (Nat.le_refl _)) s (pos + (Utf8.decode s pos).2)
      have hI1 := Lib.iterAt_heap wr w.heap.size s pos (pos + (Utf8.decode s pos).2) hit
      have hrun : runes s (f + 1) pos = (Utf8.decode s pos).1 :: runes s f (pos + (Utf8.decode s pos).2) := by simp [runes, hp]
      have hst := hadv.out
      rw [hrun, advI_cons] at hst
      have hhd := runes_head s f (pos + (Utf8.decode s pos).2) (by omega)
      have hcw := cr_width s pos hp
      generalize wr.iterAt w.heap.size s (pos + (Utf8.decode s pos).2) = W1 at *
      generalize (Utf8.decode s pos).2 = wd at *
      generalize (Utf8.decode s pos).1 = c at *
      clear hrun hadv hit hkp hbl
      have hne : w.heap.size ≠ b := by omega
      have hw1 : b < W1.heap.size := hB1.lt
      have g0 : W1.cell? ⟨b, 0, none⟩ = some (.int .i64 (L1 : Int)) := hB1.cell 0
      have gf := hB1.frozen 0
      have HB1 := Lib.hid hB1
      have HK1 := Lib.hid hK1
      have HI1 := Lib.hid hI1
      have keepI : Hid (∀ u, (W1.setCell ⟨b, 0, none⟩ u).heap[w.heap.size]? = some (.stringIter s (pos + wd))) := Lib.hid fun u => (Below.heap_setCell W1 ⟨b, 0, none⟩ u w.heap.size hne).trans HI1.out
      clear hB1 hK1 hI1
      by_cases hn : isNlR c
      · rw [if_pos hn] at hst
        have hn4 : Hid (c = 13 ∨ c = 10 ∨ c = 8232 ∨ c = 8233) := Lib.hid hn
        by_cases hcl : c = 13 ∧ (runes s f (pos + wd)).head? = some 10
        · rw [if_pos hcl] at hst
          obtain ⟨rfl, hh⟩ := hcl
          obtain rfl : wd = 1 := hcw rfl
          have hlf := hhd.1 hh
          have hlt : (pos : Int) + 1 < (s.size : Int) := by omega
          have hlf1 := hlf.1
          have hbt := (btn_get s (pos + 1) hlf1).trans hlf.2
          have E := Lib.hid hst
          clear hst hh hlf hhd hcw hn
          go_wp2_with fail
          go_roundg f
          case measure => omega
          case rel => exact ⟨pos + 1, L1, C1 + 1, by go_num, HI1.out, E, by omega, by omega, by omega, by omega, HB1.out, HK1.out⟩
        · rw [if_neg hcl] at hst
          have E := Lib.hid hst
          clear hst hn
          by_cases h13 : c = 13
          · subst h13
            obtain rfl : wd = 1 := hcw rfl
            have hno : ¬ (pos + 1 < s.size ∧ btn s (pos + 1) = 10) := fun q => hcl ⟨rfl, hhd.2 q⟩
            clear hcl hhd hcw
            by_cases hlt : pos + 1 < s.size
            · have hbt := btn_get s (pos + 1) hlt
              have hb2 : ((btn s (pos + 1) : Int) == 10) = false := by
                have : ¬ btn s (pos + 1) = 10 := fun q => hno ⟨hlt, q⟩
                simp; omega
              have hlt' : (pos : Int) + 1 < (s.size : Int) := by omega
              have hbl : btn s (pos + 1) < 256 := by unfold btn; exact UInt8.toNat_lt _
              clear hno
              generalize btn s (pos + 1) = bb at *
              go_wp2_with fail
              go_roundg f
              case measure => omega
              case rel => exact ⟨pos + 1, L1 + 1, 0, by go_num, keepI.out _, E, by omega, by omega, by omega, by omega, HB1.out.set_ 0 _, HK1.out.setCell (.inl rfl) _⟩
            · have hlt' : ¬ (pos : Int) + 1 < (s.size : Int) := by omega
              clear hno
              go_wp2_with fail
              go_roundg f
              case measure => omega
              case rel => exact ⟨pos + 1, L1 + 1, 0, by go_num, keepI.out _, E, by omega, by omega, by omega, by omega, HB1.out.set_ 0 _, HK1.out.setCell (.inl rfl) _⟩
          · have c13 : ((c : Int) == 13) = false := by simp; omega
            clear hcl hhd hcw
            rcases hn4.out with q | rfl | rfl | rfl
            · exact absurd q h13
            · go_wp2_with fail
              go_roundg f
              case measure => omega
              case rel => exact ⟨pos + wd, L1 + 1, 0, by go_num, keepI.out _, E, by omega, by omega, by omega, by omega, HB1.out.set_ 0 _, HK1.out.setCell (.inl rfl) _⟩
            · go_wp2_with fail
              go_roundg f
              case measure => omega
              case rel => exact ⟨pos + wd, L1 + 1, 0, by go_num, keepI.out _, E, by omega, by omega, by omega, by omega, HB1.out.set_ 0 _, HK1.out.setCell (.inl rfl) _⟩
            · go_wp2_with fail
              go_roundg f
              case measure => omega
              case rel => exact ⟨pos + wd, L1 + 1, 0, by go_num, keepI.out _, E, by omega, by omega, by omega, by omega, HB1.out.set_ 0 _, HK1.out.setCell (.inl rfl) _⟩
      · rw [if_neg hn] at hst
        have E := Lib.hid hst
        have c13 : ((c : Int) == 13) = false := by have : ¬ c = 13 := fun q => hn (.inl q); simp; omega
        have c10 : ((c : Int) == 10) = false := by have : ¬ c = 10 := fun q => hn (.inr (.inl q)); simp; omega
        have c28 : ((c : Int) == 8232) = false := by have : ¬ c = 8232 := fun q => hn (.inr (.inr (.inl q))); simp; omega
        have c29 : ((c : Int) == 8233) = false := by have : ¬ c = 8233 := fun q => hn (.inr (.inr (.inr q))); simp; omega
        clear hst hn hhd hcw
        by_cases hbig : c ≤ 65535
        · have hu : Hid (unitsR c = 1) := Lib.hid (by unfold unitsR; rw [if_pos hbig])
          have hle : (c : Int) ≤ 65535 := by omega
          go_wp2_with fail
          go_roundg f
          case measure => omega
          case rel => exact ⟨pos + wd, L1, C1 + 1, by go_num, HI1.out, by rw [← hu.out]; exact E, by omega, by omega, by omega, by omega, HB1.out, HK1.out⟩
        · have hu : Hid (unitsR c = 2) := Lib.hid (by unfold unitsR; rw [if_neg hbig])
          have hle : ¬ (c : Int) ≤ 65535 := by omega
          go_wp2_with fail
          go_roundg f
          case measure => omega
          case rel => exact ⟨pos + wd, L1, C1 + 2, by go_num, HI1.out, by rw [← hu.out]; exact E, by omega, by omega, by omega, by omega, HB1.out, HK1.out⟩
    · have hnx : ∀ ty, (Instr.next (.pointer (some ⟨w.heap.size, 0, none⟩)) true ty).run Tryd.prog wr = _ := fun ty => Lib.run_next_end_at wr w.heap.size s pos ty hit hp
      have e := hadv.out
      rw [runes_end s gk pos hp] at e
      have E := Lib.hid e
      have gf := hbl.frozen 1
      have g1 : wr.cell? ⟨b, 1, none⟩ = some (.int .i64 (C : Int)) := hbl.cell 1
      have HB := Lib.hid hbl
      have HK := Lib.hid hkp
      have hwb : b < wr.heap.size := hbl.lt
      clear hadv e hbl hkp
      go_wp2_with fail
      go_end0
      exact ⟨rfl, by rw [← E.out]; exact HB.out.set_ 1 _, HK.out.setCell (.inl rfl) _⟩
end Go.Proofs.YtgnhfbhmmdnoeaaDoor

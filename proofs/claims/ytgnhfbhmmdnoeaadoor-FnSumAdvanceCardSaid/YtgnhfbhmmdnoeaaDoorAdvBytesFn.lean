/-
  The contract of LineColumnOffset.AdvanceBytes. Conditions: the place is a block of two numbers below 2^60; the two tables of unicode/utf8 hold what their text lays.
-/
import Derived.Test.YtgnhfbhmmdnoeaaDoorAdvStrFn
import Derived.Test.YtgnhfbhmmdnoeaaDoorAdvLaw
import Derived.Test.YtgnhfbhmmdnoeaaDoorDecRune
namespace Go.Proofs.YtgnhfbhmmdnoeaaDoor
open Go.RowKit

/-- The rest of a text is read as the text is. -/
theorem extract_get (s : ByteArray) (pos k : Nat) (h : pos ≤ s.size) : (s.extract pos s.size).get! k = s.get! (pos + k) := by
  have hz : (s.extract pos s.size).size = s.size - pos := by simp [ByteArray.size_extract]
  by_cases hk : pos + k < s.size
  · rw [get_bang _ _ (by rw [hz]; omega), get_bang _ _ hk]
    simp [ByteArray.getElem_extract]
  · rw [get_out _ _ (by rw [hz]; omega), get_out _ _ hk]
theorem decode_extract (s : ByteArray) (pos : Nat) (h : pos < s.size) : Lib.decodeGo (s.extract pos s.size) = Utf8.decode s pos := by
  have hz : (s.extract pos s.size).size = s.size - pos := by simp [ByteArray.size_extract]
  unfold Lib.decodeGo
  rw [if_neg (by omega), decode_dec, decode_dec, hz, extract_get _ _ _ (by omega), extract_get _ _ _ (by omega), extract_get _ _ _ (by omega), extract_get _ _ _ (by omega)]
  simp
theorem cell_lt8 {w : World} {p : Addr} {v : Value} (h : w.cell? p = some v) : p.block < w.heap.size := by
  rcases Nat.lt_or_ge p.block w.heap.size with h1 | h1
  · exact h1
  · simp [World.cell?, Array.getElem?_eq_none h1] at h
theorem Tabs8.kep {X : Nat → Prop} {w w' : World} (h : Tabs8 w) (k : Kep X w w') (h0 : ¬ X 0) (h1 : ¬ X 1) : Tabs8 w' := by
  obtain ⟨a, b⟩ := h
  have s0 : 0 < w.heap.size := cell_lt8 (a 0 (by omega))
  have s1 : 1 < w.heap.size := cell_lt8 (b 0 (by omega)).1
  exact ⟨fun c hc => (k.cell (p := ⟨_, c, none⟩) s0 h0).trans (a c hc), fun i hi => ⟨(k.cell (p := ⟨_, _, none⟩) s1 h1).trans (b i hi).1, (k.cell (p := ⟨_, _, none⟩) s1 h1).trans (b i hi).2⟩⟩

set_option maxHeartbeats 2000000 in
set_option maxRecDepth 100000 in
theorem advBytes_any (s : ByteArray) (b L C R o cp : Nat) (w : World) (hs : s.size ≤ 1125899906842624) (hcp : s.size ≤ cp) (hb : Blk w b 37 (pl L C)) (hL : L ≤ 1152921504606846976) (hC : C ≤ 1152921504606846976)
    (hT : Tabs8 w) (hb0 : b ≠ 0) (hb1 : b ≠ 1) (hR : R ≠ b) (hcell : ∀ j, j < s.size → w.cell? ⟨R, o + j, none⟩ = some (.int .u8 (s.get! j).toNat)) :
    Calls Tryd.prog 17 #[.pointer (some ⟨b, 0, none⟩), .slice (some ⟨R, o, none⟩) s.size cp] w fun e w' => e = .returned (.tuple #[]) ∧ Blk w' b 37 (pl (advI (runes s s.size 0) (L, C)).1 (advI (runes s s.size 0) (L, C)).2) ∧ Kep (fun k => k = b) w w' := by
  have h1 : w.cell? ⟨b, 1, none⟩ = some (.int .i64 (C : Int)) := hb.cell 1
  have hbw := hb.lt
  have HCELL := Lib.hid hcell
  clear hcell
  generalize hRR : advI (runes s s.size 0) (L, C) = RR
  go_enter Tryd.func17, Tryd.ntmps17
  go_wp2_with fail
  go_loopg [1, 4] s.size (fun f s1 s4 wr => ∃ (pos L1 C1 o1 m c1 : Nat), s1 = .slice (some ⟨R, o1, none⟩) m c1 ∧ s4 = .int .i64 (C1 : Int) ∧ m ≤ c1 ∧ pos + m = s.size ∧ Hid (∀ j, j < m → wr.cell? ⟨R, o1 + j, none⟩ = some (.int .u8 (s.get! (pos + j)).toNat)) ∧ Hid (advI (runes s f pos) (L1, C1) = RR) ∧ m ≤ f ∧ f ≤ s.size ∧ L1 + f ≤ L + s.size ∧ C1 + 2 * f ≤ C + 2 * s.size ∧ Blk wr b 37 (pl L1 C) ∧ Kep (fun k => k = b) w wr)
  case atStart => exact ⟨0, L, C, o, s.size, cp, rfl, rfl, hcp, by omega, Lib.hid (fun j hj => by rw [Nat.zero_add]; exact HCELL.out j hj), Lib.hid hRR, Nat.le_refl _, Nat.le_refl _, Nat.le_refl _, Nat.le_refl _, hb, Kep.refl _ _⟩
  case round =>
    obtain ⟨pos, L1, C1, o1, m, c1, rfl, rfl, hmc, hpm, hcl, hadv, hfu, hfs, hl1, hc1, hbl, hkp⟩ := hrel
    by_cases hp : 0 < m
    · obtain ⟨f, rfl⟩ : ∃ f, gk = f + 1 := ⟨gk - 1, by omega⟩
      have hps : pos < s.size := by omega
      have hTr : Tabs8 wr := hT.kep hkp (fun e => hb0 e.symm) (fun e => hb1 e.symm)
      have hz : (s.extract pos s.size).size = m := by simp [ByteArray.size_extract]; omega
      have hdr := decRune_any (s.extract pos s.size) R o1 c1 wr hTr (fun j hj => by rw [extract_get _ _ _ (by omega)]; exact hcl.out j (by omega))
      rw [decode_extract s pos hps, hz] at hdr
      have hwd := width1 s pos hps
      have hwe := decode_end s pos hps
      have hcle := decode_le s pos
      have hrun : runes s (f + 1) pos = (Utf8.decode s pos).1 :: runes s f (pos + (Utf8.decode s pos).2) := by simp [runes, hps]
      have hst := hadv.out
      rw [hrun, advI_cons] at hst
      have hhd := runes_head s f (pos + (Utf8.decode s pos).2) (by omega)
      have hcw := cr_width s pos hps
      generalize (Utf8.decode s pos).2 = wd at *
      generalize (Utf8.decode s pos).1 = c at *
      clear hrun hadv hz hTr
      have HST := Lib.hid hst
      have HHD := Lib.hid hhd
      have HCW := Lib.hid hcw
      have HBL := Lib.hid hbl
      have HKP := Lib.hid hkp
      clear hst hhd hcw hbl hkp
      go_wp2_with fail
      refine hdr.mono ?_
      rintro e w1 ⟨rfl, hb1⟩
      clear hdr
      have HB1 := Lib.hid hb1
      clear hb1
      go_upto_region 3 with fail
      go_cut [1] (fun s1 wx => ∃ o2, s1 = .slice (some ⟨R, o2, none⟩) (m - wd) (c1 - wd) ∧ Hid (wd < m → o2 = o1 + wd) ∧ w1 = wx)
      case first =>
        by_cases hcc : c1 = wd
        · have hcc' : ¬ wd < m := by omega
          subst hcc
          go_wp2_with fail
          go_meet
          exact ⟨o1, by rw [show m - c1 = 0 by omega, Nat.sub_self], Lib.hid (fun q => absurd q hcc'), rfl⟩
        · go_wp2_with fail
          go_meet
          exact ⟨o1 + wd, rfl, Lib.hid (fun _ => rfl), rfl⟩
      case rest =>
        obtain ⟨o2, rfl, ho2, rfl⟩ := hcut
        have hB2 := HBL.out.kep (Kep.of_below (X := fun _ => False) HB1.out) (fun q => q)
        have hK2 := HKP.out.then (Kep.of_below (X := fun _ => False) HB1.out) (fun _ q => q.elim)
        have hcl2 : ∀ j, j < m - wd → w1.cell? ⟨R, o2 + j, none⟩ = some (.int .u8 (s.get! (pos + wd + j)).toNat) := fun j hj => by
          have h2 := hcl.out (wd + j) (by omega)
          have h3 := (Kep.of_below (X := fun _ => False) HB1.out).cell (p := ⟨R, o1 + (wd + j), none⟩) (cell_lt8 h2) (fun q => q)
          rw [ho2.out (by omega), Nat.add_assoc, Nat.add_assoc]
          exact h3.trans h2
        have hw1 : b < w1.heap.size := hB2.lt
        have g0 : w1.cell? ⟨b, 0, none⟩ = some (.int .i64 (L1 : Int)) := hB2.cell 0
        have gf := hB2.frozen 0
        have HB2 := Lib.hid hB2
        have HK2 := Lib.hid hK2
        have HCL2 := Lib.hid hcl2
        have KCL : Hid (∀ u, ∀ j, j < m - wd → (w1.setCell ⟨b, 0, none⟩ u).cell? ⟨R, o2 + j, none⟩ = some (.int .u8 (s.get! (pos + wd + j)).toNat)) := Lib.hid fun u j hj => (World.cell?_of_block (w := w1) (Below.heap_setCell w1 ⟨b, 0, none⟩ u R hR)).trans (HCL2.out j hj)
        clear hB2 hK2 hcl2 HB1 HBL HKP hcl
        have hst := HST.out
        by_cases hn : isNlR c
        · rw [if_pos hn] at hst
          have hn4 : Hid (c = 13 ∨ c = 10 ∨ c = 8232 ∨ c = 8233) := Lib.hid hn
          by_cases hcr : c = 13 ∧ (runes s f (pos + wd)).head? = some 10
          · rw [if_pos hcr] at hst
            obtain ⟨rfl, hh⟩ := hcr
            obtain rfl : wd = 1 := HCW.out rfl
            have hlf := HHD.out.1 hh
            have hlt : 0 < m - 1 := by omega
            have hc0 := HCL2.out 0 hlt
            have hbt : ((s.get! (pos + 1)).toNat : Int) = 10 := by
              have := hlf.2
              rw [← btn_get s (pos + 1) hlf.1, ← get_bang s (pos + 1) hlf.1] at this
              omega
            rw [Nat.add_zero, Nat.add_zero, hbt] at hc0
            have E := Lib.hid hst
            clear hst hh hlf HHD HCW hn HST hbt
            go_wp2_with fail
            go_roundg f
            case measure => omega
            case rel => exact ⟨pos + 1, L1, C1 + 1, o2, m - 1, c1 - 1, rfl, by go_num, by omega, by omega, HCL2, E, by omega, by omega, by omega, by omega, HB2.out, HK2.out⟩
          · rw [if_neg hcr] at hst
            have E := Lib.hid hst
            clear hst hn HST
            by_cases h13 : c = 13
            · subst h13
              obtain rfl : wd = 1 := HCW.out rfl
              have hno : ¬ (pos + 1 < s.size ∧ btn s (pos + 1) = 10) := fun q => hcr ⟨rfl, HHD.out.2 q⟩
              clear hcr HHD HCW
              by_cases hlt : 0 < m - 1
              · have hc0 := HCL2.out 0 hlt
                rw [Nat.add_zero, Nat.add_zero] at hc0
                have hb2 : (((s.get! (pos + 1)).toNat : Int) == 10) = false := by
                  have : ¬ btn s (pos + 1) = 10 := fun q => hno ⟨by omega, q⟩
                  rw [← btn_get s (pos + 1) (by omega), ← get_bang s (pos + 1) (by omega)] at this
                  simp; omega
                have hbl : (s.get! (pos + 1)).toNat < 256 := UInt8.toNat_lt _
                clear hno
                generalize (s.get! (pos + 1)).toNat = bb at *
                go_wp2_with fail
                go_roundg f
                case measure => omega
                case rel => exact ⟨pos + 1, L1 + 1, 0, o2, m - 1, c1 - 1, rfl, by go_num, by omega, by omega, Lib.hid (KCL.out _), E, by omega, by omega, by omega, by omega, HB2.out.set_ 0 _, HK2.out.setCell (.inl rfl) _⟩
              · have hm1 : m = 1 := by omega
                subst hm1
                clear hno
                go_wp2_with fail
                go_roundg f
                case measure => omega
                case rel => exact ⟨pos + 1, L1 + 1, 0, o2, 0, c1 - 1, rfl, by go_num, by omega, by omega, Lib.hid (KCL.out _), E, by omega, by omega, by omega, by omega, HB2.out.set_ 0 _, HK2.out.setCell (.inl rfl) _⟩
            · have c13 : ((c : Int) == 13) = false := by simp; omega
              clear hcr HHD HCW
              rcases hn4.out with q | rfl | rfl | rfl
              · exact absurd q h13
              · go_wp2_with fail
                go_roundg f
                case measure => omega
                case rel => exact ⟨pos + wd, L1 + 1, 0, o2, m - wd, c1 - wd, rfl, by go_num, by omega, by omega, Lib.hid (KCL.out _), E, by omega, by omega, by omega, by omega, HB2.out.set_ 0 _, HK2.out.setCell (.inl rfl) _⟩
              · go_wp2_with fail
                go_roundg f
                case measure => omega
                case rel => exact ⟨pos + wd, L1 + 1, 0, o2, m - wd, c1 - wd, rfl, by go_num, by omega, by omega, Lib.hid (KCL.out _), E, by omega, by omega, by omega, by omega, HB2.out.set_ 0 _, HK2.out.setCell (.inl rfl) _⟩
              · go_wp2_with fail
                go_roundg f
                case measure => omega
                case rel => exact ⟨pos + wd, L1 + 1, 0, o2, m - wd, c1 - wd, rfl, by go_num, by omega, by omega, Lib.hid (KCL.out _), E, by omega, by omega, by omega, by omega, HB2.out.set_ 0 _, HK2.out.setCell (.inl rfl) _⟩
        · rw [if_neg hn] at hst
          have E := Lib.hid hst
          have c13 : ((c : Int) == 13) = false := by have : ¬ c = 13 := fun q => hn (.inl q); simp; omega
          have c10 : ((c : Int) == 10) = false := by have : ¬ c = 10 := fun q => hn (.inr (.inl q)); simp; omega
          have c28 : ((c : Int) == 8232) = false := by have : ¬ c = 8232 := fun q => hn (.inr (.inr (.inl q))); simp; omega
          have c29 : ((c : Int) == 8233) = false := by have : ¬ c = 8233 := fun q => hn (.inr (.inr (.inr q))); simp; omega
          clear hst hn HHD HCW HST
          by_cases hbig : c ≤ 65535
          · have hu : Hid (unitsR c = 1) := Lib.hid (by unfold unitsR; rw [if_pos hbig])
            have hle : (c : Int) ≤ 65535 := by omega
            go_wp2_with fail
            go_roundg f
            case measure => omega
            case rel => exact ⟨pos + wd, L1, C1 + 1, o2, m - wd, c1 - wd, rfl, by go_num, by omega, by omega, HCL2, by rw [← hu.out]; exact E, by omega, by omega, by omega, by omega, HB2.out, HK2.out⟩
          · have hu : Hid (unitsR c = 2) := Lib.hid (by unfold unitsR; rw [if_neg hbig])
            have hle : ¬ (c : Int) ≤ 65535 := by omega
            go_wp2_with fail
            go_roundg f
            case measure => omega
            case rel => exact ⟨pos + wd, L1, C1 + 2, o2, m - wd, c1 - wd, rfl, by go_num, by omega, by omega, HCL2, by rw [← hu.out]; exact E, by omega, by omega, by omega, by omega, HB2.out, HK2.out⟩
    · obtain rfl : m = 0 := by omega
      have e := hadv.out
      rw [runes_end s gk pos (by omega)] at e
      have E := Lib.hid e
      have gf := hbl.frozen 1
      have g1 : wr.cell? ⟨b, 1, none⟩ = some (.int .i64 (C : Int)) := hbl.cell 1
      have HB := Lib.hid hbl
      have HK := Lib.hid hkp
      have hwb : b < wr.heap.size := hbl.lt
      clear hadv e hbl hkp hcl
      go_wp2_with fail
      go_end0
      exact ⟨rfl, by rw [← E.out]; exact HB.out.set_ 1 _, HK.out.setCell (.inl rfl) _⟩
end Go.Proofs.YtgnhfbhmmdnoeaaDoor

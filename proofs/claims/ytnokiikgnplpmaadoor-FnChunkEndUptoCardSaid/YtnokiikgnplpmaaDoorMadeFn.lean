/-
  The contract of laws.made: steps of turns, and all their text. Conditions: the source has at most 2^24 bytes, the turns' texts together too.
-/
import Derived.Test.YtnokiikgnplpmaaDoorSteps
import Derived.Test.YtnokiikgnplpmaaDoorPlacesFn
import Derived.Test.YtnokiikgnplpmaaDoorPlaceFn
namespace Go.Proofs.YtnokiikgnplpmaaDoor
open Go.RowKit

theorem info_step : (Tryd.prog.info? 40).map (fun i => (i.zero, i.size, i.bytes)) = some (some (.agg #[.string ByteArray.empty, .int .i64 0, .string ByteArray.empty]), 3, 40) := by kernel_rfl
/-- Turns in memory, below block B. -/
def TurnsAt (w : World) (B : Nat) (v : Value) (tl : List (ByteArray × Int)) : Prop :=
  ∃ R c : Nat, v = .slice (some ⟨R, 0, none⟩) tl.length c ∧ R < B ∧ ∀ (j : Nat) (hj : j < tl.length), w.cell? ⟨R, j * 2, none⟩ = some (.string (tl[j]'hj).1) ∧ w.cell? ⟨R, j * 2 + 1, none⟩ = some (.int .i64 (tl[j]'hj).2)
theorem TurnsAt.below {w w' : World} {B : Nat} {v : Value} {tl : List (ByteArray × Int)} (h : TurnsAt w B v tl) (hb : Below B w w') : TurnsAt w' B v tl := by
  obtain ⟨R, c, h1, h2, h3⟩ := h
  exact ⟨R, c, h1, h2, fun j hj => ⟨(hb.cell (p := ⟨R, _, none⟩) h2).trans (h3 j hj).1, (hb.cell (p := ⟨R, _, none⟩) h2).trans (h3 j hj).2⟩⟩

theorem own_mono {w : World} {base base' e size n : Nat} {v : Value} {xs : List Value} (h : w.ownsRow base e size v n xs) (hb : base' ≤ base) : w.ownsRow base' e size v n xs := by
  obtain ⟨h1, h2⟩ := h
  refine ⟨h1, ?_⟩
  rcases h2 with h2 | ⟨g, cap, cur, hv, hgb, r⟩
  · exact .inl h2
  · exact .inr ⟨g, cap, cur, hv, Nat.le_trans hb hgb, r⟩

set_option maxHeartbeats 4000000 in
set_option maxRecDepth 100000 in
theorem made_any (s : ByteArray) (tl : List (ByteArray × Int)) (v : Value) (w : World) (hs : s.size ≤ 16777216) (hz : tsz tl ≤ 16777216) (ht : TurnsAt w w.heap.size v tl) :
    Calls Tryd.prog 13 #[.string s, v] w fun e w' => ∃ u, e = .returned (.tuple #[u, .string (txt (allR (mkSteps s tl)))]) ∧ w'.ownsRow w.heap.size 40 3 u tl.length (stpsC (mkSteps s tl)) ∧ Below w.heap.size w w' := by
  obtain ⟨iS, hiS, hS0, hS1, hS2⟩ := info_parts info_step
  have ks : ∀ (W : World) (x y : ByteArray), x.size + y.size ≤ 9223372036854775807 → (Op.stringOp .add x y).run Tryd.prog W = .ok (.string (x ++ y)) W := fun W x y h => run_string_add_sum W x y h
  obtain ⟨R, c, rfl, hR, hcl⟩ := ht
  have HCL := Lib.hid hcl
  have htl := tsz_len tl
  have hpl := placesL_le s
  have hpp := placesL_pos s
  clear hcl
  go_enter Tryd.func13, Tryd.ntmps13
  go_wp2_with fail
  refine (places_any s _ hs).mono ?_
  rintro e W0 ⟨v8, rfl, hown8, hb8⟩
  obtain ⟨A8, c8, rfl, hA8⟩ := own_form hown8
  obtain ⟨k8, rfl, hA8'⟩ := hA8 hpp
  have hk8 : k8 < W0.heap.size := (own_lt hown8 rfl).2
  have HA8 := Lib.hid hA8'
  have HB8 := Lib.hid hb8
  have hz0 := hb8.size
  clear hown8 hA8 hA8' hb8
  generalize hnp : (placesL s).length = np at *
  have HNP := Lib.hid hnp
  clear hnp
  go_wp2_with fail
  go_loopg [6, 7, 16] tl.length (fun f s6 s7 s16 wr => ∃ j : Nat, j + f = tl.length ∧ s16 = .int .i64 (j : Int) ∧ wr.ownsRow W0.heap.size 40 3 s6 j (stpsC (mkSteps s (tl.take j))) ∧ s7 = .string (txt (allR (mkSteps s (tl.take j)))) ∧ Below W0.heap.size W0 wr)
  case atStart =>
    exact ⟨0, by omega, rfl, World.ownsRow_nil _ _ _ _, rfl, Below.refl _ _⟩
  case round =>
    obtain ⟨j, hj, rfl, hown, rfl, hbw⟩ := hrel
    have hbz := hbw.size
    by_cases hlt : j < tl.length
    · obtain ⟨f, rfl⟩ : ∃ f, gk = f + 1 := ⟨gk - 1, by omega⟩
      have c0 : wr.cell? ⟨R, j * 2, none⟩ = some (.string (tl[j]'hlt).1) := (hbw.cell (p := ⟨R, _, none⟩) (Nat.lt_of_lt_of_le hR hz0)).trans ((HB8.out.cell (p := ⟨R, _, none⟩) hR).trans (HCL.out j hlt).1)
      have c1 : wr.cell? ⟨R, j * 2 + 1, none⟩ = some (.int .i64 (tl[j]'hlt).2) := (hbw.cell (p := ⟨R, _, none⟩) (Nat.lt_of_lt_of_le hR hz0)).trans ((HB8.out.cell (p := ⟨R, _, none⟩) hR).trans (HCL.out j hlt).2)
      have hst := mkSteps_take s tl j hlt
      have hal1 : (encs (allR (mkSteps s (tl.take j)))).length + (encs (stepR (tl[j]'hlt).1)).length ≤ 16777216 := by
        have h1 := allR_len s (tl.take j)
        have h2 := stepR_len (tl[j]'hlt).1
        have h3 := tsz_take tl j hlt
        have h4 := tsz_le tl (j + 1)
        omega
      have hts : (tl[j]'hlt).1.size ≤ 16777216 := by
        have h3 := tsz_take tl j hlt
        have h4 := tsz_le tl (j + 1)
        omega
      have hSR : Hid (stepR (tl[j]'hlt).1 = if (validL (tl[j]'hlt).1).getLast? = some 13 then validL (tl[j]'hlt).1 ++ [120] else validL (tl[j]'hlt).1) := Lib.hid rfl
      obtain ⟨p, hp⟩ : ∃ p : Nat, (tl[j]'hlt).2 % (np : Int) = (p : Int) := ⟨((tl[j]'hlt).2 % (np : Int)).toNat, by have := Int.emod_nonneg (tl[j]'hlt).2 (b := (np : Int)) (by omega); omega⟩
      have hplt : p < np := by have := Int.emod_lt_of_pos (tl[j]'hlt).2 (b := (np : Int)) (by omega); omega
      have hSP : Hid (stepP s (tl[j]'hlt).2 = (placesL s).getD p 0) := Lib.hid (by unfold stepP; rw [HNP.out, hp]; simp)
      have hcp : wr.cell? ⟨k8, p, none⟩ = some (.int .i64 ((placesL s).getD p 0 : Nat)) := by
        refine (hbw.cell (p := ⟨k8, p, none⟩) hk8).trans (HA8.out p _ ?_)
        have hp' : p < (placesL s).length := by rw [HNP.out]; exact hplt
        simp [i64s, List.getD_eq_getElem?_getD, List.getElem?_eq_getElem hp']
      have hpla : ∀ W, Calls Tryd.prog 15 #[.int .i64 (tl[j]'hlt).2, .int .i64 (np : Int)] W fun e w' => e = .returned (.int .i64 (p : Int)) ∧ W = w' := fun W => by
        have h := place_any (tl[j]'hlt).2 (np : Int) W (by omega) (by omega)
        rw [hp] at h
        exact h
      have HPLA := Lib.hid hpla
      have HST := Lib.hid hst
      have HO := Lib.hid hown
      have HB := Lib.hid hbw
      have hvl := Lib.hid (validL_valid (tl[j]'hlt).1)
      have hvz := validL_len (tl[j]'hlt).1
      have hva := fun W => valid_any (tl[j]'hlt).1 W (by omega)
      have HVA := Lib.hid hva
      clear hpla hst hown hbw hva hp
      generalize validL (tl[j]'hlt).1 = vr at *
      generalize stepR (tl[j]'hlt).1 = sr at *
      generalize stepP s (tl[j]'hlt).2 = sp at *
      generalize (placesL s).getD p 0 = pl at *
      generalize (tl[j]'hlt).1 = tx at *
      generalize (tl[j]'hlt).2 = z at *
      obtain ⟨ar, har⟩ : ∃ ar, ar = allR (mkSteps s (tl.take j)) := ⟨_, rfl⟩
      rw [← har] at hal1 ⊢
      have HAR : Hid (allR (mkSteps s (tl.take j)) = ar) := Lib.hid har.symm
      clear har
      have hsum : (txt ar).size + (txt sr).size ≤ 9223372036854775807 := by rw [txt_size, txt_size]; omega
      go_wp2_with fail
      refine (HVA.out _).mono ?_
      rintro e W2 ⟨rfl, hb2⟩
      have X1 := (Blk.new wr 25 #[.string tx, .int .i64 z]).kep (Kep.of_below (X := fun _ => False) hb2) (fun q => q)
      have x1 : W2.cell? ⟨wr.heap.size, 1, none⟩ = some (.int .i64 z) := X1.cell 1
      have B2 := Lib.hid (bthen (balloc HB.out _) hb2)
      have O2 := Lib.hid ((HO.out.alloc (.cells #[.string tx, .int .i64 z] 25)).kept_below hb2)
      have hz2 : wr.heap.size < W2.heap.size := X1.lt
      have cp2 : W2.cell? ⟨k8, p, none⟩ = some (.int .i64 (pl : Nat)) := by
        rw [← hcp]
        refine (hb2.cell (p := ⟨k8, p, none⟩) (by simp; omega)).trans ?_
        exact Below.cell (balloc (Below.refl wr.heap.size wr) _) (by simp only; omega)
      clear hcp c0 c1 hb2 HB HO X1 HVA
      have hsz := txt_size vr
      have hts2 : (txt vr).size ≤ 16777216 := by omega
      have HSZ := Lib.hid hsz
      clear hsz
      obtain ⟨bb, hbb⟩ : ∃ bb, bb = decide (vr.getLast? = some 13) := ⟨_, rfl⟩
      have HBB := Lib.hid hbb
      clear hbb
      go_upto_region 8 with fail
      go_cut [32] (fun s32 wx => s32 = .bool bb ∧ W2 = wx)
      case first =>
        by_cases hv0 : (txt vr).size = 0
        · have t1 : (txt vr).toList.isEmpty = true := by rw [toList_empty]; simp [hv0]
          have E : Hid (bb = false) := Lib.hid (by
            rw [HBB.out]
            apply decide_eq_false
            intro q
            have : vr ≠ [] := by rintro rfl; simp at q
            have hl := okR.len (rs := vr) hvl.out
            have := List.length_pos_iff.2 this
            omega)
          clear hv0
          go_wp2_with fail
          go_meet
          exact ⟨by rw [E.out], rfl⟩
        · have t1 : (txt vr).toList.isEmpty = false := by rw [toList_empty]; simp [hv0]
          have p1 : 0 < (txt vr).size := by omega
          have hlb := last_byte vr hvl.out p1
          by_cases h13 : vr.getLast? = some 13
          · have E : Hid (bb = true) := Lib.hid (by rw [HBB.out]; exact decide_eq_true h13)
            have n3 : ((((txt vr)[(txt vr).size - 1]'(by omega)).toNat : Int) == 13) = true := by simp [hlb.2 h13]
            clear hv0 hlb h13
            go_wp2_with fail
            go_meet
            exact ⟨by rw [E.out], rfl⟩
          · have E : Hid (bb = false) := Lib.hid (by rw [HBB.out]; exact decide_eq_false h13)
            have n3 : ((((txt vr)[(txt vr).size - 1]'(by omega)).toNat : Int) == 13) = false := by
              have : ¬ ((txt vr)[(txt vr).size - 1]'(by omega)).toNat = 13 := fun q => h13 (hlb.1 q)
              simp
              omega
            clear hv0 hlb h13
            go_wp2_with fail
            go_meet
            exact ⟨by rw [E.out], rfl⟩
      case rest =>
      obtain ⟨rfl, rfl⟩ := hcut
      go_upto_if 32 with fail
      go_cut [11] (fun s11 wx => s11 = .string (txt sr) ∧ W2 = wx)
      case first =>
        rcases bb with _ | _
        · have h13 : ¬ vr.getLast? = some 13 := fun q => by have := HBB.out; rw [decide_eq_true q] at this; cases this
          have E : Hid (sr = vr) := Lib.hid (by rw [hSR.out, if_neg h13])
          clear h13
          go_wp2_with fail
          go_meet
          exact ⟨by rw [E.out], rfl⟩
        · have h13 : vr.getLast? = some 13 := of_decide_eq_true HBB.out.symm
          have E : Hid (txt vr ++ ⟨#[120]⟩ = txt sr) := Lib.hid (by rw [hSR.out, if_pos h13, ← txt_x, txt_app])
          have hs2 : (txt vr).size + (⟨#[120]⟩ : ByteArray).size ≤ 9223372036854775807 := by
            have : (⟨#[120]⟩ : ByteArray).size = 1 := rfl
            omega
          clear h13
          go_wp2_with fail
          go_meet
          exact ⟨by rw [← E.out], rfl⟩
      case rest =>
      obtain ⟨rfl, rfl⟩ := hcut
      go_wp2_with fail
      refine (HPLA.out _).mono ?_
      rintro e w' ⟨rfl, rfl⟩
      go_wp2_with (at_builtin; refine wpList_append_own_at _ rfl (.tmp 35) (.tmp 46) _ rfl W0.heap.size 40 iS _ 3 40 Tryd.underlying26 hiS hS0 hS1 hS2 rfl (by omega) u6 j (stpsC (mkSteps s (tl.take j))) rfl (O2.out.alloc _) ⟨W2.heap.size, 0, none⟩ 1 1 [.string (txt sr), .int .i64 (pl : Int), .string ByteArray.empty] rfl rfl (World.news_of_block (cs := #[.string (txt sr), .int .i64 (pl : Int), .string ByteArray.empty]) (t := 40) (fr := (0, 0)) (heap_alloc_new _ _)) (by intro u hu; simp at hu; rcases hu with rfl | rfl | rfl <;> rfl) (by unfold maxLen; omega) (by omega) (by simp; omega) ?_; intro v2 w2 hown2 hg2 hnil2 hat2; have O3 := Lib.hid hown2; have G3 := Lib.hid hg2; clear hnil2 hat2 hown2 hg2)
      go_roundg f
      case measure => omega
      case rel =>
        refine ⟨j + 1, by omega, by go_num, ?_, ?_, bgrown (balloc B2.out _) (Nat.le_refl _) G3.out (fun k hk => (own_lt O2.out hk).1)⟩
        · rw [HST.out, stpsC_snoc, hSP.out]
          exact O3.out
        · rw [HST.out, allR_snoc, ← txt_app, HAR.out]
    · obtain rfl : j = tl.length := by omega
      have HO := Lib.hid hown
      have HB := Lib.hid hbw
      clear hown hbw
      rw [List.take_length] at HO
      rw [List.take_length]
      go_wp2_with fail
      go_ret2
      exact ⟨_, rfl, own_mono HO.out hz0, HB8.out.trans (HB.out.mono hz0)⟩
end Go.Proofs.YtnokiikgnplpmaaDoor

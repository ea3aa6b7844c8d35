/-
  laws.FnFindEach returns true for every input of bulk at most 1048576: each mapping is found at its own place. Conditions: none besides.
-/
import Derived.Test.YtmncaibhdpcblaaFindLaw
import Derived.Test.YtmncaibhdpcblaaLawKit
import Derived.JoinedCond
namespace Go.Proofs.Ytmncaibhdpcblaa
open Go.RowKit Go.ChangeShapes Go.WideShapes Go.ChangeAt

set_option maxHeartbeats 2000000 in
set_option maxRecDepth 100000 in
theorem fnFindEach_walk (A : Option Addr) (n cap : Nat) (Z : Nat → Nat → Int) (w : World) (hA : A = none → n = 0 ∧ cap = 0) (h5 : At5 w A n Z) (hn : n ≤ 1048576) :
    Calls Try.prog 5 #[.slice A n cap] w fun e w' => e = .returned (.bool true) ∧ Below w.heap.size w w' := by
  have HA := Lib.hid hA
  have H5 := Lib.hid h5
  clear hA h5
  go_enter Try.func5, Try.ntmps5
  go_wp2_with (at_builtin; refine wpList_cons5 rfl (.tmp 7) (.tmp 8) rfl w.heap.size n cap A (fun _ => 1) Z rfl (Blk.new w _ _) rfl HA.out (H5.out.below (balloc (Below.refl _ _) _)) hn ?_; intro A2 cap2 w2 h52 hb2; have H52 := Lib.hid h52; have B2 := Lib.hid ((balloc (Below.refl w.heap.size w) _).trans hb2); clear h52 hb2)
  refine (ris_any A2 (1 + n) cap2 (consZ (fun _ => 1) Z) w2 (by omega) H52.out).mono ?_
  rintro e w3 ⟨v3, rfl, ho3, hb3⟩
  have hs3 : AtS w3 v3 (1 + n) (segOf (consZ (fun _ => 1) Z)) := AtS.of_own ho3 (risL_len _ _) (fun i hi => risL_at _ _ i hi)
  have B3 := Lib.hid (bthen B2.out hb3)
  generalize hS : segOf (consZ (fun _ => 1) Z) = S at *
  have hR : Rise S (1 + n) := hS ▸ rise_ris _ _
  have hSm : ∀ i, i < 1 + n → (S i).small := fun i hi => by rw [← hS]; exact seg_small _ i (by omega)
  have HR := Lib.hid hR
  have HSM := Lib.hid hSm
  have HS3 := Lib.hid hs3
  obtain ⟨A3, cap3, rfl, hc3⟩ := hs3
  have HC3 := Lib.hid hc3
  clear ho3 hb3 hS hR hSm hc3
  go_wp2_with fail
  go_loopg [13] (1 + n) (fun f s13 wr => ∃ (i : Nat), i + f = 1 + n ∧ s13 = .int .i64 (i : Int) ∧ Below w3.heap.size w3 wr)
  case atStart => exact ⟨0, by omega, rfl, Below.refl _ _⟩
  case round =>
    obtain ⟨i, hi, rfl, hbw⟩ := hrel
    by_cases hlt : i < 1 + n
    · obtain ⟨R, o, rfl, hcl⟩ := HC3.out (by omega)
      obtain ⟨f, rfl⟩ : ∃ f, gk = f + 1 := ⟨gk - 1, by omega⟩
      have hR : R < w3.heap.size := cell_lt' (p := ⟨R, o + i * 7 + 0, none⟩) (v := .int .i64 (S i).l) (hcl i 0 hlt (by omega))
      have hcr : ∀ j, j < 7 → wr.cell? ⟨R, o + i * 7 + j, none⟩ = (S i).cells[j]? := fun j hj => (hbw.cell (p := ⟨R, _, none⟩) hR).trans (hcl i j hlt hj)
      have c0 := hcr 0 (by omega)
      have c1 := hcr 1 (by omega)
      have c2 := hcr 2 (by omega)
      have c3 := hcr 3 (by omega)
      have c4 := hcr 4 (by omega)
      have c5 := hcr 5 (by omega)
      have c6 := hcr 6 (by omega)
      simp only [Nat.add_zero, Seg.cells, List.getElem?_cons_zero, List.getElem?_cons_succ] at c0 c1 c2 c3 c4 c5 c6
      have HB := Lib.hid hbw
      clear hcr hcl hbw
      go_wp2_with fail
      refine (finds_yes _ (1 + n) (i + 1) S (S i).l (S i).c (S i) _ (by omega) (HS3.out.below (balloc HB.out _)) HSM.out ?_ ?_ (split_own HR.out hlt) ?_ rfl).mono ?_
      · have := HSM.out i hlt; unfold Seg.small at this; omega
      · have := HSM.out i hlt; unfold Seg.small at this; omega
      · rw [found_eq]; exact decide_eq_true rfl
      rintro e w4 ⟨rfl, hb4⟩
      have B4 := Lib.hid (bthen (balloc HB.out _) hb4)
      clear hb4
      go_wp2_with fail
      go_roundg f
      case measure => omega
      case rel => exact ⟨i + 1, by omega, by go_num, B4.out⟩
    · have HB := Lib.hid (bthen B3.out hbw)
      obtain rfl : i = 1 + n := by omega
      clear hbw
      go_wp2_with fail
      go_ret
      exact ⟨rfl, HB.out⟩

theorem fnFindEach_own : ownKnob Try.prog.godebug = none := by kernel_rfl

set_option maxRecDepth 100000 in
theorem fnFindEach_lifted (os : Os) (started : os.Started) (H : Type) (enc : TypeId × Value → H) (F : Stop.Interp) :
    ReturnsInHanded {} Try.checked os 5 .any ((Rows.OpenSpec.upto Rows.fnFindEachSpec).pre6 enc Try.prog Try.f5 Rows.fnFindEachUptoRow.domain false) (((Rows.OpenSpec.upto Rows.fnFindEachSpec).at F).post enc Try.prog Try.f5 false true false false) := by
  refine returnsInHanded_of_cond (C := Try.checked) (s := Rows.OpenSpec.upto Rows.fnFindEachSpec) (k := Rows.uptoSmall) rfl fnFindEach_own started (by kernel_rfl) Try.func5
    (OpenSpec.witness (enc := enc) (C := Try.checked) (s := Rows.OpenSpec.upto Rows.fnFindEachSpec) (k := Rows.uptoSmall) rfl false ⟨#[], #[.slice none 0 0], []⟩ 8 (by kernel_rfl) (by kernel_rfl) (by kernel_rfl)
      (x := ([.nil], [], [])) (by kernel_rfl) rfl (by kernel_rfl)) ?_
  intro W base args ds gs before hval0 hW _ hk _
  have hval : ∀ (j : Nat) t v, Try.f5.params[j]? = some t → args[j]? = some v → Value.okWide Try.prog W .any base t v := hval0
  have hW' := hW
  obtain ⟨p, q, hA0, hV, rfl, hfz, hnd⟩ := hW
  have hA : DataW.TrodAll enc Try.prog W 0 (fun _ => true) true Try.f5.params.toList args.toList ds p := hA0
  rw [Try.params5] at hA hval
  obtain ⟨v0, vs0, d0, ds0, p0, q0, hargs, rfl, rfl, h0, r0⟩ := trodAll_cons hA
  obtain ⟨rfl, rfl, rfl⟩ := trodAll_nil r0
  obtain rfl : args = #[v0] := by cases args; simp_all
  obtain ⟨a0, n0, c0, z0, rfl, k0, b0, e0⟩ := open_rows5 Try.underlying22 Try.underlying34 Try.underlying3 (by kernel_rfl) (by kernel_rfl) (hval 0 22 v0 rfl rfl) h0
  have hbk : Rows.uptoBulkAll _ ≤ 1048576 := of_decide_eq_true hk
  simp only [List.cons_append, Rows.uptoBulkAll] at hbk
  refine (fnFindEach_walk a0 n0 c0 z0 W e0 k0 (by omega)).mono fun e W' ⟨he, hb⟩ => ⟨_, he, ?_⟩
  exact law_post (s := Rows.fnFindEachSpec) (f := Try.f5) (tb := 4) (by kernel_rfl) (by kernel_rfl) (by kernel_rfl) Try.underlying4 rfl (fun ds h => by rw [Try.params5] at h; match ds, h with | [_], _ => rfl) hW' hb

theorem fnFindEach_upto : Rows.FnFindEachUptoSaid :=
  OpenClaim.holds_of_cond 5 Try.f5 rfl rfl rfl rfl rfl rfl rfl ⟨rfl, rfl, rfl, rfl, rfl⟩ rfl rfl rfl rfl rfl (by kernel_rfl) Try.func5 (by kernel_rfl)
    (of_decide_eq_true (by kernel_rfl)) (by unfold Func.isWrapper; first | (rw [if_pos (by decide +kernel)]; kernel_rfl) | (rw [if_neg (by decide +kernel)]; exact ⟨rfl, rfl⟩))
    (fun os started H enc _ F => fnFindEach_lifted os started H enc F)
#print axioms fnFindEach_upto
end Go.Proofs.Ytmncaibhdpcblaa

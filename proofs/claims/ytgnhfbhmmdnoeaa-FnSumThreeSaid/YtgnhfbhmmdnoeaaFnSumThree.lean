/-
  laws.FnSumThree returns true for every input: it does not matter which two places are added first. Conditions: none.
-/
import Derived.Test.YtgnhfbhmmdnoeaaRows
import Derived.Test.YtgnhfbhmmdnoeaaSumFn
import Derived.Test.YtgnhfbhmmdnoeaaLawKit
import Derived.Test.YtgnhfbhmmdnoeaaArrKit
import Derived.WalkKit
import Derived.ProofKit
import Derived.OpenShut
import Derived.LoopN
namespace Go.Proofs.Ytgnhfbhmmdnoeaa
open Go.RowKit Go.ChangeShapes Go.WideShapes Go.ChangeAt
set_option linter.unusedVariables false

theorem sumC_assoc (b c d e f : Int) (hc : 0 ≤ c) (he : 0 ≤ e) : sumC (sumC b c d) e f = sumC b (c + e) (sumC d e f) := by
  unfold sumC
  by_cases h1 : c = 0 <;> by_cases h2 : e = 0
  · simp [h1, h2]; omega
  · simp [h1, h2]
  · simp [h1, h2]
  · simp [h2, show ¬ c + e = 0 by omega]

theorem sumC_le (b c d m : Int) (hb : 0 ≤ b) (hb' : b ≤ m) (hd : 0 ≤ d) (hd' : d ≤ 1048576) : 0 ≤ sumC b c d ∧ sumC b c d ≤ m + 1048576 := by
  unfold sumC
  split <;> omega

theorem fnSumThree_walk (a b c d e f : Int) (w : World) :
    Calls Try.prog 6 #[.agg #[.int .i64 a, .int .i64 b, .int .i64 c, .int .i64 d, .int .i64 e, .int .i64 f]] w fun e w' => e = .returned (.bool true) ∧ Below w.heap.size w w' := by
  go_enter Try.func6, Try.ntmps6
  go_wp2
  refine wp_loop_rounds 7 ?_
  iterate 7
    rw [rounds_succ]
    go_wp2_with (go_at_call 8; refine (small_any _ _).mono ?_; rintro e w' ⟨rfl, rfl⟩)
  have ha := Int.emod_nonneg a (b := 1048576) (by omega)
  have ha' := Int.emod_lt_of_pos a (b := 1048576) (by omega)
  have hb := Int.emod_nonneg b (b := 1048576) (by omega)
  have hb' := Int.emod_lt_of_pos b (b := 1048576) (by omega)
  have hc := Int.emod_nonneg c (b := 1048576) (by omega)
  have hc' := Int.emod_lt_of_pos c (b := 1048576) (by omega)
  have hd := Int.emod_nonneg d (b := 1048576) (by omega)
  have hd' := Int.emod_lt_of_pos d (b := 1048576) (by omega)
  have he := Int.emod_nonneg e (b := 1048576) (by omega)
  have he' := Int.emod_lt_of_pos e (b := 1048576) (by omega)
  have hf := Int.emod_nonneg f (b := 1048576) (by omega)
  have hf' := Int.emod_lt_of_pos f (b := 1048576) (by omega)
  generalize a % 1048576 = a at *
  generalize b % 1048576 = b at *
  generalize c % 1048576 = c at *
  generalize d % 1048576 = d at *
  generalize e % 1048576 = e at *
  generalize f % 1048576 = f at *
  refine (sum_any _ _ _ _ _ (by omega) (by omega) (by omega) (by omega) (by omega) (by omega) (by omega) (by omega)).mono ?_
  rintro _ w1 ⟨rfl, hb1⟩
  have c1 : w1.cell? ⟨w.heap.size, 0, none⟩ = some (.int .i64 a) := (hb1.cell (by simp)).trans (by simp)
  have c2 : w1.cell? ⟨w.heap.size, 1, none⟩ = some (.int .i64 b) := (hb1.cell (by simp)).trans (by simp)
  have c3 : w1.cell? ⟨w.heap.size, 2, none⟩ = some (.int .i64 c) := (hb1.cell (by simp)).trans (by simp)
  have c4 : w1.cell? ⟨w.heap.size, 3, none⟩ = some (.int .i64 d) := (hb1.cell (by simp)).trans (by simp)
  have c5 : w1.cell? ⟨w.heap.size, 4, none⟩ = some (.int .i64 e) := (hb1.cell (by simp)).trans (by simp)
  have c6 : w1.cell? ⟨w.heap.size, 5, none⟩ = some (.int .i64 f) := (hb1.cell (by simp)).trans (by simp)
  have hz1 : w.heap.size < w1.heap.size := by have := hb1.size; simp at this; omega
  have B1 := Lib.hid (bthen (balloc (Below.refl _ _) _) hb1)
  clear hb1
  have h1 := sumC_le b c d 1048576 (by omega) (by omega) (by omega) (by omega)
  have HA := Lib.hid (sumC_assoc b c d e f (by omega) (by omega))
  generalize sumC b c d = s at *
  go_wp2_with fail
  refine (sum_any _ _ _ _ _ (by omega) (by omega) (by omega) (by omega) (by omega) (by omega) (by omega) (by omega)).mono ?_
  rintro _ w2 ⟨rfl, hb2⟩
  have d1 : w2.cell? ⟨w.heap.size, 0, none⟩ = some (.int .i64 a) := (hb2.cell hz1).trans c1
  have d2 : w2.cell? ⟨w.heap.size, 1, none⟩ = some (.int .i64 b) := (hb2.cell hz1).trans c2
  have d3 : w2.cell? ⟨w.heap.size, 2, none⟩ = some (.int .i64 c) := (hb2.cell hz1).trans c3
  have d4 : w2.cell? ⟨w.heap.size, 3, none⟩ = some (.int .i64 d) := (hb2.cell hz1).trans c4
  have d5 : w2.cell? ⟨w.heap.size, 4, none⟩ = some (.int .i64 e) := (hb2.cell hz1).trans c5
  have d6 : w2.cell? ⟨w.heap.size, 5, none⟩ = some (.int .i64 f) := (hb2.cell hz1).trans c6
  have hz2 : w.heap.size < w2.heap.size := by have := hb2.size; omega
  have B2 := Lib.hid (bthen B1.out hb2)
  clear hb2 c1 c2 c3 c4 c5 c6 B1 hz1
  generalize sumC s e f = s2 at *
  go_wp2_with fail
  refine (sum_any _ _ _ _ _ (by omega) (by omega) (by omega) (by omega) (by omega) (by omega) (by omega) (by omega)).mono ?_
  rintro _ w3 ⟨rfl, hb3⟩
  have c1 : w3.cell? ⟨w.heap.size, 0, none⟩ = some (.int .i64 a) := (hb3.cell hz2).trans d1
  have c2 : w3.cell? ⟨w.heap.size, 1, none⟩ = some (.int .i64 b) := (hb3.cell hz2).trans d2
  have B3 := Lib.hid (bthen B2.out hb3)
  clear hb3 d1 d2 d3 d4 d5 d6 B2 hz2
  have h2 := sumC_le d e f 1048576 (by omega) (by omega) (by omega) (by omega)
  generalize sumC d e f = s3 at *
  go_wp2_with fail
  refine (sum_any _ _ _ _ _ (by omega) (by omega) (by omega) (by omega) (by omega) (by omega) (by omega) (by omega)).mono ?_
  rintro _ w4 ⟨rfl, hb4⟩
  have B4 := Lib.hid (bthen B3.out hb4)
  clear hb4 c1 c2 B3
  rw [← HA.out]
  go_wp2_with fail
  refine (sum_any _ _ _ _ _ (by omega) (by omega) (by omega) (by omega) (by omega) (by omega) (by omega) (by omega)).mono ?_
  rintro _ w5 ⟨rfl, hb5⟩
  have B5 := Lib.hid (bthen B4.out hb5)
  clear hb5 B4
  have e1 : (a + c + e == a + (c + e)) = true := by simp; omega
  have e2 : (sumC 1 0 1 == 2) = true := by decide
  go_wp2
  go_ret
  exact ⟨rfl, B5.out⟩

theorem six {zs : List Int} (h : zs.length = 6) : ∃ a b c d e f, zs = [a, b, c, d, e, f] := by
  match zs, h with
  | [a, b, c, d, e, f], _ => exact ⟨a, b, c, d, e, f, rfl⟩

theorem fnSumThree_own : ownKnob Try.prog.godebug = none := by kernel_rfl

set_option maxRecDepth 100000 in
theorem fnSumThree_lifted (os : Os) (started : os.Started) (H : Type) (enc : TypeId × Value → H) :
    ReturnsInHanded {} Try.checked os 6 .any (Rows.fnSumThreeSpec.pre6 enc Try.prog Try.f6 Rows.fnSumThreeRow.domain false) (Rows.fnSumThreeSpec.post enc Try.prog Try.f6 false true false false) := by
  refine returnsInHanded_of_change (C := Try.checked) fnSumThree_own started (by kernel_rfl) Try.func6
    (ChangeSpec.witness6 (enc := enc) (C := Try.checked) false ⟨#[], #[.agg #[.int .i64 0, .int .i64 0, .int .i64 0, .int .i64 0, .int .i64 0, .int .i64 0]], []⟩ 8 (by kernel_rfl) (by kernel_rfl) (by kernel_rfl) (by kernel_rfl)) ?_
  intro W base args ds gs before hval0 hW hcnd _
  have hval : ∀ (j : Nat) t v, Try.f6.params[j]? = some t → args[j]? = some v → Value.okWide Try.prog W .any base t v := hval0
  have hW' := hW
  obtain ⟨p, q, hA0, hV, rfl, hfz, hnd⟩ := hW
  have hA : DataW.TrodAll enc Try.prog W 0 (fun _ => true) true Try.f6.params.toList args.toList ds p := hA0
  rw [Try.params6] at hA hval
  obtain ⟨v0, vs0, d0, ds0, p0, q0, hargs, rfl, rfl, h0, r0⟩ := trodAll_cons hA
  obtain ⟨rfl, rfl, rfl⟩ := trodAll_nil r0
  obtain rfl : args = #[v0] := by cases args; simp_all
  obtain ⟨zs, hz, rfl, _⟩ := open_arr (n := 6) (k := .i64) Try.underlying31 Try.underlying3 (by kernel_rfl) (by kernel_rfl) (hval 0 31 v0 rfl rfl) h0
  obtain ⟨a, b, c, d, e, f, rfl⟩ := six hz
  refine (fnSumThree_walk a b c d e f W).mono fun e W' ⟨he, hb⟩ => ⟨_, he, ?_⟩
  exact law_post (f := Try.f6) (tb := 4) (by kernel_rfl) (by kernel_rfl) (by kernel_rfl) Try.underlying4 rfl (fun ds h => by rw [Try.params6] at h; match ds, h with | [_], _ => rfl) hW' hb

theorem fnSumThree_holds : Rows.FnSumThreeSaid :=
  OpenClaim.holds_of_wide 6 Try.f6 rfl rfl rfl rfl rfl rfl rfl ⟨rfl, rfl, rfl, rfl, rfl⟩ rfl rfl rfl rfl rfl (by kernel_rfl) Try.func6 (by kernel_rfl)
    (of_decide_eq_true (by kernel_rfl)) (by unfold Func.isWrapper; first | (rw [if_pos (by decide +kernel)]; kernel_rfl) | (rw [if_neg (by decide +kernel)]; exact ⟨rfl, rfl⟩))
    (fun os started H enc _ => fnSumThree_lifted os started H enc)
#print axioms fnSumThree_holds
end Go.Proofs.Ytgnhfbhmmdnoeaa

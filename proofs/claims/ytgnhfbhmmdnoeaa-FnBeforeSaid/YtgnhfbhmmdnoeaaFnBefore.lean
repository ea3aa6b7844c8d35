/-
  laws.FnBefore returns true for every input: one place comes before another one by the line, then by the column. Conditions: none.
-/
import Derived.Test.YtgnhfbhmmdnoeaaRows
import Derived.Test.YtgnhfbhmmdnoeaaSumFn
import Derived.Test.YtgnhfbhmmdnoeaaLawKit
import Derived.WalkKit
import Derived.ProofKit
import Derived.OpenShut
namespace Go.Proofs.Ytgnhfbhmmdnoeaa
open Go.RowKit Go.ChangeShapes Go.WideShapes Go.ChangeAt
set_option linter.unusedVariables false

theorem fnBefore_walk (a b c d : Int) (w0 : (Lit.int .i64 a).wf = true) (w1 : (Lit.int .i64 b).wf = true) (w2 : (Lit.int .i64 c).wf = true) (w3 : (Lit.int .i64 d).wf = true) (w : World) :
    Calls Try.prog 4 #[.int .i64 a, .int .i64 b, .int .i64 c, .int .i64 d] w fun e w' => e = .returned (.bool true) ∧ Below w.heap.size w w' := by
  clear w0 w1 w2 w3
  go_enter Try.func4, Try.ntmps4
  go_wp2_with (first | (go_at_call 8; refine (small_any _ _).mono ?_; rintro e w' ⟨rfl, rfl⟩))
  generalize a % 1048576 = a1
  generalize b % 1048576 = b1
  generalize c % 1048576 = c1
  generalize d % 1048576 = d1
  have B0 : Below w.heap.size w ((w.alloc (Obj.cells #[Value.int IntKind.i64 a1, Value.int IntKind.i64 b1] 25)).alloc (Obj.cells #[Value.int IntKind.i64 c1, Value.int IntKind.i64 d1] 25)) := balloc (balloc (Below.refl _ _) _) _
  go_region_held3 (fun w' => w'.cell? ⟨w.heap.size, 0, none⟩ = some (.int .i64 a1) ∧ w'.cell? ⟨w.heap.size, 1, none⟩ = some (.int .i64 b1) ∧ w'.cell? ⟨w.heap.size + 1, 0, none⟩ = some (.int .i64 c1) ∧ w'.cell? ⟨w.heap.size + 1, 1, none⟩ = some (.int .i64 d1) ∧ w.heap.size < w'.heap.size ∧ w.heap.size + 1 < w'.heap.size ∧ Below w.heap.size w w')
     ((go_split_ands; refine ⟨?_, ?_, ?_, ?_, ?_, ?_, ?_⟩ <;> first | (go_keep; done) | (rw [hb1.cell (by simp; omega)]; assumption) | (rw [hb1.cell (by simp)]; assumption) | (exact Below.drew (by assumption)) | (exact bthen (by assumption) hb1) | (simp; omega) | (have := hb1.size; omega) | (have := hb1.size; simp at this; omega)))
     (first | (go_at_call 9; refine (before_any _ _ _ _ _).mono ?_; rintro e w1 ⟨rfl, hb1⟩) | (go_at_call 10; refine (pbefore_any _ _ _ _ _).mono ?_; rintro e w1 ⟨rfl, hb1⟩))
  all_goals go_wp2
  all_goals go_ret
  all_goals exact ⟨by simp [bef], by go_split_ands; assumption⟩

theorem fnBefore_own : ownKnob Try.prog.godebug = none := by kernel_rfl

set_option maxRecDepth 100000 in
theorem fnBefore_lifted (os : Os) (started : os.Started) (H : Type) (enc : TypeId × Value → H) :
    ReturnsInHanded {} Try.checked os 4 .any (Rows.fnBeforeSpec.pre6 enc Try.prog Try.f4 Rows.fnBeforeRow.domain false) (Rows.fnBeforeSpec.post enc Try.prog Try.f4 false true false false) := by
  refine returnsInHanded_of_change (C := Try.checked) fnBefore_own started (by kernel_rfl) Try.func4
    (ChangeSpec.witness6 (enc := enc) (C := Try.checked) false ⟨#[], #[.int .i64 0, .int .i64 0, .int .i64 0, .int .i64 0], []⟩ 8 (by kernel_rfl) (by kernel_rfl) (by kernel_rfl) (by kernel_rfl)) ?_
  intro W base args ds gs before hval0 hW hcnd _
  have hval : ∀ (j : Nat) t v, Try.f4.params[j]? = some t → args[j]? = some v → Value.okWide Try.prog W .any base t v := hval0
  have hW' := hW
  obtain ⟨p, q, hA0, hV, rfl, hfz, hnd⟩ := hW
  have hA : DataW.TrodAll enc Try.prog W 0 (fun _ => true) true Try.f4.params.toList args.toList ds p := hA0
  rw [Try.params4] at hA hval
  obtain ⟨v0, vs0, d0, ds0, p0, q0, hargs, rfl, rfl, h0, r0⟩ := trodAll_cons hA
  obtain ⟨v1, vs1, d1, ds1, p1, q1, rfl, rfl, rfl, h1, r1⟩ := trodAll_cons r0
  obtain ⟨v2, vs2, d2, ds2, p2, q2, rfl, rfl, rfl, h2, r2⟩ := trodAll_cons r1
  obtain ⟨v3, vs3, d3, ds3, p3, q3, rfl, rfl, rfl, h3, r3⟩ := trodAll_cons r2
  obtain ⟨rfl, rfl, rfl⟩ := trodAll_nil r3
  obtain rfl : args = #[v0, v1, v2, v3] := by cases args; simp_all
  obtain ⟨a0, rfl, rfl, rfl, w0⟩ := open_int Try.underlying3 (hval 0 3 v0 rfl rfl) h0
  obtain ⟨a1, rfl, rfl, rfl, w1⟩ := open_int Try.underlying3 (hval 1 3 v1 rfl rfl) h1
  obtain ⟨a2, rfl, rfl, rfl, w2⟩ := open_int Try.underlying3 (hval 2 3 v2 rfl rfl) h2
  obtain ⟨a3, rfl, rfl, rfl, w3⟩ := open_int Try.underlying3 (hval 3 3 v3 rfl rfl) h3
  refine (fnBefore_walk a0 a1 a2 a3 w0 w1 w2 w3 W).mono fun e W' ⟨he, hb⟩ => ⟨_, he, ?_⟩
  exact law_post (f := Try.f4) (tb := 4) (by kernel_rfl) (by kernel_rfl) (by kernel_rfl) Try.underlying4 rfl (fun ds h => by rw [Try.params4] at h; match ds, h with | [_, _, _, _], _ => rfl) hW' hb

theorem fnBefore_holds : Rows.FnBeforeSaid :=
  OpenClaim.holds_of_wide 4 Try.f4 rfl rfl rfl rfl rfl rfl rfl ⟨rfl, rfl, rfl, rfl, rfl⟩ rfl rfl rfl rfl rfl (by kernel_rfl) Try.func4 (by kernel_rfl)
    (of_decide_eq_true (by kernel_rfl)) (by unfold Func.isWrapper; first | (rw [if_pos (by decide +kernel)]; kernel_rfl) | (rw [if_neg (by decide +kernel)]; exact ⟨rfl, rfl⟩))
    (fun os started H enc _ => fnBefore_lifted os started H enc)
#print axioms fnBefore_holds
end Go.Proofs.Ytgnhfbhmmdnoeaa

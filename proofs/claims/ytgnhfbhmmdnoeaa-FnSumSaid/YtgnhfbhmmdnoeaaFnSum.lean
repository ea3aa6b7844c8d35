/-
  laws.FnSum returns true for every input: so far behind a place is on the same line its columns more, otherwise its column on a later line. Conditions: none.
-/
import Derived.Test.YtgnhfbhmmdnoeaaRows
import Derived.Test.YtgnhfbhmmdnoeaaSumFn
import Derived.Test.YtgnhfbhmmdnoeaaLawKit
import Derived.WalkKit
import Derived.ProofKit
import Derived.OpenShut
namespace Go.Proofs.Ytgnhfbhmmdnoeaa
open Go.RowKit Go.ChangeShapes Go.WideShapes Go.ChangeAt

theorem fnSum_walk (a b c d : Int) (w : World) :
    Calls Try.prog 5 #[.int .i64 a, .int .i64 b, .int .i64 c, .int .i64 d] w fun e w' => e = .returned (.bool true) ∧ Below w.heap.size w w' := by
  have ha := Int.emod_nonneg a (b := 1048576) (by omega)
  have ha' := Int.emod_lt_of_pos a (b := 1048576) (by omega)
  have hb := Int.emod_nonneg b (b := 1048576) (by omega)
  have hb' := Int.emod_lt_of_pos b (b := 1048576) (by omega)
  have hc := Int.emod_nonneg c (b := 1048576) (by omega)
  have hc' := Int.emod_lt_of_pos c (b := 1048576) (by omega)
  have hd := Int.emod_nonneg d (b := 1048576) (by omega)
  have hd' := Int.emod_lt_of_pos d (b := 1048576) (by omega)
  go_enter Try.func5, Try.ntmps5
  go_wp2_with (first | (go_at_call 8; refine (small_any _ _).mono ?_; rintro e w' ⟨rfl, rfl⟩))
  generalize a % 1048576 = a at *
  generalize b % 1048576 = b at *
  generalize c % 1048576 = c at *
  generalize d % 1048576 = d at *
  refine (plus_any _ _ _ _ _ (by omega) (by omega) (by omega) (by omega) (by omega) (by omega) (by omega) (by omega)).mono ?_
  rintro e w1 ⟨rfl, hb1⟩
  obtain ⟨hc1, hf1⟩ := bcell hb1
  have hz1 : w.heap.size + 1 < w1.heap.size := by have := hb1.size; simp at this; omega
  have hz0 : w.heap.size < w1.heap.size := by omega
  have B1 : Below w.heap.size w w1 := bthen (balloc (balloc (Below.refl _ _) _) _) hb1
  have H1 := Lib.hid B1
  clear hb1 B1
  generalize hs : sumC b c d = s
  go_wp2_with fail
  refine (sum_any _ _ _ _ _ (by omega) (by omega) (by omega) (by omega) (by omega) (by omega) (by omega) (by omega)).mono ?_
  rintro e w2 ⟨rfl, hb2⟩
  rw [hs]
  obtain ⟨hc2, hf2⟩ := bcell hb2
  have B2 := Lib.hid (bthen (balloc H1.out _) hb2)
  have Hz2 := Lib.hid hb2.size
  clear hb2 hz0 hz1 hc1 hf1 H1
  go_wp2_with fail
  refine (sum_any _ _ _ _ _ (by omega) (by omega) (by omega) (by omega) (by omega) (by omega) (by omega) (by omega)).mono ?_
  rintro e w3 ⟨rfl, hb3⟩
  obtain ⟨hc3, hf3⟩ := bcell hb3
  have B3 := Lib.hid (bthen B2.out hb3)
  have hz1 : w1.heap.size < w2.heap.size := by have := Hz2.out; simp at this; omega
  go_wp2_with fail
  go_ret
  exact ⟨by simp [sumC], B3.out⟩

theorem fnSum_own : ownKnob Try.prog.godebug = none := by kernel_rfl

set_option maxRecDepth 100000 in
theorem fnSum_lifted (os : Os) (started : os.Started) (H : Type) (enc : TypeId × Value → H) :
    ReturnsInHanded {} Try.checked os 5 .any (Rows.fnSumSpec.pre6 enc Try.prog Try.f5 Rows.fnSumRow.domain false) (Rows.fnSumSpec.post enc Try.prog Try.f5 false true false false) := by
  refine returnsInHanded_of_change (C := Try.checked) fnSum_own started (by kernel_rfl) Try.func5
    (ChangeSpec.witness6 (enc := enc) (C := Try.checked) false ⟨#[], #[.int .i64 0, .int .i64 0, .int .i64 0, .int .i64 0], []⟩ 8 (by kernel_rfl) (by kernel_rfl) (by kernel_rfl) (by kernel_rfl)) ?_
  intro W base args ds gs before hval0 hW hcnd _
  have hval : ∀ (j : Nat) t v, Try.f5.params[j]? = some t → args[j]? = some v → Value.okWide Try.prog W .any base t v := hval0
  have hW' := hW
  obtain ⟨p, q, hA0, hV, rfl, hfz, hnd⟩ := hW
  have hA : DataW.TrodAll enc Try.prog W 0 (fun _ => true) true Try.f5.params.toList args.toList ds p := hA0
  rw [Try.params5] at hA hval
  obtain ⟨v0, vs0, d0, ds0, p0, q0, hargs, rfl, rfl, h0, r0⟩ := trodAll_cons hA
  obtain ⟨v1, vs1, d1, ds1, p1, q1, rfl, rfl, rfl, h1, r1⟩ := trodAll_cons r0
  obtain ⟨v2, vs2, d2, ds2, p2, q2, rfl, rfl, rfl, h2, r2⟩ := trodAll_cons r1
  obtain ⟨v3, vs3, d3, ds3, p3, q3, rfl, rfl, rfl, h3, r3⟩ := trodAll_cons r2
  obtain ⟨rfl, rfl, rfl⟩ := trodAll_nil r3
  obtain rfl : args = #[v0, v1, v2, v3] := by cases args; simp_all
  obtain ⟨a0, rfl, rfl, rfl, w0⟩ := open_int Try.underlying3 (hval 0 3 v0 rfl rfl) h0
  obtain ⟨a1, rfl, rfl, rfl, w1⟩ := open_int Try.underlying3 (hval 1 3 v1 rfl rfl) h1
  obtain ⟨a2, rfl, rfl, rfl, w2⟩ := open_int Try.underlying3 (hval 2 3 v2 rfl rfl) h2
  obtain ⟨a3, rfl, rfl, rfl, w3⟩ := open_int Try.underlying3 (hval 3 3 v3 rfl rfl) h3
  refine (fnSum_walk a0 a1 a2 a3 W).mono fun e W' ⟨he, hb⟩ => ⟨_, he, ?_⟩
  exact law_post (f := Try.f5) (tb := 4) (by kernel_rfl) (by kernel_rfl) (by kernel_rfl) Try.underlying4 rfl (fun ds h => by rw [Try.params5] at h; match ds, h with | [_, _, _, _], _ => rfl) hW' hb

theorem fnSum_holds : Rows.FnSumSaid :=
  OpenClaim.holds_of_wide 5 Try.f5 rfl rfl rfl rfl rfl rfl rfl ⟨rfl, rfl, rfl, rfl, rfl⟩ rfl rfl rfl rfl rfl (by kernel_rfl) Try.func5 (by kernel_rfl)
    (of_decide_eq_true (by kernel_rfl)) (by unfold Func.isWrapper; first | (rw [if_pos (by decide +kernel)]; kernel_rfl) | (rw [if_neg (by decide +kernel)]; exact ⟨rfl, rfl⟩))
    (fun os started H enc _ => fnSum_lifted os started H enc)
#print axioms fnSum_holds
end Go.Proofs.Ytgnhfbhmmdnoeaa

/-
  laws.FnContent returns true for every input: pieces have content if one of them is not empty. Conditions: none.
-/
import Derived.Test.YtgnhfbhmmdnoeaaRows
import Derived.Test.YtgnhfbhmmdnoeaaKit
import Derived.Test.YtgnhfbhmmdnoeaaLawKit
import Derived.WalkKit
import Derived.ProofKit
import Derived.OpenShut
import Derived.ShutString
import Derived.Laws.IdiomStrings
namespace Go.Proofs.Ytgnhfbhmmdnoeaa
open Go.RowKit Go.ChangeShapes Go.WideShapes Go.ChangeAt
open Go.ChangeMaps (open_string shut_string)
set_option linter.unusedVariables false

theorem content_any (a b c : ByteArray) (w : World) (ha : a.size ≤ 140737488351232) (hb : b.size ≤ 140737488351232) (hc : c.size ≤ 140737488351232) :
    Calls Try.prog 7 #[.string a, .string b, .string c] w fun e w' => e = .returned (.bool (decide ((0 : Int) < a.size + b.size + c.size))) ∧ Below w.heap.size w w' := by
  have kb := fun (W : World) (s : ByteArray) => run_bytes_of_string (P := Try.prog) W 9 33 5 s Try.underlying9 Try.underlying33 Try.underlying5
  go_enter Try.func7, Try.ntmps7
  go_wp2
  go_ret
  exact ⟨rfl, by go_grown⟩

theorem app_empty (a b c : ByteArray) : ((a ++ b ++ c).toList.isEmpty) = !decide ((0 : Int) < a.size + b.size + c.size) := by
  have h : (a ++ b ++ c).toList.length = a.size + b.size + c.size := by
    rw [ByteArray.toList_eq]; simp [← ByteArray.size_data]; omega
  rcases hl : (a ++ b ++ c).toList with _ | ⟨x, l⟩
  · rw [hl] at h
    simp at h
    have : a.size = 0 ∧ b.size = 0 ∧ c.size = 0 := by omega
    simp [this]
  · rw [hl] at h
    simp at h
    simp; omega

theorem fnContent_walk (a b c : ByteArray) (ha : a.size ≤ 140737488351232) (hb : b.size ≤ 140737488351232) (hc : c.size ≤ 140737488351232) (w : World) :
    Calls Try.prog 3 #[.string a, .string b, .string c] w fun e w' => e = .returned (.bool true) ∧ Below w.heap.size w w' := by
  have HE := Lib.hid (app_empty a b c)
  have ks : ∀ (W : World) (x y : ByteArray), x.size + y.size ≤ 9223372036854775807 → (Op.stringOp .add x y).run Try.prog W = .ok (.string (x ++ y)) W := fun W x y h => run_string_add_sum W x y h
  go_enter Try.func3, Try.ntmps3
  go_wp2_with fail
  refine (content_any _ _ _ _ ha hb hc).mono ?_
  rintro e w1 ⟨rfl, hb1⟩
  have B1 := Lib.hid hb1
  clear hb1
  have hx : decide ((0 : Int) < a.size + b.size + c.size) = !(a ++ b ++ c).toList.isEmpty := by rw [HE.out]; simp
  rw [hx]
  clear hx HE
  go_wp2_with fail
  refine (content_any _ _ _ _ (by decide) (by decide) (by decide)).mono ?_
  rintro e w2 ⟨rfl, hb2⟩
  have B2 := Lib.hid (bthen B1.out hb2)
  clear hb2
  go_wp2_with fail
  go_ret
  exact ⟨rfl, B2.out⟩

theorem fnContent_own : ownKnob Try.prog.godebug = none := by kernel_rfl

set_option maxRecDepth 100000 in
theorem fnContent_lifted (os : Os) (started : os.Started) (H : Type) (enc : TypeId × Value → H) :
    ReturnsInHanded {} Try.checked os 3 .any (Rows.fnContentSpec.pre6 enc Try.prog Try.f3 Rows.fnContentRow.domain false) (Rows.fnContentSpec.post enc Try.prog Try.f3 false true false false) := by
  refine returnsInHanded_of_change_sized (C := Try.checked) fnContent_own started (by kernel_rfl) Try.func3
    (ChangeSpec.witness6 (enc := enc) (C := Try.checked) false ⟨#[], #[.string ByteArray.empty, .string ByteArray.empty, .string ByteArray.empty], []⟩ 8 (by kernel_rfl) (by kernel_rfl) (by kernel_rfl) (by kernel_rfl)) ?_
  intro W base args ds gs before hval0 hW hcnd hsz0 _
  have hval : ∀ (j : Nat) t v, Try.f3.params[j]? = some t → args[j]? = some v → Value.okWide Try.prog W .any base t v := hval0
  have hW' := hW
  obtain ⟨p, q, hA0, hV, rfl, hfz, hnd⟩ := hW
  have hA : DataW.TrodAll enc Try.prog W 0 (fun _ => true) true Try.f3.params.toList args.toList ds p := hA0
  have hsz : (DataW.weightsEach Try.prog (Try.f3.params.toList ++ Rows.fnContentSpec.plain.varTypes Try.prog) (ds ++ gs)).all (· ≤ reachBytes) = true := hsz0
  rw [Try.params3] at hA hval hsz
  obtain ⟨v0, vs0, d0, ds0, p0, q0, hargs, rfl, rfl, h0, r0⟩ := trodAll_cons hA
  obtain ⟨v1, vs1, d1, ds1, p1, q1, rfl, rfl, rfl, h1, r1⟩ := trodAll_cons r0
  obtain ⟨v2, vs2, d2, ds2, p2, q2, rfl, rfl, rfl, h2, r2⟩ := trodAll_cons r1
  obtain ⟨rfl, rfl, rfl⟩ := trodAll_nil r2
  obtain rfl : args = #[v0, v1, v2] := by cases args; simp_all
  obtain ⟨a0, rfl, rfl, rfl, w0⟩ := open_string Try.underlying9 (hval 0 9 v0 rfl rfl) h0
  obtain ⟨a1, rfl, rfl, rfl, w1⟩ := open_string Try.underlying9 (hval 1 9 v1 rfl rfl) h1
  obtain ⟨a2, rfl, rfl, rfl, w2⟩ := open_string Try.underlying9 (hval 2 9 v2 rfl rfl) h2
  have s0 : a0.size ≤ 140737488351232 := by have h := sized_string hsz (j := 0) (t := 9) rfl rfl; simpa [reachBytes] using h
  have s1 : a1.size ≤ 140737488351232 := by have h := sized_string hsz (j := 1) (t := 9) rfl rfl; simpa [reachBytes] using h
  have s2 : a2.size ≤ 140737488351232 := by have h := sized_string hsz (j := 2) (t := 9) rfl rfl; simpa [reachBytes] using h
  refine (fnContent_walk a0 a1 a2 s0 s1 s2 W).mono fun e W' ⟨he, hb⟩ => ⟨_, he, ?_⟩
  exact law_post (f := Try.f3) (tb := 4) (by kernel_rfl) (by kernel_rfl) (by kernel_rfl) Try.underlying4 rfl (fun ds h => by rw [Try.params3] at h; match ds, h with | [_, _, _], _ => rfl) hW' hb

theorem fnContent_holds : Rows.FnContentSaid :=
  OpenClaim.holds_of_wide 3 Try.f3 rfl rfl rfl rfl rfl rfl rfl ⟨rfl, rfl, rfl, rfl, rfl⟩ rfl rfl rfl rfl rfl (by kernel_rfl) Try.func3 (by kernel_rfl)
    (of_decide_eq_true (by kernel_rfl)) (by unfold Func.isWrapper; first | (rw [if_pos (by decide +kernel)]; kernel_rfl) | (rw [if_neg (by decide +kernel)]; exact ⟨rfl, rfl⟩))
    (fun os started H enc _ => fnContent_lifted os started H enc)
#print axioms fnContent_holds
end Go.Proofs.Ytgnhfbhmmdnoeaa

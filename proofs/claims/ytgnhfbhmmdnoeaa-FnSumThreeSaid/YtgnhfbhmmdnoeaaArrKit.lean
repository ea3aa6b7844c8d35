/-
  Arguments that are arrays of integers, opened to their numbers. Conditions: each element is one cell.
-/
import Derived.Test.YtgnhfbhmmdnoeaaProg
import Derived.ProofKit
import Derived.OpenShut
import Derived.KernelRfl
namespace Go.Proofs.Ytgnhfbhmmdnoeaa
open Go.RowKit Go.WideShapes Go.ChangeShapes
section
variable {H : Type} {enc : TypeId × Value → H} {P : Program} {w : World} {base : Nat} {spare : Nat → Bool} {held : Bool}

theorem list_of_each {α : Type} (Q : Value → α → Prop) : ∀ (cs : List Value), (∀ (i : Nat) (v : Value), cs[i]? = some v → ∃ z : α, Q v z) → ∃ zs : List α, zs.length = cs.length ∧ ∀ (i : Nat) (v : Value), cs[i]? = some v → ∃ z, zs[i]? = some z ∧ Q v z := by
  intro cs
  induction cs with
  | nil => intro _; exact ⟨[], rfl, fun i v h => by simp at h⟩
  | cons c cs ih =>
    intro h
    obtain ⟨z0, q0⟩ := h 0 c rfl
    obtain ⟨zs, hl, hz⟩ := ih (fun i v hv => h (i + 1) v (by simpa using hv))
    refine ⟨z0 :: zs, by simp [hl], fun i v hv => ?_⟩
    cases i with
    | zero => simp at hv; subst hv; exact ⟨z0, rfl, q0⟩
    | succ i => simp at hv; obtain ⟨z, h1, h2⟩ := hz i v hv; exact ⟨z, by simpa using h1, h2⟩

/-- The cells of an array of integers hold its numbers. -/
theorem arr_ints {t e : TypeId} {n : Nat} {k : IntKind} {fuel : Nat} {cs : List Value} {x : DataW H × List MemPlace} (ht : P.underlying t = some (.array n e)) (he : P.underlying e = some (.int k)) (hce : P.cellsOf e = 1) (hct : P.cellsOf t = n)
    (h : DataW.trod enc P w base spare held fuel t cs = some x) : ∃ zs : List Int, zs.length = n ∧ cs = zs.map (Value.int k) ∧ x = (.agg (zs.map fun z => .lit (.int k z)), []) ∧ ∀ z ∈ zs, (Lit.int k z).wf = true := by
  obtain ⟨xs, m, _, hx, hcl, hxl, hi⟩ := DataW.trod_array ht h
  rw [hct] at hcl
  have one : ∀ i, i < n → ∃ z : Int, cs[i]? = some (.int k z) ∧ xs[i]? = some (.lit (.int k z), []) ∧ (Lit.int k z).wf = true := by
    intro i hin
    have h1 := hi i hin
    rw [hce, Nat.mul_one] at h1
    have hxi : xs[i]? = some (xs[i]'(by omega)) := List.getElem?_eq_getElem (by omega)
    rw [hxi] at h1
    obtain ⟨z, hz1, hz2, hz3⟩ := DataW.trod_int he h1
    refine ⟨z, ?_, by rw [hxi, hz2], hz3⟩
    have h2 : (List.take 1 (List.drop i cs))[0]? = some (.int k z) := by rw [hz1]; rfl
    simpa using h2
  obtain ⟨zs, hzl, hz⟩ := list_of_each (α := Int) (fun v z => v = .int k z) cs (fun i v hv => by
    have hil := (List.getElem?_eq_some_iff.1 hv).1
    obtain ⟨z, h1, _, _⟩ := one i (by omega)
    rw [h1] at hv
    injection hv with hv
    exact ⟨z, hv.symm⟩)
  have hcs : cs = zs.map (Value.int k) := by
    apply List.ext_getElem?
    intro i
    by_cases hin : i < n
    · obtain ⟨z, h1, _, _⟩ := one i hin
      obtain ⟨z', h2, h3⟩ := hz i _ h1
      rw [h1, List.getElem?_map, h2, h3]
      rfl
    · rw [List.getElem?_eq_none (by omega), List.getElem?_eq_none (by simp; omega)]
  have hxs : xs = zs.map fun z => ((.lit (.int k z) : DataW H), ([] : List MemPlace)) := by
    apply List.ext_getElem?
    intro i
    by_cases hin : i < n
    · obtain ⟨z, h1, h2, _⟩ := one i hin
      rw [hcs, List.getElem?_map] at h1
      have hzi : zs[i]? = some (zs[i]'(by omega)) := List.getElem?_eq_getElem (by omega)
      rw [hzi] at h1
      simp at h1
      rw [h2, List.getElem?_map, hzi, ← h1]
      rfl
    · rw [List.getElem?_eq_none (by omega), List.getElem?_eq_none (by simp; omega)]
  refine ⟨zs, by omega, hcs, ?_, ?_⟩
  · rw [hx, hxs]
    simp [Function.comp_def]
  · intro z hzm
    obtain ⟨i, hil, rfl⟩ := List.getElem_of_mem hzm
    obtain ⟨z', h1, _, h3⟩ := one i (by omega)
    rw [hcs, List.getElem?_map, List.getElem?_eq_getElem hil] at h1
    simp at h1
    rw [h1]
    exact h3

/-- A parameter that is an array of integers, by value. -/
theorem open_arr {t e : TypeId} {n : Nat} {k : IntKind} {r : Reach} {b0 : Nat} {v : Value} {d : DataW H} {p : List MemPlace} (ht : P.underlying t = some (.array n e)) (he : P.underlying e = some (.int k)) (hce : P.cellsOf e = 1) (hct : P.cellsOf t = n)
    (hv : Value.okWide P w r b0 t v) (h : DataW.Trod enc P w base spare held t v d p) : ∃ zs : List Int, zs.length = n ∧ v = .agg (zs.map (Value.int k)).toArray ∧ ∀ z ∈ zs, (Lit.int k z).wf = true := by
  simp only [Value.okWide, ht] at hv
  obtain ⟨cs, rfl, hsz, _⟩ := hv
  obtain ⟨fuel, hf⟩ := h
  obtain ⟨zs, h1, h2, h3, h4⟩ := arr_ints ht he hce hct hf
  refine ⟨zs, h1, ?_, h4⟩
  obtain ⟨l⟩ := cs
  simp [Value.cells] at h2
  rw [h2]
end
end Go.Proofs.Ytgnhfbhmmdnoeaa

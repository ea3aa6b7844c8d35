/-
  The contracts of impl.Advance and spec.Advance at texts of runes. Conditions: all numbers are below 2^60; the two tables of unicode/utf8 hold what their text lays.
-/
import Derived.Test.YtgnhfbhmmdnoeaaDoorImplAdvFn
import Derived.Test.YtgnhfbhmmdnoeaaDoorSpecAdvFn
import Derived.Test.YtgnhfbhmmdnoeaaDoorPlaceFn
import Derived.Test.YtgnhfbhmmdnoeaaDoorApart8Fn
namespace Go.Proofs.YtgnhfbhmmdnoeaaDoor
open Go.RowKit

/-- Runes that a text holds: each one is a scalar value. -/
def okR (rs : List Nat) : Prop := ∀ r ∈ rs, Utf8.valid (r : Int) = true
theorem okR.app {a b : List Nat} (ha : okR a) (hb : okR b) : okR (a ++ b) := valid_app ha hb
theorem okR.x : okR [120] := by
  intro r hr
  simp at hr
  subst hr
  exact valid_120

theorem implT_any (rs : List Nat) (L C : Nat) (by_ : Bool) (w : World) (hv : okR rs) (hs : (txt rs).size ≤ 1125899906842624) (hL : L ≤ 1152921504606846976) (hC : C ≤ 1152921504606846976) (hT : Tabs8 w) :
    Calls Tryd.prog 12 #[.int .i64 (L : Int), .int .i64 (C : Int), .string (txt rs), .bool by_] w fun e w' => e = .returned (.tuple #[.int .i64 ((advI rs (L, C)).1 : Int), .int .i64 ((advI rs (L, C)).2 : Int)]) ∧ Below w.heap.size w w' := by
  have h := implAdv_any (txt rs) L C by_ w hs hL hC hT
  rw [runes_txt rs hv] at h
  exact h
theorem specT_any (rs : List Nat) (L C : Nat) (w : World) (hv : okR rs) (hs : (txt rs).size ≤ 1125899906842624) (hL : L ≤ 1152921504606846976) (hC : C ≤ 1152921504606846976) :
    Calls Tryd.prog 11 #[.agg #[.int .i64 (L : Int), .int .i64 (C : Int)], .string (txt rs)] w fun e w' => e = .returned (.agg #[.int .i64 ((advI rs (L, C)).1 : Int), .int .i64 ((advI rs (L, C)).2 : Int)]) ∧ Below w.heap.size w w' := by
  have h := specAdv_any (txt rs) L C w hs hL hC
  rw [runes_txt rs hv, ← advI_S] at h
  exact h
theorem Tabs8.below {w w' : World} (h : Tabs8 w) (hb : Below w.heap.size w w') : Tabs8 w' := h.kep (Kep.of_below (X := fun _ => False) hb) (fun q => q) (fun q => q)

theorem runes_len (s : ByteArray) : ∀ (f pos : Nat), (runes s f pos).length ≤ f := by
  intro f
  induction f with
  | zero => intro pos; simp [runes]
  | succ f ih =>
    intro pos
    unfold runes
    split
    · have := ih (pos + (Utf8.decode s pos).2)
      rw [List.length_cons]; omega
    · simp

/-- The text that valid leaves. -/
theorem validT_any (s : ByteArray) (w : World) (hs : s.size ≤ 140737488351232) :
    Calls Tryd.prog 9 #[.string s] w fun e w' => (∃ rs, okR rs ∧ (txt rs).size ≤ s.size ∧ e = .returned (.string (txt rs))) ∧ Below w.heap.size w w' :=
  (valid_any s w hs).mono fun _ _ ⟨he, hb⟩ => ⟨⟨validL s, validL_valid s, by rw [txt_size]; exact validL_len s, he⟩, hb⟩
theorem okR.len {rs : List Nat} (h : okR rs) : rs.length ≤ (txt rs).size := by rw [txt_size]; exact encs_ge rs h
/-- Texts that can be divided: no CR ends the first one's runes ahead of a LF. -/
theorem apart_runes (rs ss : List Nat) (h : apartB (txt rs) (txt ss) = true) : lastR 0 rs = 13 → ss.head? ≠ some 10 := by
  intro h1 h2
  have hr : ∃ l, rs = l ++ [13] := by
    rcases List.eq_nil_or_concat rs with rfl | ⟨l, x, rfl⟩
    · simp [lastR] at h1
    · have e : lastR 0 (l.concat x) = x := by unfold lastR; simp [List.getLastD_eq_getLast?]
      rw [e] at h1
      exact ⟨l, by simp [h1]⟩
  obtain ⟨l, rfl⟩ := hr
  cases ss with
  | nil => simp at h2
  | cons y t =>
    simp at h2
    subst h2
    have e1 : encs (l ++ [13]) = encs l ++ [13] := by rw [encs_app]; rfl
    have e2 : encs (10 :: t) = 10 :: encs t := by rw [encs_cons]; rfl
    have z1 : (txt (l ++ [13])).size = (encs l).length + 1 := by rw [txt_size, e1]; simp
    have z2 : (txt (10 :: t)).size = (encs t).length + 1 := by rw [txt_size, e2]; simp
    have g1 : (txt (l ++ [13])).get! ((txt (l ++ [13])).size - 1) = 13 := by
      rw [get_txt _ _ (by rw [z1, e1]; simp)]
      simp only [e1, z1]
      simp
    have g2 : (txt (10 :: t)).get! 0 = 10 := by
      rw [get_txt _ _ (by rw [e2]; simp)]
      simp only [e2]
      simp
    unfold apartB at h
    rw [g1, g2, z1, z2] at h
    simp at h
end Go.Proofs.YtgnhfbhmmdnoeaaDoor

/-
  The mappings of a chunk that is made of turns; the place of a step; a place of UTF-8 by its prefix. Conditions: as each lemma says.
-/
import Derived.Test.YtnokiikgnplpmaaDoorM16
import Derived.Test.YtnokiikgnplpmaaDoorM7
import Derived.Test.YtnokiikgnplpmaaDoorM5
import Derived.Test.YtnokiikgnplpmaaDoorM3
import Derived.StillTailTactics
namespace Go.Proofs.YtnokiikgnplpmaaDoor
open Go.RowKit

theorem endT_inv2 (rs : List Nat) (hv : okR rs) (hs : (txt rs).size ≤ 1048576) (tl : List (ByteArray × Int)) (rest : List Nat) (hr : okR rest) (hrz : (txt rest).size ≤ 1048576) (hz : tsz tl ≤ 2097152) :
    ∃ toks, CI (FSt (tabsOf (txt rs)) (mkSteps (txt rs) tl)) (endT rs tl rest) toks ∧ (∀ (i : Nat) (hi : i < (mkSteps (txt rs) tl).length), news (mkSteps (txt rs) tl) i → stSeg (tabsOf (txt rs)) (mkSteps (txt rs) tl) i ((mkSteps (txt rs) tl)[i]'hi).2 ∈ rsegs qz toks) ∧
      (endT rs tl rest).st.gl = ((advI (allR (mkSteps (txt rs) tl) ++ rest) (0, 0)).1 : Int) ∧ (endT rs tl rest).gcol = (advI (allR (mkSteps (txt rs) tl) ++ rest) (0, 0)).2 ∧ (endT rs tl rest).sm.length ≤ 549755813888 ∧ (endT rs tl rest).le 8589934590 := by
  have h1 := allR_len (txt rs) tl
  have h2 := tsz_len tl
  have h3 : (mkSteps (txt rs) tl).length = tl.length := by simp [mkSteps]
  have htd := tabs_bd (txt rs) (by omega)
  rw [txt_size] at hrz
  have hp := fun x hx => (steps_ok rs hv (by omega) tl x hx).1
  obtain ⟨toks, a1, a2, a3, a4, a5⟩ := cend_inv2 (tabsOf (txt rs)) htd.1 (by omega) (mkSteps (txt rs) tl) rest hp (steps_ok2 _ tl).1 (steps_ok2 _ tl).2 hr (by omega)
  exact ⟨toks, a1, a2, a3, a4, cend_short _ htd.1 (by omega) _ rest hp (by omega), a5⟩
theorem specA_any (rs : List Nat) (w : World) (hv : okR rs) (hs : (txt rs).size ≤ 1125899906842624) :
    Calls Tryd.prog 17 #[.agg #[.int .i64 0, .int .i64 0], .string (txt rs)] w fun e w' => e = .returned (.agg #[.int .i64 ((advI rs (0, 0)).1 : Int), .int .i64 ((advI rs (0, 0)).2 : Int)]) ∧ Below w.heap.size w w' :=
  specT_any rs 0 0 w hv hs (by omega) (by omega)
/-- The place of a step in the source: that of the text ahead of it. -/
theorem step_place (rs : List Nat) (hv : okR rs) (tl : List (ByteArray × Int)) (x : List Nat × Nat) (hx : x ∈ mkSteps (txt rs) tl) : ∃ a b, rs = a ++ b ∧ x.2 = (encs a).length ∧ fromT (tabsOf (txt rs)) x.2 = advI a (0, 0) ∧ (txt rs).extract 0 x.2 = txt a ∧ okR a ∧ x.2 ≤ (txt rs).size := by
  unfold mkSteps at hx
  obtain ⟨y, _, rfl⟩ := List.mem_map.1 hx
  obtain ⟨a, b, e1, e2, _, e4, _, e6⟩ := tab_place rs hv _ (stepP_mem (txt rs) y.2)
  refine ⟨a, b, e1, e2, ?_, ?_, fun r hr => hv r (by rw [e1]; simp [hr]), ?_⟩
  · unfold fromT
    simp only
    rw [e4, Nat.add_sub_cancel, e6]
  · simp only
    rw [e2]
    subst e1
    exact (txt_cut a b).1
  · simp only
    rw [e2, e1, txt_size, encs_app, List.length_append]
    omega
theorem adv_small (rs : List Nat) (hv : okR rs) : (advI rs (0, 0)).1 ≤ 2 * (txt rs).size ∧ (advI rs (0, 0)).2 ≤ 2 * (txt rs).size := by
  have key : ∀ (l : List Nat) (p : Nat × Nat), (advI l p).1 ≤ p.1 + l.length ∧ (advI l p).2 ≤ p.2 + 2 * l.length := by
    intro l
    induction l with
    | nil => intro p; exact ⟨Nat.le_refl _, Nat.le_refl _⟩
    | cons c l ih =>
      intro p
      unfold advI
      simp only [List.length_cons]
      split
      · split
        · have := ih (p.1, p.2 + 1); simp only at this; omega
        · have := ih (p.1 + 1, 0); simp only at this; omega
      · have := ih (p.1, p.2 + unitsR c)
        have hu : unitsR c ≤ 2 := by unfold unitsR; split <;> omega
        simp only at this
        omega
  have := key rs (0, 0)
  have h2 := hv.len
  simp only at this
  omega
/-- Advance behind the text ahead of a step. -/
theorem advTo_any (rs : List Nat) (hv : okR rs) (hs : (txt rs).size ≤ 1048576) (tl : List (ByteArray × Int)) (x : List Nat × Nat) (hx : x ∈ mkSteps (txt rs) tl) (w : World) :
    Calls Tryd.prog 17 #[.agg #[.int .i64 0, .int .i64 0], .string ((txt rs).extract 0 x.2)] w fun e w' => e = .returned (.agg #[.int .i64 ((fromT (tabsOf (txt rs)) x.2).1 : Int), .int .i64 ((fromT (tabsOf (txt rs)) x.2).2 : Int)]) ∧ Below w.heap.size w w' := by
  obtain ⟨a, b, e1, e2, e3, e4, e5, e6⟩ := step_place rs hv tl x hx
  rw [e4, e3]
  refine specA_any a w e5 ?_
  rw [← e4, ByteArray.size_extract]
  omega
theorem wf64 (a : Int) (h : -4611686018427387904 ≤ a ∧ a ≤ 4611686018427387904) : (Lit.int .i64 a).wf = true := by
  simp only [Lit.wf, Bool.and_eq_true, decide_eq_true_eq]
  exact ⟨Int.le_trans (by decide) h.1, Int.le_trans h.2 (by decide)⟩
/-- A place as a value. -/
def pv (p : Nat × Nat) : Value := .agg #[.int .i64 (p.1 : Int), .int .i64 (p.2 : Int)]
theorem fromT_small (rs : List Nat) (hv : okR rs) (hs : (txt rs).size ≤ 1048576) (tl : List (ByteArray × Int)) (x : List Nat × Nat) (hx : x ∈ mkSteps (txt rs) tl) : (fromT (tabsOf (txt rs)) x.2).1 ≤ 2097152 ∧ (fromT (tabsOf (txt rs)) x.2).2 ≤ 2097152 := by
  obtain ⟨a, b, e1, e2, e3, e4, e5, e6⟩ := step_place rs hv tl x hx
  have h := adv_small a e5
  have h2 : (txt a).size ≤ 1048576 := by rw [← e4, ByteArray.size_extract]; omega
  rw [e3]
  omega
/-- What comes behind is kept out of sight. -/
theorem still_hide {ops : Array Oper} {w : World} {Q : Act → Prop} {a : Act} {l : List Oper} (h : ∀ Q' : Act → Prop, (∀ a, Q a → Q' a) → wpStill Tryd.prog ops w Q' l a) : wpStill Tryd.prog ops w Q l a := h Q (fun _ h => h)
/-- A look-up in a region that only reads. -/
theorem still_lookup {ops : Array Oper} {w : World} {Q : Act → Prop} {a : Act} {o : Oper} {rest : List Oper} (hg : o.guard = none) (m x : Operand) (t : TypeId) (hop : o.op = Op.lookup t m x false) (mv xv v : Value) (hm : a.eval m = mv) (hx : a.eval x = xv)
    (hrun : (Instr.lookup t mv xv false).run Tryd.prog w = .ok v w) (h : wpStill Tryd.prog ops w Q rest (a.put o.dst v)) : wpStill Tryd.prog ops w Q (o :: rest) a := by
  refine wpStill_step (fun K hK => ?_)
  have hw : Region.wanted o (yielded ops a.tmps) = true := by simp [Region.wanted, hg]
  rw [if_pos hw]
  unfold Oper.still execOp
  simp only [hop, hm, hx, Sem.run_bind, Sem.run_pure, hrun, Result.andThen_ok, Oper.stillUpon_value]
  exact hK _ h
theorem before_any (a b c d : Int) (w : World) : Calls Tryd.prog 18 #[.agg #[.int .i64 a, .int .i64 b], .agg #[.int .i64 c, .int .i64 d]] w fun e w' => e = .returned (.bool (decide (a < c ∨ a = c ∧ b < d))) ∧ Below w.heap.size w w' := by
  have hB := Lib.hid (balloc (balloc (Below.refl w.heap.size w) (.cells #[.int .i64 a, .int .i64 b] 42)) (.cells #[.int .i64 c, .int .i64 d] 42))
  have hX := Lib.hid ((Blk.new w 42 #[.int .i64 a, .int .i64 b]).alloc (.cells #[.int .i64 c, .int .i64 d] 42))
  have hY := Lib.hid (spl_new2 w (.cells #[.int .i64 a, .int .i64 b] 42) 42 #[.int .i64 c, .int .i64 d])
  go_enter Tryd.func18, Tryd.ntmps18
  go_upto_region 1 with fail
  generalize (w.alloc (.cells #[.int .i64 a, .int .i64 b] 42)).alloc (.cells #[.int .i64 c, .int .i64 d] 42) = V at *
  have x0 : V.cell? ⟨w.heap.size, 0, none⟩ = some (.int .i64 a) := hX.out.cell 0
  have x1 : V.cell? ⟨w.heap.size, 1, none⟩ = some (.int .i64 b) := hX.out.cell 1
  have y0 : V.cell? ⟨w.heap.size + 1, 0, none⟩ = some (.int .i64 c) := hY.out.cell 0
  have y1 : V.cell? ⟨w.heap.size + 1, 1, none⟩ = some (.int .i64 d) := hY.out.cell 1
  by_cases h1 : a < c
  · go_wp2_with fail
    go_ret
    exact ⟨by simp [h1], hB.out⟩
  · by_cases h2 : a = c
    · subst h2
      go_wp2_with fail
      go_ret
      exact ⟨by simp, hB.out⟩
    · go_wp2_with fail
      go_ret
      exact ⟨by simp [h1], hB.out⟩
end Go.Proofs.YtnokiikgnplpmaaDoor

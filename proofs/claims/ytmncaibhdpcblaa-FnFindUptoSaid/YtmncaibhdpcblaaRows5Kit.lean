/-
  An argument that is a slice of rows of five numbers, opened. Conditions: each number is one cell.
-/
import Derived.Test.YtmncaibhdpcblaaRows
import Derived.ProofKit
import Derived.OpenShut
import Derived.ChangeSlices
import Derived.SizedLaws
import Derived.Deep.Slices
import Derived.Lib.LaidU8
namespace Go.Proofs.Ytmncaibhdpcblaa
open Go.RowKit Go.WideShapes Go.ChangeShapes
section
variable {H : Type} {enc : TypeId × Value → H} {P : Program} {w : World} {base : Nat} {held : Bool}

theorem bulk_one {H : Type} (d : DataW H) : 1 ≤ Rows.uptoBulk d := by
  cases d with
  | lit l => cases l <;> simp [Rows.uptoBulk]
  | nil => simp [Rows.uptoBulk]
  | ptr d => simp [Rows.uptoBulk]
  | slice elems spare => simp [Rows.uptoBulk]
  | agg parts => simp [Rows.uptoBulk]
  | iface t d => simp [Rows.uptoBulk]
  | map entries => simp [Rows.uptoBulk]
  | held h => simp [Rows.uptoBulk]
theorem bulk_len {H : Type} (l : List (DataW H)) : l.length ≤ Rows.uptoBulkAll l := by
  induction l with
  | nil => simp [Rows.uptoBulkAll]
  | cons x r ih => have := bulk_one x; simp only [Rows.uptoBulkAll, List.length_cons]; omega

/-- Rows of five numbers in memory. -/
def At5 (w : World) (A : Option Addr) (n : Nat) (Z : Nat → Nat → Int) : Prop := 0 < n → ∃ R o, A = some ⟨R, o, none⟩ ∧ ∀ i j, i < n → j < 5 → w.cell? ⟨R, o + i * 5 + j, none⟩ = some (.int .i64 (Z i j))

theorem cells_at {a : Addr} {n : Nat} {cs : List Value} (h : w.cells? base a n = some cs) (j : Nat) (hj : j < n) : w.cell? (a.add j) = cs[j]? := by
  unfold World.cells? at h
  split at h
  · exact mapM_some_get h j j (by simp [hj])
  · cases h

theorem open_rows5 {t e te : TypeId} {r : Reach} {b0 : Nat} {v : Value} {d : DataW H} {p : List MemPlace} (ht : P.underlying t = some (.slice e)) (he : P.underlying e = some (.array 5 te)) (hte : P.underlying te = some (.int .i64)) (hce : P.cellsOf e = 5) (hct : P.cellsOf te = 1)
    (hv : Value.okWide P w r b0 t v) (h : DataW.Trod enc P w base (fun _ => true) held t v d p) :
    ∃ (A : Option Addr) (n cap : Nat) (Z : Nat → Nat → Int), v = .slice A n cap ∧ At5 w A n Z ∧ n ≤ Rows.uptoBulk d ∧ (A = none → n = 0 ∧ cap = 0) := by
  obtain ⟨a0, len, cap, rfl⟩ := okWide_slice ht hv
  obtain ⟨fuel, hf⟩ := h
  rcases Go.Deep.open_slice ht hf with ⟨hcs, hx⟩ | ⟨a, len1, cap1, m, n, D, Pl, hcs, _, hl, _, hm, hx, hel⟩
  · simp [Value.cells] at hcs
    obtain ⟨rfl, rfl, rfl⟩ := hcs
    exact ⟨none, 0, 0, fun _ _ => 0, rfl, fun q => absurd q (Nat.lt_irrefl _), Nat.zero_le _, fun _ => ⟨rfl, rfl⟩⟩
  · simp [Value.cells] at hcs
    obtain ⟨rfl, rfl, rfl⟩ := hcs
    simp only [if_true] at hm
    have each : ∀ i, i < len → ∃ z : Nat → Int, ∀ j, j < 5 → w.cell? (a.add (i * 5 + j)) = some (.int .i64 (z j)) := by
      intro i hi
      obtain ⟨cs', hc', ht'⟩ := hel i (by omega)
      rw [hce] at hc'
      obtain ⟨xs, m', _, _, hlen, hxl, hxs⟩ := DataW.trod_array he ht'
      rw [hce] at hlen
      have hj : ∀ j, j < 5 → ∃ z, cs'[j]? = some (.int .i64 z) := by
        intro j hj
        have h1 := hxs j hj
        rw [hct, Nat.mul_one] at h1
        obtain ⟨y, hy⟩ : ∃ y, xs[j]? = some y := ⟨xs[j], List.getElem?_eq_getElem (by omega)⟩
        rw [hy] at h1
        obtain ⟨z, hz, _, _⟩ := DataW.trod_int hte h1
        refine ⟨z, ?_⟩
        have h2 := congrArg (·[0]?) hz
        simpa using h2
      obtain ⟨z, hz⟩ := Go.Deep.choose_lt hj
      refine ⟨z, fun j hj => ?_⟩
      rw [← Go.Deep.add_add, cells_at hc' j hj, hz j hj]
    obtain ⟨Z, hZ⟩ := Go.Deep.choose_lt each
    have hd : d = .slice ((List.range len).map D) ((List.range (m - len)).map fun j => D (len + j)) := (Prod.mk.inj hx).1
    refine ⟨some a, len, cap, Z, rfl, fun hpos => ?_, ?_, fun q => by cases q⟩
    · obtain ⟨b, o, sp⟩ := a
      have h0 := hZ 0 hpos 0 (by omega)
      have e0 : (Addr.add ⟨b, o, sp⟩ (0 * 5 + 0)) = ⟨b, o, sp⟩ := by simp [Addr.add]
      rw [e0] at h0
      obtain rfl : sp = none := Go.Proofs.cell_spot h0
      refine ⟨b, o, rfl, fun i j hi hj => ?_⟩
      have h1 := hZ i hi j hj
      rw [Addr.add_lit, ← Nat.add_assoc] at h1
      exact h1
    · rw [hd]
      have := bulk_len ((List.range len).map D)
      simp only [Rows.uptoBulk]
      simp at this
      omega
end
end Go.Proofs.Ytmncaibhdpcblaa

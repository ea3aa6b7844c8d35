/-
  The contract of (*ChunkBuilder).appendMapping without a name and without an input map: it is appendMappingWithoutRemapping. Conditions: the numbers of both states are below 2^38.
-/
import Derived.Test.YtnokiikgnplpmaaDoorBldFn
namespace Go.Proofs.YtnokiikgnplpmaaDoor
open Go.RowKit

/-- New blocks first, then an operation of the builder. -/
theorem Bst.after {w w0 w' : World} {g : Nat} {v v' : Value} (h : Below w.heap.size w w0) (k : Bst w0 g v w' v') : Bst w g v w' v' := by
  obtain ⟨k1, k2⟩ := k
  refine ⟨(Kep.of_below h).then k1 fun i hi => .inl hi, ?_⟩
  rcases k2 with e | ⟨q, hq, e⟩
  · exact .inl e
  · exact .inr ⟨q, by have := h.size; omega, e⟩
theorem Bld.after {w w0 : World} {g base : Nat} {v mp tv : Value} {d : Bd} (h : Bld w g base v mp tv d) (hb : Below w.heap.size w w0) : Bld w0 g base v mp tv d :=
  ⟨h.1.kep (Kep.of_below (X := fun _ => False) hb) (fun q => q), h.2.1.kept_below hb, h.2.2.1, Nat.le_trans h.2.2.2 hb.size⟩

set_option maxHeartbeats 1000000 in
set_option maxRecDepth 100000 in
theorem addmap_any (w : World) (g base B : Nat) (v mp tv : Value) (d : Bd) (c : St) (h : Bld w g base v mp tv d) (hT : B64 B w) (hB : B ≤ g) (hn : d.sm.length ≤ 549755813888) (hp : d.st.ok) (hc : c.ok) :
    Calls Tryd.prog 47 #[.pointer (some ⟨g, 0, none⟩), .string ByteArray.empty, .agg c.cells] w fun e w' => e = .returned (.tuple #[]) ∧ ∃ v', Bld w' g base v' mp tv (d.emit c) ∧ Bst w g v w' v' := by
  have c0 : w.cell? ⟨g, 0, none⟩ = some (.pointer none) := h.1.cell 0
  have hgw : g < w.heap.size := h.1.lt
  obtain ⟨cgl, cgc, csi, col, coc, con⟩ := c
  show Calls Tryd.prog 47 #[.pointer (some ⟨g, 0, none⟩), .string ByteArray.empty, .agg #[.int .i64 cgl, .int .i64 cgc, .int .i64 csi, .int .i64 col, .int .i64 coc, .int .i64 con, .bool false]] w _
  have hb0 : Below w.heap.size w (w.alloc (.cells #[.int .i64 cgl, .int .i64 cgc, .int .i64 csi, .int .i64 col, .int .i64 coc, .int .i64 con, .bool false] 77)) := balloc (Below.refl _ _) _
  go_enter Tryd.func47, Tryd.ntmps47
  go_wp2_with fail
  refine (emit_any _ g base B v mp tv d ⟨cgl, cgc, csi, col, coc, con⟩ (h.after hb0) (hT.below (hb0.mono (by omega))) hB hn hp hc).mono ?_
  rintro e w1 ⟨rfl, v1, h1, h2⟩
  go_wp2_with fail
  go_end0
  exact ⟨rfl, v1, h1, h2.after hb0⟩
end Go.Proofs.YtnokiikgnplpmaaDoor

/-
  Arguments that are rows of integers, opened to their numbers. Conditions: each element is one cell.
-/
import Derived.Test.YtahfnlhpodbbaaaDoorProg
import Derived.ProofKit
import Derived.OpenShut
import Derived.ChangeSlices
import Derived.SizedLaws
import Derived.KernelRfl
import Derived.Lib.LaidPrint
namespace Go.Proofs.YtahfnlhpodbbaaaDoor
open Go.RowKit Go.WideShapes Go.ChangeShapes
section
variable {H : Type} {enc : TypeId × Value → H} {P : Program} {w : World} {base : Nat} {held : Bool}

/-- A row of integers in memory. -/
def IntRow (k : IntKind) (w : World) (a : Option Addr) (zs : List Int) : Prop := ∀ i (h : i < zs.length), ∃ b o, a = some ⟨b, o, none⟩ ∧ b < w.heap.size ∧ w.cell? ⟨b, o + i, none⟩ = some (.int k zs[i])

theorem cell_in {w : World} {p : Addr} {v : Value} (h : w.cell? p = some v) : p.block < w.heap.size := by
  rcases Nat.lt_or_ge p.block w.heap.size with h1 | h1
  · exact h1
  · simp [World.cell?, Array.getElem?_eq_none h1] at h

theorem open_introw {t e : TypeId} {k : IntKind} {r : Reach} {b0 : Nat} {v : Value} {d : DataW H} {p : List MemPlace} (ht : P.underlying t = some (.slice e)) (he : P.underlying e = some (.int k)) (hc : P.cellsOf e = 1)
    (hv : Value.okWide P w r b0 t v) (h : DataW.Trod enc P w base (fun _ => true) held t v d p) :
    ∃ (a : Option Addr) (cap : Nat) (zs : List Int), v = .slice a zs.length cap ∧ IntRow k w a zs ∧ (∀ z ∈ zs, (Lit.int k z).wf = true) ∧ ((a = none ∧ cap = 0 ∧ zs = []) ∨ ∃ b rest, a = some b ∧ zs.length ≤ cap ∧ d = .slice (Go.ChangeShapes.lits k zs) rest) := by
  obtain ⟨a0, len, cap, rfl⟩ := okWide_slice ht hv
  obtain ⟨fuel, hf⟩ := h
  rcases Go.ChangeShapes.open_ints ht he hc hf with ⟨hcs, hx⟩ | ⟨a, len1, cap1, zs, hcs, _, hl, hm, hz, hx, hcell, hwz⟩
  · simp [Value.cells] at hcs
    obtain ⟨rfl, rfl, rfl⟩ := hcs
    exact ⟨none, 0, [], rfl, fun i h => by simp at h, by simp, .inl ⟨rfl, rfl, rfl⟩⟩
  · simp [Value.cells] at hcs
    obtain ⟨rfl, rfl, rfl⟩ := hcs
    simp at hz
    have hlen : (zs.take len).length = len := by simp; omega
    refine ⟨some a, cap, zs.take len, by rw [hlen], fun i hi => ?_, fun z hzm => hwz z (List.mem_of_mem_take hzm), .inr ⟨a, _, rfl, by omega, by rw [(Prod.mk.inj hx).1]⟩⟩
    rw [hlen] at hi
    have h1 := hcell i (by omega)
    obtain ⟨b, o, sp⟩ := a
    obtain rfl : sp = none := by
      have h0 := hcell 0 (by omega)
      have e0 : (Addr.add ⟨b, o, sp⟩ 0) = ⟨b, o, sp⟩ := by simp [Addr.add]
      rw [e0] at h0
      exact Go.Proofs.cell_spot h0
    rw [Addr.add_lit] at h1
    refine ⟨b, o, rfl, cell_in h1, ?_⟩
    rw [h1]
    simp [List.getD, show i < zs.length by omega]
end
end Go.Proofs.YtahfnlhpodbbaaaDoor

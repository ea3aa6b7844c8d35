/-
  The contract of impl.Decode: a number of a text is read. Conditions: as it says.
-/
import Derived.Test.YtahfnlhpodbbaaaDoorDecFn
import Derived.Test.YtahfnlhpodbbaaaDoorNumFn
import Derived.Laws.IdiomStrings
import Derived.Lib.ConvBytes
namespace Go.Proofs.YtahfnlhpodbbaaaDoor
open Go.RowKit

theorem tx_getD (l : List Nat) (j : Nat) (h : j < l.length) : ((tx l).data.toList.getD j 0).toNat = sg l[j] % 256 := by
  simp [tx, List.getD, h]

set_option maxHeartbeats 1000000 in
set_option maxRecDepth 100000 in
/-- A text that has a number's digits behind i bytes. -/
theorem dec_any (s : ByteArray) (i B : Nat) (l : List Nat) (d : Nat) (w : World) (hT : B64 B w) (hB : B ≤ w.heap.size) (hn : s.size ≤ 1152921504606846976) (hi : i + l.length + 1 ≤ s.size)
    (hc : ∀ j (h : j < (l ++ [d]).length), (s.data.toList.getD (i + j) 0).toNat = sg ((l ++ [d])[j])) (hl : ∀ y ∈ l, 32 ≤ y ∧ y < 64) (hd : d < 32) (hlen : l.length ≤ 11) :
    Calls Tryd.prog 12 #[.string s, .int .i64 (i : Int)] w fun e w' => e = .returned (.tuple #[.int .i64 (unvl (val (l ++ [d]))), .int .i64 ((i + l.length + 1 : Nat) : Int)]) ∧ Below w.heap.size w w' := by
  go_enter Tryd.func12, Tryd.ntmps12
  go_wp2_with fail
  rw [Lib.run_convert_string_bytes w 9 41 5 s Tryd.underlying9 Tryd.underlying41 Tryd.underlying5]
  simp only [Result.andThen]
  rw [Oper.upon_value]
  have hbel : Below w.heap.size w (Lib.bytesWorld w 5 s) := ⟨rfl, rfl, rfl, by rw [Lib.bytesWorld_size]; omega, fun k hk => Lib.bytesWorld_at_old w _ s k hk⟩
  have hcl : ∀ j, j < s.size → (Lib.bytesWorld w 5 s).cell? ⟨w.heap.size, j, none⟩ = _ := fun j hj => Lib.bytesWorld_cell w 5 s j hj
  have hT2 : B64 B (Lib.bytesWorld w 5 s) := hT.below (hbel.mono hB)
  generalize Lib.bytesWorld w 5 s = W1 at *
  generalize grownCap w s.size 0 5 = cap at *
  go_wp2_with fail
  refine (decode_any w.heap.size 0 s.size cap i B l d W1 hT2 hn hi (fun j h => ?_) hl hd hlen).mono ?_
  · rw [← hc j h, Nat.zero_add]
    exact hcl _ (by simp at h; omega)
  · rintro e w1 ⟨rfl, m, rfl⟩
    go_wp2_with fail
    go_ret2
    exact ⟨rfl, ⟨hbel.os, hbel.tape, hbel.output, hbel.size, hbel.block⟩⟩
end Go.Proofs.YtahfnlhpodbbaaaDoor

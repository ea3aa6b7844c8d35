/-
  The contract of impl.Advance: the place behind a text, by its bytes or as a string. Conditions: all numbers are below 2^60; the two tables of unicode/utf8 hold what their text lays.
-/
import Derived.Test.YtgnhfbhmmdnoeaaDoorAdvBytesFn
import Derived.Laws.IdiomStrings
import Derived.Lib.ConvBytes
namespace Go.Proofs.YtgnhfbhmmdnoeaaDoor
open Go.RowKit

theorem byte_cell (s : ByteArray) (j : Nat) (h : j < s.size) : (s.data.toList.getD j 0).toNat = (s.get! j).toNat := by
  rw [get_bang s j h]
  exact (btn_get s j h).symm

set_option maxHeartbeats 2000000 in
set_option maxRecDepth 100000 in
theorem implAdv_any (s : ByteArray) (L C : Nat) (by_ : Bool) (w : World) (hs : s.size ≤ 1125899906842624) (hL : L ≤ 1152921504606846976) (hC : C ≤ 1152921504606846976) (hT : Tabs8 w) :
    Calls Tryd.prog 12 #[.int .i64 (L : Int), .int .i64 (C : Int), .string s, .bool by_] w fun e w' => e = .returned (.tuple #[.int .i64 ((advI (runes s s.size 0) (L, C)).1 : Int), .int .i64 ((advI (runes s s.size 0) (L, C)).2 : Int)]) ∧ Below w.heap.size w w' := by
  have s0 : 0 < w.heap.size := cell_lt8 (hT.1 0 (by omega))
  have s1 : 1 < w.heap.size := cell_lt8 (hT.2 0 (by omega)).1
  generalize hR : advI (runes s s.size 0) (L, C) = R
  have HR := Lib.hid hR
  clear hR
  cases by_
  · go_enter Tryd.func12, Tryd.ntmps12
    go_wp2_with fail
    refine (advStr_any s w.heap.size L C _ hs (Blk.new w 37 (pl L C)) hL hC).mono ?_
    rintro e w1 ⟨rfl, hB, hK⟩
    rw [HR.out] at hB
    have hBel : Below w.heap.size w w1 := (balloc (Below.refl w.heap.size w) _).trans (hK.below (by simp) (fun k hk e => by omega))
    have g0 : w1.cell? ⟨w.heap.size, 0, none⟩ = some (.int .i64 (R.1 : Int)) := hB.cell 0
    have g1 : w1.cell? ⟨w.heap.size, 1, none⟩ = some (.int .i64 (R.2 : Int)) := hB.cell 1
    have HB := Lib.hid hBel
    clear hK hB hBel
    go_wp2_with fail
    go_quiet (fail)
    go_wp2_with fail
    go_ret2
    exact ⟨rfl, ⟨HB.out.os, HB.out.tape, HB.out.output, HB.out.size, HB.out.block⟩⟩
  · go_enter Tryd.func12, Tryd.ntmps12
    go_wp2_with fail
    rw [Lib.run_convert_string_bytes _ 9 39 5 s Tryd.underlying9 Tryd.underlying39 Tryd.underlying5]
    simp only [Result.andThen]
    rw [Oper.upon_value]
    have hB0 := Blk.new w 37 #[.int .i64 (L : Int), .int .i64 (C : Int)]
    have e0 : (w.alloc (.cells #[.int .i64 (L : Int), .int .i64 (C : Int)] 37)).heap.size = w.heap.size + 1 := by simp
    have hb0 : Below w.heap.size w (w.alloc (.cells #[.int .i64 (L : Int), .int .i64 (C : Int)] 37)) := balloc (Below.refl w.heap.size w) _
    have hK0 : Kep (fun _ => False) (w.alloc (.cells #[.int .i64 (L : Int), .int .i64 (C : Int)] 37)) (Lib.bytesWorld (w.alloc (.cells #[.int .i64 (L : Int), .int .i64 (C : Int)] 37)) 5 s) := ⟨rfl, rfl, rfl, by rw [Lib.bytesWorld_size]; omega, fun k hk _ => Lib.bytesWorld_at_old _ _ s k hk⟩
    have hcl : ∀ j, j < s.size → (Lib.bytesWorld (w.alloc (.cells #[.int .i64 (L : Int), .int .i64 (C : Int)] 37)) 5 s).cell? ⟨(w.alloc (.cells #[.int .i64 (L : Int), .int .i64 (C : Int)] 37)).heap.size, j, none⟩ = _ := fun j hj => Lib.bytesWorld_cell _ 5 s j hj
    have hcap := grownCap_ge (w.alloc (.cells #[.int .i64 (L : Int), .int .i64 (C : Int)] 37)) s.size 0 5
    rw [e0] at hcl
    have hB1 := hB0.kep hK0 (fun q => q)
    have hb1 : Below w.heap.size w (Lib.bytesWorld (w.alloc (.cells #[.int .i64 (L : Int), .int .i64 (C : Int)] 37)) 5 s) := hb0.trans (hK0.below (by rw [e0]; omega) (fun _ _ q => q))
    have hT1 : Tabs8 (Lib.bytesWorld (w.alloc (.cells #[.int .i64 (L : Int), .int .i64 (C : Int)] 37)) 5 s) := hT.kep (Kep.of_below (X := fun _ => False) hb1) (fun q => q) (fun q => q)
    rw [e0]
    generalize Lib.bytesWorld (w.alloc (.cells #[.int .i64 (L : Int), .int .i64 (C : Int)] 37)) 5 s = W1 at *
    generalize grownCap (w.alloc (.cells #[.int .i64 (L : Int), .int .i64 (C : Int)] 37)) s.size 0 5 = cap at *
    clear hK0 hB0 hb0 e0
    go_wp2_with fail
    refine (advBytes_any s w.heap.size L C (w.heap.size + 1) 0 cap W1 hs hcap hB1 hL hC hT1 (by omega) (by omega) (by omega) (fun j hj => by rw [Nat.zero_add, ← byte_cell s j hj]; exact hcl j hj)).mono ?_
    rintro e w2 ⟨rfl, hB, hK⟩
    rw [HR.out] at hB
    have hBel : Below w.heap.size w w2 := hb1.trans (hK.below hb1.size (fun k hk e => by omega))
    have g0 : w2.cell? ⟨w.heap.size, 0, none⟩ = some (.int .i64 (R.1 : Int)) := hB.cell 0
    have g1 : w2.cell? ⟨w.heap.size, 1, none⟩ = some (.int .i64 (R.2 : Int)) := hB.cell 1
    have HB := Lib.hid hBel
    clear hK hB hBel hcl hb1 hB1 hT1
    go_wp2_with fail
    go_quiet (fail)
    go_wp2_with fail
    go_ret2
    exact ⟨rfl, ⟨HB.out.os, HB.out.tape, HB.out.output, HB.out.size, HB.out.block⟩⟩
end Go.Proofs.YtgnhfbhmmdnoeaaDoor

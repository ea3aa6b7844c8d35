/-
  The contract of sourcemap.MakeChunkBuilder without an input map. Conditions: none.
-/
import Derived.Test.YtnokiikgnplpmaaDoorBldFn
import Derived.Test.YtnokiikgnplpmaaDoorSetKit
import Derived.Carry
import Derived.Great.BuildSlice
namespace Go.Proofs.YtnokiikgnplpmaaDoor
open Go.RowKit

/-- A new builder. -/
def Bd.zero : Bd := ⟨[], ⟨0, 0, 0, 0, 0, 0⟩, 0, 0, 0, -1, false, false⟩
def bdz : Array Value := #[.pointer none, .slice none 0 0, .slice none 0 0, .map none, .slice none 0 0, .string ByteArray.empty, .int .i64 0, .int .i64 0, .int .i64 0, .int .i64 0, .int .i64 0, .int .i64 0, .bool false, .int .i64 0, .int .i64 0, .int .i64 0, .int .i32 0, .int .u32 0, .bool false, .bool false, .bool false, .bool false]
theorem size_bd : (Tryd.prog.info? 84).map (·.size) = some 22 := by kernel_rfl
theorem cells_one (d : Bd) (a : Option Addr) (n c mp : Nat) : (d.cells (.slice none 0 0) (.map (some mp)) (.slice a n c)).all (·.oneCell') = true := by
  simp [Bd.cells, Value.oneCell']

theorem built_bd (a : Option Addr) (n c mp : Nat) : Tryd.prog.built 84 [(0, .pointer none), (10, .agg #[.int .i32 (-1)]), (4, .slice a n c), (13, .bool false), (3, .map (some mp)), (15, .bool true)] = some (Bd.zero.cells (.slice none 0 0) (.map (some mp)) (.slice a n c)) := by kernel_rfl

set_option maxHeartbeats 2000000 in
set_option maxRecDepth 100000 in
theorem make_any (a : Option Addr) (n c : Nat) (w : World) :
    Calls Tryd.prog 29 #[.pointer none, .slice a n c, .bool false] w fun e w' => ∃ mp : Nat, e = .returned (.agg (Bd.zero.cells (.slice none 0 0) (.map (some mp)) (.slice a n c))) ∧ Below w.heap.size w w' := by
  have hmm := @run_makeMap Tryd.prog
  go_enter Tryd.func29, Tryd.ntmps29
  go_upto_region 1 with fail
  have hb0 : Blk (w.alloc (.cells bdz 84)) w.heap.size 84 bdz := Blk.new _ _ _
  have hall := cells_one Bd.zero a n c (w.heap.size + 1)
  have hbu := built_bd a n c (w.heap.size + 1)
  have hsz : (Bd.zero.cells (.slice none 0 0) (.map (some (w.heap.size + 1))) (.slice a n c)).size = 22 := rfl
  have hex : ∃ mp : Nat, Bd.zero.cells (.slice none 0 0) (.map (some (w.heap.size + 1))) (.slice a n c) = Bd.zero.cells (.slice none 0 0) (.map (some mp)) (.slice a n c) := ⟨_, rfl⟩
  generalize Bd.zero.cells (.slice none 0 0) (.map (some (w.heap.size + 1))) (.slice a n c) = cs at *
  have HB := Lib.hid hbu
  have HA := Lib.hid hall
  have HS := Lib.hid hsz
  have HE := Lib.hid hex
  clear hbu hall hsz hex
  go_wp2_with (first | (refine wpList_buildTo rfl 84 #[(0, .tmp 7), (10, .tmp 8), (4, .tmp 9), (13, .tmp 10), (3, .tmp 11), (15, .tmp 13)] rfl (some 14) rfl cs ?_ ?_; (simp [Act.eval]); exact HB.out) | (refine wpList_store_blk rfl 84 (.tmp 6) (.tmp 14) rfl w.heap.size 84 bdz cs rfl rfl (hb0.alloc _) HS.out (by rw [size_bd, HS.out]) HA.out ?_; intro w' hb' hk' hz'; clear hz'))
  obtain ⟨mp, hmp⟩ := HE.out
  refine bodyPost_ret (v := .agg cs) (results_cell_row (p := 6) (ty := 84) rfl _ _ w.heap.size _ cs (0, 0) _ rfl hb' Tryd.underlying84 rfl (by rw [size_bd, HS.out])) rfl ⟨mp, by rw [hmp], ?_⟩
  exact ((Kep.of_below (X := fun k => k = w.heap.size) (balloc (balloc (Below.refl _ _) _) _)).then hk' (fun i hi => .inl hi)).below (Nat.le_refl _) (fun k hk e => by omega)
end Go.Proofs.YtnokiikgnplpmaaDoor

/-
  The contract of unicode/utf8.DecodeRune, the library's, at this program's numbers. Conditions: the two tables of unicode/utf8 hold what their text lays.
-/
import Derived.Test.YtgnhfbhmmdnoeaaDoorKit
import Derived.Shelf.Spec.DecodeRune
namespace Go.Proofs.YtgnhfbhmmdnoeaaDoor
open Go.RowKit Go.Shelf

/-- The numbers that the contract speaks of, as this program has them. -/
def renD : Ren := ⟨fun | 32 => 21 | 49 => 22 | _ => 0,
  fun | 0 => 0 | 3 => 3 | 4 => 4 | 5 => 5 | 21 => 21 | 25 => 47 | 30 => 39 | 33 => 44 | 66 => 46 | 68 => 49 | 69 => 50 | _ => 0,
  fun | 2 => 0 | 3 => 1 | _ => 0⟩
theorem laysD : Lays7.n32 Tryd.prog renD := {
  mixed := by kernel_rfl
  f32 := by kernel_rfl
  f49 := by kernel_rfl
  t0 := by kernel_rfl
  a0 := fun _ => by kernel_rfl
  z0 := fun _ => by kernel_rfl
  v0 := fun _ => by kernel_rfl
  i0 := by kernel_rfl
  t3 := by kernel_rfl
  a3 := fun _ => by kernel_rfl
  z3 := fun _ => by kernel_rfl
  v3 := fun _ => by kernel_rfl
  i3 := by kernel_rfl
  t4 := by kernel_rfl
  a4 := fun _ => by kernel_rfl
  z4 := fun _ => by kernel_rfl
  v4 := fun _ => by kernel_rfl
  i4 := by kernel_rfl
  t5 := by kernel_rfl
  a5 := fun _ => by kernel_rfl
  z5 := fun _ => by kernel_rfl
  v5 := fun _ => by kernel_rfl
  i5 := by kernel_rfl
  t21 := by kernel_rfl
  a21 := fun _ => by kernel_rfl
  z21 := fun _ => by kernel_rfl
  v21 := fun _ => by kernel_rfl
  i21 := by kernel_rfl
  t25 := by kernel_rfl
  a25 := fun _ => by kernel_rfl
  z25 := fun _ => by kernel_rfl
  v25 := fun _ => by kernel_rfl
  i25 := by kernel_rfl
  t30 := by kernel_rfl
  a30 := fun _ => by kernel_rfl
  z30 := fun _ => by kernel_rfl
  v30 := fun _ => by kernel_rfl
  i30 := by kernel_rfl
  t33 := by kernel_rfl
  a33 := fun _ => by kernel_rfl
  z33 := fun _ => by kernel_rfl
  v33 := fun _ => by kernel_rfl
  i33 := by kernel_rfl
  t66 := by kernel_rfl
  a66 := fun _ => by kernel_rfl
  z66 := fun _ => by kernel_rfl
  t68 := by kernel_rfl
  a68 := fun _ => by kernel_rfl
  z68 := fun _ => by kernel_rfl
  v68 := fun _ => by kernel_rfl
  i68 := by kernel_rfl
  t69 := by kernel_rfl
  a69 := fun _ => by kernel_rfl
  z69 := fun _ => by kernel_rfl
  v69 := fun _ => by kernel_rfl
  i69 := by kernel_rfl
  g2 := by kernel_rfl
  g3 := by kernel_rfl }
/-- The two tables lie in their variables. -/
def Tabs8 (w : World) : Prop := Lib.Utf8Tabs 0 1 w
theorem decRune_any (s : ByteArray) (b off cap : Nat) (w : World) (hT : Tabs8 w) (hp : ∀ j, j < s.size → w.cell? ⟨b, off + j, none⟩ = some (.int .u8 (s.get! j).toNat)) :
    Calls Tryd.prog 21 #[.slice (some ⟨b, off, none⟩) s.size cap] w fun e w' => e = .returned (.tuple #[.int .i32 (Lib.decodeGo s).1, .int .i64 (Lib.decodeGo s).2]) ∧ Below w.heap.size w w' :=
  Any7.utf8_DecodeRune (P := Tryd.prog) (ρ := renD) laysD s b off cap w hT hp
end Go.Proofs.YtgnhfbhmmdnoeaaDoor

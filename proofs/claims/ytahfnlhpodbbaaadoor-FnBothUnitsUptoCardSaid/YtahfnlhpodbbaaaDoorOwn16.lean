/-
  What impl.Decode16 reads of a row of units that is the walk's own. Conditions: as it says.
-/
import Derived.Test.YtahfnlhpodbbaaaDoorUnitsFn
import Derived.Test.YtahfnlhpodbbaaaDoorNumLaw
import Derived.Laws.OwnMore
namespace Go.Proofs.YtahfnlhpodbbaaaDoor
open Go.RowKit

theorem own_cells {w : World} {base n : Nat} {v : Value} {xs : List Value} {t : TypeId} (h : w.ownsRow base t 1 v n xs) :
    (v = .slice none 0 0 ∧ n = 0) ∨ ∃ g cap, v = .slice (some ⟨g, 0, none⟩) n cap ∧ base ≤ g ∧ g < w.heap.size ∧ ∀ j, j < n → w.cell? ⟨g, j, none⟩ = xs[j]? := by
  have h0 := h
  have hlt := h.lt
  obtain ⟨hx, h⟩ := h
  rcases h with ⟨rfl, hn⟩ | ⟨g, cap, cur, rfl, hgb, _⟩
  · left
    exact ⟨rfl, by simpa using hn⟩
  · right
    have := hlt g rfl
    exact ⟨g, cap, rfl, this.1, this.2, fun j hj => h0.cellAt j (by omega)⟩

def read64 (l : List Nat) : Option Nat → Value
  | none => .tuple #[.int .i64 0, .int .i64 0, .bool false]
  | some d => .tuple #[.int .i64 (unvl (val (l ++ [d]))), .int .i64 ((l.length + 1 : Nat) : Int), .bool true]

theorem unvl_in (x : Nat) (h : x < 2147483648) : -2147483648 ≤ unvl x ∧ unvl x ≤ 2147483647 := by unfold unvl; split <;> omega

theorem own16 (base n B : Nat) (v : Value) (xs : List Value) (w : World) (hT : B64 B w) (hown : w.ownsRow base 35 1 v n xs) (hn : n ≤ 1152921504606846976) (l : List Nat) (tl : Option Nat) (hi : l.length + tl.toList.length ≤ n) (ht : tl = none → n = l.length)
    (hc : ∀ j (h : j < (l ++ tl.toList).length), xs[j]? = some (.int .u16 (sg ((l ++ tl.toList)[j]) : Int))) (hl : ∀ y ∈ l, 32 ≤ y ∧ y < 64) (hd : ∀ d, tl = some d → d < 32) (hlen : l.length ≤ 6) (hval : val (l ++ tl.toList) < 2147483648) :
    Calls Tryd.prog 14 #[v] w fun e w' => e = .returned (read64 l tl) ∧ ∃ m, w' = w.drewN m := by
  have hempty : n = 0 → tl = none := by
    intro h0
    cases tl with
    | none => rfl
    | some d => simp at hi; omega
  rcases own_cells hown with ⟨rfl, h0⟩ | ⟨g, cap, rfl, _, _, hcell⟩
  · rw [hempty h0]
    exact impl16_any _ 0 0 false w (by decide) (by decide) (decode16_empty none 0 w)
  · by_cases h0 : n = 0
    · rw [hempty h0, h0]
      exact impl16_any _ 0 0 false w (by decide) (by decide) (decode16_empty _ cap w)
    · have hk := decode16_any g 0 n cap B l tl w hT hn (by omega) hi ht (fun j h => by rw [Nat.zero_add, hcell j (by simp at h; omega)]; exact hc j h) hl hd hlen hval
      cases tl with
      | none => exact impl16_any _ 0 0 false w (by decide) (by decide) hk
      | some d =>
        have hu := unvl_in (val (l ++ [d])) hval
        exact impl16_any _ _ _ true w hu.1 hu.2 hk
end Go.Proofs.YtahfnlhpodbbaaaDoor

/-
  Rows of five numbers, put behind one row: append's own laws joined. Conditions: at most 2^21 rows.
-/
import Derived.Test.YtmncaibhdpcblaaRows5Kit
import Derived.Test.YtmncaibhdpcblaaOwnKit
import Derived.Laws.AppendOwnNone
namespace Go.Proofs.Ytmncaibhdpcblaa
open Go.RowKit

/-- One row more, ahead of the others. -/
def consZ (a : Nat → Int) (Z : Nat → Nat → Int) : Nat → Nat → Int
  | 0 => a
  | i + 1 => Z i
def row5 (a : Nat → Int) : List Value := [.int .i64 (a 0), .int .i64 (a 1), .int .i64 (a 2), .int .i64 (a 3), .int .i64 (a 4)]
def rows5 (Z : Nat → Nat → Int) (n : Nat) : List Value := (List.range n).flatMap fun i => row5 (Z i)
theorem rows5_len (Z : Nat → Nat → Int) (n : Nat) : (rows5 Z n).length = n * 5 := by
  induction n with
  | zero => rfl
  | succ n ih =>
    have : rows5 Z (n + 1) = rows5 Z n ++ row5 (Z n) := by simp [rows5, List.range_succ]
    rw [this, List.length_append, ih]
    simp [row5]
    omega
theorem row5_at (a : Nat → Int) (j : Nat) (h : j < 5) : (row5 a)[j]? = some (.int .i64 (a j)) := by
  match j, h with
  | 0, _ => rfl
  | 1, _ => rfl
  | 2, _ => rfl
  | 3, _ => rfl
  | 4, _ => rfl
theorem rows5_at (Z : Nat → Nat → Int) (n i j : Nat) (hi : i < n) (hj : j < 5) : (rows5 Z n)[i * 5 + j]? = some (.int .i64 (Z i j)) := by
  induction n with
  | zero => omega
  | succ n ih =>
    have e : rows5 Z (n + 1) = rows5 Z n ++ row5 (Z n) := by simp [rows5, List.range_succ]
    rw [e]
    rcases Nat.lt_or_ge i n with h | h
    · rw [List.getElem?_append_left (by rw [rows5_len]; omega)]
      exact ih h
    · obtain rfl : i = n := by omega
      rw [List.getElem?_append_right (by rw [rows5_len]; omega), rows5_len, show i * 5 + j - i * 5 = j by omega]
      exact row5_at _ j hj
theorem rows5_one (Z : Nat → Nat → Int) (n : Nat) : ∀ u ∈ rows5 Z n, u.oneCell' = true := by
  intro u hu
  simp only [rows5, List.mem_flatMap] at hu
  obtain ⟨i, _, hu⟩ := hu
  simp only [row5, List.mem_cons, List.not_mem_nil, or_false] at hu
  rcases hu with rfl | rfl | rfl | rfl | rfl <;> rfl
theorem rows5_cons (a : Nat → Int) (Z : Nat → Nat → Int) (n i j : Nat) (hi : i < n + 1) (hj : j < 5) : (row5 a ++ rows5 Z n)[i * 5 + j]? = some (.int .i64 (consZ a Z i j)) := by
  cases i with
  | zero =>
    rw [List.getElem?_append_left (by simp [row5]; omega), Nat.zero_mul, Nat.zero_add]
    exact row5_at a j hj
  | succ i =>
    rw [List.getElem?_append_right (by simp [row5]; omega)]
    rw [show (i + 1) * 5 + j - (row5 a).length = i * 5 + j by simp [row5]; omega]
    exact rows5_at Z n i j (by omega) hj

theorem At5.below {w w' : World} {A : Option Addr} {n : Nat} {Z : Nat → Nat → Int} (h : At5 w A n Z) (hb : Below w.heap.size w w') : At5 w' A n Z := by
  intro hn
  obtain ⟨R, o, hA, hc⟩ := h hn
  have hR : R < w.heap.size := cell_lt' (p := ⟨R, o + 0 * 5 + 0, none⟩) (hc 0 0 hn (by omega))
  exact ⟨R, o, hA, fun i j hi hj => (hb.cell (p := ⟨R, _, none⟩) hR).trans (hc i j hi hj)⟩
theorem info_row : (Try.prog.info? 34).map (fun i => (i.zero, i.size, i.bytes)) = some (some (.agg #[.int .i64 0, .int .i64 0, .int .i64 0, .int .i64 0, .int .i64 0]), 5, 40) := by kernel_rfl

/-- append([][5]int{r}, l...) -/
theorem wpList_cons5 {w : World} {ops : Array Oper} {rest : List Oper} {o : Oper} {a : Act} {Q : Exit → Act → World → Prop} (hgd : o.guard = none) (s x : Operand)
    (ho : o.op = .call { callee := .builtin .append, args := #[s, x], argTypes := #[22, 22] }) (g n cap : Nat) (A : Option Addr) (r : Nat → Int) (Z : Nat → Nat → Int)
    (hs : a.eval s = .slice (some ⟨g, 0, none⟩) 1 1) (hblk : Blk w g 34 #[.int .i64 (r 0), .int .i64 (r 1), .int .i64 (r 2), .int .i64 (r 3), .int .i64 (r 4)]) (hx : a.eval x = .slice A n cap) (hA : A = none → n = 0 ∧ cap = 0) (h5 : At5 w A n Z) (hn : n ≤ 1048576)
    (h : ∀ (A2 : Option Addr) (cap2 : Nat) (w2 : World), At5 w2 A2 (1 + n) (consZ r Z) → Below g w w2 → wpList Try.prog ops Q rest (a.put o.dst (.slice A2 (1 + n) cap2)) w2) : wpList Try.prog ops Q (o :: rest) a w := by
  obtain ⟨i0, hi0, hz0, hz1, hz2⟩ := info_parts info_row
  have hown : w.ownsRow g 34 5 (.slice (some ⟨g, 0, none⟩) 1 1) 1 (row5 r) := ⟨rfl, .inr ⟨g, 1, _, rfl, Nat.le_refl _, hblk, Nat.le_refl _, by unfold maxLen; omega, rfl, rfl⟩⟩
  cases A with
  | none =>
    obtain ⟨rfl, rfl⟩ := hA rfl
    refine wpList_append_own_none hgd s x _ ho g 34 i0 5 Try.underlying22 hi0 _ 1 _ hs hown hx ?_
    refine h (some ⟨g, 0, none⟩) 1 w (fun _ => ⟨g, 0, rfl, fun i j hi hj => ?_⟩) (Below.refl _ _)
    obtain rfl : i = 0 := by omega
    rw [Nat.zero_mul, Nat.zero_add, hblk.cell]
    match j, hj with
    | 0, _ => rfl
    | 1, _ => rfl
    | 2, _ => rfl
    | 3, _ => rfl
    | 4, _ => rfl
  | some ad =>
    refine wpList_append_own_at w hgd s x _ ho g 34 i0 _ 5 40 Try.underlying22 hi0 hz0 hz1 hz2 rfl (by omega) _ 1 _ hs hown ad n cap (rows5 Z n) hx (rows5_len Z n) (fun j u hu => ?_) (rows5_one Z n) (by unfold maxLen; omega) (by omega) (Nat.le_of_lt hblk.lt) ?_
    · have hj : j < n * 5 := by
        have := (List.getElem?_eq_some_iff.1 hu).1
        rw [rows5_len] at this
        exact this
      obtain ⟨R, oo, hR, hc⟩ := h5 (by omega)
      cases hR
      rw [Addr.add_lit]
      have h1 := hc (j / 5) (j % 5) (by omega) (by omega)
      have h2 := rows5_at Z n (j / 5) (j % 5) (by omega) (by omega)
      rw [show j / 5 * 5 + j % 5 = j by omega] at h2
      rw [show oo + j / 5 * 5 + j % 5 = oo + j by omega] at h1
      rw [h1, ← h2, hu]
    · intro v2 w2 hown2 hg2 _ _
      obtain ⟨k1, k2⟩ := hown2
      rcases k2 with ⟨_, k0⟩ | ⟨g2, cap2, cur, rfl, k3, k4, k5, k6, k7, k8⟩
      · omega
      · refine h (some ⟨g2, 0, none⟩) cap2 w2 (fun _ => ⟨g2, 0, rfl, fun i j hi hj => ?_⟩) ⟨hg2.os, hg2.tape, hg2.output, hg2.size, fun k hk => hg2.block k (by have := hblk.lt; omega) (fun e => by simp [Value.ownBlock] at e; omega)⟩
        rw [cell_of_row w2 g2 _ cur _ (0, 0) k4, ← rows5_cons r Z n i j (by omega) hj, ← k8, List.getElem?_take, Nat.zero_add, if_pos (by omega)]
        simp
end Go.Proofs.Ytmncaibhdpcblaa

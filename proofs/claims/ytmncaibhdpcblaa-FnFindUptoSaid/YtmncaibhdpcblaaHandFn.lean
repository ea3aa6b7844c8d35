/-
  The contract of laws.handed: mappings as they are handed over. Conditions: at most 2^21 of them.
-/
import Derived.Test.YtmncaibhdpcblaaSegs
import Derived.Test.YtmncaibhdpcblaaOwnKit
import Derived.Deep.AppendLies
namespace Go.Proofs.Ytmncaibhdpcblaa
open Go.RowKit

/-- Mappings that lie in memory. -/
def AtS (w : World) (v : Value) (n : Nat) (S : Nat → Seg) : Prop := ∃ A cap, v = .slice A n cap ∧ (0 < n → ∃ R o, A = some ⟨R, o, none⟩ ∧ ∀ i j, i < n → j < 7 → w.cell? ⟨R, o + i * 7 + j, none⟩ = (S i).cells[j]?)
theorem AtS.kep {X : Nat → Prop} {w w' : World} {v : Value} {n : Nat} {S : Nat → Seg} (h : AtS w v n S) (k : Kep X w w') (hx : ∀ g, v.ownBlock = some g → ¬ X g) : AtS w' v n S := by
  obtain ⟨A, cap, rfl, h⟩ := h
  refine ⟨A, cap, rfl, fun hn => ?_⟩
  obtain ⟨R, o, rfl, h2⟩ := h hn
  have hR : R < w.heap.size := cell_lt' (p := ⟨R, o + 0 * 7 + 0, none⟩) (v := .int .i64 (S 0).l) (h2 0 0 hn (by omega))
  exact ⟨R, o, rfl, fun i j hi hj => (k.cell (p := ⟨R, _, none⟩) hR (hx R rfl)).trans (h2 i j hi hj)⟩
theorem AtS.below {w w' : World} {v : Value} {n : Nat} {S : Nat → Seg} (h : AtS w v n S) (hb : Below w.heap.size w w') : AtS w' v n S := h.kep (Kep.of_below (X := fun _ => False) hb) (fun _ _ q => q)
theorem AtS.of_own {w : World} {base n : Nat} {e : TypeId} {v : Value} {l : List Seg} {S : Nat → Seg} (h : w.ownsRow base e 7 v n (sgs l)) (hl : l.length = n) (hS : ∀ i (h : i < l.length), l[i] = S i) : AtS w v n S := by
  obtain ⟨h1, h2⟩ := h
  rcases h2 with ⟨rfl, rfl⟩ | ⟨g, cap, cur, rfl, h3, h4, h5, h6, h7, h8⟩
  · exact ⟨_, _, rfl, fun q => absurd q (Nat.lt_irrefl _)⟩
  · refine ⟨_, cap, rfl, fun _ => ⟨g, 0, rfl, fun i j hi hj => ?_⟩⟩
    rw [cell_of_row w g _ cur e (0, 0) h4, ← hS i (by omega), ← sgs_at l i j (by omega) hj, ← h8, List.getElem?_take, Nat.zero_add, if_pos (by omega)]
    simp
theorem AtS.less {w : World} {v : Value} {n : Nat} {S T : Nat → Seg} (h : AtS w v n S) (hS : ∀ i, i < n → S i = T i) : AtS w v n T := by
  obtain ⟨A, cap, rfl, h⟩ := h
  refine ⟨A, cap, rfl, fun hn => ?_⟩
  obtain ⟨R, o, rfl, h2⟩ := h hn
  exact ⟨R, o, rfl, fun i j hi hj => by rw [← hS i hi]; exact h2 i j hi hj⟩

/-- The cells of a mapping as it is handed over. -/
def Seg.c5 (x : Seg) : List Value := [.int .i64 x.l, .int .i64 x.c, .int .i64 x.s, .int .i64 x.fl, .int .i64 x.fc]
def c5s (S : Nat → Seg) (n : Nat) : List Value := (List.range n).flatMap fun i => (S i).c5
theorem c5s_succ (S : Nat → Seg) (n : Nat) : c5s S (n + 1) = c5s S n ++ (S n).c5 := by simp [c5s, List.range_succ]
theorem c5s_at (S : Nat → Seg) (n i j : Nat) (hi : i < n) (hj : j < 5) : (c5s S n)[i * 5 + j]? = (S i).c5[j]? := by
  have hlen : ∀ n, (c5s S n).length = n * 5 := by
    intro n
    induction n with
    | zero => rfl
    | succ n ih => rw [c5s_succ, List.length_append, ih]; simp [Seg.c5]; omega
  induction n with
  | zero => omega
  | succ n ih =>
    rw [c5s_succ]
    rcases Nat.lt_or_ge i n with h | h
    · rw [List.getElem?_append_left (by rw [hlen]; omega)]
      exact ih h
    · obtain rfl : i = n := by omega
      rw [List.getElem?_append_right (by rw [hlen]; omega), hlen, show i * 5 + j - i * 5 = j by omega]
theorem c5_one (x : Seg) : ∀ u ∈ x.c5, u.oneCell' = true := by
  intro u hu
  simp only [Seg.c5, List.mem_cons, List.not_mem_nil, or_false] at hu
  rcases hu with rfl | rfl | rfl | rfl | rfl <;> rfl

theorem info_map : (Try.prog.info? 39).map (fun i => (i.zero, i.size, i.bytes)) = some (some (.agg #[.int .i64 0, .int .i64 0, .int .i64 0, .int .i64 0, .int .i64 0]), 5, 40) := by kernel_rfl

set_option maxHeartbeats 2000000 in
set_option maxRecDepth 100000 in
theorem handed_any (v : Value) (n : Nat) (S : Nat → Seg) (w : World) (hn : n ≤ 2097153) (hv : AtS w v n S) :
    Calls Try.prog 14 #[v] w fun e w' => ∃ v', e = .returned v' ∧ w'.ownsRow w.heap.size 39 5 v' n (c5s S n) ∧ Below w.heap.size w w' := by
  obtain ⟨i0, hi0, hz0, hz1, hz2⟩ := info_parts info_map
  obtain ⟨A, cap, rfl, hc⟩ := hv
  have HC := Lib.hid hc
  clear hc
  go_enter Try.func14, Try.ntmps14
  go_wp2_with fail
  go_loopg [3, 8] n (fun f s3 s8 wr => ∃ (i : Nat), i + f = n ∧ s8 = .int .i64 (i : Int) ∧ wr.ownsRow w.heap.size 39 5 s3 i (c5s S i) ∧ Below w.heap.size w wr)
  case atStart => exact ⟨0, by omega, rfl, World.ownsRow_nil _ _ _ _, Below.refl _ _⟩
  case round =>
    obtain ⟨i, hi, rfl, hown, hbw⟩ := hrel
    by_cases hlt : i < n
    · obtain ⟨R, o, rfl, hcl⟩ := HC.out (by omega)
      obtain ⟨f, rfl⟩ : ∃ f, gk = f + 1 := ⟨gk - 1, by omega⟩
      have hR : R < w.heap.size := cell_lt' (p := ⟨R, o + i * 7 + 0, none⟩) (v := .int .i64 (S i).l) (hcl i 0 hlt (by omega))
      have hcr : ∀ j, j < 7 → wr.cell? ⟨R, o + i * 7 + j, none⟩ = (S i).cells[j]? := fun j hj => (hbw.cell (p := ⟨R, _, none⟩) hR).trans (hcl i j hlt hj)
      have c0 := hcr 0 (by omega)
      have c1 := hcr 1 (by omega)
      have c2 := hcr 2 (by omega)
      have c3 := hcr 3 (by omega)
      have c4 := hcr 4 (by omega)
      have c5 := hcr 5 (by omega)
      have c6 := hcr 6 (by omega)
      simp only [Nat.add_zero, Seg.cells, List.getElem?_cons_zero, List.getElem?_cons_succ] at c0 c1 c2 c3 c4 c5 c6
      have hbs := hbw.size
      have hE : (S i).c5 = [.int .i64 (S i).l, .int .i64 (S i).c, .int .i64 (S i).s, .int .i64 (S i).fl, .int .i64 (S i).fc] := rfl
      have hSu := c5s_succ S i
      rw [hE] at hSu
      have HSU := Lib.hid hSu
      have h1c := c5_one (S i)
      rw [hE] at h1c
      have H1 := Lib.hid h1c
      have HO := Lib.hid hown
      have HB := Lib.hid hbw
      clear hcr hcl HC hown hbw hE hSu h1c
      generalize (S i).l = x0 at *
      generalize (S i).c = x1 at *
      generalize (S i).s = x2 at *
      generalize (S i).fl = x3 at *
      generalize (S i).fc = x4 at *
      generalize (S i).nm = x5 at *
      generalize (S i).nd = x6 at *
      go_wp2_with (at_builtin; refine wpList_append_own_at _ rfl (.tmp 12) (.tmp 28) _ rfl w.heap.size 39 i0 _ 5 40 Try.underlying42 hi0 hz0 hz1 hz2 rfl (by omega) u3 i (c5s S i) rfl ((HO.out.alloc _).alloc _) ⟨wr.heap.size + 1, 0, none⟩ 1 1 [.int .i64 x0, .int .i64 x1, .int .i64 x2, .int .i64 x3, .int .i64 x4] rfl rfl (World.news_of_block (cs := #[.int .i64 x0, .int .i64 x1, .int .i64 x2, .int .i64 x3, .int .i64 x4]) (t := 39) (fr := (0, 0)) (heap_new2 _ _ _)) H1.out (by unfold maxLen; omega) (by omega) (by simp; omega) ?_; intro v2 w2 hown2 hg2 hnil2 hat2; clear hnil2)
      have O8 := Lib.hid hown2
      have B8 := Lib.hid (below_grown (balloc (balloc HB.out _) _) (Nat.le_refl _) hg2 (fun k hk => (HO.out.lt k hk).1))
      clear hown2 hg2 hat2
      go_roundg f
      case measure => omega
      case rel => exact ⟨i + 1, by omega, by go_num, by rw [HSU.out]; exact O8.out, B8.out⟩
    · obtain rfl : i = n := by omega
      have HO := Lib.hid hown
      have HB := Lib.hid hbw
      clear hown hbw
      go_wp2_with fail
      go_ret
      exact ⟨_, rfl, HO.out, HB.out⟩
end Go.Proofs.Ytmncaibhdpcblaa

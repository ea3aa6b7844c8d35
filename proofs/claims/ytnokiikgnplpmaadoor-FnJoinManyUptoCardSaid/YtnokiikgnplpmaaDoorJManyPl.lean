/-
  Lists of mappings, joined one after the other: plain; slices of slices of rows in memory. Conditions: as each lemma says.
-/
import Derived.Test.YtnokiikgnplpmaaDoorNamKit
import Derived.Test.YtnokiikgnplpmaaDoorM3
namespace Go.Proofs.YtnokiikgnplpmaaDoor
open Go.RowKit

/-- What has been joined so far: T rows, i lists. -/
structure Jm (T i : Nat) (toks : List (Option (List Int))) (all : List Seg) : Prop where
  ok : rok qz toks
  segs : rsegs qz toks = all
  last : toks = [] ∨ segLast toks = true
  bd : ∀ x ∈ all, (0 ≤ x.l ∧ x.l ≤ 5 * (T : Int)) ∧ (0 ≤ x.c ∧ x.c ≤ 1100000000) ∧ (0 ≤ x.s ∧ x.s ≤ 100 + (i : Int)) ∧ (0 ≤ x.fl ∧ x.fl < 10000) ∧ (0 ≤ x.fc ∧ x.fc < 10000) ∧ (0 ≤ x.nm ∧ x.nm ≤ 200 + 10 * (i : Int))
  len : all.length ≤ T
theorem Jm.zero : Jm 0 0 [] [] := ⟨by unfold rok sOk qz; simp, rfl, .inl rfl, by simp, Nat.le_refl _⟩
theorem Jm.fin {T i : Nat} {toks : List (Option (List Int))} {all : List Seg} (h : Jm T i toks all) : rgo qz toks = wst all := by
  rcases h.last with e | e
  · subst e
    have := h.segs
    rw [← this]
    rfl
  · rw [(rgo_wst toks).2 e, h.segs]
theorem Jm.bd0 {T i : Nat} {toks : List (Option (List Int))} {all : List Seg} (h : Jm T i toks all) (hT : T ≤ 1048577) (hi : i ≤ 1048577) : Bd0 (wst all) ∧ (wst all).1.l ≤ 5 * (T : Int) ∧ (wst all).2 ≤ 200 + 10 * (i : Int) := by
  have h1 := wst_small (l := all) (P := fun x => (0 ≤ x.l ∧ x.l ≤ 5 * (T : Int)) ∧ (0 ≤ x.c ∧ x.c ≤ 1100000000) ∧ (0 ≤ x.s ∧ x.s ≤ 100 + (i : Int)) ∧ (0 ≤ x.fl ∧ x.fl < 10000) ∧ (0 ≤ x.fc ∧ x.fc < 10000)) (by unfold qz; simp only; omega) (fun x hx => by
    obtain ⟨y1, y2, y3, y4, y5, y6⟩ := h.bd x hx
    exact ⟨y1, y2, y3, y4, y5⟩)
  have h2 := wst_name (l := all) (N := 200 + 10 * (i : Int)) (by omega) (fun x hx => by
    obtain ⟨y1, y2, y3, y4, y5, y6⟩ := h.bd x hx
    omega)
  unfold Bd0
  omega
theorem Jm.short {T i : Nat} {toks : List (Option (List Int))} {all : List Seg} (h : Jm T i toks all) : (tokB true toks).length ≤ 71 * T := by
  rcases h.last with e | e
  · subst e; simp [tokB]
  · have h1 := toks_short h.ok e (N := 5 * (T : Int)) (by omega) (fun x hx => by rw [h.segs] at hx; exact (h.bd x hx).1)
    have h2 := h.len
    rw [h.segs] at h1
    omega
theorem Jm.step {T i : Nat} {toks : List (Option (List Int))} {all : List Seg} (h : Jm T i toks all) (Z : Nat → Nat → Int) (n : Nat) (hn : n ≤ 1048576) {toks' : List (Option (List Int))}
    (hj : JoinTk toks (wtk (namL Z (1 + n))) ⟨1, 0, (i : Int), 0, 0, 10 * (i : Int), false⟩ toks') : Jm (T + (n + 1)) (i + 1) toks' (all ++ (namL Z (1 + n)).map (mvS ⟨1 + (wst all).1.l, 0, (i : Int), 0, 0, 10 * (i : Int), false⟩)) := by
  have hl := namL_len Z (1 + n)
  have hok := nam_ok Z (1 + n) (by omega)
  have hw := wst_small (l := all) (P := fun x => 0 ≤ x.l ∧ x.l ≤ 5 * (T : Int)) (by unfold qz; simp only; omega) (fun x hx => (h.bd x hx).1)
  refine ⟨hj.ok, ?_, .inr (hj.last (wtk_last (fun e => by rw [e] at hl; simp at hl; omega))), ?_, ?_⟩
  · rw [hj.segs, h.segs, (wtk_read hok).2.2, h.fin]
    congr 1
    congr 1
    exact mvS_eq (Int.add_comm _ _) rfl rfl rfl rfl rfl
  · intro x hx
    rcases List.mem_append.1 hx with hx | hx
    · obtain ⟨y1, y2, y3, y4, y5, y6⟩ := h.bd x hx
      refine ⟨by omega, by omega, by omega, by omega, by omega, by omega⟩
    · obtain ⟨y, hy, rfl⟩ := List.mem_map.1 hx
      obtain ⟨y1, y2, y3, y4, y5, y6⟩ := nam_small Z (1 + n) y hy
      unfold mvS
      simp only
      refine ⟨by omega, ?_, by omega, by omega, by omega, ?_⟩
      · split <;> omega
      · split <;> omega
  · rw [List.length_append, List.length_map, hl]
    have := h.len
    omega

/-- How many rows the first i lists have, and one more each. -/
def tot (L : Lists5) (i : Nat) : Nat := ((List.range i).map fun j => L.n j + 1).sum
theorem tot_succ (L : Lists5) (i : Nat) : tot L (i + 1) = tot L i + (L.n i + 1) := by simp [tot, List.range_succ]
theorem tot_mono (L : Lists5) {i j : Nat} (h : i ≤ j) : tot L i ≤ tot L j := by
  induction j with
  | zero => obtain rfl : i = 0 := by omega
            exact Nat.le_refl _
  | succ j ih =>
    rw [tot_succ]
    rcases Nat.lt_or_ge i (j + 1) with q | q
    · have := ih (by omega); omega
    · obtain rfl : i = j + 1 := by omega
      rw [tot_succ]
      exact Nat.le_refl _
theorem tot_ge (L : Lists5) (i : Nat) : i ≤ tot L i := by
  induction i with
  | zero => exact Nat.zero_le _
  | succ i ih => rw [tot_succ]; omega
/-- An empty list ahead of lists. -/
def consL (L : Lists5) : Lists5 := ⟨fun | 0 => none | i + 1 => L.A i, fun | 0 => 0 | i + 1 => L.n i, fun | 0 => 0 | i + 1 => L.cap i, fun | 0 => fun _ _ => 0 | i + 1 => L.Z i⟩
theorem tot_cons (L : Lists5) (i : Nat) : tot (consL L) (i + 1) = 1 + tot L i := by
  induction i with
  | zero => rfl
  | succ i ih => rw [tot_succ, ih, tot_succ]; show 1 + tot L i + (L.n i + 1) = _; omega
/-- The cells of lists. -/
def listC (L : Lists5) (N : Nat) : List Value := (List.range N).map fun i => .slice (L.A i) (L.n i) (L.cap i)
theorem listC_len (L : Lists5) (N : Nat) : (listC L N).length = N := by simp [listC]
theorem listC_at (L : Lists5) (N i : Nat) (h : i < N) : (listC L N)[i]? = some (.slice (L.A i) (L.n i) (L.cap i)) := by simp [listC, h]
theorem listC_cons (L : Lists5) (N : Nat) : [Value.slice none 0 0] ++ listC L N = listC (consL L) (1 + N) := by
  unfold listC
  rw [Nat.add_comm 1 N, List.range_succ_eq_map]
  simp [consL]
theorem lists_src {w : World} {A : Option Addr} {N cap : Nat} {L : Lists5} (h : At55 w A N L) (h0 : A = none → N = 0 ∧ cap = 0) : Src Tryd.prog 1 64 (.slice A N cap) N (listC L N) w := by
  cases A with
  | none =>
    obtain ⟨rfl, rfl⟩ := h0 rfl
    exact Src.ofNil w Tryd.underlying64 0
  | some a =>
    refine Src.ofSlice w Tryd.underlying64 a N cap (listC L N) (by rw [listC_len]; omega) (fun j u hj => ?_) (fun u hu => ?_)
    · have hlt : j < N := by rw [← listC_len L N]; exact (List.getElem?_eq_some_iff.1 hj).1
      obtain ⟨R, o, hA, hc⟩ := h (by omega)
      injection hA with hA
      subst hA
      rw [listC_at L N j hlt] at hj
      injection hj with hj
      rw [Addr.add_lit, ← hj]
      exact (hc j hlt).1
    · unfold listC at hu
      obtain ⟨i, _, rfl⟩ := List.mem_map.1 hu
      rfl
theorem At55.below {w w' : World} {A : Option Addr} {N : Nat} {L : Lists5} (h : At55 w A N L) (hb : Below w.heap.size w w') : At55 w' A N L := by
  intro h0
  obtain ⟨R, o, e, hc⟩ := h h0
  have hR : R < w.heap.size := cell_lt' (p := ⟨R, o + 0, none⟩) (hc 0 h0).1
  exact ⟨R, o, e, fun i hi => ⟨(hb.cell (p := ⟨R, o + i, none⟩) hR).trans (hc i hi).1, (hc i hi).2.1.below hb, (hc i hi).2.2⟩⟩
/-- One of the lists, with an empty one ahead. -/
theorem At55.one {w : World} {A : Option Addr} {N : Nat} {L : Lists5} (h : At55 w A N L) (i : Nat) (hi : i < 1 + N) : At5 w ((consL L).A i) ((consL L).n i) ((consL L).Z i) ∧ ((consL L).A i = none → (consL L).n i = 0 ∧ (consL L).cap i = 0) := by
  cases i with
  | zero => exact ⟨fun q => absurd q (Nat.lt_irrefl 0), fun _ => ⟨rfl, rfl⟩⟩
  | succ i =>
    obtain ⟨R, o, e, hc⟩ := h (by omega)
    exact (hc i (by omega)).2
theorem info_list : (Tryd.prog.info? 54).map (fun i => (i.zero, i.size, i.bytes)) = some (some (.slice none 0 0), 1, 24) := by kernel_rfl
theorem list_new (w : World) : (w.alloc (.cells #[.slice none 0 0] 54)).ownsRow w.heap.size 54 1 (.slice (some ⟨w.heap.size, 0, none⟩) 1 1) 1 [.slice none 0 0] :=
  ⟨rfl, .inr ⟨w.heap.size, 1, _, rfl, Nat.le_refl _, Blk.new w _ _, Nat.le_refl _, by unfold maxLen; omega, rfl, rfl⟩⟩
end Go.Proofs.YtnokiikgnplpmaaDoor

/-
  An argument that is a slice of turns, opened; turns and steps in rows of one's own. Conditions: as each lemma says.
-/
import Derived.Test.YtnokiikgnplpmaaDoorLaidKit
import Derived.Test.YtnokiikgnplpmaaDoorChunkFn
import Derived.Test.YtnokiikgnplpmaaDoorMadeFn
import Derived.ChangeSlices
import Derived.Deep.SlicePairs
import Derived.Lib.LaidU8
namespace Go.Proofs.YtnokiikgnplpmaaDoor
open Go.RowKit Go.WideShapes Go.ChangeShapes

theorem bulkAll_map {H : Type} (f : Nat → DataW H) (g : Nat → Nat) (h : ∀ i, g i ≤ Rows.uptoBulk (f i)) (l : List Nat) : (l.map g).sum ≤ Rows.uptoBulkAll (l.map f) := by
  induction l with
  | nil => simp
  | cons x r ih => have := h x; simp only [List.map_cons, List.sum_cons, Rows.uptoBulkAll]; omega
/-- Turns in memory, somewhere. -/
def TurnsIn (w : World) (A : Option Addr) (tl : List (ByteArray × Int)) : Prop :=
  0 < tl.length → ∃ R o, A = some ⟨R, o, none⟩ ∧ ∀ (j : Nat) (hj : j < tl.length), w.cell? ⟨R, o + j * 2, none⟩ = some (.string (tl[j]'hj).1) ∧ w.cell? ⟨R, o + j * 2 + 1, none⟩ = some (.int .i64 (tl[j]'hj).2)

theorem open_turns {H : Type} {enc : TypeId × Value → H} {P : Program} {w : World} {base : Nat} {held : Bool} {t e : TypeId} {f0 f1 : Field} {r : Reach} {b0 : Nat} {v : Value} {d : DataW H} {p : List MemPlace}
    (ht : P.underlying t = some (.slice e)) (he : P.underlying e = some (.struct #[f0, f1])) (ce : P.cellsOf e = 2) (o0 : f0.offset = 0) (o1 : f1.offset = 1) (c0 : P.cellsOf f0.type = 1) (c1 : P.cellsOf f1.type = 1)
    (u0 : P.underlying f0.type = some .string) (u1 : P.underlying f1.type = some (.int .i64)) (hv : Value.okWide P w r b0 t v) (h : DataW.Trod enc P w base (fun _ => true) held t v d p) :
    ∃ (A : Option Addr) (cap : Nat) (tl : List (ByteArray × Int)), v = .slice A tl.length cap ∧ TurnsIn w A tl ∧ tsz tl ≤ Rows.uptoBulk d ∧ (A = none → tl.length = 0 ∧ cap = 0) := by
  obtain ⟨a0, len, cap, rfl⟩ := okWide_slice ht hv
  obtain ⟨fuel, hf⟩ := h
  rcases Go.Deep.open_slice_pairs ht he ce o0 o1 c0 c1 hf with ⟨hcs, hx⟩ | ⟨a, len1, cap1, m, n, V0, V1, D0, D1, P0, P1, hcs, _, hl, _, hm, hx, hel⟩
  · simp [Value.cells] at hcs
    obtain ⟨rfl, rfl, rfl⟩ := hcs
    exact ⟨none, 0, [], rfl, fun q => absurd q (Nat.lt_irrefl _), Nat.zero_le _, fun _ => ⟨rfl, rfl⟩⟩
  · simp [Value.cells] at hcs
    obtain ⟨rfl, rfl, rfl⟩ := hcs
    simp only [if_true] at hm
    have each : ∀ i, i < m → ∃ x : ByteArray × Int, V0 i = .string x.1 ∧ V1 i = .int .i64 x.2 ∧ D0 i = .lit (.string x.1.data.toList) := by
      intro i hi
      obtain ⟨_, _, h3, h4⟩ := hel i hi
      obtain ⟨s, hs, hs2, _⟩ := DataW.trod_string u0 h3
      obtain ⟨z, hz, _, _⟩ := DataW.trod_int u1 h4
      simp only [Prod.mk.injEq] at hs2
      exact ⟨(s, z), by simpa using hs, by simpa using hz, hs2.1⟩
    obtain ⟨X, hX⟩ := Go.Deep.choose_lt each
    have hd : d = .slice ((List.range len).map fun i => .agg [D0 i, D1 i]) ((List.range (m - len)).map fun j => .agg [D0 (len + j), D1 (len + j)]) := (Prod.mk.inj hx).1
    have hlen : ((List.range len).map X).length = len := by simp
    refine ⟨some a, cap, (List.range len).map X, by rw [hlen], fun hpos => ?_, ?_, fun q => by cases q⟩
    · rw [hlen] at hpos
      obtain ⟨b, o, sp⟩ := a
      have h0 := (hel 0 (by omega)).1
      have e0 : (Addr.add ⟨b, o, sp⟩ (0 * 2)) = ⟨b, o, sp⟩ := by simp [Addr.add]
      rw [e0] at h0
      obtain rfl : sp = none := Go.Proofs.cell_spot h0
      refine ⟨b, o, rfl, fun j hj => ?_⟩
      rw [hlen] at hj
      obtain ⟨g1, g2, _, _⟩ := hel j (by omega)
      rw [Addr.add_lit] at g1 g2
      have hx2 := hX j (by omega)
      simp only [List.getElem_map, List.getElem_range]
      rw [hx2.1] at g1
      rw [hx2.2.1] at g2
      exact ⟨g1, by rw [Nat.add_assoc]; exact g2⟩
    · rw [hd]
      have key : ∀ l : List Nat, (∀ i ∈ l, i < m) → tsz (l.map X) ≤ Rows.uptoBulkAll (l.map fun i => .agg [D0 i, D1 i]) := by
        intro l
        induction l with
        | nil => intro _; simp [tsz]
        | cons i l ih =>
          intro hl'
          have h1 := ih (fun q hq => hl' q (by simp [hq]))
          have h2 := (hX i (hl' i (by simp))).2.2
          have h3 : (X i).1.data.toList.length = (X i).1.size := by rw [Array.length_toList]; rfl
          simp only [tsz, List.map_cons, List.sum_cons, Rows.uptoBulkAll, Rows.uptoBulk, h2] at h1 ⊢
          omega
      have := key (List.range len) (fun i hi => by have := List.mem_range.1 hi; omega)
      simp only [Rows.uptoBulk]
      omega

/-- The cells of turns. -/
def turnsC (tl : List (ByteArray × Int)) : List Value := tl.flatMap fun x => [.string x.1, .int .i64 x.2]
theorem turnsC_cons (x : ByteArray × Int) (tl : List (ByteArray × Int)) : turnsC (x :: tl) = [.string x.1, .int .i64 x.2] ++ turnsC tl := by simp [turnsC]
theorem turnsC_len (tl : List (ByteArray × Int)) : (turnsC tl).length = tl.length * 2 := by
  induction tl with
  | nil => rfl
  | cons x l ih => rw [turnsC_cons, List.length_append, ih, List.length_cons]; simp; omega
theorem turnsC_at (tl : List (ByteArray × Int)) (i : Nat) (h : i < tl.length) : (turnsC tl)[i * 2]? = some (.string (tl[i]'h).1) ∧ (turnsC tl)[i * 2 + 1]? = some (.int .i64 (tl[i]'h).2) := by
  induction tl generalizing i with
  | nil => simp at h
  | cons x l ih =>
    rw [turnsC_cons]
    cases i with
    | zero => exact ⟨rfl, rfl⟩
    | succ i =>
      have := ih i (by simpa using h)
      rw [List.getElem?_append_right (by simp; omega), List.getElem?_append_right (by simp; omega)]
      simp only [List.length_cons, List.length_nil]
      rw [show (i + 1) * 2 - (0 + 1 + 1) = i * 2 by omega, show (i + 1) * 2 + 1 - (0 + 1 + 1) = i * 2 + 1 by omega]
      exact this
theorem turnsC_one (tl : List (ByteArray × Int)) : ∀ u ∈ turnsC tl, u.oneCell' = true := by
  intro u hu
  unfold turnsC at hu
  rw [List.mem_flatMap] at hu
  obtain ⟨x, _, hx⟩ := hu
  simp at hx
  rcases hx with rfl | rfl <;> rfl
/-- What came in, as the source of an append. -/
theorem turns_src {w : World} {A : Option Addr} {cap : Nat} {tl : List (ByteArray × Int)} (h : TurnsIn w A tl) (h0 : A = none → tl.length = 0 ∧ cap = 0) : Src Tryd.prog 2 22 (.slice A tl.length cap) tl.length (turnsC tl) w := by
  cases A with
  | none =>
    obtain ⟨h1, rfl⟩ := h0 rfl
    obtain rfl : tl = [] := List.eq_nil_of_length_eq_zero h1
    exact Src.ofNil w Tryd.underlying22 0
  | some a =>
    refine Src.ofSlice w Tryd.underlying22 a tl.length cap (turnsC tl) (turnsC_len tl) (fun j u hj => ?_) (turnsC_one tl)
    have hlt : j < tl.length * 2 := by rw [← turnsC_len]; exact (List.getElem?_eq_some_iff.1 hj).1
    obtain ⟨R, o, hA, hc⟩ := h (by omega)
    injection hA with hA
    subst hA
    have hi : j / 2 < tl.length := by omega
    have h1 := hc (j / 2) hi
    have h2 := turnsC_at tl (j / 2) hi
    rw [Addr.add_lit]
    rcases Nat.mod_two_eq_zero_or_one j with q | q
    · have e : j = j / 2 * 2 := by omega
      rw [e] at hj ⊢
      rw [h2.1] at hj
      rw [h1.1]
      exact hj
    · have e : j = j / 2 * 2 + 1 := by omega
      rw [e] at hj ⊢
      rw [h2.2] at hj
      rw [← Nat.add_assoc, h1.2]
      exact hj
theorem turns_own {w : World} {base : Nat} {v : Value} {tl : List (ByteArray × Int)} (h : w.ownsRow base 25 2 v tl.length (turnsC tl)) (hn : 0 < tl.length) : TurnsAt w w.heap.size v tl := by
  obtain ⟨A, c, rfl, hA⟩ := own_form h
  obtain ⟨k, rfl, hk⟩ := hA hn
  exact ⟨k, c, rfl, (own_lt h rfl).2, fun j hj => ⟨hk _ _ (turnsC_at tl j hj).1, hk _ _ (turnsC_at tl j hj).2⟩⟩
theorem steps_own {w : World} {base : Nat} {v : Value} {l : List (List Nat × Nat)} (h : w.ownsRow base 40 3 v l.length (stpsC l)) (hn : 0 < l.length) : StepsAt w w.heap.size v l := by
  obtain ⟨A, c, rfl, hA⟩ := own_form h
  obtain ⟨k, rfl, hk⟩ := hA hn
  refine ⟨k, c, rfl, (own_lt h rfl).2, fun j hj => ⟨hk _ _ ?_, hk _ _ ?_, hk _ _ ?_⟩⟩
  · exact stpsC_at l j 0 hj (by omega)
  · exact stpsC_at l j 1 hj (by omega)
  · exact stpsC_at l j 2 hj (by omega)
theorem turns_new (w : World) (x : ByteArray × Int) (base : Nat) (hb : base ≤ w.heap.size) : (w.alloc (.cells #[.string x.1, .int .i64 x.2] 25)).ownsRow base 25 2 (.slice (some ⟨w.heap.size, 0, none⟩) 1 1) 1 (turnsC [x]) :=
  ⟨rfl, .inr ⟨w.heap.size, 1, #[.string x.1, .int .i64 x.2], rfl, hb, heap_alloc_new _ _, Nat.le_refl _, by unfold maxLen; omega, rfl, rfl⟩⟩
theorem info_turn : (Tryd.prog.info? 25).map (fun i => (i.zero, i.size, i.bytes)) = some (some (.agg #[.string ByteArray.empty, .int .i64 0]), 2, 24) := by kernel_rfl
/-- What the steps of turns are good for. -/
theorem steps_ok (rs : List Nat) (hv : okR rs) (hs : (txt rs).size ≤ 16777216) (tl : List (ByteArray × Int)) : ∀ x ∈ mkSteps (txt rs) tl, x.2 ≤ 1073741824 ∧ LocOk (tabsOf (txt rs)) x.2 := by
  intro x hx
  unfold mkSteps at hx
  obtain ⟨y, _, rfl⟩ := List.mem_map.1 hx
  obtain ⟨a, b, h1, h2, _, _, h4, _⟩ := tab_place rs hv _ (stepP_mem (txt rs) y.2)
  refine ⟨?_, h4⟩
  simp only
  rw [h2]
  have : (txt rs).size = (encs a).length + (encs b).length := by rw [txt_size, h1, encs_app, List.length_append]
  omega
theorem step_ab : (encs (stepR ⟨#[97, 98]⟩)).length = 2 := by decide +kernel
theorem step_c : (encs (stepR ⟨#[99]⟩)).length = 1 := by decide +kernel
theorem TurnsIn.after {w w' : World} {A : Option Addr} {tl : List (ByteArray × Int)} (h : TurnsIn w A tl) (hb : Below w.heap.size w w') : TurnsIn w' A tl := fun hp => by
  obtain ⟨R, o, h1, h2⟩ := h hp
  have hR : R < w.heap.size := cell_lt (h2 0 hp).1
  exact ⟨R, o, h1, fun j hj => ⟨(hb.cell (p := ⟨R, _, none⟩) hR).trans (h2 j hj).1, (hb.cell (p := ⟨R, _, none⟩) hR).trans (h2 j hj).2⟩⟩
theorem validT_any (s : ByteArray) (w : World) (hs : s.size ≤ 140737488351232) :
    Calls Tryd.prog 12 #[.string s] w fun e w' => (∃ rs, okR rs ∧ (txt rs).size ≤ s.size ∧ e = .returned (.string (txt rs))) ∧ Below w.heap.size w w' :=
  (valid_any s w hs).mono fun _ _ ⟨he, hb⟩ => ⟨⟨validL s, validL_valid s, by rw [txt_size]; exact validL_len s, he⟩, hb⟩
/-- A place's number, as a number. -/
theorem place_nat (n k : Int) (w : World) (h1 : 1 ≤ k) (h2 : k ≤ 4611686018427387904) :
    Calls Tryd.prog 15 #[.int .i64 n, .int .i64 k] w fun e w' => (∃ p : Nat, (p : Int) < k ∧ (p : Int) = n % k ∧ e = .returned (.int .i64 (p : Int))) ∧ w = w' :=
  (place_any n k w h1 h2).mono fun _ _ ⟨he, hw⟩ => ⟨⟨(n % k).toNat, by have := Int.emod_lt_of_pos n (b := k) (by omega); have := Int.emod_nonneg n (b := k) (by omega); omega, by have := Int.emod_nonneg n (b := k) (by omega); omega, by rw [he]; have := Int.emod_nonneg n (b := k) (by omega); congr 2; omega⟩, hw⟩
/-- The bulk of turns with one more ahead. -/
theorem tsz_cons (x : ByteArray × Int) (tl : List (ByteArray × Int)) : tsz (x :: tl) = x.1.size + 1 + tsz tl := by simp [tsz]
/-- All that impl.Chunk asks of steps that are made of turns. -/
theorem chunkT_any (rs : List Nat) (hv : okR rs) (hs : (txt rs).size ≤ 1048576) (ln : Nat) (x : ByteArray × Int) (tl : List (ByteArray × Int)) (vs : Value) (rest : List Nat) (hr : (txt rest).size ≤ 1048576) (w : World) (B : Nat) (hT : B64 B w) (hB : B ≤ w.heap.size) (hln : ln ≤ 1000) (hst : StepsAt w w.heap.size vs (mkSteps (txt rs) (x :: tl)))
    (hz : tsz (x :: tl) ≤ 2097152) (h0 : 0 < (encs (stepR x.1)).length) :
    Calls Tryd.prog 14 #[.string (txt rs), .int .i64 (ln : Int), vs, .string (txt rest)] w fun e w' => e = .returned (.tuple #[.string ⟨(cend (tabsOf (txt rs)) (mkSteps (txt rs) (x :: tl)) rest).sm.toArray⟩, .agg (stC (cend (tabsOf (txt rs)) (mkSteps (txt rs) (x :: tl)) rest).st), .int .i64 ((cend (tabsOf (txt rs)) (mkSteps (txt rs) (x :: tl)) rest).gcol : Int), .int .i64 (-1)]) ∧ Below w.heap.size w w' := by
  have h1 := allR_len (txt rs) (x :: tl)
  have h2 := tsz_len (x :: tl)
  have h3 : (mkSteps (txt rs) (x :: tl)).length = (x :: tl).length := by simp [mkSteps]
  rw [txt_size] at hr
  exact chunk_any (txt rs) ln _ vs rest w B hT hB (by omega) hln hst (by omega) (by omega) ⟨_, _, rfl, h0⟩ (steps_ok rs hv (by omega) _)
end Go.Proofs.YtnokiikgnplpmaaDoor

/-
  Arguments opened: an array of six numbers, rows of five numbers, rows of such rows. Conditions: as each lemma says.
  Sets: maps of one's own, keyed by structs of numbers, with elements bool. Conditions: as each lemma says.
-/
import Derived.Test.YtnokiikgnplpmaaDoorM2
import Derived.Maps.OwnSet
import Derived.DeepKeys4
namespace Go.Proofs.YtnokiikgnplpmaaDoor
open Go.RowKit Go.WideShapes Go.ChangeShapes
section
variable {H : Type} {enc : TypeId × Value → H} {P : Program} {w : World} {base : Nat} {held : Bool}

theorem open_arr6 {t te : TypeId} {r : Reach} {b0 : Nat} {v : Value} {d : DataW H} {p : List MemPlace} (ht : P.underlying t = some (.array 6 te)) (hte : P.underlying te = some (.int .i64)) (hc : P.cellsOf t = 6) (hct : P.cellsOf te = 1)
    (hv : Value.okWide P w r b0 t v) (h : DataW.Trod enc P w base (fun _ => true) held t v d p) : ∃ l0 l1 l2 l3 l4 l5 : Int, v = .agg #[.int .i64 l0, .int .i64 l1, .int .i64 l2, .int .i64 l3, .int .i64 l4, .int .i64 l5] := by
  simp only [Value.okWide, ht] at hv
  obtain ⟨cs, rfl, hsz, _⟩ := hv
  rw [hc] at hsz
  obtain ⟨fuel, hf⟩ := h
  have e : (Value.agg cs).cells.toList = cs.toList := rfl
  rw [e] at hf
  obtain ⟨xs, m, _, _, _, hxl, hxs⟩ := DataW.trod_array ht hf
  have hj : ∀ j, j < 6 → ∃ z : Int, cs.toList[j]? = some (.int .i64 z) := by
    intro j hj
    have h1 := hxs j hj
    rw [hct, Nat.mul_one] at h1
    obtain ⟨y, hy⟩ : ∃ y, xs[j]? = some y := ⟨xs[j], List.getElem?_eq_getElem (by omega)⟩
    rw [hy] at h1
    obtain ⟨z, hz, _, _⟩ := DataW.trod_int hte h1
    refine ⟨z, ?_⟩
    have h2 := congrArg (·[0]?) hz
    simpa using h2
  obtain ⟨l0, h0⟩ := hj 0 (by omega)
  obtain ⟨l1, h1⟩ := hj 1 (by omega)
  obtain ⟨l2, h2⟩ := hj 2 (by omega)
  obtain ⟨l3, h3⟩ := hj 3 (by omega)
  obtain ⟨l4, h4⟩ := hj 4 (by omega)
  obtain ⟨l5, h5⟩ := hj 5 (by omega)
  refine ⟨l0, l1, l2, l3, l4, l5, ?_⟩
  congr 1
  obtain ⟨l⟩ := cs
  match l, hsz with
  | [c0, c1, c2, c3, c4, c5], _ =>
    simp at h0 h1 h2 h3 h4 h5
    subst h0 h1 h2 h3 h4 h5
    rfl

/-- The bulk of data, counted. -/
theorem bulk_map (D : Nat → DataW H) (g : Nat → Nat) (n : Nat) (h : ∀ i, i < n → g i ≤ Rows.uptoBulk (D i)) : ((List.range n).map g).sum ≤ Rows.uptoBulkAll ((List.range n).map D) := by
  have app : ∀ a b : List (DataW H), Rows.uptoBulkAll (a ++ b) = Rows.uptoBulkAll a + Rows.uptoBulkAll b := by
    intro a b
    induction a with
    | nil => simp [Rows.uptoBulkAll]
    | cons x a ih => simp only [List.cons_append, Rows.uptoBulkAll, ih]; omega
  induction n with
  | zero => simp [Rows.uptoBulkAll]
  | succ n ih =>
    have h1 := ih (fun i hi => h i (by omega))
    have h2 := h n (by omega)
    rw [List.range_succ, List.map_append, List.map_append, List.sum_append, app]
    simp only [List.map_cons, List.map_nil, List.sum_cons, List.sum_nil, Rows.uptoBulkAll]
    omega
theorem open_rows5c {t e te : TypeId} {cs : List Value} {d : DataW H} {p : List MemPlace} {fuel : Nat} (ht : P.underlying t = some (.slice e)) (he : P.underlying e = some (.array 5 te)) (hte : P.underlying te = some (.int .i64)) (hce : P.cellsOf e = 5) (hct : P.cellsOf te = 1)
    (hf : DataW.trod enc P w base (fun _ => true) held fuel t cs = some (d, p)) :
    ∃ (A : Option Addr) (n cap : Nat) (Z : Nat → Nat → Int), cs = [.slice A n cap] ∧ At5 w A n Z ∧ n + 1 ≤ Rows.uptoBulk d ∧ (A = none → n = 0 ∧ cap = 0) := by
  rcases Go.Deep.open_slice ht hf with ⟨hcs, hx⟩ | ⟨a, len, cap, m, n, D, Pl, hcs, _, hl, _, hm, hx, hel⟩
  · exact ⟨none, 0, 0, fun _ _ => 0, hcs, fun q => absurd q (Nat.lt_irrefl _), bulk_one _, fun _ => ⟨rfl, rfl⟩⟩
  · simp only [if_true] at hm
    have each : ∀ i, i < len → ∃ z : Nat → Int, ∀ j, j < 5 → w.cell? (a.add (i * 5 + j)) = some (.int .i64 (z j)) := by
      intro i hi
      obtain ⟨cs', hc', ht'⟩ := hel i (by omega)
      rw [hce] at hc'
      obtain ⟨xs, m', _, _, hlen, hxl, hxs⟩ := DataW.trod_array he ht'
      rw [hce] at hlen
      have hj : ∀ j, j < 5 → ∃ z, cs'[j]? = some (.int .i64 z) := by
        intro j hj
        have h1 := hxs j hj
        rw [hct, Nat.mul_one] at h1
        obtain ⟨y, hy⟩ : ∃ y, xs[j]? = some y := ⟨xs[j], List.getElem?_eq_getElem (by omega)⟩
        rw [hy] at h1
        obtain ⟨z, hz, _, _⟩ := DataW.trod_int hte h1
        refine ⟨z, ?_⟩
        have h2 := congrArg (·[0]?) hz
        simpa using h2
      obtain ⟨z, hz⟩ := Go.Deep.choose_lt hj
      refine ⟨z, fun j hj => ?_⟩
      rw [← Go.Deep.add_add, cells_at hc' j hj, hz j hj]
    obtain ⟨Z, hZ⟩ := Go.Deep.choose_lt each
    have hd : d = .slice ((List.range len).map D) ((List.range (m - len)).map fun j => D (len + j)) := (Prod.mk.inj hx).1
    refine ⟨some a, len, cap, Z, hcs, fun hpos => ?_, ?_, fun q => by cases q⟩
    · obtain ⟨b, o, sp⟩ := a
      have h0 := hZ 0 hpos 0 (by omega)
      have e0 : (Addr.add ⟨b, o, sp⟩ (0 * 5 + 0)) = ⟨b, o, sp⟩ := by simp [Addr.add]
      rw [e0] at h0
      obtain rfl : sp = none := Go.Proofs.cell_spot h0
      refine ⟨b, o, rfl, fun i j hi hj => ?_⟩
      have h1 := hZ i hi j hj
      rw [Addr.add_lit, ← Nat.add_assoc] at h1
      exact h1
    · rw [hd]
      have := bulk_len ((List.range len).map D)
      simp only [Rows.uptoBulk]
      simp at this
      omega

/-- A slice of slices of rows of five numbers: where each one lies, how many rows it has. -/
structure Lists5 where
  A : Nat → Option Addr
  n : Nat → Nat
  cap : Nat → Nat
  Z : Nat → Nat → Nat → Int
/-- .. in memory. -/
def At55 (w : World) (A : Option Addr) (N : Nat) (L : Lists5) : Prop := 0 < N → ∃ R o, A = some ⟨R, o, none⟩ ∧ ∀ i, i < N → w.cell? ⟨R, o + i, none⟩ = some (.slice (L.A i) (L.n i) (L.cap i)) ∧ At5 w (L.A i) (L.n i) (L.Z i) ∧ (L.A i = none → L.n i = 0 ∧ L.cap i = 0)
theorem open_rows55 {t t1 e te : TypeId} {r : Reach} {b0 : Nat} {v : Value} {d : DataW H} {p : List MemPlace} (ht : P.underlying t = some (.slice t1)) (ht1 : P.underlying t1 = some (.slice e)) (he : P.underlying e = some (.array 5 te)) (hte : P.underlying te = some (.int .i64)) (hc1 : P.cellsOf t1 = 1) (hce : P.cellsOf e = 5) (hct : P.cellsOf te = 1)
    (hv : Value.okWide P w r b0 t v) (h : DataW.Trod enc P w base (fun _ => true) held t v d p) :
    ∃ (A : Option Addr) (N cap : Nat) (L : Lists5), v = .slice A N cap ∧ At55 w A N L ∧ ((List.range N).map fun i => L.n i + 1).sum + 1 ≤ Rows.uptoBulk d ∧ (A = none → N = 0 ∧ cap = 0) := by
  obtain ⟨a0, len, cap, rfl⟩ := okWide_slice ht hv
  obtain ⟨fuel, hf⟩ := h
  rcases Go.Deep.open_slice ht hf with ⟨hcs, hx⟩ | ⟨a, len1, cap1, m, n, D, Pl, hcs, _, hl, _, hm, hx, hel⟩
  · simp [Value.cells] at hcs
    obtain ⟨rfl, rfl, rfl⟩ := hcs
    exact ⟨none, 0, 0, ⟨fun _ => none, fun _ => 0, fun _ => 0, fun _ _ _ => 0⟩, rfl, fun q => absurd q (Nat.lt_irrefl _), by simpa using bulk_one d, fun _ => ⟨rfl, rfl⟩⟩
  · simp [Value.cells] at hcs
    obtain ⟨rfl, rfl, rfl⟩ := hcs
    simp only [if_true] at hm
    have each : ∀ i, i < len → ∃ q : Option Addr × Nat × Nat × (Nat → Nat → Int), w.cell? (a.add i) = some (.slice q.1 q.2.1 q.2.2.1) ∧ At5 w q.1 q.2.1 q.2.2.2 ∧ q.2.1 + 1 ≤ Rows.uptoBulk (D i) ∧ (q.1 = none → q.2.1 = 0 ∧ q.2.2.1 = 0) := by
      intro i hi
      obtain ⟨cs', hc', ht'⟩ := hel i (by omega)
      rw [hc1, Nat.mul_one] at hc'
      obtain ⟨A, k, c, Z, rfl, h5, hb, hn⟩ := open_rows5c ht1 he hte hce hct ht'
      refine ⟨(A, k, c, Z), ?_, h5, hb, hn⟩
      have := cells_at hc' 0 (by omega)
      simpa [Addr.add] using this
    obtain ⟨q, hq⟩ := Go.Deep.choose_lt each
    have hd : d = .slice ((List.range len).map D) ((List.range (m - len)).map fun j => D (len + j)) := (Prod.mk.inj hx).1
    refine ⟨some a, len, cap, ⟨fun i => (q i).1, fun i => (q i).2.1, fun i => (q i).2.2.1, fun i => (q i).2.2.2⟩, rfl, fun hpos => ?_, ?_, fun q => by cases q⟩
    · obtain ⟨b, o, sp⟩ := a
      have h0 := (hq 0 hpos).1
      have e0 : (Addr.add ⟨b, o, sp⟩ 0) = ⟨b, o, sp⟩ := by simp [Addr.add]
      rw [e0] at h0
      obtain rfl : sp = none := Go.Proofs.cell_spot h0
      refine ⟨b, o, rfl, fun i hi => ?_⟩
      obtain ⟨h1, h2, h3, h4⟩ := hq i hi
      rw [Addr.add_lit] at h1
      exact ⟨h1, h2, h4⟩
    · rw [hd]
      have := bulk_map D (fun i => (q i).2.1 + 1) len (fun i hi => (hq i hi).2.2.1)
      simp only [Rows.uptoBulk]
      omega
end
end Go.Proofs.YtnokiikgnplpmaaDoor
namespace Go.Proofs.YtnokiikgnplpmaaDoor
open Go.RowKit Go.Maps

theorem laid_out : laidOutB Tryd.prog = true := by kernel_rfl
theorem row_place : (42 : TypeId) < Tryd.prog.types.size := of_decide_eq_true (by kernel_rfl)
theorem row_seg : (45 : TypeId) < Tryd.prog.types.size := of_decide_eq_true (by kernel_rfl)
theorem wide_place : (match Tryd.prog.underlying 42 with | some (.array _ _) | some (.struct _) => true | _ => false) = true := by rw [Tryd.underlying42]
theorem wide_seg : (match Tryd.prog.underlying 45 with | some (.array _ _) | some (.struct _) => true | _ => false) = true := by rw [Tryd.underlying45]
set_option maxRecDepth 100000 in
theorem law_place : Keyed Tryd.prog 42 := Keyed.of_law (deep_law_laid laid_out (m := 3) (by omega) row_place (by kernel_rfl) wide_place)
set_option maxRecDepth 100000 in
theorem law_seg : Keyed Tryd.prog 45 := Keyed.of_law (deep_law_laid laid_out (m := 3) (by omega) row_seg (by kernel_rfl) wide_seg)
theorem zero_bool (w : World) : (zeroValue 4).run Tryd.prog w = .ok (.bool false) w := by kernel_rfl

theorem cells_place : Tryd.prog.cellsOf 42 = 2 := by kernel_rfl
theorem cells_seg : Tryd.prog.cellsOf 45 = 7 := by kernel_rfl
theorem cells_int : Tryd.prog.cellsOf 3 = 1 := by kernel_rfl
theorem cells_bool : Tryd.prog.cellsOf 4 = 1 := by kernel_rfl
theorem lits_int (n : Nat) (a : Int) (ha : (Lit.int .i64 a).wf = true) : Tryd.prog.keyLits (n + 1) 3 [.int .i64 a] = some [.int .i64 a] := by
  unfold Program.keyLits
  rw [Tryd.underlying3]
  simp [ha]
theorem lits_bool (n : Nat) (b : Bool) : Tryd.prog.keyLits (n + 1) 4 [.bool b] = some [.bool b] := by
  unfold Program.keyLits
  rw [Tryd.underlying4]
theorem lits_place (n : Nat) (a b : Int) (ha : (Lit.int .i64 a).wf = true) (hb : (Lit.int .i64 b).wf = true) : Tryd.prog.keyLits (n + 2) 42 [.int .i64 a, .int .i64 b] = some [.int .i64 a, .int .i64 b] := by
  unfold Program.keyLits
  rw [Tryd.underlying42]
  simp [cells_place, cells_int, lits_int, ha, hb]
theorem lits_seg (n : Nat) (a b c d e f : Int) (g : Bool) (ha : (Lit.int .i64 a).wf = true) (hb : (Lit.int .i64 b).wf = true) (hc : (Lit.int .i64 c).wf = true) (hd : (Lit.int .i64 d).wf = true) (he : (Lit.int .i64 e).wf = true) (hf : (Lit.int .i64 f).wf = true) :
    Tryd.prog.keyLits (n + 3) 45 [.int .i64 a, .int .i64 b, .int .i64 c, .int .i64 d, .int .i64 e, .int .i64 f, .bool g] = some [.int .i64 a, .int .i64 b, .int .i64 c, .int .i64 d, .int .i64 e, .int .i64 f, .bool g] := by
  unfold Program.keyLits
  rw [Tryd.underlying45]
  simp [cells_place, cells_int, cells_bool, cells_seg, lits_int, lits_bool, lits_place, ha, hb, hc, hd, he, hf]
theorem depth3 : ∃ n, Tryd.prog.types.size + 1 = n + 3 := ⟨Tryd.prog.types.size - 2, by have : 3 ≤ Tryd.prog.types.size := of_decide_eq_true (by kernel_rfl); omega⟩
theorem key_place (a b : Int) (ha : (Lit.int .i64 a).wf = true) (hb : (Lit.int .i64 b).wf = true) : ∃ kl, keyOf Tryd.prog 42 (.agg #[.int .i64 a, .int .i64 b]) = some kl := by
  obtain ⟨n, hn⟩ := depth3
  have hk : Tryd.prog.keyType 42 = true := by kernel_rfl
  have hf : (Value.agg #[.int .i64 a, .int .i64 b]).formed Tryd.prog 42 = true := by simp [Value.formed, Tryd.underlying42, cells_place]
  refine ⟨.string (keyBytes [.int .i64 a, .int .i64 b]), ?_⟩
  unfold keyOf
  rw [Tryd.underlying42]
  simp only [hk, hf, Bool.and_self, if_true, hn]
  have e : (Value.agg #[.int .i64 a, .int .i64 b]).cells.toList = [.int .i64 a, .int .i64 b] := rfl
  rw [e, show n + 3 = (n + 1) + 2 by omega, lits_place _ _ _ ha hb]
  rfl
theorem key_seg (a b c d e f : Int) (g : Bool) (ha : (Lit.int .i64 a).wf = true) (hb : (Lit.int .i64 b).wf = true) (hc : (Lit.int .i64 c).wf = true) (hd : (Lit.int .i64 d).wf = true) (he : (Lit.int .i64 e).wf = true) (hf : (Lit.int .i64 f).wf = true) :
    ∃ kl, keyOf Tryd.prog 45 (.agg #[.int .i64 a, .int .i64 b, .int .i64 c, .int .i64 d, .int .i64 e, .int .i64 f, .bool g]) = some kl := by
  obtain ⟨n, hn⟩ := depth3
  have hk : Tryd.prog.keyType 45 = true := by kernel_rfl
  have hfm : (Value.agg #[.int .i64 a, .int .i64 b, .int .i64 c, .int .i64 d, .int .i64 e, .int .i64 f, .bool g]).formed Tryd.prog 45 = true := by simp [Value.formed, Tryd.underlying45, cells_seg]
  refine ⟨.string (keyBytes [.int .i64 a, .int .i64 b, .int .i64 c, .int .i64 d, .int .i64 e, .int .i64 f, .bool g]), ?_⟩
  unfold keyOf
  rw [Tryd.underlying45]
  simp only [hk, hfm, Bool.and_self, if_true, hn]
  have e : (Value.agg #[.int .i64 a, .int .i64 b, .int .i64 c, .int .i64 d, .int .i64 e, .int .i64 f, .bool g]).cells.toList = [.int .i64 a, .int .i64 b, .int .i64 c, .int .i64 d, .int .i64 e, .int .i64 f, .bool g] := rfl
  rw [e, lits_seg _ _ _ _ _ _ _ _ ha hb hc hd he hf]
  rfl

/-- A set in memory: all of S is in it. -/
def SetIn (w : World) (kt : TypeId) (b n : Nat) (S : List Value) : Prop :=
  ∃ D : DataW Unit, w.ownsMap Tryd.prog kt (plainElem Tryd.prog 4) b n D ∧ ∀ v ∈ S, ∀ kl, keyOf Tryd.prog kt v = some kl → D.atKey kl (.lit (.bool false)) = .lit (.bool true)
theorem SetIn.made (w : World) (kt : TypeId) : SetIn (w.alloc (.map #[] 0)) kt w.heap.size 0 [] := ⟨.map [], World.ownsMap_made _ _ _ _, fun v hv => by simp at hv⟩
theorem SetIn.lt {w : World} {kt : TypeId} {b n : Nat} {S : List Value} (h : SetIn w kt b n S) : b < w.heap.size := by
  obtain ⟨D, hD, _⟩ := h
  exact hD.lt
theorem SetIn.mono {w : World} {kt : TypeId} {b n m : Nat} {S : List Value} (h : SetIn w kt b n S) (hn : n ≤ m) : SetIn w kt b m S := by
  obtain ⟨D, hD, h2⟩ := h
  exact ⟨D, hD.mono hn, h2⟩
theorem SetIn.block {w w' : World} {kt : TypeId} {b n : Nat} {S : List Value} (h : SetIn w kt b n S) (hb : w'.heap[b]? = w.heap[b]?) : SetIn w' kt b n S := by
  obtain ⟨D, ⟨es, clock, h0, F, h1, h2⟩, h3⟩ := h
  exact ⟨D, ⟨es, clock, hb.trans h0, F, h1, h2⟩, h3⟩
theorem SetIn.below {w w' : World} {kt : TypeId} {b n : Nat} {S : List Value} (h : SetIn w kt b n S) {B : Nat} (hb : Below B w w') (hB : b < B) : SetIn w' kt b n S := h.block (hb.block b hB)
set_option maxRecDepth 100000 in
/-- v is put into a set. -/
theorem wpList_set_put {w : World} {ops : Array Oper} {rest : List Oper} {o : Oper} {a : Act} {Q : Exit → Act → World → Prop} (hg : o.guard = none) (m x v : Operand) (t kt : TypeId) (hop : o.op = Op.mapUpdate t m x v)
    (K : Keyed Tryd.prog kt) (ht : Tryd.prog.underlying t = some (.map kt 4)) (b n : Nat) (S : List Value) (hm : a.eval m = .map (some b)) (hown : SetIn w kt b n S) (hn : n < maxLen) (key : Value) (kl : Lit) (hx : a.eval x = key) (hv : a.eval v = .bool true) (hkey : keyOf Tryd.prog kt key = some kl)
    (hK : ∀ w', SetIn w' kt b (n + 1) (S ++ [key]) → w.grownBy w' (some b) → wpList Tryd.prog ops Q rest (a.put o.dst undef) w') : wpList Tryd.prog ops Q (o :: rest) a w := by
  obtain ⟨D, hD, hS⟩ := hown
  refine wpList_mapUpdate_own w hg m x v t hop kt 4 K ht (plainElem Tryd.prog 4) b n D hm hD hn key (.bool true) kl hx hv hkey (.lit (.bool true)) [] (plainElem_bool Tryd.underlying4 true) ?_
  intro w' h1 h2
  refine hK w' ⟨_, h1, fun u hu ku hku => ?_⟩ h2
  by_cases e : ku = kl
  · subst e
    exact atKey_put_same hD.isMap (K.key hkey) _ _
  · rw [atKey_put_other e]
    rcases List.mem_append.1 hu with hu | hu
    · exact hS u hu ku hku
    · rw [List.mem_singleton] at hu
      subst hu
      rw [hkey] at hku
      exact absurd (Option.some.inj hku).symm e
set_option maxRecDepth 100000 in
/-- What is in a set is found. -/
theorem set_look {w : World} {t kt : TypeId} (K : Keyed Tryd.prog kt) (ht : Tryd.prog.underlying t = some (.map kt 4)) {b n : Nat} {S : List Value} (hown : SetIn w kt b n S) {key : Value} {kl : Lit} (hkey : keyOf Tryd.prog kt key = some kl) (hS : key ∈ S) :
    (Instr.lookup t (.map (some b)) key false).run Tryd.prog w = .ok (.bool true) w := by
  obtain ⟨D, hD, h⟩ := hown
  obtain ⟨v, ps, hrun, hv⟩ := hD.lookup K ht (zero_bool w) (plainElem_bool Tryd.underlying4 false) hkey
  rw [h key hS kl hkey] at hv
  have e : v = .bool true := by
    unfold plainElem at hv
    rw [Tryd.underlying4] at hv
    cases v <;> simp at hv
    rw [hv.1]
  rw [hrun, e]
end Go.Proofs.YtnokiikgnplpmaaDoor

/-
  The contract of (*ChunkBuilder).appendMappingWithoutRemapping, without a name. Conditions: the numbers of both states are below 2^38.
-/
import Derived.Test.YtnokiikgnplpmaaDoorM1
import Derived.Deep.RegionWith
import Derived.Deep.DrawnRows
namespace Go.Proofs.YtnokiikgnplpmaaDoor
open Go.RowKit
attribute [local go_sem ↓] Go.wp_at_zero Go.wp_at_succ

/-- The cells of bytes. -/
def bc (l : List UInt8) : List Value := l.map fun b => Value.int .u8 (b.toNat : Int)
theorem bc_len (l : List UInt8) : (bc l).length = l.length := by simp [bc]
theorem bc_app (l r : List UInt8) : bc (l ++ r) = bc l ++ bc r := by simp [bc]
theorem bc_nb (n : Int) : bc (nb n) = sgc (nd n) := by
  unfold bc nb sgc
  rw [List.map_map]
  apply List.map_congr_left
  intro d hd
  have h := sg_lt d (nd_lt n d hd)
  simp [Function.comp]
  omega

/-- The last byte of some, 0 if there is none. -/
def lastB (l : List UInt8) : Nat := (l.getLast?.map UInt8.toNat).getD 0
/-- The bytes of a mapping. -/
def segb (lb : Nat) (p c : St) : List UInt8 := (if comma lb then [44] else []) ++ nb (c.gc - p.gc) ++ nb (c.si - p.si) ++ nb (c.ol - p.ol) ++ nb (c.oc - p.oc)
theorem bc_segb (lb : Nat) (p c : St) : bc (segb lb p c) = segc lb p c := by
  simp only [segb, segc, bc_app, bc_nb, cmc]
  split <;> simp [bc]

/-- A builder: the bytes so far, the state of the last mapping, and the rest. -/
structure Bd where
  sm : List UInt8
  st : St
  lu : Nat
  gcol : Nat
  plen : Nat
  ploc : Int
  has : Bool
  lsm : Bool

/-- A builder's cells: its slice of bytes, its map of names, its tables. -/
def Bd.cells (d : Bd) (v mp tv : Value) : Array Value :=
  #[.pointer none, v, .slice none 0 0, mp, tv, .string ByteArray.empty, .int .i64 d.st.gl, .int .i64 d.st.gc, .int .i64 d.st.si, .int .i64 d.st.ol, .int .i64 d.st.oc, .int .i64 d.st.on, .bool false,
    .int .i64 d.lu, .int .i64 d.gcol, .int .i64 d.plen, .int .i32 d.ploc, .int .u32 0, .bool d.has, .bool false, .bool d.lsm, .bool true]

/-- The builder lies in block g; its bytes are a row of its own, from base on. -/
def Bld (w : World) (g base : Nat) (v mp tv : Value) (d : Bd) : Prop := Blk w g 84 (d.cells v mp tv) ∧ w.ownsRow base 5 1 v d.sm.length (bc d.sm) ∧ g < base ∧ base ≤ w.heap.size

/-- What an operation of the builder leaves: the builder, its bytes and new blocks apart, all is as it was. -/
def Bst (w : World) (g : Nat) (v : Value) (w' : World) (v' : Value) : Prop := Kep (fun k => k = g ∨ v.ownBlock = some k) w w' ∧ (v'.ownBlock = v.ownBlock ∨ ∃ k, w.heap.size ≤ k ∧ v'.ownBlock = some k)

/-- The builder with a mapping more. -/
def Bd.emit (d : Bd) (c : St) : Bd := { d with sm := d.sm ++ segb (lastB d.sm) d.st c, st := { c with on := d.st.on }, has := true }

theorem last_cell (l : List UInt8) (h : 0 < l.length) : (bc l)[l.length - 1]? = some (.int .u8 (lastB l : Int)) := by
  have e : l.getLast? = some (l[l.length - 1]'(by omega)) := by rw [List.getLast?_eq_getElem?, List.getElem?_eq_getElem (by omega)]
  simp [bc, lastB, e, show l.length - 1 < l.length by omega]

/-- A row of one's own is a slice of so many. -/
theorem own_form {w : World} {base e size n : Nat} {v : Value} {xs : List Value} (h : w.ownsRow base e size v n xs) : ∃ A c, v = .slice A n c ∧ (0 < n → ∃ k, A = some ⟨k, 0, none⟩ ∧ ∀ j u, xs[j]? = some u → w.cell? ⟨k, j, none⟩ = some u) := by
  obtain ⟨h1, h2⟩ := h
  rcases h2 with ⟨rfl, rfl⟩ | ⟨k, cap, cur, rfl, hgb, hh, r⟩
  · exact ⟨none, 0, rfl, fun h => absurd h (by omega)⟩
  · refine ⟨_, _, rfl, fun _ => ⟨k, rfl, fun j u hj => ?_⟩⟩
    have := World.ownsRow.cells (g := k) ⟨h1, .inr ⟨k, cap, cur, rfl, hgb, hh, r⟩⟩ rfl j u hj
    rwa [Addr.add_lit, Nat.zero_add] at this

theorem _root_.Go.World.ownsRow.kept_below {w w1 : World} {base e size n : Nat} {v : Value} {xs : List Value} (h : w.ownsRow base e size v n xs) (hb : Below w.heap.size w w1) : w1.ownsRow base e size v n xs := by
  obtain ⟨h1, h2⟩ := h
  refine ⟨h1, ?_⟩
  rcases h2 with h2 | ⟨k, cap, cur, hv, hgb, hh, r⟩
  · exact .inl h2
  · refine .inr ⟨k, cap, cur, hv, hgb, ?_, r⟩
    rw [hb.block k ?_]
    · exact hh
    · rcases Nat.lt_or_ge k w.heap.size with hlt | hge
      · exact hlt
      · rw [Array.getElem?_eq_none hge] at hh; cases hh

/-- Behind the append: the bytes are stored in the builder, and a word elsewhere. -/
theorem emit_close {w W2 w3 : World} {g base n i j : Nat} {xs cs : List Value} {v v3 mp tv : Value} {d : Bd} {cc : Array Value} (bW2 : Below w.heap.size w W2) (HA : App base n xs v W2.drew cs v3 w3)
    (hb : Blk W2 g 84 (d.cells v mp tv)) (bI : Blk W2 i 82 #[.int .u32 0]) (bC : Blk W2 j 77 cc) (hg : ¬ v.ownBlock = some g) (hi : ¬ v.ownBlock = some i) (hj : ¬ v.ownBlock = some j) (hgi : g ≠ i) (hgj : g ≠ j) (hij : i ≠ j) (hiw : w.heap.size ≤ i) :
    ((w3.setCell ⟨g, 1, none⟩ v3).setCell ⟨i, 0, none⟩ (.int .u32 0)).ownsRow base 5 1 v3 (n + cs.length) (xs ++ cs) ∧ Blk ((w3.setCell ⟨g, 1, none⟩ v3).setCell ⟨i, 0, none⟩ (.int .u32 0)) g 84 (d.cells v3 mp tv) ∧
      Bst w g v ((w3.setCell ⟨g, 1, none⟩ v3).setCell ⟨i, 0, none⟩ (.int .u32 0)) v3 ∧ Blk ((w3.setCell ⟨g, 1, none⟩ v3).setCell ⟨i, 0, none⟩ (.int .u32 0)) j 77 cc := by
  obtain ⟨a1, a2, a3⟩ := HA
  have ne : ∀ k, k < W2.heap.size → ¬ v.ownBlock = some k → v3.ownBlock ≠ some k := by
    intro k hk hn
    rcases a3 with e | ⟨q, hq, e⟩
    · rw [e]; exact hn
    · rw [e]
      intro h
      injection h with h
      have : W2.heap.size ≤ q := hq
      omega
  have g1 := ne g hb.lt hg
  have i1 := ne i bI.lt hi
  have j1 := ne j bC.lt hj
  refine ⟨ownsRow_setCell_other (ownsRow_setCell_other a1 g1 _) i1 _, ?_, ⟨?_, ?_⟩, ?_⟩
  · have h1 : Blk w3 g 84 (d.cells v mp tv) := Blk.kep (w := W2.drew) hb a2 hg
    exact (h1.set_ 1 v3).far (p := ⟨i, 0, none⟩) hgi _
  · have k1 : Kep (fun k => k = g ∨ v.ownBlock = some k) w w3 := (Kep.of_below (X := fun k => k = g ∨ v.ownBlock = some k) bW2).drew.then (a2.mono (Y := fun k => k = g ∨ v.ownBlock = some k) fun k _ h => .inr h) fun k h => .inl h
    exact (k1.setCell (.inl (.inl rfl)) _).setCell (.inr hiw) _
  · rcases a3 with e | ⟨q, hq, e⟩
    · exact .inl e
    · exact .inr ⟨q, by have h1 : W2.heap.size ≤ q := hq; have := bW2.size; omega, e⟩
  · exact ((Blk.kep (w := W2.drew) bC a2 hj).far (p := ⟨g, 1, none⟩) (Ne.symm hgj) _).far (p := ⟨i, 0, none⟩) (Ne.symm hij) _

/-- The state is stored, and that there is one. -/
theorem emit_end {w w4 : World} {g base n : Nat} {v v4 mp tv : Value} {d : Bd} {c : St} (ho : w4.ownsRow base 5 1 v4 (n + (segc (lastB d.sm) d.st c).length) (bc d.sm ++ segc (lastB d.sm) d.st c)) (hb : Blk w4 g 84 (d.cells v4 mp tv))
    (hs : Bst w g v w4 v4) (ne4 : v4.ownBlock ≠ some g) (hgb : g < base) (hbz : base ≤ w.heap.size) (hn : n = d.sm.length) :
    Bld (((((((((w4.setCell ⟨g, 6, none⟩ (.int .i64 c.gl)).setCell ⟨g, 7, none⟩ (.int .i64 c.gc)).setCell ⟨g, 8, none⟩ (.int .i64 c.si)).setCell ⟨g, 9, none⟩ (.int .i64 c.ol)).setCell ⟨g, 10, none⟩ (.int .i64 c.oc)).setCell ⟨g, 11, none⟩ (.int .i64 c.on)).setCell ⟨g, 12, none⟩ (.bool false)).setCell ⟨g, 11, none⟩ (.int .i64 d.st.on)).setCell ⟨g, 18, none⟩ (.bool true)) g base v4 mp tv (d.emit c) ∧
    Bst w g v (((((((((w4.setCell ⟨g, 6, none⟩ (.int .i64 c.gl)).setCell ⟨g, 7, none⟩ (.int .i64 c.gc)).setCell ⟨g, 8, none⟩ (.int .i64 c.si)).setCell ⟨g, 9, none⟩ (.int .i64 c.ol)).setCell ⟨g, 10, none⟩ (.int .i64 c.oc)).setCell ⟨g, 11, none⟩ (.int .i64 c.on)).setCell ⟨g, 12, none⟩ (.bool false)).setCell ⟨g, 11, none⟩ (.int .i64 d.st.on)).setCell ⟨g, 18, none⟩ (.bool true)) v4 := by
  have hz : base ≤ w4.heap.size := Nat.le_trans hbz hs.1.size
  have b := ((((((((hb.set_ 6 (.int .i64 c.gl)).set_ 7 (.int .i64 c.gc)).set_ 8 (.int .i64 c.si)).set_ 9 (.int .i64 c.ol)).set_ 10 (.int .i64 c.oc)).set_ 11 (.int .i64 c.on)).set_ 12 (.bool false)).set_ 11 (.int .i64 d.st.on)).set_ 18 (.bool true)
  have e0 : ((((((((((d.cells v4 mp tv).setIfInBounds 6 (.int .i64 c.gl)).setIfInBounds 7 (.int .i64 c.gc)).setIfInBounds 8 (.int .i64 c.si)).setIfInBounds 9 (.int .i64 c.ol)).setIfInBounds 10 (.int .i64 c.oc)).setIfInBounds 11 (.int .i64 c.on)).setIfInBounds 12 (.bool false)).setIfInBounds 11 (.int .i64 d.st.on)).setIfInBounds 18 (.bool true)) = (d.emit c).cells v4 mp tv := by
    simp [Bd.cells, Bd.emit]
  rw [e0] at b
  have e1 : (d.emit c).sm.length = n + (segc (lastB d.sm) d.st c).length := by
    rw [← bc_segb, bc_len, hn]; simp [Bd.emit]
  have e2 : bc (d.emit c).sm = bc d.sm ++ segc (lastB d.sm) d.st c := by
    rw [← bc_segb, ← bc_app]; rfl
  have o : ∀ (W : World) (i : Nat) (u : Value), W.ownsRow base 5 1 v4 (n + (segc (lastB d.sm) d.st c).length) (bc d.sm ++ segc (lastB d.sm) d.st c) → (W.setCell ⟨g, i, none⟩ u).ownsRow base 5 1 v4 (n + (segc (lastB d.sm) d.st c).length) (bc d.sm ++ segc (lastB d.sm) d.st c) :=
    fun W i u h => ownsRow_setCell_other h ne4 u
  have q : ∀ (W : World) (i : Nat) (u : Value), Kep (fun k => k = g ∨ v.ownBlock = some k) w W → Kep (fun k => k = g ∨ v.ownBlock = some k) w (W.setCell ⟨g, i, none⟩ u) := fun W i u h => h.setCell (.inl (.inl rfl)) u
  refine ⟨⟨b, ?_, hgb, ?_⟩, ?_, hs.2⟩
  · rw [e1, e2]
    exact o _ _ _ (o _ _ _ (o _ _ _ (o _ _ _ (o _ _ _ (o _ _ _ (o _ _ _ (o _ _ _ (o _ _ _ ho))))))))
  · simp only [World.size_setCell]
    exact hz
  · exact q _ _ _ (q _ _ _ (q _ _ _ (q _ _ _ (q _ _ _ (q _ _ _ (q _ _ _ (q _ _ _ (q _ _ _ hs.1))))))))

set_option maxHeartbeats 4000000 in
set_option maxRecDepth 100000 in
theorem emit_any (w : World) (g base B : Nat) (v mp tv : Value) (d : Bd) (c : St) (h : Bld w g base v mp tv d) (hT : B64 B w) (hB : B ≤ g) (hn : d.sm.length ≤ 549755813888) (hp : d.st.ok) (hc : c.ok) :
    Calls Tryd.prog 46 #[.pointer (some ⟨g, 0, none⟩), .agg c.cells] w fun e w' => e = .returned (.tuple #[]) ∧ ∃ v', Bld w' g base v' mp tv (d.emit c) ∧ Bst w g v w' v' := by
  obtain ⟨hb, ho, hgb, hbz⟩ := h
  obtain ⟨cgl, cgc, csi, col, coc, con⟩ := c
  have c1 : w.cell? ⟨g, 1, none⟩ = some v := hb.cell 1
  have hgw : g < w.heap.size := hb.lt
  have hne : ¬ v.ownBlock = some g := fun e => by have := own_lt ho e; omega
  have p6 : w.cell? ⟨g, 6, none⟩ = some (.int .i64 d.st.gl) := hb.cell 6
  have p7 : w.cell? ⟨g, 7, none⟩ = some (.int .i64 d.st.gc) := hb.cell 7
  have p8 : w.cell? ⟨g, 8, none⟩ = some (.int .i64 d.st.si) := hb.cell 8
  have p9 : w.cell? ⟨g, 9, none⟩ = some (.int .i64 d.st.ol) := hb.cell 9
  have p10 : w.cell? ⟨g, 10, none⟩ = some (.int .i64 d.st.oc) := hb.cell 10
  have p11 : w.cell? ⟨g, 11, none⟩ = some (.int .i64 d.st.on) := hb.cell 11
  have p12 : w.cell? ⟨g, 12, none⟩ = some (.bool false) := hb.cell 12
  obtain ⟨A, cap, rfl, hA⟩ := own_form ho
  obtain ⟨n, hnn⟩ : ∃ n, n = d.sm.length := ⟨_, rfl⟩
  rw [← hnn] at ho hA hn c1 hb hne
  have HN := Lib.hid hnn
  clear hnn
  show Calls Tryd.prog 46 #[.pointer (some ⟨g, 0, none⟩), .agg #[.int .i64 cgl, .int .i64 cgc, .int .i64 csi, .int .i64 col, .int .i64 coc, .int .i64 con, .bool false]] w _
  go_enter Tryd.func46, Tryd.ntmps46
  go_upto_if 12 with fail
  have bC := Blk.new w 77 #[.int .i64 cgl, .int .i64 cgc, .int .i64 csi, .int .i64 col, .int .i64 coc, .int .i64 con, .bool false]
  have bW := balloc (Below.refl w.heap.size w) (.cells #[.int .i64 cgl, .int .i64 cgc, .int .i64 csi, .int .i64 col, .int .i64 coc, .int .i64 con, .bool false] 77)
  go_cut [4] (fun s4 wx => s4 = .int .u8 (lastB d.sm : Int) ∧ Below w.heap.size w wx ∧ Blk wx w.heap.size 77 #[.int .i64 cgl, .int .i64 cgc, .int .i64 csi, .int .i64 col, .int .i64 coc, .int .i64 con, .bool false])
  case first =>
    rcases Nat.eq_zero_or_pos n with h0 | h0
    · have e0 : ((n : Int) != 0) = false := by simp; omega
      have e1 : lastB d.sm = 0 := by
        have := HN.out
        have e : d.sm = [] := List.eq_nil_of_length_eq_zero (by omega)
        simp [e, lastB]
      have E1 := Lib.hid e1
      clear e1
      go_wp2_with fail
      go_meet
      exact ⟨by rw [E1.out]; rfl, bW, bC⟩
    · have e0 : ((n : Int) != 0) = true := by simp; omega
      obtain ⟨k, rfl, hcells⟩ := hA h0
      have hk : k < w.heap.size := (own_lt ho (k := k) rfl).2
      have lc : w.cell? ⟨k, n - 1, none⟩ = some (.int .u8 (lastB d.sm : Int)) := hcells _ _ (by rw [HN.out]; exact last_cell _ (by rw [← HN.out]; exact h0))
      clear hcells
      generalize lastB d.sm = lb at *
      have i1 : (1 : Int) ≤ (n : Int) := by omega
      go_wp2_with fail
      go_quiet (fail)
      go_wp2_with fail
      go_meet
      exact ⟨rfl, ⟨bW.os, bW.tape, bW.output, bW.size, bW.block⟩, bC⟩
  case rest =>
    obtain ⟨rfl, bWc, bCc⟩ := hcut
    obtain ⟨w1, hw1⟩ : ∃ w1, w1 = wc := ⟨_, rfl⟩
    rw [← hw1] at bWc bCc
    rw [← hw1]
    clear hw1 bC bW hA
    go_upto_region 5 with fail
    have hb2 : Blk (w1.alloc (.cells #[.int .u32 0] 82)) g 84 (d.cells (.slice A n cap) mp tv) := ((Kep.of_below (X := fun _ => False) bWc).block g hgw (fun h => h)).trans hb |> fun h => Blk.alloc h _
    have bC2 : Blk (w1.alloc (.cells #[.int .u32 0] 82)) w.heap.size 77 _ := bCc.alloc _
    have bI2 := Blk.new w1 82 #[.int .u32 0]
    have bW2 := balloc bWc (.cells #[.int .u32 0] 82)
    have ho2 : (w1.alloc (.cells #[.int .u32 0] 82)).ownsRow base 5 1 (.slice A n cap) n (bc d.sm) := (ho.kept_below bWc).alloc _
    have hz2 : (w1.alloc (.cells #[.int .u32 0] 82)).heap.size = w1.heap.size + 1 := by simp
    have hw1z : w.heap.size < w1.heap.size := bCc.lt
    generalize w1.alloc (.cells #[.int .u32 0] 82) = W2 at *
    have HZ2 := Lib.hid hz2
    have z2 : w1.heap.size < W2.heap.size := by omega
    have z3 : w.heap.size < W2.heap.size := by omega
    have z4 : g < W2.heap.size := by omega
    clear hz2
    have q1 : W2.cell? ⟨g, 1, none⟩ = some (.slice A n cap) := hb2.cell 1
    have q6 : W2.cell? ⟨g, 6, none⟩ = some (.int .i64 d.st.gl) := hb2.cell 6
    have q7 : W2.cell? ⟨g, 7, none⟩ = some (.int .i64 d.st.gc) := hb2.cell 7
    have q8 : W2.cell? ⟨g, 8, none⟩ = some (.int .i64 d.st.si) := hb2.cell 8
    have q9 : W2.cell? ⟨g, 9, none⟩ = some (.int .i64 d.st.ol) := hb2.cell 9
    have q10 : W2.cell? ⟨g, 10, none⟩ = some (.int .i64 d.st.oc) := hb2.cell 10
    have q11 : W2.cell? ⟨g, 11, none⟩ = some (.int .i64 d.st.on) := hb2.cell 11
    have q12 : W2.cell? ⟨g, 12, none⟩ = some (.bool false) := hb2.cell 12
    have r0 : W2.cell? ⟨w.heap.size, 0, none⟩ = some (.int .i64 cgl) := bC2.cell 0
    have r1 : W2.cell? ⟨w.heap.size, 1, none⟩ = some (.int .i64 cgc) := bC2.cell 1
    have r2 : W2.cell? ⟨w.heap.size, 2, none⟩ = some (.int .i64 csi) := bC2.cell 2
    have r3 : W2.cell? ⟨w.heap.size, 3, none⟩ = some (.int .i64 col) := bC2.cell 3
    have r4 : W2.cell? ⟨w.heap.size, 4, none⟩ = some (.int .i64 coc) := bC2.cell 4
    have r5 : W2.cell? ⟨w.heap.size, 5, none⟩ = some (.int .i64 con) := bC2.cell 5
    have r6 : W2.cell? ⟨w.heap.size, 6, none⟩ = some (.bool false) := bC2.cell 6
    have hT2 : B64 B W2 := hT.below (bW2.mono (by omega))
    clear c1 p6 p7 p8 p9 p10 p11 p12
    go_cut [] (fun wx => ∃ v', wx.ownsRow base 5 1 v' (n + (segc (lastB d.sm) d.st ⟨cgl, cgc, csi, col, coc, con⟩).length) (bc d.sm ++ segc (lastB d.sm) d.st ⟨cgl, cgc, csi, col, coc, con⟩) ∧ Blk wx g 84 (d.cells v' mp tv) ∧ Bst w g (.slice A n cap) wx v' ∧ Blk wx w.heap.size 77 #[.int .i64 cgl, .int .i64 cgc, .int .i64 csi, .int .i64 col, .int .i64 coc, .int .i64 con, .bool false])
    case first =>
      have hneI : ¬ (Value.slice A n cap).ownBlock = some w1.heap.size := fun e => by have := own_lt ho e; omega
      have hneC : ¬ (Value.slice A n cap).ownBlock = some w.heap.size := fun e => by have := own_lt ho e; omega
      have hbz2 : base ≤ W2.heap.size := by omega
      have HH := Lib.hid (And.intro hb2 (And.intro bI2 bC2))
      clear hb2 bI2 bC2
      go_region_with (go_at_call 53; refine (mapping_any (.slice A n cap) n (bc d.sm) (lastB d.sm) d.st ⟨cgl, cgc, csi, col, coc, con⟩ B base _ (by exact hT2) (by exact ho2) (by exact hbz2) (by omega) hn hp hc).mono ?_; rintro e w3 ⟨v3, rfl, ha⟩; obtain ⟨A3, c3, rfl, _⟩ := own_form ha.1; have s1 : w3.cell? ⟨g, 1, none⟩ = some (.slice A n cap) := (Blk.kep (w := W2.drew) HH.out.1 ha.2.1 hne).cell 1; have s2 : w3.frozen? ⟨g, 1, none⟩ = false := (Blk.kep (w := W2.drew) HH.out.1 ha.2.1 hne).frozen 1; have s3 : w3.cell? ⟨w1.heap.size, 0, none⟩ = some (.int .u32 0) := (Blk.kep (w := W2.drew) HH.out.2.1 ha.2.1 hneI).cell 0; have s4 : w3.frozen? ⟨w1.heap.size, 0, none⟩ = false := (Blk.kep (w := W2.drew) HH.out.2.1 ha.2.1 hneI).frozen 0; have HA := Lib.hid ha; clear ha)
      all_goals go_wp2_with fail
      all_goals go_meet
      all_goals exact ⟨_, emit_close bW2 HA.out HH.out.1 HH.out.2.1 HH.out.2.2 hne hneI hneC (by omega) (by omega) (by omega) (by omega)⟩
    case rest =>
      obtain ⟨v4, ho4, hb4, hs4, bC4⟩ := hcut
      obtain ⟨w4, hw4⟩ : ∃ w4, w4 = wc := ⟨_, rfl⟩
      rw [← hw4] at ho4 hb4 hs4 bC4
      rw [← hw4]
      clear hw4 q1 q6 q7 q8 q9 q10 q11 q12 r0 r1 r2 r3 r4 r5 r6 hT2 hb2 bC2 bI2 bW2 ho2
      have t11 : w4.cell? ⟨g, 11, none⟩ = some (.int .i64 d.st.on) := hb4.cell 11
      have t0 : w4.cell? ⟨w.heap.size, 0, none⟩ = some (.int .i64 cgl) := bC4.cell 0
      have t1 : w4.cell? ⟨w.heap.size, 1, none⟩ = some (.int .i64 cgc) := bC4.cell 1
      have t2 : w4.cell? ⟨w.heap.size, 2, none⟩ = some (.int .i64 csi) := bC4.cell 2
      have t3 : w4.cell? ⟨w.heap.size, 3, none⟩ = some (.int .i64 col) := bC4.cell 3
      have t4 : w4.cell? ⟨w.heap.size, 4, none⟩ = some (.int .i64 coc) := bC4.cell 4
      have t5 : w4.cell? ⟨w.heap.size, 5, none⟩ = some (.int .i64 con) := bC4.cell 5
      have t6 : w4.cell? ⟨w.heap.size, 6, none⟩ = some (.bool false) := bC4.cell 6
      have hdf : ¬ w.heap.size = g := by omega
      have t10 : w4.cell? ⟨g, 6, none⟩ = some (.int .i64 d.st.gl) := hb4.cell 6
      have t12 : w4.cell? ⟨g, 7, none⟩ = some (.int .i64 d.st.gc) := hb4.cell 7
      have t13 : w4.cell? ⟨g, 8, none⟩ = some (.int .i64 d.st.si) := hb4.cell 8
      have t14 : w4.cell? ⟨g, 9, none⟩ = some (.int .i64 d.st.ol) := hb4.cell 9
      have t15 : w4.cell? ⟨g, 10, none⟩ = some (.int .i64 d.st.oc) := hb4.cell 10
      have t16 : w4.cell? ⟨g, 12, none⟩ = some (.bool false) := hb4.cell 12
      have t17 : w4.cell? ⟨g, 18, none⟩ = some (.bool d.has) := hb4.cell 18
      have f6 : w4.frozen? ⟨g, 6, none⟩ = false := hb4.frozen 6
      have f7 : w4.frozen? ⟨g, 7, none⟩ = false := hb4.frozen 7
      have f8 : w4.frozen? ⟨g, 8, none⟩ = false := hb4.frozen 8
      have f9 : w4.frozen? ⟨g, 9, none⟩ = false := hb4.frozen 9
      have f10 : w4.frozen? ⟨g, 10, none⟩ = false := hb4.frozen 10
      have f11 : w4.frozen? ⟨g, 11, none⟩ = false := hb4.frozen 11
      have f12 : w4.frozen? ⟨g, 12, none⟩ = false := hb4.frozen 12
      have f18 : w4.frozen? ⟨g, 18, none⟩ = false := hb4.frozen 18
      have ne4 : v4.ownBlock ≠ some g := by
        rcases hs4.2 with e | ⟨q, hq, e⟩
        · rw [e]; exact hne
        · rw [e]; intro h; injection h with h; omega
      have HO := Lib.hid ho4
      have HB := Lib.hid hb4
      have HS := Lib.hid hs4
      clear ho4 hb4 hs4
      go_wp2_with fail
      go_end0
      have hfin := emit_end (c := ⟨cgl, cgc, csi, col, coc, con⟩) HO.out HB.out HS.out ne4 hgb hbz HN.out
      exact ⟨rfl, v4, hfin.1, by rw [← HN.out]; exact hfin.2⟩
end Go.Proofs.YtnokiikgnplpmaaDoor

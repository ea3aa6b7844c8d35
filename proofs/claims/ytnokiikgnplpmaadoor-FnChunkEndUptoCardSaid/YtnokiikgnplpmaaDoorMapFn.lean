/-
  The contract of sourcemap.appendMappingToBuffer, without a name: a comma (unless a line begins), then four numbers. Conditions: the numbers of both states are below 2^38.
-/
import Derived.Test.YtnokiikgnplpmaaDoorEncFn
import Derived.Laws.Rows
namespace Go.Proofs.YtnokiikgnplpmaaDoor
open Go.RowKit

/-- A state: the generated line and column, the source, the original line and column, the name (it has none). -/
structure St where
  gl : Int
  gc : Int
  si : Int
  ol : Int
  oc : Int
  on : Int
def St.cells (s : St) : Array Value := #[.int .i64 s.gl, .int .i64 s.gc, .int .i64 s.si, .int .i64 s.ol, .int .i64 s.oc, .int .i64 s.on, .bool false]
def St.ok (s : St) : Prop := (-274877906944 < s.gl ∧ s.gl < 274877906944) ∧ (-274877906944 < s.gc ∧ s.gc < 274877906944) ∧ (-274877906944 < s.si ∧ s.si < 274877906944) ∧ (-274877906944 < s.ol ∧ s.ol < 274877906944) ∧ (-274877906944 < s.oc ∧ s.oc < 274877906944)

/-- Is there a comma behind this byte? -/
def comma (lb : Nat) : Bool := decide (lb ≠ 0 ∧ lb ≠ 59 ∧ lb ≠ 34)
/-- The comma's cell. -/
def cmc (lb : Nat) : List Value := if comma lb then [.int .u8 44] else []
/-- The cells of a mapping. -/
def segc (lb : Nat) (p c : St) : List Value := cmc lb ++ sgc (nd (c.gc - p.gc)) ++ sgc (nd (c.si - p.si)) ++ sgc (nd (c.ol - p.ol)) ++ sgc (nd (c.oc - p.oc))

theorem own_lt {w : World} {base e size n : Nat} {v : Value} {xs : List Value} (h : w.ownsRow base e size v n xs) {k : Nat} (hk : v.ownBlock = some k) : base ≤ k ∧ k < w.heap.size := by
  obtain ⟨_, h⟩ := h
  rcases h with ⟨rfl, _⟩ | ⟨g, cap, cur, rfl, hgb, hh, _⟩
  · simp [Value.ownBlock] at hk
  · simp [Value.ownBlock] at hk
    subst hk
    refine ⟨hgb, ?_⟩
    rcases Nat.lt_or_ge g w.heap.size with hlt | hge
    · exact hlt
    · rw [Array.getElem?_eq_none hge] at hh; cases hh

theorem cmc_len (lb : Nat) : (cmc lb).length ≤ 1 := by unfold cmc; split <;> simp
theorem segc_len (lb : Nat) (p c : St) : (segc lb p c).length ≤ 53 := by
  have h0 := cmc_len lb
  have h1 := nd_len (c.gc - p.gc)
  have h2 := nd_len (c.si - p.si)
  have h3 := nd_len (c.ol - p.ol)
  have h4 := nd_len (c.oc - p.oc)
  simp only [segc, List.length_append, sgc_len]
  omega

/-- A block is known whole. -/
def Blk (w : World) (g : Nat) (t : TypeId) (cs : Array Value) : Prop := w.heap[g]? = some (.cells cs t (0, 0))
theorem Blk.cell {w : World} {g : Nat} {t : TypeId} {cs : Array Value} (h : Blk w g t cs) (i : Nat) : w.cell? ⟨g, i, none⟩ = cs[i]? := cell_of_row w g i cs t (0, 0) h
theorem Blk.frozen {w : World} {g : Nat} {t : TypeId} {cs : Array Value} (h : Blk w g t cs) (i : Nat) : w.frozen? ⟨g, i, none⟩ = false := by
  unfold Blk at h
  simp [World.frozen?, h]
theorem Blk.lt {w : World} {g : Nat} {t : TypeId} {cs : Array Value} (h : Blk w g t cs) : g < w.heap.size := by
  rcases Nat.lt_or_ge g w.heap.size with hlt | hge
  · exact hlt
  · unfold Blk at h; rw [Array.getElem?_eq_none hge] at h; cases h
theorem Blk.kep {w w' : World} {g : Nat} {t : TypeId} {cs : Array Value} {X : Nat → Prop} (h : Blk w g t cs) (k : Kep X w w') (hx : ¬ X g) : Blk w' g t cs := (k.block g h.lt hx).trans h
theorem Blk.new (w : World) (t : TypeId) (cs : Array Value) : Blk (w.alloc (.cells cs t)) w.heap.size t cs := heap_alloc_new w _
theorem Blk.alloc {w : World} {g : Nat} {t : TypeId} {cs : Array Value} (h : Blk w g t cs) (o : Obj) : Blk (w.alloc o) g t cs := (Below.heap_alloc w o g h.lt).trans h
theorem Blk.drew {w : World} {g : Nat} {t : TypeId} {cs : Array Value} (h : Blk w g t cs) : Blk w.drew g t cs := h
theorem Blk.set_ {w : World} {g : Nat} {t : TypeId} {cs : Array Value} (h : Blk w g t cs) (i : Nat) (u : Value) : Blk (w.setCell ⟨g, i, none⟩ u) g t (cs.setIfInBounds i u) := by
  unfold Blk at h ⊢
  simp [World.setCell, Array.getElem?_modify, h]
theorem Blk.far {w : World} {g : Nat} {t : TypeId} {cs : Array Value} (h : Blk w g t cs) {p : Addr} (hp : g ≠ p.block) (u : Value) : Blk (w.setCell p u) g t cs := (Below.heap_setCell w p u g hp).trans h

/-- A store elsewhere, among blocks that were new to begin with. -/
theorem App.setCell {base n : Nat} {xs cs : List Value} {v v1 : Value} {w w0 w1 : World} {p : Addr} (h : App base n xs v w cs v1 w1) (hne : ¬ v.ownBlock = some p.block) (h0 : Below w0.heap.size w0 w) (hp : w0.heap.size ≤ p.block) (hp2 : p.block < w.heap.size) (u : Value) : App base n xs v w0 cs v1 (w1.setCell p u) := by
  obtain ⟨a1, a2, a3⟩ := h.after h0
  have ne1 : v1.ownBlock ≠ some p.block := by
    rcases h.2.2 with e | ⟨k, hk, e⟩
    · rw [e]; exact hne
    · rw [e]; intro q; injection q with q; omega
  exact ⟨ownsRow_setCell_other a1 ne1 u, a2.setCell (.inr hp) u, a3⟩

set_option maxHeartbeats 2000000 in
set_option maxRecDepth 100000 in
theorem mapping_any (v : Value) (n : Nat) (xs : List Value) (lb : Nat) (p c : St) (B base : Nat) (w : World) (hT : B64 B w) (hown : w.ownsRow base 5 1 v n xs) (hbase : base ≤ w.heap.size) (hB : B ≤ base) (hn : n ≤ 549755813888)
    (hp : p.ok) (hc : c.ok) :
    Calls Tryd.prog 53 #[v, .int .u8 (lb : Int), .agg p.cells, .agg c.cells, .bool false] w fun e w' => ∃ v', e = .returned (.tuple #[v', .agg #[.int .u32 0]]) ∧ App base n xs v w (segc lb p c) v' w' := by
  obtain ⟨i0, hi0, hz0, hz1, hz2⟩ := info_parts info_u8
  obtain ⟨pgl, pgc, psi, pol, poc, pon⟩ := p
  obtain ⟨cgl, cgc, csi, col, coc, con⟩ := c
  obtain ⟨⟨p1, p2⟩, ⟨p3, p4⟩, ⟨p5, p6⟩, ⟨p7, p8⟩, ⟨p9, p10⟩⟩ := hp
  obtain ⟨⟨c1, c2⟩, ⟨c3, c4⟩, ⟨c5, c6⟩, ⟨c7, c8⟩, ⟨c9, c10⟩⟩ := hc
  simp only at p1 p2 p3 p4 p5 p6 p7 p8 p9 p10 c1 c2 c3 c4 c5 c6 c7 c8 c9 c10
  clear p1 p2 c1 c2
  show Calls Tryd.prog 53 #[v, .int .u8 (lb : Int), .agg #[.int .i64 pgl, .int .i64 pgc, .int .i64 psi, .int .i64 pol, .int .i64 poc, .int .i64 pon, .bool false], .agg #[.int .i64 cgl, .int .i64 cgc, .int .i64 csi, .int .i64 col, .int .i64 coc, .int .i64 con, .bool false], .bool false] w _
  go_enter Tryd.func53, Tryd.ntmps53
  go_upto_region 1 with fail
  have bP : Blk (((w.alloc (.cells #[.int .i64 pgl, .int .i64 pgc, .int .i64 psi, .int .i64 pol, .int .i64 poc, .int .i64 pon, .bool false] 77)).alloc (.cells #[.int .i64 cgl, .int .i64 cgc, .int .i64 csi, .int .i64 col, .int .i64 coc, .int .i64 con, .bool false] 77)).alloc (.cells #[.int .u32 0] 82)) w.heap.size 77 _ := ((Blk.new _ _ _).alloc _).alloc _
  have bC : Blk (((w.alloc (.cells #[.int .i64 pgl, .int .i64 pgc, .int .i64 psi, .int .i64 pol, .int .i64 poc, .int .i64 pon, .bool false] 77)).alloc (.cells #[.int .i64 cgl, .int .i64 cgc, .int .i64 csi, .int .i64 col, .int .i64 coc, .int .i64 con, .bool false] 77)).alloc (.cells #[.int .u32 0] 82)) (w.heap.size + 1) 77 _ := (by simpa using (Blk.new (w.alloc (.cells #[.int .i64 pgl, .int .i64 pgc, .int .i64 psi, .int .i64 pol, .int .i64 poc, .int .i64 pon, .bool false] 77)) 77 #[.int .i64 cgl, .int .i64 cgc, .int .i64 csi, .int .i64 col, .int .i64 coc, .int .i64 con, .bool false]).alloc (.cells #[.int .u32 0] 82))
  have bR : Blk (((w.alloc (.cells #[.int .i64 pgl, .int .i64 pgc, .int .i64 psi, .int .i64 pol, .int .i64 poc, .int .i64 pon, .bool false] 77)).alloc (.cells #[.int .i64 cgl, .int .i64 cgc, .int .i64 csi, .int .i64 col, .int .i64 coc, .int .i64 con, .bool false] 77)).alloc (.cells #[.int .u32 0] 82)) (w.heap.size + 1 + 1) 82 #[.int .u32 0] := (by simpa using Blk.new ((w.alloc (.cells #[.int .i64 pgl, .int .i64 pgc, .int .i64 psi, .int .i64 pol, .int .i64 poc, .int .i64 pon, .bool false] 77)).alloc (.cells #[.int .i64 cgl, .int .i64 cgc, .int .i64 csi, .int .i64 col, .int .i64 coc, .int .i64 con, .bool false] 77)) 82 #[.int .u32 0])
  have bW : Below w.heap.size w (((w.alloc (.cells #[.int .i64 pgl, .int .i64 pgc, .int .i64 psi, .int .i64 pol, .int .i64 poc, .int .i64 pon, .bool false] 77)).alloc (.cells #[.int .i64 cgl, .int .i64 cgc, .int .i64 csi, .int .i64 col, .int .i64 coc, .int .i64 con, .bool false] 77)).alloc (.cells #[.int .u32 0] 82)) := balloc (balloc (balloc (Below.refl _ _) _) _) _
  have hoW := ((hown.alloc (.cells #[.int .i64 pgl, .int .i64 pgc, .int .i64 psi, .int .i64 pol, .int .i64 poc, .int .i64 pon, .bool false] 77)).alloc (.cells #[.int .i64 cgl, .int .i64 cgc, .int .i64 csi, .int .i64 col, .int .i64 coc, .int .i64 con, .bool false] 77)).alloc (.cells #[.int .u32 0] 82)
  have zW : (((w.alloc (.cells #[.int .i64 pgl, .int .i64 pgc, .int .i64 psi, .int .i64 pol, .int .i64 poc, .int .i64 pon, .bool false] 77)).alloc (.cells #[.int .i64 cgl, .int .i64 cgc, .int .i64 csi, .int .i64 col, .int .i64 coc, .int .i64 con, .bool false] 77)).alloc (.cells #[.int .u32 0] 82)).heap.size = w.heap.size + 3 := by simp
  generalize ((w.alloc (.cells #[.int .i64 pgl, .int .i64 pgc, .int .i64 psi, .int .i64 pol, .int .i64 poc, .int .i64 pon, .bool false] 77)).alloc (.cells #[.int .i64 cgl, .int .i64 cgc, .int .i64 csi, .int .i64 col, .int .i64 coc, .int .i64 con, .bool false] 77)).alloc (.cells #[.int .u32 0] 82) = W0 at *
  have HZ := Lib.hid zW
  have zW1 : w.heap.size + 2 < W0.heap.size := by omega
  clear zW
  have hTW : B64 B W0 := hT.below (bW.mono (by omega))
  have neP : ¬ (v.ownBlock = some w.heap.size) := fun e => by have := own_lt hown e; omega
  have neC : ¬ (v.ownBlock = some (w.heap.size + 1)) := fun e => by have := own_lt hown e; omega
  have neR : ¬ (v.ownBlock = some (w.heap.size + 1 + 1)) := fun e => by have := own_lt hown e; omega
  clear hT
  go_cut [22] (fun s22 wx => s22 = .bool (comma lb) ∧ W0 = wx)
  case first =>
    rcases (show lb = 0 ∨ lb = 59 ∨ lb = 34 ∨ (lb ≠ 0 ∧ lb ≠ 59 ∧ lb ≠ 34) by omega) with rfl | rfl | rfl | ⟨h1, h2, h3⟩
    · go_wp2_with fail
      go_meet
      exact ⟨rfl, rfl⟩
    · go_wp2_with fail
      go_meet
      exact ⟨rfl, rfl⟩
    · go_wp2_with fail
      go_meet
      exact ⟨rfl, rfl⟩
    · have hcm : comma lb = true := by simp [comma, h1, h2, h3]
      have e1 : ((lb : Int) != 0) = true := by simp; omega
      have e2 : ((lb : Int) != 59) = true := by simp; omega
      have e3 : ((lb : Int) != 34) = true := by simp; omega
      have HC := Lib.hid hcm
      clear hcm h1 h2 h3
      go_wp2_with fail
      go_meet
      exact ⟨by rw [HC.out], rfl⟩
  case rest =>
    obtain ⟨rfl, rfl⟩ := hcut
    go_upto_if 22 with fail
    go_cut [0] (fun s0 wx => App base n xs v W0 (cmc lb) s0 wx)
    case first =>
      rcases hcm : comma lb with _ | _
      · have HC := Lib.hid hcm
        clear hcm
        go_wp2_with fail
        go_meet
        unfold cmc
        rw [HC.out]
        exact App.nil hoW
      · have HC := Lib.hid hcm
        clear hcm
        go_wp2_with (at_builtin; refine wpList_append_own_at _ rfl (.tmp 23) (.tmp 24) _ rfl base 5 i0 _ 1 1 Tryd.underlying72 hi0 hz0 hz1 hz2 rfl (by omega) v n xs rfl (hoW.alloc _) ⟨W0.heap.size, 0, none⟩ 1 1 [.int .u8 44] rfl rfl (cell_one_new _ _ _) (by intro u hu; simp at hu; subst hu; rfl) (by unfold maxLen; omega) (by omega) (by simp; omega) ?_; intro v2 w2 hown2 hg2 hnil2 hat2; clear hnil2)
        go_meet
        unfold cmc
        rw [HC.out]
        exact (App.nil hoW).snoc (by simpa using hown2) hg2 (by simpa using hat2)
    case rest =>
    obtain ⟨w0, hw0⟩ : ∃ w0, w0 = wc := ⟨_, rfl⟩
    obtain ⟨v0, hv0⟩ : ∃ v0, v0 = u0 := ⟨_, rfl⟩
    rw [← hw0, ← hv0] at hcut
    rw [← hw0, ← hv0]
    clear hw0 hv0
    have A0 : App base n xs v W0 (cmc lb) v0 w0 := hcut
    clear hcut
    have hm0 : (cmc lb).length ≤ 1 := by have h0 := cmc_len lb; omega
    have ho0 := A0.1
    have hT0 : B64 B w0 := hTW.below (A0.below hoW hB (by omega))
    have hs0 : W0.heap.size ≤ w0.heap.size := A0.2.1.size
    have c0 : w0.cell? ⟨w.heap.size + 1, 1, none⟩ = some (.int .i64 cgc) := (bC.kep A0.2.1 neC).cell 1
    have d0 : w0.cell? ⟨w.heap.size, 1, none⟩ = some (.int .i64 pgc) := (bP.kep A0.2.1 neP).cell 1
    have HA0 := Lib.hid A0
    clear A0
    go_wp2_with fail
    refine (encode_any v0 (n + (cmc lb).length) (xs ++ (cmc lb)) _ B base _ hT0 ho0 (by omega) hB (by omega) (by omega) (by omega)).mono ?_
    rintro e w1 ⟨v1, rfl, ha1⟩
    have A1 := HA0.out.trans ha1
    clear ho0 hT0 hs0 c0 d0 HA0 ha1
    have hm1 : (cmc lb ++ sgc (nd (cgc - pgc))).length ≤ 14 := by have h0 := cmc_len lb; have h1 := nd_len (cgc - pgc); simp only [List.length_append, sgc_len]; omega
    have ho1 := A1.1
    have hT1 : B64 B w1 := hTW.below (A1.below hoW hB (by omega))
    have hs1 : W0.heap.size ≤ w1.heap.size := A1.2.1.size
    have c1 : w1.cell? ⟨w.heap.size + 1, 2, none⟩ = some (.int .i64 csi) := (bC.kep A1.2.1 neC).cell 2
    have d1 : w1.cell? ⟨w.heap.size, 2, none⟩ = some (.int .i64 psi) := (bP.kep A1.2.1 neP).cell 2
    have HA1 := Lib.hid A1
    clear A1
    go_wp2_with fail
    refine (encode_any v1 (n + (cmc lb ++ sgc (nd (cgc - pgc))).length) (xs ++ (cmc lb ++ sgc (nd (cgc - pgc)))) _ B base _ hT1 ho1 (by omega) hB (by omega) (by omega) (by omega)).mono ?_
    rintro e w2 ⟨v2, rfl, ha2⟩
    have A2 := HA1.out.trans ha2
    clear ho1 hT1 hs1 c1 d1 HA1 ha2
    have hm2 : (cmc lb ++ sgc (nd (cgc - pgc)) ++ sgc (nd (csi - psi))).length ≤ 27 := by have h0 := cmc_len lb; have h1 := nd_len (cgc - pgc); have h2 := nd_len (csi - psi); simp only [List.length_append, sgc_len]; omega
    have ho2 := A2.1
    have hT2 : B64 B w2 := hTW.below (A2.below hoW hB (by omega))
    have hs2 : W0.heap.size ≤ w2.heap.size := A2.2.1.size
    have c2 : w2.cell? ⟨w.heap.size + 1, 3, none⟩ = some (.int .i64 col) := (bC.kep A2.2.1 neC).cell 3
    have d2 : w2.cell? ⟨w.heap.size, 3, none⟩ = some (.int .i64 pol) := (bP.kep A2.2.1 neP).cell 3
    have HA2 := Lib.hid A2
    clear A2
    go_wp2_with fail
    refine (encode_any v2 (n + (cmc lb ++ sgc (nd (cgc - pgc)) ++ sgc (nd (csi - psi))).length) (xs ++ (cmc lb ++ sgc (nd (cgc - pgc)) ++ sgc (nd (csi - psi)))) _ B base _ hT2 ho2 (by omega) hB (by omega) (by omega) (by omega)).mono ?_
    rintro e w3 ⟨v3, rfl, ha3⟩
    have A3 := HA2.out.trans ha3
    clear ho2 hT2 hs2 c2 d2 HA2 ha3
    have hm3 : (cmc lb ++ sgc (nd (cgc - pgc)) ++ sgc (nd (csi - psi)) ++ sgc (nd (col - pol))).length ≤ 40 := by have h0 := cmc_len lb; have h1 := nd_len (cgc - pgc); have h2 := nd_len (csi - psi); have h3 := nd_len (col - pol); simp only [List.length_append, sgc_len]; omega
    have ho3 := A3.1
    have hT3 : B64 B w3 := hTW.below (A3.below hoW hB (by omega))
    have hs3 : W0.heap.size ≤ w3.heap.size := A3.2.1.size
    have c3 : w3.cell? ⟨w.heap.size + 1, 4, none⟩ = some (.int .i64 coc) := (bC.kep A3.2.1 neC).cell 4
    have d3 : w3.cell? ⟨w.heap.size, 4, none⟩ = some (.int .i64 poc) := (bP.kep A3.2.1 neP).cell 4
    have HA3 := Lib.hid A3
    clear A3
    go_wp2_with fail
    refine (encode_any v3 (n + (cmc lb ++ sgc (nd (cgc - pgc)) ++ sgc (nd (csi - psi)) ++ sgc (nd (col - pol))).length) (xs ++ (cmc lb ++ sgc (nd (cgc - pgc)) ++ sgc (nd (csi - psi)) ++ sgc (nd (col - pol)))) _ B base _ hT3 ho3 (by omega) hB (by omega) (by omega) (by omega)).mono ?_
    rintro e w4 ⟨v4, rfl, ha4⟩
    have A4 := HA3.out.trans ha4
    clear ho3 hT3 hs3 c3 d3 HA3 ha4
    have e6 : w4.cell? ⟨w.heap.size + 1, 6, none⟩ = some (.bool false) := (bC.kep A4.2.1 neC).cell 6
    have bR4 := bR.kep A4.2.1 neR
    have r0 : w4.cell? ⟨w.heap.size + 1 + 1, 0, none⟩ = some (.int .u32 0) := bR4.cell 0
    have r1 : w4.frozen? ⟨w.heap.size + 1 + 1, 0, none⟩ = false := bR4.frozen 0
    have hs4 : W0.heap.size ≤ w4.heap.size := A4.2.1.size
    have z4 : w.heap.size + 1 + 1 < w4.heap.size := by omega
    have z5 : w.heap.size + 1 < w4.heap.size := by omega
    have HA4 := Lib.hid A4
    have HB4 := Lib.hid bR4
    clear A4 bR4
    go_wp2_with fail
    go_region
    all_goals go_wp2_with fail
    all_goals refine bodyPost_ret (v := .tuple #[v4, .agg #[.int .u32 0]]) (by simp [results, Tryd.results53, go_sem, r0, z4]) rfl ⟨v4, rfl, ?_⟩
    all_goals exact ((HA4.out.setCell (p := ⟨w.heap.size + 1 + 1, 0, none⟩) neR bW (by show w.heap.size ≤ w.heap.size + 1 + 1; omega) (by show w.heap.size + 1 + 1 < W0.heap.size; omega) _).alloc _).drew
end Go.Proofs.YtnokiikgnplpmaaDoor

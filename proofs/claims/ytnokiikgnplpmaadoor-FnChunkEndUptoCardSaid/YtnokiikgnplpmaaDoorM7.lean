/-
  The contract of (*ChunkBuilder).GenerateChunk. Conditions: the output is not empty, and of at most 2^32 bytes together with what the builder holds.
  What impl.Chunk computes: plain. Conditions: as each lemma says.
  The bytes of a builder are tokens whose reading ends in the builder's own state; and a builder keeps count of the place in the output: plain. Conditions: as each lemma says.
  Mappings as tokens: what is written of them, and what is read of that again: plain. Conditions: as each lemma says.
  Mappings with names, moved mappings, the end of mappings: plain. Conditions: as each lemma says.
  A builder keeps count of the place in the output: plain. Conditions: as each lemma says.
  What is made of steps holds a mapping, at least: plain. Conditions: as each lemma says.
  What mappings a builder holds: each leads to a place that was added, they rise, and each one that leads elsewhere than the one ahead is there: plain. Conditions: as each lemma says.
-/
import Derived.Test.YtnokiikgnplpmaaDoorM6
import Derived.Test.YtnokiikgnplpmaaDoorM1
import Derived.Great.BuildSlice
import Derived.Deep.CutBlock
import Derived.StillTailTactics
import Derived.Test.YtnokiikgnplpmaaDoorM5
namespace Go.Proofs.YtnokiikgnplpmaaDoor
open Go.RowKit

/-- A chunk's cells. -/
def chC (d : Bd) (v : Value) (b : Bool) : Array Value := #[v, .int .u32 0, .slice none 0 0, .int .i64 d.st.gl, .int .i64 d.st.gc, .int .i64 d.st.si, .int .i64 d.st.ol, .int .i64 d.st.oc, .int .i64 d.st.on, .bool false, .int .i64 d.gcol, .bool b]
def chz : Array Value := #[.slice none 0 0, .int .u32 0, .slice none 0 0, .int .i64 0, .int .i64 0, .int .i64 0, .int .i64 0, .int .i64 0, .int .i64 0, .bool false, .int .i64 0, .bool false]
/-- The builder at the end. -/
def Bd.done (d : Bd) (ob : List UInt8) : Bd := { upd (tailOf ob d.lu) (tailOf ob d.lu).size 0 d with lu := ob.length }
theorem OutAt.after {w w' : World} {k n : Nat} {ob : List UInt8} (h : OutAt w k n ob) (hb : Below w.heap.size w w') : OutAt w' k n ob :=
  ⟨h.1, Nat.lt_of_lt_of_le h.2.1 hb.size, fun j hj => (hb.cell (p := ⟨k, j, none⟩) h.2.1).trans (h.2.2 j hj)⟩

theorem size_ch : (Tryd.prog.info? 91).map (·.size) = some 12 := by kernel_rfl
theorem ch_one (d : Bd) (a : Option Addr) (n c : Nat) (b : Bool) : (chC d (.slice a n c) b).all (·.oneCell') = true := by
  simp [chC, Value.oneCell']

set_option maxHeartbeats 2000000 in
set_option maxRecDepth 100000 in
theorem gen_any (w : World) (g base B k n cap N : Nat) (v mp tv : Value) (d : Bd) (ob : List UInt8) (h : Bld w g base v mp tv d) (hT : B64 B w) (hB : B ≤ g) (hob : OutAt w k n ob) (hkg : k ≠ g) (hkv : v.ownBlock ≠ some k)
    (hn : 0 < n) (hcap : n ≤ cap) (hlu : d.lu ≤ n) (hle : d.le N) (hN : N + 2 * n ≤ 8589934592) :
    Calls Tryd.prog 32 #[.pointer (some ⟨g, 0, none⟩), .slice (some ⟨k, 0, none⟩) n cap] w fun e w' => ∃ v' b, e = .returned (.agg (chC (d.done ob) v' b)) ∧ Bld w' g base v' mp tv (d.done ob) ∧ Bst w g v w' v' := by
  have hb0 := balloc (Below.refl w.heap.size w) (.cells chz 91)
  have bR := Blk.new w 91 chz
  have hup := update_any (w.alloc (.cells chz 91)) g base B k n cap N v mp tv d ob (h.after hb0) (hT.below (hb0.mono (by have := h.1.lt; omega))) hB (hob.after hb0) hkg hkv hn hcap hlu hle hN
  have hon : ob.length = n := hob.1
  rw [← hon] at hup
  rw [show ({ upd (tailOf ob d.lu) (tailOf ob d.lu).size 0 d with lu := ob.length } : Bd) = d.done ob from rfl, hon] at hup
  have HU := Lib.hid hup
  have HBR := Lib.hid bR
  have HB0 := Lib.hid hb0
  have H := Lib.hid h
  clear hup bR hb0 h
  go_enter Tryd.func32, Tryd.ntmps32
  go_wp2_with fail
  refine HU.out.mono ?_
  rintro e W1 ⟨rfl, v1, hB1, hS1⟩
  have hne : ¬ v.ownBlock = some w.heap.size := fun e => by have := own_lt H.out.2.1 e; omega
  have hgw : g < w.heap.size := H.out.1.lt
  have bR1 := Lib.hid (HBR.out.kep hS1.1 (fun q => by rcases q with q | q; omega; exact hne q))
  have HB1 := Lib.hid hB1
  have HS1 := Lib.hid (hS1.after HB0.out)
  have hne1 : v1.ownBlock ≠ some w.heap.size := by
    rcases hS1.2 with e | ⟨q, hq', e⟩
    · rw [e]; exact hne
    · rw [e]
      intro e2
      injection e2 with e2
      simp at hq'
      omega
  obtain ⟨d1, hd1⟩ : ∃ d1, d1 = d.done ob := ⟨_, rfl⟩
  rw [← hd1] at hB1 HB1
  have HD1 := Lib.hid hd1
  clear hS1 hd1
  have c1 : W1.cell? ⟨g, 1, none⟩ = some v1 := hB1.1.cell 1
  have hg1 : g < W1.heap.size := hB1.1.lt
  obtain ⟨A1, cp1, rfl, hA1⟩ := own_form hB1.2.1
  have HA1 := Lib.hid hA1
  have hln : d1.sm.length ≤ 9223372036854775807 := by
    obtain ⟨_, h2⟩ := hB1.2.1
    rcases h2 with ⟨e, e2⟩ | ⟨g, cap, cur, e, _, _, h4, h5, _⟩
    · omega
    · unfold maxLen at h5; omega
  clear hA1 hB1
  go_upto_block 0 with fail
  go_cut [5] (fun s5 wx => (∃ b, s5 = .bool b) ∧ W1 = wx)
  case first =>
    go_wp2_with fail
    go_loopg [5, 16] d1.sm.length (fun f s5 s16 wr => ∃ j : Nat, j + f = d1.sm.length ∧ s16 = .int .i64 (j : Int) ∧ s5 = .bool true ∧ W1 = wr)
    case atStart => exact ⟨0, by omega, rfl, rfl, rfl⟩
    case round =>
      obtain ⟨j, hj, rfl, rfl, rfl⟩ := hrel
      by_cases hlt : j < d1.sm.length
      · obtain ⟨f, rfl⟩ : ∃ f, gk = f + 1 := ⟨gk - 1, by omega⟩
        obtain ⟨k1, rfl, hc1⟩ := HA1.out (by omega)
        have cj : W1.cell? ⟨k1, j, none⟩ = some (.int .u8 ((d1.sm[j]'hlt).toNat : Int)) := hc1 j _ (by simp [bc, hlt])
        clear hc1 HA1
        generalize (d1.sm[j]'hlt).toNat = x at *
        by_cases hx : x = 59
        · have e1 : ((x : Int) != 59) = false := by simp; omega
          go_wp2_with fail
          go_roundg f
          case measure => omega
          case rel => exact ⟨j + 1, by omega, by go_num, rfl, rfl⟩
        · have e1 : ((x : Int) != 59) = true := by simp; omega
          go_wp2_with fail
          go_meet
          exact ⟨⟨_, rfl⟩, rfl⟩
      · go_wp2_with fail
        go_meet
        exact ⟨⟨_, rfl⟩, rfl⟩
  case rest =>
  obtain ⟨⟨b, rfl⟩, rfl⟩ := hcut
  have p2 : W1.cell? ⟨g, 2, none⟩ = some (.slice none 0 0) := HB1.out.1.cell 2
  have p6 : W1.cell? ⟨g, 6, none⟩ = some (.int .i64 d1.st.gl) := HB1.out.1.cell 6
  have p7 : W1.cell? ⟨g, 7, none⟩ = some (.int .i64 d1.st.gc) := HB1.out.1.cell 7
  have p8 : W1.cell? ⟨g, 8, none⟩ = some (.int .i64 d1.st.si) := HB1.out.1.cell 8
  have p9 : W1.cell? ⟨g, 9, none⟩ = some (.int .i64 d1.st.ol) := HB1.out.1.cell 9
  have p10 : W1.cell? ⟨g, 10, none⟩ = some (.int .i64 d1.st.oc) := HB1.out.1.cell 10
  have p11 : W1.cell? ⟨g, 11, none⟩ = some (.int .i64 d1.st.on) := HB1.out.1.cell 11
  have p12 : W1.cell? ⟨g, 12, none⟩ = some (.bool false) := HB1.out.1.cell 12
  have p14 : W1.cell? ⟨g, 14, none⟩ = some (.int .i64 d1.gcol) := HB1.out.1.cell 14
  have p17 : W1.cell? ⟨g, 17, none⟩ = some (.int .u32 0) := HB1.out.1.cell 17
  go_wp2_with fail
  go_still_tail 23, (by kernel_rfl)
  change wpList _ _ _ _ _ W1.drew
  refine wpList_store_blk rfl 91 (.tmp 4) (.tmp 45) rfl w.heap.size 91 chz (chC d1 (.slice A1 d1.sm.length cp1) b) rfl rfl bR1.out.drew rfl size_ch (ch_one _ _ _ _ _) ?_
  intro w2 hb2 hk2 hz2
  go_wp2_with fail
  refine bodyPost_ret (v := .agg (chC d1 (.slice A1 d1.sm.length cp1) b)) (results_cell_row (p := 4) (ty := 91) rfl _ _ w.heap.size _ _ (0, 0) _ rfl hb2 Tryd.underlying91 rfl size_ch) rfl ⟨.slice A1 d1.sm.length cp1, b, by rw [HD1.out], ?_, ?_⟩
  · have kd : Kep (fun k => k = w.heap.size) W1 w2 := ⟨hk2.os, hk2.tape, hk2.output, hk2.size, hk2.block⟩
    have h1 := HB1.out
    rw [← HD1.out]
    refine ⟨h1.1.kep kd (by omega), own_kep h1.2.1 kd (fun q hq e => ?_), h1.2.2.1, Nat.le_trans h1.2.2.2 kd.size⟩
    subst e
    exact hne1 hq
  · have kd : Kep (fun k => k = w.heap.size) W1 w2 := ⟨hk2.os, hk2.tape, hk2.output, hk2.size, hk2.block⟩
    exact ⟨HS1.out.1.then kd (fun i hi => .inr (by omega)), HS1.out.2⟩
end Go.Proofs.YtnokiikgnplpmaaDoor
namespace Go.Proofs.YtnokiikgnplpmaaDoor
open Go.RowKit

theorem snoc_ind {α : Type} {P : List α → Prop} (h0 : P []) (hs : ∀ l x, P l → P (l ++ [x])) : ∀ l, P l := by
  have key : ∀ l : List α, P l.reverse := by
    intro l
    induction l with
    | nil => exact h0
    | cons x l ih => rw [List.reverse_cons]; exact hs _ _ ih
  intro l
  have := key l.reverse
  rwa [List.reverse_reverse] at this

/-- A step: a text more of the output, then a mapping. -/
def cstep (ts : List LT) (p : Bd × List UInt8) (x : List Nat × Nat) : Bd × List UInt8 := (p.1.add ts (p.2 ++ encs x.1) (tailOf (p.2 ++ encs x.1) p.1.lu) x.2, p.2 ++ encs x.1)
/-- All steps. -/
def cgo (ts : List LT) (l : List (List Nat × Nat)) : Bd × List UInt8 := l.foldl (cstep ts) (Bd.zero, [])
/-- The builder behind all steps and the rest of the output. -/
def cend (ts : List LT) (l : List (List Nat × Nat)) (rest : List Nat) : Bd := (cgo ts l).1.done ((cgo ts l).2 ++ encs rest)

theorem cgo_snoc (ts : List LT) (l : List (List Nat × Nat)) (x : List Nat × Nat) : cgo ts (l ++ [x]) = cstep ts (cgo ts l) x := by simp [cgo]
theorem cgo_out (ts : List LT) (l : List (List Nat × Nat)) : (cgo ts l).2 = encs (allR l) := by
  induction l using snoc_ind with
  | h0 => rfl
  | hs l x ih => rw [cgo_snoc, allR_snoc, encs_app, ← ih]; rfl

theorem colOf_le {ts : List LT} (h : TabBd ts) (i loc : Nat) (hl : loc ≤ 1073741824) : colOf (ts.getD i ⟨none, 0, 0⟩) loc ≤ 1073741824 := by
  have hm : ts.getD i ⟨none, 0, 0⟩ ∈ ts ∨ ts.getD i ⟨none, 0, 0⟩ = ⟨none, 0, 0⟩ := by
    rcases Nat.lt_or_ge i ts.length with q | q
    · left
      rw [List.getD_eq_getElem?_getD, List.getElem?_eq_getElem q]
      exact List.getElem_mem q
    · right
      rw [List.getD_eq_getElem?_getD, List.getElem?_eq_none q]
      rfl
  unfold colOf
  rcases hm with hm | hm
  · have hb := h _ hm
    cases hc : (ts.getD i ⟨none, 0, 0⟩).cols with
    | none => simp only; omega
    | some l =>
      simp only
      split
      · rcases Nat.lt_or_ge (loc - (ts.getD i ⟨none, 0, 0⟩).start - (ts.getD i ⟨none, 0, 0⟩).first) l.length with q | q
        · rw [List.getD_eq_getElem?_getD, List.getElem?_eq_getElem q]
          exact hb.2.2 l hc _ (List.getElem_mem q)
        · rw [List.getD_eq_getElem?_getD, List.getElem?_eq_none q]
          simp
      · omega
  · rw [hm]
    simp only
    omega
theorem Bd.le.add {d : Bd} {N : Nat} (h : d.le N) (ts : List LT) (ob : List UInt8) (tail : ByteArray) (loc : Nat) (hts : TabBd ts) (hl : ts.length ≤ N) (hN : 1073741824 ≤ N) (hloc : loc ≤ 1073741824) : (d.add ts ob tail loc).le (N + 2 * tail.size + 2) := by
  unfold Bd.add
  split
  · exact h.mono (by omega)
  · have h1 : ({ d with ploc := (loc : Int), plen := ob.length } : Bd).le N := h
    have h2 := upd_le tail tail.size 0 h1
    have h3 : ({ upd tail tail.size 0 { d with ploc := (loc : Int), plen := ob.length } with lu := ob.length } : Bd).le (N + 2 * tail.size) := h2
    have h4 := h3.topped
    have hc := colOf_le hts (lineNo ts loc - 1) loc hloc
    have hn := lineNo_le ts loc
    generalize ({ upd tail tail.size 0 { d with ploc := (loc : Int), plen := ob.length } with lu := ob.length } : Bd) = u at *
    have e : (if u.lsm = false ∧ 0 < u.gcol ∧ u.has = true then u.emit u.cover else u) = u.topped := rfl
    simp only [e]
    generalize u.topped = t at *
    obtain ⟨a1, a2, a3, a4, a5, a6, a7⟩ := h4
    have hs := segb_len (lastB t.sm) t.st { gl := t.st.gl, gc := t.gcol, si := 0, ol := ((lineNo ts loc - 1 : Nat) : Int), oc := (colOf (ts.getD (lineNo ts loc - 1) ⟨none, 0, 0⟩) loc : Nat), on := 0 }
    unfold Bd.le
    simp only [Bd.emit, List.length_append] at hs ⊢
    exact ⟨by omega, by omega, by omega, trivial, by omega, by omega, by omega⟩
theorem add_lu (d : Bd) (ts : List LT) (ob : List UInt8) (tail : ByteArray) (loc : Nat) : (d.add ts ob tail loc).lu = if d.ploc = (loc : Int) then d.lu else ob.length := by
  unfold Bd.add
  split
  · rfl
  · simp only [Bd.emit]
    split
    · rfl
    · rfl
/-- Nothing of the builder is too great behind steps. -/
theorem cgo_le (ts : List LT) (hts : TabBd ts) (K : Nat) (hK : 1073741824 ≤ K) (hl : ts.length ≤ K) (l : List (List Nat × Nat)) (hp : ∀ x ∈ l, x.2 ≤ 1073741824) : (cgo ts l).1.lu ≤ (cgo ts l).2.length ∧ (cgo ts l).1.le (K + 2 * (cgo ts l).1.lu + 2 * l.length) := by
  induction l using snoc_ind with
  | h0 =>
    refine ⟨Nat.le_refl _, ?_⟩
    show (0 : Nat) ≤ 64 * (K + 2 * 0 + 2 * 0) ∧ ((0 : Int) ≤ 0 ∧ (0 : Int) ≤ (K + 2 * 0 + 2 * 0 : Nat)) ∧ ((0 : Int) ≤ 0 ∧ (0 : Int) ≤ (K + 2 * 0 + 2 * 0 : Nat)) ∧ (0 : Int) = 0 ∧ ((0 : Int) ≤ 0 ∧ (0 : Int) ≤ (K + 2 * 0 + 2 * 0 : Nat)) ∧ ((0 : Int) ≤ 0 ∧ (0 : Int) ≤ (K + 2 * 0 + 2 * 0 : Nat)) ∧ (0 : Nat) ≤ K + 2 * 0 + 2 * 0
    omega
  | hs l x ih =>
    obtain ⟨h1, h2⟩ := ih (fun y hy => hp y (by simp [hy]))
    rw [cgo_snoc]
    unfold cstep
    have ha := h2.add ts ((cgo ts l).2 ++ encs x.1) (tailOf ((cgo ts l).2 ++ encs x.1) (cgo ts l).1.lu) x.2 hts (by omega) (by omega) (hp x (by simp))
    have hu := add_lu (cgo ts l).1 ts ((cgo ts l).2 ++ encs x.1) (tailOf ((cgo ts l).2 ++ encs x.1) (cgo ts l).1.lu) x.2
    have hz := tail_size ((cgo ts l).2 ++ encs x.1) (cgo ts l).1.lu
    have hlen : ((cgo ts l).2 ++ encs x.1).length = (cgo ts l).2.length + (encs x.1).length := List.length_append
    generalize (cgo ts l).2 ++ encs x.1 = ob at *
    generalize tailOf ob (cgo ts l).1.lu = tl at *
    rw [List.length_append, List.length_singleton]
    by_cases hq : (cgo ts l).1.ploc = (x.2 : Int)
    · have e : (cgo ts l).1.add ts ob tl x.2 = (cgo ts l).1 := by unfold Bd.add; rw [if_pos hq]
      rw [e]
      exact ⟨by simp only; omega, h2.mono (by simp only; omega)⟩
    · rw [if_neg hq] at hu
      rw [hu]
      exact ⟨Nat.le_refl _, ha.mono (by omega)⟩
/-- The builder's bytes only grow. -/
theorem newline_sm (d : Bd) : d.sm.length ≤ d.newline.sm.length := by
  unfold Bd.newline
  simp only
  split
  · simp only [Bd.emit, List.length_append]; omega
  · simp only [List.length_append]; omega
theorem upd_sm (s : ByteArray) (f pos : Nat) (d : Bd) : d.sm.length ≤ (upd s f pos d).sm.length := by
  induction f generalizing pos d with
  | zero => exact Nat.le_refl _
  | succ f ih =>
    unfold upd
    split
    · refine Nat.le_trans ?_ (ih _ _)
      unfold Bd.step
      split
      · split
        · exact Nat.le_refl _
        · exact newline_sm d
      · exact Nat.le_refl _
    · exact Nat.le_refl _
theorem nb_pos (n : Int) : 0 < (nb n).length := by
  unfold nb
  rw [List.length_map]
  exact List.length_pos_iff.2 (nd_ne n)
theorem emit_sm (d : Bd) (c : St) : d.sm.length < (d.emit c).sm.length := by
  have := nb_pos (c.gc - d.st.gc)
  simp only [Bd.emit, segb, List.length_append]
  omega
theorem add_sm (d : Bd) (ts : List LT) (ob : List UInt8) (tail : ByteArray) (loc : Nat) : d.sm.length ≤ (d.add ts ob tail loc).sm.length ∧ (¬ d.ploc = (loc : Int) → d.sm.length < (d.add ts ob tail loc).sm.length) := by
  unfold Bd.add
  split
  · rename_i h; exact ⟨Nat.le_refl _, fun q => absurd h q⟩
  · have h1 := upd_sm tail tail.size 0 { d with ploc := (loc : Int), plen := ob.length }
    have h2 : d.sm.length ≤ ({ upd tail tail.size 0 { d with ploc := (loc : Int), plen := ob.length } with lu := ob.length } : Bd).sm.length := h1
    generalize ({ upd tail tail.size 0 { d with ploc := (loc : Int), plen := ob.length } with lu := ob.length } : Bd) = u at *
    have key : ∀ t : Bd, u.sm.length ≤ t.sm.length → ∀ c, d.sm.length < ({ t.emit c with lsm := true } : Bd).sm.length := fun t ht c => by have := emit_sm t c; exact Nat.lt_of_le_of_lt (Nat.le_trans h2 ht) this
    have e : u.sm.length ≤ (if u.lsm = false ∧ 0 < u.gcol ∧ u.has = true then u.emit u.cover else u).sm.length := by
      split
      · exact Nat.le_of_lt (emit_sm u _)
      · exact Nat.le_refl _
    have := key _ e
    simp only
    exact ⟨Nat.le_of_lt (this _), fun _ => this _⟩
theorem cgo_sm (ts : List LT) (x : List Nat × Nat) (y : List (List Nat × Nat)) : 0 < (cgo ts (x :: y)).1.sm.length := by
  induction y using snoc_ind with
  | h0 =>
    have e : cgo ts [x] = cstep ts (Bd.zero, []) x := rfl
    rw [e]
    have := (add_sm Bd.zero ts ([] ++ encs x.1) (tailOf ([] ++ encs x.1) Bd.zero.lu) x.2).2 (by show ¬ (-1 : Int) = _; omega)
    exact Nat.lt_of_le_of_lt (Nat.zero_le _) this
  | hs l z ih =>
    rw [← List.cons_append, cgo_snoc]
    exact Nat.lt_of_lt_of_le ih (add_sm _ ts _ _ _).1
theorem cend_sm (ts : List LT) (x : List Nat × Nat) (y : List (List Nat × Nat)) (rest : List Nat) : 0 < (cend ts (x :: y) rest).sm.length :=
  Nat.lt_of_lt_of_le (cgo_sm ts x y) (upd_sm _ _ _ _)
end Go.Proofs.YtnokiikgnplpmaaDoor
namespace Go.Proofs.YtnokiikgnplpmaaDoor
open Go.RowKit

/-- The builder's bytes are tokens whose reading ends in the builder's state. -/
structure BTok (d : Bd) (toks : List (Option (List Int))) : Prop where
  sm : d.sm = tokB true toks
  ok : rok qz toks
  l : (rgo qz toks).1.l = d.st.gl
  c : (rgo qz toks).1.c = d.st.gc
  s : (rgo qz toks).1.s = d.st.si
  fl : (rgo qz toks).1.fl = d.st.ol
  fc : (rgo qz toks).1.fc = d.st.oc
  nm : (rgo qz toks).2 = 0

/-- Does a segment stand last? -/
def segLast (toks : List (Option (List Int))) : Bool := match toks.getLast? with | none => false | some none => false | some (some _) => true
theorem lastB_app (a : List UInt8) (x : UInt8) : lastB (a ++ [x]) = x.toNat := by simp [lastB]
theorem nums_last (ns : List Int) (h : ns ≠ []) (hb : ∀ n ∈ ns, -17179869184 < n ∧ n < 17179869184) : ∃ t d, nums ns = t ++ [UInt8.ofNat (sg d)] ∧ d < 32 := by
  rcases List.eq_nil_or_concat ns with rfl | ⟨l, n, rfl⟩
  · exact absurd rfl h
  · obtain ⟨l1, d, e, hd, _⟩ := nd_small n (hb n (by simp)).1 (hb n (by simp)).2
    refine ⟨nums l ++ l1.map (fun d => UInt8.ofNat (sg d)), d, ?_, hd⟩
    rw [List.concat_eq_append, nums_app]
    have : nums [n] = l1.map (fun d => UInt8.ofNat (sg d)) ++ [UInt8.ofNat (sg d)] := by simp [nums, nb, e]
    rw [this, List.append_assoc]
theorem tokB_snoc (toks : List (Option (List Int))) (t : Option (List Int)) : tokB true (toks ++ [t]) = tokB true toks ++ tokB (!segLast toks) [t] := by
  rw [tokB_app]
  congr 1
  unfold segLast
  cases toks.getLast? with
  | none => rfl
  | some x => cases x <;> rfl
/-- Behind which bytes a comma stands. -/
theorem comma_tok (toks : List (Option (List Int))) (h : rok qz toks) : comma (lastB (tokB true toks)) = segLast toks := by
  rcases List.eq_nil_or_concat toks with rfl | ⟨l, t, rfl⟩
  · rfl
  · rw [List.concat_eq_append] at h ⊢
    rw [tokB_snoc]
    have hs : segLast (l ++ [t]) = (match t with | none => false | some _ => true) := by simp [segLast]; cases t <;> rfl
    rw [hs]
    cases t with
    | none =>
      have e : tokB (!segLast l) [none] = [59] := rfl
      rw [e, lastB_app]
      rfl
    | some ns =>
      have key : ∀ (q : Seg × Int) (a : List (Option (List Int))), rok q (a ++ [some ns]) → nOk ns := by
        intro q a
        induction a generalizing q with
        | nil => intro h; exact h.2.1
        | cons u a ih => cases u with
          | none => intro h; exact ih _ h.2
          | some m => intro h; exact ih _ h.2.2
      have hn := key qz l h
      obtain ⟨t, d, e, hd⟩ := nums_last ns (by rintro rfl; rcases hn.1 with q | q <;> simp at q) hn.2
      have e2 : tokB true l ++ tokB (!segLast l) [some ns] = (tokB true l ++ ((if !segLast l then [] else [44]) ++ t)) ++ [UInt8.ofNat (sg d)] := by
        have : tokB (!segLast l) [some ns] = (if !segLast l then [] else [44]) ++ (nums ns ++ []) := rfl
        rw [this, e]
        simp [List.append_assoc]
      rw [e2, lastB_app]
      have h1 := sg_ne d
      have h2 := sg_lt d (by omega)
      rw [u8n _ (by omega)]
      unfold comma
      simp
      omega
theorem rgo_snoc (q : Seg × Int) (toks : List (Option (List Int))) (t : Option (List Int)) : rgo q (toks ++ [t]) = match t with | none => rsemi (rgo q toks) | some ns => rstep (rgo q toks) ns := by
  rw [rgo_app]
  cases t <;> rfl

/-- The numbers of a mapping that is added. -/
def delt (p c : St) : List Int := [c.gc - p.gc, c.si - p.si, c.ol - p.ol, c.oc - p.oc]
theorem rok_end {q : Seg × Int} {a : List (Option (List Int))} (h : rok q a) : sOk (rgo q a) := by
  induction a generalizing q with
  | nil => exact h
  | cons u a ih => cases u with
    | none => exact ih h.2
    | some m => exact ih h.2.2
theorem BTok.emit {d : Bd} {toks : List (Option (List Int))} {N : Nat} (h : BTok d toks) (hle : d.le N) (hN : N ≤ 8589934592) (c : St) (h0 : c.gl = d.st.gl) (h1 : 0 ≤ c.gc ∧ c.gc ≤ N) (h2 : c.si = 0) (h3 : 0 ≤ c.ol ∧ c.ol ≤ N) (h4 : 0 ≤ c.oc ∧ c.oc ≤ N) : BTok (d.emit c) (toks ++ [some (delt d.st c)]) := by
  obtain ⟨l1, l2, l3, l4, l5, l6, l7⟩ := hle
  have hn : nOk (delt d.st c) := ⟨.inl rfl, fun n hn => by
    simp only [delt, List.mem_cons, List.not_mem_nil, or_false] at hn
    rcases hn with rfl | rfl | rfl | rfl <;> omega⟩
  have hst : rstep (rgo qz toks) (delt d.st c) = (⟨d.st.gl, c.gc, c.si, c.ol, c.oc, 0, false⟩, 0) := by
    have e1 := h.l
    have e2 := h.c
    have e3 := h.s
    have e4 := h.fl
    have e5 := h.fc
    have e6 := h.nm
    unfold rstep
    rw [e1, e2, e3, e4, e5, e6]
    have a1 : d.st.gc + (c.gc - d.st.gc) = c.gc := by omega
    have a2 : d.st.si + (c.si - d.st.si) = c.si := by omega
    have a3 : d.st.ol + (c.ol - d.st.ol) = c.ol := by omega
    have a4 : d.st.oc + (c.oc - d.st.oc) = c.oc := by omega
    simp [delt, a1, a2, a3, a4]
  have hgo : rgo qz (toks ++ [some (delt d.st c)]) = (⟨d.st.gl, c.gc, c.si, c.ol, c.oc, 0, false⟩, 0) := by rw [rgo_snoc]; exact hst
  refine ⟨?_, ?_, by rw [hgo]; exact h0.symm, by rw [hgo]; rfl, by rw [hgo]; rfl, by rw [hgo]; rfl, by rw [hgo]; rfl, by rw [hgo]⟩
  · rw [tokB_snoc]
    show d.sm ++ segb (lastB d.sm) d.st c = _
    rw [h.sm]
    congr 1
    unfold segb
    rw [comma_tok toks h.ok]
    have : tokB (!segLast toks) [some (delt d.st c)] = (if !segLast toks then [] else [44]) ++ (nums (delt d.st c) ++ []) := rfl
    rw [this]
    cases segLast toks <;> simp [delt, nums]
  · refine rok_app h.ok ⟨rok_end h.ok, hn, ?_⟩
    show sOk _
    rw [hst]
    unfold sOk
    simp only
    omega
theorem BTok.semi {d : Bd} {toks : List (Option (List Int))} {N : Nat} (h : BTok d toks) (hle : d.le N) (hN : N ≤ 8589934592) (f : Bd → Bd) (hf : (f d).sm = d.sm ++ [59] ∧ (f d).st = { d.st with gl := d.st.gl + 1, gc := 0 }) : BTok (f d) (toks ++ [none]) := by
  obtain ⟨l1, l2, l3, l4, l5, l6, l7⟩ := hle
  have hgo : rgo qz (toks ++ [none]) = rsemi (rgo qz toks) := by rw [rgo_snoc]
  have e1 := h.l
  have e2 := h.c
  have e3 := h.s
  have e4 := h.fl
  have e5 := h.fc
  have e6 := h.nm
  refine ⟨?_, ?_, ?_, ?_, ?_, ?_, ?_, ?_⟩
  · rw [tokB_snoc, hf.1, h.sm]
    rfl
  · refine rok_app h.ok ⟨rok_end h.ok, ?_⟩
    have := rok_end h.ok
    unfold sOk at this
    show sOk (rsemi _)
    unfold sOk rsemi
    simp only
    omega
  · rw [hgo, hf.2]
    show (rgo qz toks).1.l + 1 = d.st.gl + 1
    omega
  · rw [hgo, hf.2]
    rfl
  · rw [hgo, hf.2]
    exact e3
  · rw [hgo, hf.2]
    exact e4
  · rw [hgo, hf.2]
    exact e5
  · rw [hgo]
    exact e6
theorem BTok.same {d d' : Bd} {toks : List (Option (List Int))} (h : BTok d toks) (h1 : d'.sm = d.sm) (h2 : d'.st = d.st) : BTok d' toks :=
  ⟨by rw [h1]; exact h.sm, h.ok, by rw [h2]; exact h.l, by rw [h2]; exact h.c, by rw [h2]; exact h.s, by rw [h2]; exact h.fl, by rw [h2]; exact h.fc, h.nm⟩
theorem BTok.cover {d : Bd} {toks : List (Option (List Int))} {N : Nat} (h : BTok d toks) (hle : d.le N) (hN : N ≤ 8589934592) : BTok (d.emit d.cover) (toks ++ [some (delt d.st d.cover)]) := by
  obtain ⟨l1, l2, l3, l4, l5, l6, l7⟩ := hle
  exact h.emit ⟨l1, l2, l3, l4, l5, l6, l7⟩ hN d.cover rfl ⟨by show (0 : Int) ≤ 0; omega, by show (0 : Int) ≤ N; omega⟩ l4 l5 l6
/-- What a line's end adds. -/
theorem BTok.newline {d : Bd} {toks : List (Option (List Int))} {N : Nat} (h : BTok d toks) (hle : d.le N) (hN : N ≤ 8589934591) : ∃ t, BTok d.newline (toks ++ t) := by
  rw [newline_eq]
  unfold Bd.covered
  split
  · have h1 := h.cover hle (by omega)
    have hl : (d.emit d.cover).le (N + 1) := by
      have hs := segb_len (lastB d.sm) d.st d.cover
      obtain ⟨l1, l2, l3, l4, l5, l6, l7⟩ := hle
      unfold Bd.le
      simp only [Bd.emit, Bd.cover, List.length_append] at hs ⊢
      exact ⟨by omega, by omega, by omega, l4, by omega, by omega, by omega⟩
    refine ⟨[some (delt d.st d.cover)] ++ [none], ?_⟩
    rw [← List.append_assoc]
    exact h1.semi hl (by omega) (fun e => { e with st := { e.st with gl := e.st.gl + 1, gc := 0 }, gcol := 0, sm := e.sm ++ [59], lsm := false }) ⟨rfl, rfl⟩
  · exact ⟨[none], h.semi hle (by omega) (fun e => { e with st := { e.st with gl := e.st.gl + 1, gc := 0 }, gcol := 0, sm := e.sm ++ [59], lsm := false }) ⟨rfl, rfl⟩⟩
theorem BTok.step {d : Bd} {toks : List (Option (List Int))} {N : Nat} (h : BTok d toks) (hle : d.le N) (hN : N ≤ 8589934591) (s : ByteArray) (pos c : Nat) : ∃ t, BTok (d.step s pos c) (toks ++ t) := by
  unfold Bd.step
  split
  · split
    · exact ⟨[], by simpa using h⟩
    · exact h.newline hle hN
  · exact ⟨[], by rw [List.append_nil]; exact h.same rfl rfl⟩
theorem BTok.upd {s : ByteArray} : ∀ (f pos : Nat) {d : Bd} {toks : List (Option (List Int))} {N : Nat}, BTok d toks → d.le N → N + 2 * f ≤ 8589934591 → ∃ t, BTok (upd s f pos d) (toks ++ t) := by
  intro f
  induction f with
  | zero => intro pos d toks N h _ _; exact ⟨[], by simpa [Go.Proofs.YtnokiikgnplpmaaDoor.upd] using h⟩
  | succ f ih =>
    intro pos d toks N h hle hN
    unfold Go.Proofs.YtnokiikgnplpmaaDoor.upd
    split
    · obtain ⟨t, h1⟩ := h.step hle (by omega) s pos (Utf8.decode s pos).1
      obtain ⟨t2, h2⟩ := ih (pos + (Utf8.decode s pos).2) h1 (hle.step s pos _) (by omega)
      exact ⟨t ++ t2, by rw [← List.append_assoc]; exact h2⟩
    · exact ⟨[], by simpa using h⟩
theorem le_emit {d : Bd} {N : Nat} (h : d.le N) (c : St) (h0 : c.gl = d.st.gl) (h1 : 0 ≤ c.gc ∧ c.gc ≤ N) (h2 : c.si = 0) (h3 : 0 ≤ c.ol ∧ c.ol ≤ N) (h4 : 0 ≤ c.oc ∧ c.oc ≤ N) : (d.emit c).le (N + 1) := by
  obtain ⟨l1, l2, l3, l4, l5, l6, l7⟩ := h
  have hs := segb_len (lastB d.sm) d.st c
  unfold Bd.le
  simp only [Bd.emit, List.length_append] at hs ⊢
  exact ⟨by omega, by omega, by omega, h2, by omega, by omega, by omega⟩
theorem BTok.add {d : Bd} {toks : List (Option (List Int))} {N : Nat} (h : BTok d toks) (hle : d.le N) (ts : List LT) (ob : List UInt8) (tail : ByteArray) (loc : Nat) (hts : TabBd ts) (hl : ts.length ≤ N) (hN0 : 1073741824 ≤ N) (hloc : loc ≤ 1073741824) (hN : N + 2 * tail.size ≤ 8589934590) : ∃ t, BTok (d.add ts ob tail loc) (toks ++ t) := by
  unfold Bd.add
  split
  · exact ⟨[], by simpa using h⟩
  · have hle1 : ({ d with ploc := (loc : Int), plen := ob.length } : Bd).le N := hle
    obtain ⟨t1, h1⟩ := BTok.upd (s := tail) tail.size 0 (h.same (d' := { d with ploc := (loc : Int), plen := ob.length }) rfl rfl) hle1 (by omega)
    have hle2 := upd_le tail tail.size 0 hle1
    have h2 : BTok ({ Go.Proofs.YtnokiikgnplpmaaDoor.upd tail tail.size 0 { d with ploc := (loc : Int), plen := ob.length } with lu := ob.length } : Bd) (toks ++ t1) := h1.same rfl rfl
    have hle3 : ({ Go.Proofs.YtnokiikgnplpmaaDoor.upd tail tail.size 0 { d with ploc := (loc : Int), plen := ob.length } with lu := ob.length } : Bd).le (N + 2 * tail.size) := hle2
    have hc := colOf_le hts (lineNo ts loc - 1) loc hloc
    have hn := lineNo_le ts loc
    generalize ({ Go.Proofs.YtnokiikgnplpmaaDoor.upd tail tail.size 0 { d with ploc := (loc : Int), plen := ob.length } with lu := ob.length } : Bd) = u at *
    simp only
    obtain ⟨t2, h3, hle4⟩ : ∃ t2, BTok (if u.lsm = false ∧ 0 < u.gcol ∧ u.has = true then u.emit u.cover else u) (toks ++ t1 ++ t2) ∧ (if u.lsm = false ∧ 0 < u.gcol ∧ u.has = true then u.emit u.cover else u).le (N + 2 * tail.size + 1) := by
      split
      · obtain ⟨l1, l2, l3, l4, l5, l6, l7⟩ := hle3
        exact ⟨_, h2.cover ⟨l1, l2, l3, l4, l5, l6, l7⟩ (by omega), le_emit ⟨l1, l2, l3, l4, l5, l6, l7⟩ _ rfl ⟨by show (0 : Int) ≤ 0; omega, by show (0 : Int) ≤ _; omega⟩ l4 l5 l6⟩
      · exact ⟨[], by simpa using h2, hle3.mono (by omega)⟩
    generalize (if u.lsm = false ∧ 0 < u.gcol ∧ u.has = true then u.emit u.cover else u) = e at *
    obtain ⟨l1, l2, l3, l4, l5, l6, l7⟩ := hle4
    have h4 := h3.emit ⟨l1, l2, l3, l4, l5, l6, l7⟩ (by omega) { gl := e.st.gl, gc := e.gcol, si := 0, ol := ((lineNo ts loc - 1 : Nat) : Int), oc := (colOf (ts.getD (lineNo ts loc - 1) ⟨none, 0, 0⟩) loc : Nat), on := 0 } rfl ⟨by simp only; omega, by simp only; omega⟩ rfl ⟨by simp only; omega, by simp only; omega⟩ ⟨by simp only; omega, by simp only; omega⟩
    refine ⟨t1 ++ t2 ++ [some (delt e.st { gl := e.st.gl, gc := e.gcol, si := 0, ol := ((lineNo ts loc - 1 : Nat) : Int), oc := (colOf (ts.getD (lineNo ts loc - 1) ⟨none, 0, 0⟩) loc : Nat), on := 0 })], ?_⟩
    have h5 := h4.same (d' := { e.emit { gl := e.st.gl, gc := e.gcol, si := 0, ol := ((lineNo ts loc - 1 : Nat) : Int), oc := (colOf (ts.getD (lineNo ts loc - 1) ⟨none, 0, 0⟩) loc : Nat), on := 0 } with lsm := true }) rfl rfl
    simpa [List.append_assoc] using h5

/-- The last mapping, and the state behind it. -/
theorem last_seg (toks : List (Option (List Int))) (q : Seg × Int) (x : Seg) (h : (rsegs q toks).getLast? = some x) : (rgo q toks).1.s = x.s ∧ (rgo q toks).1.fl = x.fl ∧ (rgo q toks).1.fc = x.fc ∧ x.l ≤ (rgo q toks).1.l ∧ (x.l < (rgo q toks).1.l → (rgo q toks).1.c = 0) ∧ (¬ x.l < (rgo q toks).1.l → (rgo q toks).1.c = x.c) := by
  induction toks using snoc_ind with
  | h0 => simp [rsegs] at h
  | hs l t ih =>
    rw [rsegs_app] at h
    rw [rgo_snoc]
    cases t with
    | none =>
      have e : rsegs (rgo q l) [none] = [] := rfl
      rw [e, List.append_nil] at h
      obtain ⟨h1, h2, h3, h4, h5, h6⟩ := ih h
      refine ⟨h1, h2, h3, ?_, fun _ => rfl, fun q => ?_⟩
      · show x.l ≤ (rgo _ l).1.l + 1
        omega
      · exfalso
        apply q
        show x.l < (rgo _ l).1.l + 1
        omega
    | some ns =>
      have e : rsegs (rgo q l) [some ns] = [(rstep (rgo q l) ns).1] := rfl
      rw [e] at h
      simp at h
      subst h
      simp
end Go.Proofs.YtnokiikgnplpmaaDoor
namespace Go.Proofs.YtnokiikgnplpmaaDoor
open Go.RowKit

/-- A text of bytes. -/
def strB (bs : List UInt8) : ByteArray := ⟨bs.toArray⟩
theorem strB_app (a b : List UInt8) : strB a ++ strB b = strB (a ++ b) := by
  unfold strB
  apply ByteArray.ext
  simp
theorem strB_size (a : List UInt8) : (strB a).size = a.length := by simp [strB, ByteArray.size]
/-- The numbers of a mapping behind a state. -/
def wnum (q : Seg × Int) (x : Seg) : List Int := [x.c - (if q.1.l < x.l then 0 else q.1.c), x.s - q.1.s, x.fl - q.1.fl, x.fc - q.1.fc] ++ (if x.nd then [x.nm - q.2] else [])
/-- The tokens of a mapping behind a state. -/
def wtok (q : Seg × Int) (x : Seg) : List (Option (List Int)) := List.replicate (x.l - q.1.l).toNat none ++ [some (wnum q x)]
/-- The state behind a mapping. -/
def wnx (q : Seg × Int) (x : Seg) : Seg × Int := (x, if x.nd then x.nm else q.2)
def wgo (l : List Seg) : List (Option (List Int)) × (Seg × Int) := l.foldl (fun p x => (p.1 ++ wtok p.2 x, wnx p.2 x)) ([], qz)
/-- The tokens of mappings. -/
def wtk (l : List Seg) : List (Option (List Int)) := (wgo l).1
/-- The state behind mappings. -/
def wst (l : List Seg) : Seg × Int := (wgo l).2
theorem wtk_snoc (l : List Seg) (x : Seg) : wtk (l ++ [x]) = wtk l ++ wtok (wst l) x := by simp [wtk, wst, wgo, List.foldl_append]
theorem wst_snoc (l : List Seg) (x : Seg) : wst (l ++ [x]) = wnx (wst l) x := by simp [wst, wgo, List.foldl_append]
theorem take_snoc' {α : Type} (l : List α) (i : Nat) (h : i < l.length) : l.take (i + 1) = l.take i ++ [l[i]] := List.take_succ_eq_append_getElem h

/-- Is the next mapping without a comma? -/
def frOf (fr : Bool) (toks : List (Option (List Int))) : Bool := match toks.getLast? with | none => fr | some none => true | some (some _) => false
theorem frOf_snoc (fr : Bool) (toks : List (Option (List Int))) (t : Option (List Int)) : frOf fr (toks ++ [t]) = match t with | none => true | some _ => false := by
  unfold frOf
  rw [List.getLast?_append]
  cases t <;> simp
/-- Where the first name begins. -/
def foff : Bool → List (Option (List Int)) → Option Nat
  | _, [] => none
  | _, none :: r => (foff true r).map (· + 1)
  | fr, some ns :: r => if ns.length = 5 then some ((if fr then 0 else 1) + (nums (ns.take 4)).length) else (foff false r).map (· + ((if fr then 0 else 1) + (nums ns).length))
theorem foff_app (a b : List (Option (List Int))) (fr : Bool) : foff fr (a ++ b) = match foff fr a with | some k => some k | none => (foff (frOf fr a) b).map (· + (tokB fr a).length) := by
  induction a generalizing fr with
  | nil => simp [foff, frOf, tokB]
  | cons t a ih =>
    have e : ∀ z : Bool, (match t with | none => true | some _ => false) = z → frOf fr (t :: a) = frOf z a := by
      intro z hz
      unfold frOf
      cases a with
      | nil => cases t <;> simpa using hz
      | cons u a =>
        rw [List.getLast?_cons_cons]
        cases h : (u :: a).getLast? with
        | none => simp at h
        | some y => cases y <;> rfl
    cases t with
    | none =>
      rw [e true rfl]
      simp only [List.cons_append, foff, tokB, List.length_cons]
      rw [ih true]
      cases foff true a with
      | none => simp only [Option.map_none, Option.map_map]; congr 1
      | some k => rfl
    | some ns =>
      rw [e false rfl]
      simp only [List.cons_append, foff, tokB, List.length_append]
      split
      · rfl
      · rw [ih false]
        cases foff false a with
        | none =>
          simp only [Option.map_none, Option.map_map]
          congr 1
          funext k
          simp only [Function.comp_apply]
          cases fr <;> simp <;> omega
        | some k => rfl
def offV (o : Option Nat) : Int := match o with | none => -1 | some k => (k : Int)

/-- Mappings that can be written: no line comes before the one of the mapping ahead, and nothing is too great. -/
def sgBd (x : Seg) : Prop := (0 ≤ x.l ∧ x.l ≤ 8589934592) ∧ (0 ≤ x.c ∧ x.c ≤ 8589934592) ∧ (0 ≤ x.s ∧ x.s ≤ 8589934592) ∧ (0 ≤ x.fl ∧ x.fl ≤ 8589934592) ∧ (0 ≤ x.fc ∧ x.fc ≤ 8589934592) ∧ (0 ≤ x.nm ∧ x.nm ≤ 8589934592) ∧ (x.nd = false → x.nm = 0)
def WOk (l : List Seg) : Prop := ∀ (i : Nat) (hi : i < l.length), sgBd l[i] ∧ (wst (l.take i)).1.l ≤ l[i].l
theorem WOk.take {l : List Seg} (h : WOk l) (n : Nat) : WOk (l.take n) := by
  intro i hi
  have hi' : i < l.length := by simp at hi; omega
  have h1 := h i hi'
  rw [List.getElem_take, List.take_take, Nat.min_eq_left (by simp at hi; omega)]
  exact h1
theorem WOk.snoc {l : List Seg} {x : Seg} (h : WOk l) (hx : sgBd x) (hl : (wst l).1.l ≤ x.l) : WOk (l ++ [x]) := by
  intro i hi
  simp at hi
  rcases Nat.lt_or_ge i l.length with q | q
  · have := h i q
    rw [List.getElem_append_left q, List.take_append_of_le_length (by omega)]
    exact this
  · obtain rfl : i = l.length := by omega
    rw [List.take_append_of_le_length (Nat.le_refl _), List.take_length]
    simp
    exact ⟨hx, hl⟩
theorem WOk.inv {l : List Seg} {x : Seg} (h : WOk (l ++ [x])) : WOk l ∧ sgBd x ∧ (wst l).1.l ≤ x.l := by
  refine ⟨?_, ?_⟩
  · have := h.take l.length
    rwa [List.take_append_of_le_length (Nat.le_refl _), List.take_length] at this
  · have := h l.length (by simp)
    rw [List.take_append_of_le_length (Nat.le_refl _), List.take_length] at this
    simpa using this
/-- The state behind mappings: nothing of it is too great. -/
theorem wst_bd {l : List Seg} (h : WOk l) : sgBd (wst l).1 ∧ (0 ≤ (wst l).2 ∧ (wst l).2 ≤ 8589934592) := by
  induction l using snoc_ind with
  | h0 => unfold sgBd wst wgo qz; simp
  | hs l x ih =>
    obtain ⟨h1, h2, h3⟩ := h.inv
    obtain ⟨i1, i2⟩ := ih h1
    rw [wst_snoc]
    unfold wnx
    refine ⟨h2, ?_⟩
    obtain ⟨_, _, _, _, _, h4, _⟩ := h2
    simp only
    split
    · exact h4
    · exact i2
theorem wnum_ok {q : Seg × Int} {x : Seg} (hq : sgBd q.1 ∧ (0 ≤ q.2 ∧ q.2 ≤ 8589934592)) (hx : sgBd x) : nOk (wnum q x) := by
  obtain ⟨⟨a1, a2, a3, a4, a5, a6, a7⟩, a8⟩ := hq
  obtain ⟨b1, b2, b3, b4, b5, b6, b7⟩ := hx
  unfold wnum
  refine ⟨?_, ?_⟩
  · cases x.nd <;> simp
  · intro n hn
    have hc : 0 ≤ (if q.1.l < x.l then 0 else q.1.c) ∧ (if q.1.l < x.l then 0 else q.1.c) ≤ 8589934592 := by split <;> omega
    generalize (if q.1.l < x.l then 0 else q.1.c) = c0 at *
    cases hnd : x.nd <;> simp [hnd] at hn <;> omega
theorem rgo_rep (k : Nat) (q : Seg × Int) : rgo q (List.replicate k none) = ({ q.1 with l := q.1.l + k, c := if k = 0 then q.1.c else 0 }, q.2) := by
  induction k generalizing q with
  | zero => simp [rgo]
  | succ k ih =>
    rw [List.replicate_succ]
    show rgo (rsemi q) _ = _
    rw [ih]
    unfold rsemi
    simp
    omega
theorem rsegs_rep (k : Nat) (q : Seg × Int) : rsegs q (List.replicate k none) = [] := by
  induction k generalizing q with
  | zero => rfl
  | succ k ih => rw [List.replicate_succ]; exact ih _
theorem seg_ext {x y : Seg} (h1 : x.l = y.l) (h2 : x.c = y.c) (h3 : x.s = y.s) (h4 : x.fl = y.fl) (h5 : x.fc = y.fc) (h6 : x.nm = y.nm) (h7 : x.nd = y.nd) : x = y := by
  cases x; cases y; simp only at h1 h2 h3 h4 h5 h6 h7; simp [h1, h2, h3, h4, h5, h6, h7]
/-- A mapping's tokens, read. -/
theorem wtok_go (q : Seg × Int) (x : Seg) (hl : q.1.l ≤ x.l) (hx : x.nd = false → x.nm = 0) : rgo q (wtok q x) = wnx q x ∧ rsegs q (wtok q x) = [x] := by
  have key : rstep (rgo q (List.replicate (x.l - q.1.l).toNat none)) (wnum q x) = wnx q x := by
    rw [rgo_rep]
    have hc : (if (x.l - q.1.l).toNat = 0 then q.1.c else 0) = (if q.1.l < x.l then 0 else q.1.c) := by
      by_cases h : q.1.l < x.l
      · rw [if_pos h, if_neg (by omega)]
      · rw [if_neg h, if_pos (by omega)]
    rw [hc]
    unfold rstep wnum wnx
    cases hnd : x.nd with
    | false =>
      simp
      refine seg_ext ?_ ?_ ?_ ?_ ?_ ?_ ?_ <;> simp only
      · omega
      · omega
      · omega
      · omega
      · omega
      · exact (hx hnd).symm
      · exact hnd.symm
    | true =>
      simp
      refine ⟨seg_ext ?_ ?_ ?_ ?_ ?_ ?_ ?_, by omega⟩ <;> simp only
      · omega
      · omega
      · omega
      · omega
      · omega
      · omega
      · exact hnd.symm
  unfold wtok
  refine ⟨by rw [rgo_snoc]; exact key, ?_⟩
  rw [rsegs_app, rsegs_rep, List.nil_append]
  show [(rstep _ _).1] = _
  rw [key]
  rfl
/-- What is written can be read. -/
theorem wtk_read {l : List Seg} (h : WOk l) : rok qz (wtk l) ∧ rgo qz (wtk l) = wst l ∧ rsegs qz (wtk l) = l := by
  induction l using snoc_ind with
  | h0 => exact ⟨by show sOk qz; unfold sOk qz; simp, rfl, rfl⟩
  | hs l x ih =>
    obtain ⟨h1, h2, h3⟩ := h.inv
    obtain ⟨i1, i2, i3⟩ := ih h1
    have hb := wst_bd h1
    have hn := wnum_ok hb h2
    have hb' := wst_bd h
    obtain ⟨g1, g2⟩ := wtok_go (wst l) x h3 h2.2.2.2.2.2.2
    rw [wtk_snoc, wst_snoc]
    refine ⟨?_, by rw [rgo_app, i2, g1], by rw [rsegs_app, i2, i3, g2]⟩
    refine rok_app i1 ?_
    rw [i2]
    unfold wtok
    have hlast : sOk (rgo (wst l) (wtok (wst l) x)) := by
      rw [g1]
      rw [wst_snoc] at hb'
      obtain ⟨⟨a1, a2, a3, a4, a5, a6, a7⟩, a8⟩ := hb'
      unfold sOk
      omega
    obtain ⟨⟨a1, a2, a3, a4, a5, a6, a7⟩, a8⟩ := hb
    have hrep : ∀ (k : Nat) (q : Seg × Int), sOk q → q.1.l + k < 1099511627776 → rok q (List.replicate k none) := by
      intro k
      induction k with
      | zero => intro q hq _; exact hq
      | succ k ihk =>
        intro q hq hl
        rw [List.replicate_succ]
        refine ⟨hq, ihk (rsemi q) ?_ ?_⟩
        · unfold sOk at hq ⊢
          unfold rsemi
          simp only
          omega
        · unfold rsemi
          simp only
          omega
    have hq0 : sOk (wst l) := by unfold sOk; omega
    obtain ⟨b1, _⟩ := h2
    have hr := hrep (x.l - (wst l).1.l).toNat (wst l) hq0 (by omega)
    refine rok_app hr ⟨?_, hn, ?_⟩
    · rw [rgo_rep]
      unfold sOk
      simp only
      have : 0 ≤ (if (x.l - (wst l).1.l).toNat = 0 then (wst l).1.c else 0) ∧ (if (x.l - (wst l).1.l).toNat = 0 then (wst l).1.c else 0) ≤ 8589934592 := by split <;> omega
      omega
    · unfold wtok at hlast
      rw [rgo_snoc] at hlast
      exact hlast
/-- How long what is written is. -/
theorem nb_short (n : Int) : (nb n).length ≤ 13 := by rw [nb_len]; exact nd_len n
theorem nums_short (ns : List Int) : (nums ns).length ≤ 13 * ns.length := by
  induction ns with
  | nil => simp [nums]
  | cons n ns ih => rw [nums_cons, List.length_append, List.length_cons]; have := nb_short n; omega
theorem tokB_rep (k : Nat) (fr : Bool) : tokB fr (List.replicate k none) = List.replicate k 59 := by
  induction k generalizing fr with
  | zero => rfl
  | succ k ih => rw [List.replicate_succ, List.replicate_succ]; show 59 :: tokB true _ = _; rw [ih]
theorem wtk_short {l : List Seg} (h : WOk l) : (tokB true (wtk l)).length ≤ (wst l).1.l.toNat + 66 * l.length := by
  induction l using snoc_ind with
  | h0 => simp [wtk, wgo, tokB]
  | hs l x ih =>
    obtain ⟨h1, h2, h3⟩ := h.inv
    have hi := ih h1
    obtain ⟨⟨a1, _⟩, _⟩ := wst_bd h1
    rw [wtk_snoc, wst_snoc]
    unfold wtok
    rw [← List.append_assoc, tokB_snoc, tokB_app, tokB_rep]
    have e : (tokB (!segLast (wtk l ++ List.replicate (x.l - (wst l).1.l).toNat none)) [some (wnum (wst l) x)]).length ≤ 66 := by
      have hn := nums_short (wnum (wst l) x)
      have hl : (wnum (wst l) x).length ≤ 5 := by unfold wnum; cases x.nd <;> simp
      have : ∀ fr : Bool, tokB fr [some (wnum (wst l) x)] = (if fr then [] else [44]) ++ (nums (wnum (wst l) x) ++ []) := fun _ => rfl
      rw [this]
      simp only [List.length_append, List.length_nil]
      split <;> simp <;> omega
    simp only [List.length_append, List.length_replicate, List.length_singleton, wnx]
    omega
end Go.Proofs.YtnokiikgnplpmaaDoor
namespace Go.Proofs.YtnokiikgnplpmaaDoor
open Go.RowKit

/-- A mapping of laws.named. -/
def nsg (Z : Nat → Nat → Int) (i : Nat) : Seg := if Z i 3 % 3 = 0 then { segOf Z i with nm := Z i 4 % 200, nd := true } else segOf Z i
def namAt (Z : Nat → Nat → Int) (n i : Nat) : List Seg := (List.range n).map fun j => if j < i then nsg Z j else segOf Z j
def namL (Z : Nat → Nat → Int) (n : Nat) : List Seg := (List.range n).map (nsg Z)
theorem namAt_zero (Z : Nat → Nat → Int) (n : Nat) : namAt Z n 0 = risL Z n := by simp [namAt, risL]
theorem namAt_full (Z : Nat → Nat → Int) (n : Nat) : namAt Z n n = namL Z n := by
  unfold namAt namL
  apply List.map_congr_left
  intro j hj
  rw [if_pos (List.mem_range.1 hj)]
theorem namAt_len (Z : Nat → Nat → Int) (n i : Nat) : (namAt Z n i).length = n := by simp [namAt]
theorem namL_len (Z : Nat → Nat → Int) (n : Nat) : (namL Z n).length = n := by simp [namL]
theorem namAt_get (Z : Nat → Nat → Int) (n i : Nat) (h : i < (namAt Z n i).length) : (namAt Z n i)[i] = segOf Z i := by simp [namAt]
theorem namAt_step (Z : Nat → Nat → Int) (n i : Nat) : (namAt Z n i).set i (nsg Z i) = namAt Z n (i + 1) := by
  apply List.ext_getElem
  · simp [namAt]
  · intro j h1 h2
    rw [List.getElem_set]
    simp only [namAt, List.getElem_map, List.getElem_range]
    by_cases hj : i = j
    · subst hj
      rw [if_pos rfl, if_pos (by omega)]
    · rw [if_neg hj]
      by_cases hl : j < i
      · rw [if_pos hl, if_pos (by omega)]
      · rw [if_neg hl, if_neg (by omega)]
theorem namAt_skip (Z : Nat → Nat → Int) (n i : Nat) (h : ¬ Z i 3 % 3 = 0) : namAt Z n i = namAt Z n (i + 1) := by
  unfold namAt
  apply List.map_congr_left
  intro j hj
  by_cases hl : j < i
  · rw [if_pos hl, if_pos (by omega)]
  · by_cases he : j = i
    · subst he
      rw [if_neg hl, if_pos (by omega)]
      unfold nsg
      rw [if_neg h]
    · rw [if_neg hl, if_neg (by omega)]
theorem sgs_cons (x : Seg) (l : List Seg) : sgs (x :: l) = x.cells ++ sgs l := by simp [sgs]
theorem sgs_set2 (l : List Seg) (i : Nat) (hi : i < l.length) (nm : Int) (nd : Bool) : ((sgs l).set (i * 7 + 6) (.bool nd)).set (i * 7 + 5) (.int .i64 nm) = sgs (l.set i { l[i] with nm := nm, nd := nd }) := by
  induction l generalizing i with
  | nil => simp at hi
  | cons x l ih =>
    cases i with
    | zero => simp [sgs, Seg.cells]
    | succ i =>
      rw [List.set_cons_succ, sgs_cons, sgs_cons]
      rw [List.set_append_right _ _ (by rw [Seg.cells_len]; omega), List.set_append_right _ _ (by rw [Seg.cells_len]; omega), Seg.cells_len]
      rw [show (i + 1) * 7 + 6 - 7 = i * 7 + 6 by omega, show (i + 1) * 7 + 5 - 7 = i * 7 + 5 by omega, ih i (by simpa using hi)]
      rfl
theorem nsg_le (Z : Nat → Nat → Int) (i : Nat) : (nsg Z i).l = (atP Z (i + 1)).1 ∧ (nsg Z i).c = (atP Z (i + 1)).2 ∧ (nsg Z i).s = Z i 2 % 100 ∧ (nsg Z i).fl = Z i 3 % 10000 ∧ (nsg Z i).fc = Z i 4 % 10000 := by
  unfold nsg
  split <;> exact ⟨rfl, rfl, rfl, rfl, rfl⟩
theorem nsg_nm (Z : Nat → Nat → Int) (i : Nat) : 0 ≤ (nsg Z i).nm ∧ (nsg Z i).nm < 200 ∧ ((nsg Z i).nd = false → (nsg Z i).nm = 0) := by
  unfold nsg
  split
  · simp only
    refine ⟨by omega, by omega, fun h => by cases h⟩
  · exact ⟨by show (0 : Int) ≤ 0; omega, by show (0 : Int) < 200; omega, fun _ => rfl⟩
theorem namL_succ (Z : Nat → Nat → Int) (n : Nat) : namL Z (n + 1) = namL Z n ++ [nsg Z n] := by simp [namL, List.range_succ]
theorem nam_wst (Z : Nat → Nat → Int) (n : Nat) : (wst (namL Z n)).1.l = (atP Z n).1 := by
  cases n with
  | zero => rfl
  | succ n => rw [namL_succ, wst_snoc]; exact (nsg_le Z n).1
theorem nsg_bd (Z : Nat → Nat → Int) (n : Nat) (h : n ≤ 4194304) : sgBd (nsg Z n) := by
  obtain ⟨h1, h2, h3, h4, h5⟩ := nsg_le Z n
  obtain ⟨h6, h7, h8⟩ := nsg_nm Z n
  have ha := at_bd Z (n + 1)
  unfold sgBd
  rw [h1, h2, h3, h4, h5]
  refine ⟨by omega, by omega, by omega, by omega, by omega, by omega, h8⟩
theorem nam_ok (Z : Nat → Nat → Int) (n : Nat) (h : n ≤ 4194304) : WOk (namL Z n) := by
  induction n with
  | zero => intro i hi; simp [namL] at hi
  | succ n ih =>
    rw [namL_succ]
    refine (ih (by omega)).snoc (nsg_bd Z n (by omega)) ?_
    rw [nam_wst, (nsg_le Z n).1]
    have := far_bd Z n
    simp only [atP]
    omega

/-- A mapping, moved. -/
def mvS (m x : Seg) : Seg := ⟨x.l + m.l, if x.l = 0 then x.c + m.c else x.c, x.s + m.s, x.fl + m.fl, x.fc + m.fc, if x.nd = true then x.nm + m.nm else x.nm, x.nd⟩
/-- The cells of the state behind mappings. -/
def endC (q : Seg × Int) : Array Value := #[.int .i64 q.1.l, .int .i64 q.1.c, .int .i64 q.1.s, .int .i64 q.1.fl, .int .i64 q.1.fc, .int .i64 q.2]
end Go.Proofs.YtnokiikgnplpmaaDoor
namespace Go.Proofs.YtnokiikgnplpmaaDoor
open Go.RowKit

theorem advI_lf (r : List Nat) (p : Nat × Nat) : advI (10 :: r) p = advI r (p.1 + 1, 0) := by
  conv => lhs; unfold advI
  rw [if_pos (show isNlR 10 from .inr (.inl rfl)), if_neg (by simp)]
theorem newline_gl (d : Bd) : d.newline.st.gl = d.st.gl + 1 ∧ d.newline.gcol = 0 := by
  rw [newline_eq]
  exact ⟨by rw [covered_gl], rfl⟩
/-- The count goes along with the place behind the text. -/
theorem upd_go : ∀ (mid pre : List Nat) (f L : Nat) (d : Bd), okR mid → mid.length ≤ f → d.st.gl = (L : Int) →
    (upd (txt (pre ++ mid)) f (encs pre).length d).st.gl = ((advI mid (L, d.gcol)).1 : Int) ∧ (upd (txt (pre ++ mid)) f (encs pre).length d).gcol = (advI mid (L, d.gcol)).2 := by
  intro mid
  induction mid with
  | nil =>
    intro pre f L d _ _ hL
    have e : upd (txt (pre ++ [])) f (encs pre).length d = d := upd_end _ _ _ _ (by rw [List.append_nil, txt_size]; omega)
    rw [e]
    exact ⟨hL, rfl⟩
  | cons c mid ih =>
    intro pre f L d hv hf hL
    obtain ⟨f, rfl⟩ : ∃ g, f = g + 1 := ⟨f - 1, by simp at hf; omega⟩
    have hc := hv c (by simp)
    have hvm : okR mid := fun x hx => hv x (by simp [hx])
    have hd := decode_txt pre c mid hc
    have hl := enc_len c hc
    have hsz : (encs pre).length < (txt (pre ++ c :: mid)).size := by rw [txt_size, encs_app, encs_cons]; simp only [List.length_append]; omega
    have elen : (encs pre).length + (enc c).length = (encs (pre ++ [c])).length := by rw [encs_app, encs_one, List.length_append]
    have epre : pre ++ c :: mid = (pre ++ [c]) ++ mid := by simp
    have key : ∀ d1 : Bd, ∀ L1 : Nat, d1.st.gl = (L1 : Int) → d.step (txt (pre ++ c :: mid)) (encs pre).length c = d1 → advI (c :: mid) (L, d.gcol) = advI mid (L1, d1.gcol) →
        (upd (txt (pre ++ c :: mid)) (f + 1) (encs pre).length d).st.gl = ((advI (c :: mid) (L, d.gcol)).1 : Int) ∧ (upd (txt (pre ++ c :: mid)) (f + 1) (encs pre).length d).gcol = (advI (c :: mid) (L, d.gcol)).2 := by
      intro d1 L1 h1 h2 h3
      have e : upd (txt (pre ++ c :: mid)) (f + 1) (encs pre).length d = upd (txt (pre ++ c :: mid)) f (encs (pre ++ [c])).length d1 := by
        conv => lhs; unfold upd
        rw [if_pos hsz, hd]
        simp only
        rw [h2, elen]
      rw [e, h3]
      have := ih (pre ++ [c]) f L1 d1 hvm (by simp at hf; omega) h1
      rw [← epre] at this
      exact this
    by_cases hn : isNlR c
    · have hn' : isNl c = true := by rw [isNl_R]; simpa using hn
      by_cases hq : c = 13 ∧ mid.head? = some 10
      · have hlf : lfAt (txt (pre ++ c :: mid)) ((encs pre).length + 1) = true := by
          have := lf_txt (pre ++ [c]) mid hvm
          rw [← elen, ← epre] at this
          rw [hq.1] at this ⊢
          rw [show (enc 13).length = 1 from rfl] at this
          rw [this]
          simpa using hq.2
        refine key d L hL ?_ ?_
        · unfold Bd.step
          rw [if_pos hn', if_pos ⟨hq.1, hlf⟩]
        · cases mid with
          | nil => simp at hq
          | cons y r =>
            have hy : y = 10 := by simpa using hq.2
            subst hy
            conv => lhs; unfold advI
            rw [if_pos hn, if_pos hq, advI_lf, advI_lf]
      · have hlf : ¬ (c = 13 ∧ lfAt (txt (pre ++ c :: mid)) ((encs pre).length + 1) = true) := by
          rintro ⟨h13, h2⟩
          apply hq
          refine ⟨h13, ?_⟩
          have := lf_txt (pre ++ [c]) mid hvm
          rw [← elen, ← epre] at this
          rw [h13] at this h2
          rw [show (enc 13).length = 1 from rfl] at this
          rw [this] at h2
          simpa using h2
        refine key d.newline (L + 1) ?_ ?_ ?_
        · rw [(newline_gl d).1, hL]; rfl
        · unfold Bd.step
          rw [if_pos hn', if_neg hlf]
        · rw [(newline_gl d).2]
          conv => lhs; unfold advI
          rw [if_pos hn, if_neg hq]
    · have hn' : ¬ isNl c = true := by rw [isNl_R]; simpa using hn
      refine key { d with gcol := d.gcol + if c ≤ 65535 then 1 else 2 } L hL ?_ ?_
      · unfold Bd.step
        rw [if_neg hn']
      · conv => lhs; unfold advI
        rw [if_neg hn]
        rfl
theorem upd_all (b : List Nat) (hv : okR b) (L : Nat) (d : Bd) (hL : d.st.gl = (L : Int)) : (upd (txt b) (txt b).size 0 d).st.gl = ((advI b (L, d.gcol)).1 : Int) ∧ (upd (txt b) (txt b).size 0 d).gcol = (advI b (L, d.gcol)).2 := by
  have := upd_go b [] (txt b).size L d hv hv.len hL
  simpa [encs] using this
theorem tail_txt (a b : List Nat) : tailOf (encs (a ++ b)) (encs a).length = txt b := by
  unfold tailOf txt
  rw [encs_app, List.drop_left]
theorem add_place (d : Bd) (ts : List LT) (ob : List UInt8) (tail : ByteArray) (loc : Nat) (h : ¬ d.ploc = (loc : Int)) :
    (d.add ts ob tail loc).st.gl = (upd tail tail.size 0 { d with ploc := (loc : Int), plen := ob.length }).st.gl ∧ (d.add ts ob tail loc).gcol = (upd tail tail.size 0 { d with ploc := (loc : Int), plen := ob.length }).gcol ∧ (d.add ts ob tail loc).lu = ob.length ∧ (d.add ts ob tail loc).ploc = (loc : Int) := by
  have hp : ∀ (s : ByteArray) (f pos : Nat) (e : Bd), (upd s f pos e).ploc = e.ploc := by
    intro s f
    induction f with
    | zero => intro pos e; rfl
    | succ f ih =>
      intro pos e
      unfold upd
      split
      · rw [ih]
        unfold Bd.step
        split
        · split
          · rfl
          · unfold Bd.newline; simp only; split <;> rfl
        · rfl
      · rfl
  unfold Bd.add
  rw [if_neg h]
  simp only
  split
  · exact ⟨rfl, rfl, rfl, hp _ _ _ _⟩
  · exact ⟨rfl, rfl, rfl, hp _ _ _ _⟩
theorem last_ne {a : List Nat} (h : a.getLast? ≠ some 13) : lastR 0 a ≠ 13 := by
  unfold lastR
  rw [List.getLastD_eq_getLast?]
  cases hx : a.getLast? with
  | none => simp
  | some y => rw [hx] at h; simpa using h
theorem allR_last (l : List (List Nat × Nat)) (h : ∀ x ∈ l, x.1.getLast? ≠ some 13) : (allR l).getLast? ≠ some 13 := by
  induction l using snoc_ind with
  | h0 => simp [allR]
  | hs l x ih =>
    rw [allR_snoc, List.getLast?_append]
    cases hx : x.1.getLast? with
    | none => simpa using ih (fun y hy => h y (by simp [hy]))
    | some y =>
      have := h x (by simp)
      rw [hx] at this
      simpa using this
/-- What holds of the builder behind steps. -/
theorem cgo_inv (ts : List LT) (hts : TabBd ts) (hl : ts.length ≤ 1073741824) (l : List (List Nat × Nat)) (hp : ∀ x ∈ l, x.2 ≤ 1073741824) (hv : ∀ x ∈ l, okR x.1) (hlast : ∀ x ∈ l, x.1.getLast? ≠ some 13) (hz : (encs (allR l)).length + l.length ≤ 1073741824) :
    ∃ toks a b, BTok (cgo ts l).1 toks ∧ allR l = a ++ b ∧ (cgo ts l).1.lu = (encs a).length ∧ (cgo ts l).1.st.gl = ((advI a (0, 0)).1 : Int) ∧ (cgo ts l).1.gcol = (advI a (0, 0)).2 ∧ a.getLast? ≠ some 13 := by
  induction l using snoc_ind with
  | h0 => exact ⟨[], [], [], ⟨rfl, by unfold rok sOk qz; simp, rfl, rfl, rfl, rfl, rfl, rfl⟩, rfl, rfl, rfl, rfl, by simp⟩
  | hs l x ih =>
    have hz' : (encs (allR l)).length + (encs x.1).length + (l.length + 1) ≤ 1073741824 := by
      rw [allR_snoc, encs_app, List.length_append, List.length_append, List.length_singleton] at hz
      exact hz
    obtain ⟨toks, a, b, h1, h2, h3, h4, h5, h6⟩ := ih (fun y hy => hp y (by simp [hy])) (fun y hy => hv y (by simp [hy])) (fun y hy => hlast y (by simp [hy])) (by omega)
    obtain ⟨hlu, hle⟩ := cgo_le ts hts 1073741824 (Nat.le_refl _) hl l (fun y hy => hp y (by simp [hy]))
    have hout := cgo_out ts l
    have hob : (cgo ts l).2 ++ encs x.1 = encs (a ++ (b ++ x.1)) := by rw [hout, h2, ← encs_app, List.append_assoc]
    have htl : tailOf ((cgo ts l).2 ++ encs x.1) (cgo ts l).1.lu = txt (b ++ x.1) := by rw [hob, h3, tail_txt]
    have hla : (allR (l ++ [x])).getLast? ≠ some 13 := allR_last _ hlast
    have hal : allR (l ++ [x]) = a ++ (b ++ x.1) := by rw [allR_snoc, h2, List.append_assoc]
    rw [cgo_snoc]
    unfold cstep
    rw [htl]
    have hbz : (txt (b ++ x.1)).size ≤ (encs (allR l)).length + (encs x.1).length := by
      rw [txt_size, h2]
      simp only [encs_app, List.length_append]
      omega
    have hluz : (cgo ts l).1.lu ≤ (encs (allR l)).length := by rw [← hout]; exact hlu
    obtain ⟨t, hb⟩ := h1.add hle ts ((cgo ts l).2 ++ encs x.1) (txt (b ++ x.1)) x.2 hts (by omega) (by omega) (hp x (by simp)) (by omega)
    have hvb : okR (b ++ x.1) := by
      refine okR.app (fun r hr => ?_) (hv x (by simp))
      have hall : okR (allR l) := by
        intro r hr
        unfold allR at hr
        obtain ⟨y, hy, hr⟩ := List.mem_flatMap.1 hr
        exact hv y (by simp [hy]) r hr
      exact hall r (by rw [h2]; simp [hr])
    by_cases hq : (cgo ts l).1.ploc = (x.2 : Int)
    · have e : (cgo ts l).1.add ts ((cgo ts l).2 ++ encs x.1) (txt (b ++ x.1)) x.2 = (cgo ts l).1 := by unfold Bd.add; rw [if_pos hq]
      rw [e] at hb ⊢
      exact ⟨_, a, b ++ x.1, hb, hal, h3, h4, h5, h6⟩
    · obtain ⟨p1, p2, p3, p4⟩ := add_place (cgo ts l).1 ts ((cgo ts l).2 ++ encs x.1) (txt (b ++ x.1)) x.2 hq
      have hu := upd_all (b ++ x.1) hvb (advI a (0, 0)).1 { (cgo ts l).1 with ploc := (x.2 : Int), plen := ((cgo ts l).2 ++ encs x.1).length } h4
      have happ : advI (a ++ (b ++ x.1)) (0, 0) = advI (b ++ x.1) (advI a (0, 0)) := advI_append a (b ++ x.1) (0, 0) (fun q => absurd q (last_ne h6))
      have e5 : ((advI a (0, 0)).1, (cgo ts l).1.gcol) = advI a (0, 0) := by rw [h5]
      refine ⟨_, a ++ (b ++ x.1), [], hb, by rw [hal, List.append_nil], ?_, ?_, ?_, by rw [← hal]; exact hla⟩
      · rw [p3, hob]
      · rw [p1, hu.1, happ]
        show ((advI (b ++ x.1) ((advI a (0, 0)).1, (cgo ts l).1.gcol)).1 : Int) = _
        rw [e5]
      · rw [p2, hu.2, happ]
        show (advI (b ++ x.1) ((advI a (0, 0)).1, (cgo ts l).1.gcol)).2 = _
        rw [e5]
/-- What holds of the builder at the end. -/
theorem cend_inv (ts : List LT) (hts : TabBd ts) (hl : ts.length ≤ 1073741824) (l : List (List Nat × Nat)) (rest : List Nat) (hp : ∀ x ∈ l, x.2 ≤ 1073741824) (hv : ∀ x ∈ l, okR x.1) (hlast : ∀ x ∈ l, x.1.getLast? ≠ some 13) (hr : okR rest) (hz : (encs (allR l)).length + (encs rest).length + l.length ≤ 1073741824) :
    ∃ toks, BTok (cend ts l rest) toks ∧ (cend ts l rest).st.gl = ((advI (allR l ++ rest) (0, 0)).1 : Int) ∧ (cend ts l rest).gcol = (advI (allR l ++ rest) (0, 0)).2 := by
  obtain ⟨toks, a, b, h1, h2, h3, h4, h5, h6⟩ := cgo_inv ts hts hl l hp hv hlast (by omega)
  obtain ⟨hlu, hle⟩ := cgo_le ts hts 1073741824 (Nat.le_refl _) hl l hp
  have hout := cgo_out ts l
  have hob : (cgo ts l).2 ++ encs rest = encs (a ++ (b ++ rest)) := by rw [hout, h2, ← encs_app, List.append_assoc]
  have htl : tailOf ((cgo ts l).2 ++ encs rest) (cgo ts l).1.lu = txt (b ++ rest) := by rw [hob, h3, tail_txt]
  have hall : okR (allR l) := by
    intro r hr
    unfold allR at hr
    obtain ⟨y, hy, hr⟩ := List.mem_flatMap.1 hr
    exact hv y hy r hr
  have hvb : okR (b ++ rest) := okR.app (fun r hr => hall r (by rw [h2]; simp [hr])) hr
  have hbz : (txt (b ++ rest)).size ≤ (encs (allR l)).length + (encs rest).length := by
    rw [txt_size, h2]
    simp only [encs_app, List.length_append]
    omega
  have hluz : (cgo ts l).1.lu ≤ (encs (allR l)).length := by rw [← hout]; exact hlu
  obtain ⟨t, hb⟩ := BTok.upd (s := txt (b ++ rest)) (txt (b ++ rest)).size 0 h1 hle (by omega)
  have hu := upd_all (b ++ rest) hvb (advI a (0, 0)).1 (cgo ts l).1 h4
  have happ : advI (a ++ (b ++ rest)) (0, 0) = advI (b ++ rest) (advI a (0, 0)) := advI_append a (b ++ rest) (0, 0) (fun q => absurd q (last_ne h6))
  have e5 : ((advI a (0, 0)).1, (cgo ts l).1.gcol) = advI a (0, 0) := by rw [h5]
  unfold cend Bd.done
  rw [htl]
  refine ⟨_, hb.same rfl rfl, ?_, ?_⟩
  · rw [h2, List.append_assoc, happ, ← e5]
    exact hu.1
  · rw [h2, List.append_assoc, happ, ← e5]
    exact hu.2
end Go.Proofs.YtnokiikgnplpmaaDoor
namespace Go.Proofs.YtnokiikgnplpmaaDoor
open Go.RowKit

theorem emit_mem {d : Bd} (c : St) {b : UInt8} (h : b ∈ d.sm) : b ∈ (d.emit c).sm := by simp [Bd.emit, h]
theorem newline_mem {d : Bd} {b : UInt8} (h : b ∈ d.sm) : b ∈ d.newline.sm := by
  rw [newline_eq]
  unfold Bd.covered
  split
  · simp only [List.mem_append]; exact .inl (emit_mem _ h)
  · simp only [List.mem_append]; exact .inl h
theorem upd_mem (s : ByteArray) (f pos : Nat) {d : Bd} {b : UInt8} (h : b ∈ d.sm) : b ∈ (upd s f pos d).sm := by
  induction f generalizing pos d with
  | zero => exact h
  | succ f ih =>
    unfold upd
    split
    · refine ih _ ?_
      unfold Bd.step
      split
      · split
        · exact h
        · exact newline_mem h
      · exact h
    · exact h
theorem nb_mem (n : Int) : ∃ b ∈ nb n, b ≠ 59 := by
  cases hx : nd n with
  | nil => exact absurd hx (nd_ne n)
  | cons y t =>
    refine ⟨UInt8.ofNat (sg y), by simp [nb, hx], fun e => ?_⟩
    have hy : y < 64 := nd_lt n y (by rw [hx]; simp)
    have h1 := sg_lt y hy
    have h2 := (sg_ne y).2.1
    have := congrArg UInt8.toNat e
    rw [u8n _ (by omega)] at this
    exact h2 this
theorem add_mem (d : Bd) (ts : List LT) (ob : List UInt8) (tail : ByteArray) (loc : Nat) : (∀ b ∈ d.sm, b ∈ (d.add ts ob tail loc).sm) ∧ (¬ d.ploc = (loc : Int) → ∃ b ∈ (d.add ts ob tail loc).sm, b ≠ 59) := by
  unfold Bd.add
  split
  · rename_i h; exact ⟨fun b hb => hb, fun q => absurd h q⟩
  · have h2 : ∀ b ∈ d.sm, b ∈ ({ upd tail tail.size 0 { d with ploc := (loc : Int), plen := ob.length } with lu := ob.length } : Bd).sm := fun b hb => upd_mem tail tail.size 0 (d := { d with ploc := (loc : Int), plen := ob.length }) hb
    generalize ({ upd tail tail.size 0 { d with ploc := (loc : Int), plen := ob.length } with lu := ob.length } : Bd) = u at *
    have e : ∀ b ∈ u.sm, b ∈ (if u.lsm = false ∧ 0 < u.gcol ∧ u.has = true then u.emit u.cover else u).sm := by
      intro b hb
      split
      · exact emit_mem _ hb
      · exact hb
    simp only
    generalize (if u.lsm = false ∧ 0 < u.gcol ∧ u.has = true then u.emit u.cover else u) = t at *
    refine ⟨fun b hb => emit_mem _ (e b (h2 b hb)), fun _ => ?_⟩
    obtain ⟨b, hb, hne⟩ := nb_mem ((t.gcol : Int) - t.st.gc)
    refine ⟨b, ?_, hne⟩
    simp only [Bd.emit, segb, List.mem_append]
    exact .inr (.inl (.inl (.inl (.inr hb))))
theorem cgo_mem (ts : List LT) (x : List Nat × Nat) (y : List (List Nat × Nat)) : ∃ b ∈ (cgo ts (x :: y)).1.sm, b ≠ 59 := by
  induction y using snoc_ind with
  | h0 =>
    have e : cgo ts [x] = cstep ts (Bd.zero, []) x := rfl
    rw [e]
    exact (add_mem Bd.zero ts ([] ++ encs x.1) (tailOf ([] ++ encs x.1) Bd.zero.lu) x.2).2 (by show ¬ (-1 : Int) = _; omega)
  | hs l z ih =>
    obtain ⟨b, hb, hne⟩ := ih
    rw [← List.cons_append, cgo_snoc]
    exact ⟨b, (add_mem _ ts _ _ _).1 b hb, hne⟩
theorem tokB_none (toks : List (Option (List Int))) (q : Seg × Int) (fr : Bool) (h : rsegs q toks = []) : ∀ b ∈ tokB fr toks, b = 59 := by
  induction toks generalizing q fr with
  | nil => intro b hb; cases hb
  | cons t r ih => cases t with
    | none =>
      intro b hb
      rcases List.mem_cons.1 hb with e | e
      · exact e
      · exact ih (rsemi q) true h b e
    | some ns => simp [rsegs] at h
/-- There is a mapping. -/
theorem cend_segs (ts : List LT) (x : List Nat × Nat) (y : List (List Nat × Nat)) (rest : List Nat) (toks : List (Option (List Int))) (h : BTok (cend ts (x :: y) rest) toks) : 0 < (rsegs qz toks).length := by
  rcases Nat.eq_zero_or_pos (rsegs qz toks).length with e | e
  · exfalso
    have h1 := tokB_none toks qz true (List.eq_nil_of_length_eq_zero e)
    obtain ⟨b, hb, hne⟩ := cgo_mem ts x y
    have hb2 : b ∈ (cend ts (x :: y) rest).sm := upd_mem _ _ _ hb
    rw [h.sm] at hb2
    exact hne (h1 b hb2)
  · exact e
end Go.Proofs.YtnokiikgnplpmaaDoor
namespace Go.Proofs.YtnokiikgnplpmaaDoor
open Go.RowKit

/-- A mapping of a builder. -/
def sgOf (c : St) : Seg := ⟨c.gl, c.gc, 0, c.ol, c.oc, 0, false⟩
/-- A builder's mappings; F: what places they lead to. -/
structure CI (F : Int → Int → Prop) (d : Bd) (toks : List (Option (List Int))) : Prop where
  tok : BTok d toks
  bd : ∀ x ∈ rsegs qz toks, sgBd x
  seg : ∀ x ∈ rsegs qz toks, x.s = 0 ∧ x.nm = 0 ∧ x.nd = false ∧ F x.fl x.fc
  far : ∀ x ∈ rsegs qz toks, x.l < d.st.gl ∨ x.l = d.st.gl ∧ x.c ≤ (d.gcol : Int)
  has : d.has = true → F d.st.ol d.st.oc
  srt : (rsegs qz toks).Pairwise fun x y => x.l < y.l ∨ x.l = y.l ∧ x.c ≤ y.c
/-- No mapping stands in a line that does not begin with one. -/
def NewL (d : Bd) (toks : List (Option (List Int))) : Prop := d.lsm = false → ∀ x ∈ rsegs qz toks, x.l < d.st.gl
theorem CI.mono {F G : Int → Int → Prop} {d : Bd} {toks : List (Option (List Int))} (h : CI F d toks) (hFG : ∀ a b, F a b → G a b) : CI G d toks :=
  ⟨h.tok, h.bd, fun x hx => by obtain ⟨a, b, c, e⟩ := h.seg x hx; exact ⟨a, b, c, hFG _ _ e⟩, h.far, fun q => hFG _ _ (h.has q), h.srt⟩
theorem emit_rstep {d : Bd} {toks : List (Option (List Int))} (h : BTok d toks) (c : St) (h0 : c.gl = d.st.gl) (h2 : c.si = 0) : rstep (rgo qz toks) (delt d.st c) = (sgOf c, 0) := by
  have e1 := h.l
  have e2 := h.c
  have e3 := h.s
  have e4 := h.fl
  have e5 := h.fc
  have e6 := h.nm
  unfold rstep
  rw [e1, e2, e3, e4, e5, e6]
  have a1 : d.st.gc + (c.gc - d.st.gc) = c.gc := by omega
  have a2 : d.st.si + (c.si - d.st.si) = 0 := by omega
  have a3 : d.st.ol + (c.ol - d.st.ol) = c.ol := by omega
  have a4 : d.st.oc + (c.oc - d.st.oc) = c.oc := by omega
  simp [delt, a1, a2, a3, a4, sgOf, h0]
theorem CI.emit {F : Int → Int → Prop} {d : Bd} {toks : List (Option (List Int))} {N : Nat} (h : CI F d toks) (hle : d.le N) (hN : N ≤ 8589934592) (c : St) (h0 : c.gl = d.st.gl) (h1 : 0 ≤ c.gc ∧ c.gc ≤ N) (h2 : c.si = 0) (h3 : 0 ≤ c.ol ∧ c.ol ≤ N) (h4 : 0 ≤ c.oc ∧ c.oc ≤ N)
    (hF : F c.ol c.oc) (hg : c.gc ≤ (d.gcol : Int)) (ho : ∀ x ∈ rsegs qz toks, x.l < c.gl ∨ x.l = c.gl ∧ x.c ≤ c.gc) : CI F (d.emit c) (toks ++ [some (delt d.st c)]) ∧ rsegs qz (toks ++ [some (delt d.st c)]) = rsegs qz toks ++ [sgOf c] := by
  have hr : rsegs qz (toks ++ [some (delt d.st c)]) = rsegs qz toks ++ [sgOf c] := by
    rw [rsegs_app]
    show _ ++ [(rstep (rgo qz toks) (delt d.st c)).1] = _
    rw [emit_rstep h.tok c h0 h2]
  obtain ⟨l1, l2, l3, l4, l5, l6, l7⟩ := id hle
  refine ⟨⟨h.tok.emit hle hN c h0 h1 h2 h3 h4, ?_, ?_, ?_, fun _ => hF, ?_⟩, hr⟩
  · rw [hr]
    intro x hx
    rcases List.mem_append.1 hx with hx | hx
    · exact h.bd x hx
    · rw [List.mem_singleton] at hx
      subst hx
      unfold sgBd sgOf
      simp only
      refine ⟨by omega, by omega, by omega, by omega, by omega, by omega, fun _ => trivial⟩
  · rw [hr]
    intro x hx
    rcases List.mem_append.1 hx with hx | hx
    · exact h.seg x hx
    · rw [List.mem_singleton] at hx
      subst hx
      exact ⟨rfl, rfl, rfl, hF⟩
  · rw [hr]
    intro x hx
    show x.l < c.gl ∨ x.l = c.gl ∧ x.c ≤ (d.gcol : Int)
    rw [h0]
    rcases List.mem_append.1 hx with hx | hx
    · exact h.far x hx
    · rw [List.mem_singleton] at hx
      subst hx
      exact .inr ⟨h0, hg⟩
  · rw [hr, List.pairwise_append]
    refine ⟨h.srt, List.pairwise_singleton _ _, fun x hx y hy => ?_⟩
    rw [List.mem_singleton] at hy
    subst hy
    exact ho x hx
theorem CI.cover {F : Int → Int → Prop} {d : Bd} {toks : List (Option (List Int))} {N : Nat} (h : CI F d toks) (hle : d.le N) (hN : N ≤ 8589934592) (hh : d.has = true) (hn : ∀ x ∈ rsegs qz toks, x.l < d.st.gl) : CI F (d.emit d.cover) (toks ++ [some (delt d.st d.cover)]) := by
  obtain ⟨l1, l2, l3, l4, l5, l6, l7⟩ := id hle
  exact (h.emit hle hN d.cover rfl ⟨by show (0 : Int) ≤ 0; omega, by show (0 : Int) ≤ N; omega⟩ l4 l5 l6 (h.has hh) (by show (0 : Int) ≤ _; omega) (fun x hx => .inl (hn x hx))).1
theorem CI.semi {F : Int → Int → Prop} {d : Bd} {toks : List (Option (List Int))} {N : Nat} (h : CI F d toks) (hle : d.le N) (hN : N ≤ 8589934592) : CI F { d with st := { d.st with gl := d.st.gl + 1, gc := 0 }, gcol := 0, sm := d.sm ++ [59], lsm := false } (toks ++ [none]) ∧ NewL { d with st := { d.st with gl := d.st.gl + 1, gc := 0 }, gcol := 0, sm := d.sm ++ [59], lsm := false } (toks ++ [none]) := by
  have hr : rsegs qz (toks ++ [none]) = rsegs qz toks := by
    rw [rsegs_app]
    show _ ++ [] = _
    rw [List.append_nil]
  have hlt : ∀ x ∈ rsegs qz toks, x.l < d.st.gl + 1 := fun x hx => by rcases h.far x hx with q | q <;> omega
  refine ⟨⟨h.tok.semi hle hN (fun e => { e with st := { e.st with gl := e.st.gl + 1, gc := 0 }, gcol := 0, sm := e.sm ++ [59], lsm := false }) ⟨rfl, rfl⟩, ?_, ?_, ?_, h.has, ?_⟩, fun _ => ?_⟩
  · rw [hr]; exact h.bd
  · rw [hr]; exact h.seg
  · rw [hr]; exact fun x hx => .inl (hlt x hx)
  · rw [hr]; exact h.srt
  · rw [hr]; exact hlt
theorem CI.newline {F : Int → Int → Prop} {d : Bd} {toks : List (Option (List Int))} {N : Nat} (h : CI F d toks) (hn : NewL d toks) (hle : d.le N) (hN : N ≤ 8589934591) : ∃ t, CI F d.newline (toks ++ t) ∧ NewL d.newline (toks ++ t) := by
  rw [newline_eq]
  unfold Bd.covered
  split
  · rename_i hq
    have h1 := h.cover hle (by omega) hq.2 (hn hq.1)
    have hl : (d.emit d.cover).le (N + 1) := by
      have hs := segb_len (lastB d.sm) d.st d.cover
      obtain ⟨l1, l2, l3, l4, l5, l6, l7⟩ := hle
      unfold Bd.le
      simp only [Bd.emit, Bd.cover, List.length_append] at hs ⊢
      exact ⟨by omega, by omega, by omega, l4, by omega, by omega, by omega⟩
    refine ⟨[some (delt d.st d.cover)] ++ [none], ?_⟩
    rw [← List.append_assoc]
    exact h1.semi hl (by omega)
  · exact ⟨[none], h.semi hle (by omega)⟩
theorem CI.step {F : Int → Int → Prop} {d : Bd} {toks : List (Option (List Int))} {N : Nat} (h : CI F d toks) (hn : NewL d toks) (hle : d.le N) (hN : N ≤ 8589934591) (s : ByteArray) (pos c : Nat) : ∃ t, CI F (d.step s pos c) (toks ++ t) ∧ NewL (d.step s pos c) (toks ++ t) := by
  unfold Bd.step
  split
  · split
    · exact ⟨[], by rw [List.append_nil]; exact ⟨h, hn⟩⟩
    · exact h.newline hn hle hN
  · refine ⟨[], ?_⟩
    rw [List.append_nil]
    refine ⟨⟨h.tok.same rfl rfl, h.bd, h.seg, fun x hx => ?_, h.has, h.srt⟩, hn⟩
    rcases h.far x hx with q | q
    · exact .inl q
    · refine .inr ⟨q.1, ?_⟩
      simp only
      omega
theorem CI.upd {F : Int → Int → Prop} {s : ByteArray} : ∀ (f pos : Nat) {d : Bd} {toks : List (Option (List Int))} {N : Nat}, CI F d toks → NewL d toks → d.le N → N + 2 * f ≤ 8589934591 → ∃ t, CI F (upd s f pos d) (toks ++ t) ∧ NewL (Go.Proofs.YtnokiikgnplpmaaDoor.upd s f pos d) (toks ++ t) := by
  intro f
  induction f with
  | zero => intro pos d toks N h hn _ _; exact ⟨[], by rw [List.append_nil]; exact ⟨h, hn⟩⟩
  | succ f ih =>
    intro pos d toks N h hn hle hN
    unfold Go.Proofs.YtnokiikgnplpmaaDoor.upd
    split
    · obtain ⟨t, h1, h1n⟩ := h.step hn hle (by omega) s pos (Utf8.decode s pos).1
      obtain ⟨t2, h2, h2n⟩ := ih (pos + (Utf8.decode s pos).2) h1 h1n (hle.step s pos _) (by omega)
      exact ⟨t ++ t2, by rw [← List.append_assoc]; exact ⟨h2, h2n⟩⟩
    · exact ⟨[], by rw [List.append_nil]; exact ⟨h, hn⟩⟩
theorem CI.same {F : Int → Int → Prop} {d d' : Bd} {toks : List (Option (List Int))} (h : CI F d toks) (h1 : d'.sm = d.sm) (h2 : d'.st = d.st) (h3 : d'.gcol = d.gcol) (h4 : d'.has = d.has) : CI F d' toks :=
  ⟨h.tok.same h1 h2, h.bd, h.seg, by rw [h2, h3]; exact h.far, by rw [h2, h4]; exact h.has, h.srt⟩
theorem NewL.same {d d' : Bd} {toks : List (Option (List Int))} (h : NewL d toks) (h2 : d'.st = d.st) (h3 : d'.lsm = d.lsm) : NewL d' toks := by
  unfold NewL
  rw [h2, h3]
  exact h
theorem CI.add {F : Int → Int → Prop} {d : Bd} {toks : List (Option (List Int))} {N : Nat} (h : CI F d toks) (hn : NewL d toks) (hle : d.le N) (ts : List LT) (ob : List UInt8) (tail : ByteArray) (loc : Nat) (hts : TabBd ts) (hl : ts.length ≤ N) (hN0 : 1073741824 ≤ N) (hloc : loc ≤ 1073741824) (hN : N + 2 * tail.size ≤ 8589934590)
    (hF : F ((lineNo ts loc - 1 : Nat) : Int) (colOf (ts.getD (lineNo ts loc - 1) ⟨none, 0, 0⟩) loc : Nat)) : ∃ t, CI F (d.add ts ob tail loc) (toks ++ t) ∧ NewL (d.add ts ob tail loc) (toks ++ t) ∧ (¬ d.ploc = (loc : Int) → (⟨(d.add ts ob tail loc).st.gl, ((d.add ts ob tail loc).gcol : Int), 0, ((lineNo ts loc - 1 : Nat) : Int), (colOf (ts.getD (lineNo ts loc - 1) ⟨none, 0, 0⟩) loc : Nat), 0, false⟩ : Seg) ∈ rsegs qz (toks ++ t)) := by
  unfold Bd.add
  by_cases hq : d.ploc = (loc : Int)
  · rw [if_pos hq]
    exact ⟨[], by rw [List.append_nil]; exact ⟨h, hn, fun q => absurd hq q⟩⟩
  · rw [if_neg hq]
    have hle1 : ({ d with ploc := (loc : Int), plen := ob.length } : Bd).le N := hle
    obtain ⟨t1, h1, h1n⟩ := CI.upd (s := tail) tail.size 0 (h.same (d' := { d with ploc := (loc : Int), plen := ob.length }) rfl rfl rfl rfl) (hn.same (d' := { d with ploc := (loc : Int), plen := ob.length }) rfl rfl) hle1 (by omega)
    have hle2 := upd_le tail tail.size 0 hle1
    have h2 : CI F ({ Go.Proofs.YtnokiikgnplpmaaDoor.upd tail tail.size 0 { d with ploc := (loc : Int), plen := ob.length } with lu := ob.length } : Bd) (toks ++ t1) := h1.same rfl rfl rfl rfl
    have h2n : NewL ({ Go.Proofs.YtnokiikgnplpmaaDoor.upd tail tail.size 0 { d with ploc := (loc : Int), plen := ob.length } with lu := ob.length } : Bd) (toks ++ t1) := h1n.same rfl rfl
    have hle3 : ({ Go.Proofs.YtnokiikgnplpmaaDoor.upd tail tail.size 0 { d with ploc := (loc : Int), plen := ob.length } with lu := ob.length } : Bd).le (N + 2 * tail.size) := hle2
    have hc := colOf_le hts (lineNo ts loc - 1) loc hloc
    have hnn := lineNo_le ts loc
    generalize ({ Go.Proofs.YtnokiikgnplpmaaDoor.upd tail tail.size 0 { d with ploc := (loc : Int), plen := ob.length } with lu := ob.length } : Bd) = u at *
    simp only
    obtain ⟨t2, h3, h3n, hle4⟩ : ∃ t2, CI F (if u.lsm = false ∧ 0 < u.gcol ∧ u.has = true then u.emit u.cover else u) (toks ++ t1 ++ t2) ∧ (∀ x ∈ rsegs qz (toks ++ t1 ++ t2), x.l < (if u.lsm = false ∧ 0 < u.gcol ∧ u.has = true then u.emit u.cover else u).st.gl ∨ x.l = (if u.lsm = false ∧ 0 < u.gcol ∧ u.has = true then u.emit u.cover else u).st.gl ∧ x.c ≤ ((if u.lsm = false ∧ 0 < u.gcol ∧ u.has = true then u.emit u.cover else u).gcol : Int)) ∧ (if u.lsm = false ∧ 0 < u.gcol ∧ u.has = true then u.emit u.cover else u).le (N + 2 * tail.size + 1) := by
      split
      · rename_i hu
        obtain ⟨l1, l2, l3, l4, l5, l6, l7⟩ := id hle3
        have hcv := h2.cover hle3 (by omega) hu.2.2 (h2n hu.1)
        exact ⟨_, hcv, hcv.far, le_emit hle3 _ rfl ⟨by show (0 : Int) ≤ 0; omega, by show (0 : Int) ≤ _; omega⟩ l4 l5 l6⟩
      · exact ⟨[], by simpa using h2, by rw [List.append_nil]; exact h2.far, hle3.mono (by omega)⟩
    generalize (if u.lsm = false ∧ 0 < u.gcol ∧ u.has = true then u.emit u.cover else u) = e at *
    obtain ⟨l1, l2, l3, l4, l5, l6, l7⟩ := id hle4
    obtain ⟨h4, h4r⟩ := h3.emit hle4 (by omega) { gl := e.st.gl, gc := e.gcol, si := 0, ol := ((lineNo ts loc - 1 : Nat) : Int), oc := (colOf (ts.getD (lineNo ts loc - 1) ⟨none, 0, 0⟩) loc : Nat), on := 0 } rfl ⟨by simp only; omega, by simp only; omega⟩ rfl ⟨by simp only; omega, by simp only; omega⟩ ⟨by simp only; omega, by simp only; omega⟩ hF (Int.le_refl _) h3n
    refine ⟨t1 ++ t2 ++ [some (delt e.st { gl := e.st.gl, gc := e.gcol, si := 0, ol := ((lineNo ts loc - 1 : Nat) : Int), oc := (colOf (ts.getD (lineNo ts loc - 1) ⟨none, 0, 0⟩) loc : Nat), on := 0 })], ?_⟩
    have h5 := h4.same (d' := { e.emit { gl := e.st.gl, gc := e.gcol, si := 0, ol := ((lineNo ts loc - 1 : Nat) : Int), oc := (colOf (ts.getD (lineNo ts loc - 1) ⟨none, 0, 0⟩) loc : Nat), on := 0 } with lsm := true }) rfl rfl rfl rfl
    rw [← List.append_assoc, ← List.append_assoc]
    refine ⟨h5, fun q => by simp at q, fun _ => ?_⟩
    rw [h4r]
    simp [sgOf, Bd.emit]
/-- The place of a step in the source, by the tables. -/
def fromT (ts : List LT) (loc : Nat) : Nat × Nat := (lineNo ts loc - 1, colOf (ts.getD (lineNo ts loc - 1) ⟨none, 0, 0⟩) loc)
/-- The mapping of a step. -/
def stSeg (ts : List LT) (l : List (List Nat × Nat)) (i : Nat) (loc : Nat) : Seg := ⟨((advI (allR (l.take (i + 1))) (0, 0)).1 : Int), ((advI (allR (l.take (i + 1))) (0, 0)).2 : Int), 0, ((fromT ts loc).1 : Int), ((fromT ts loc).2 : Int), 0, false⟩
def FSt (ts : List LT) (l : List (List Nat × Nat)) (a b : Int) : Prop := ∃ x ∈ l, a = ((fromT ts x.2).1 : Int) ∧ b = ((fromT ts x.2).2 : Int)
/-- Does a step lead elsewhere than the one ahead? -/
def news (l : List (List Nat × Nat)) (i : Nat) : Prop := ∀ (hi : i < l.length), i = 0 ∨ (l[i]'hi).2 ≠ (l[i - 1]'(by omega)).2
theorem zero_CI (F : Int → Int → Prop) : CI F Bd.zero [] ∧ NewL Bd.zero [] :=
  ⟨⟨⟨rfl, by unfold rok sOk qz; simp, rfl, rfl, rfl, rfl, rfl, rfl⟩, by simp [rsegs], by simp [rsegs], by simp [rsegs], fun q => by simp [Bd.zero] at q, by simp [rsegs]⟩, fun _ => by simp [rsegs]⟩
/-- What holds of the builder behind steps. -/
theorem cgo_inv2 (ts : List LT) (hts : TabBd ts) (hl : ts.length ≤ 1073741824) (l : List (List Nat × Nat)) (hp : ∀ x ∈ l, x.2 ≤ 1073741824) (hv : ∀ x ∈ l, okR x.1) (hlast : ∀ x ∈ l, x.1.getLast? ≠ some 13) (hz : (encs (allR l)).length + l.length ≤ 1073741824) :
    ∃ toks a b, CI (FSt ts l) (cgo ts l).1 toks ∧ NewL (cgo ts l).1 toks ∧ (cgo ts l).1.ploc = (match l.getLast? with | none => (-1 : Int) | some x => (x.2 : Int)) ∧ (∀ (i : Nat) (hi : i < l.length), news l i → stSeg ts l i (l[i]'hi).2 ∈ rsegs qz toks) ∧
      allR l = a ++ b ∧ (cgo ts l).1.lu = (encs a).length ∧ (cgo ts l).1.st.gl = ((advI a (0, 0)).1 : Int) ∧ (cgo ts l).1.gcol = (advI a (0, 0)).2 ∧ a.getLast? ≠ some 13 := by
  induction l using snoc_ind with
  | h0 => exact ⟨[], [], [], (zero_CI _).1, (zero_CI (FSt ts [])).2, rfl, fun i hi => by simp at hi, rfl, rfl, rfl, rfl, by simp⟩
  | hs l x ih =>
    have hz' : (encs (allR l)).length + (encs x.1).length + (l.length + 1) ≤ 1073741824 := by
      rw [allR_snoc, encs_app, List.length_append, List.length_append, List.length_singleton] at hz
      exact hz
    obtain ⟨toks, a, b, h1, h1n, hpl, hsg, h2, h3, h4, h5, h6⟩ := ih (fun y hy => hp y (by simp [hy])) (fun y hy => hv y (by simp [hy])) (fun y hy => hlast y (by simp [hy])) (by omega)
    obtain ⟨hlu, hle⟩ := cgo_le ts hts 1073741824 (Nat.le_refl _) hl l (fun y hy => hp y (by simp [hy]))
    have hout := cgo_out ts l
    have hob : (cgo ts l).2 ++ encs x.1 = encs (a ++ (b ++ x.1)) := by rw [hout, h2, ← encs_app, List.append_assoc]
    have htl : tailOf ((cgo ts l).2 ++ encs x.1) (cgo ts l).1.lu = txt (b ++ x.1) := by rw [hob, h3, tail_txt]
    have hla : (allR (l ++ [x])).getLast? ≠ some 13 := allR_last _ hlast
    have hal : allR (l ++ [x]) = a ++ (b ++ x.1) := by rw [allR_snoc, h2, List.append_assoc]
    rw [cgo_snoc]
    unfold cstep
    rw [htl]
    have hbz : (txt (b ++ x.1)).size ≤ (encs (allR l)).length + (encs x.1).length := by
      rw [txt_size, h2]
      simp only [encs_app, List.length_append]
      omega
    have hluz : (cgo ts l).1.lu ≤ (encs (allR l)).length := by rw [← hout]; exact hlu
    have h1' : CI (FSt ts (l ++ [x])) (cgo ts l).1 toks := h1.mono (fun p q ⟨y, hy, e⟩ => ⟨y, by simp [hy], e⟩)
    obtain ⟨t, hb, hbn, hbs⟩ := h1'.add h1n hle ts ((cgo ts l).2 ++ encs x.1) (txt (b ++ x.1)) x.2 hts (by omega) (by omega) (hp x (by simp)) (by omega) ⟨x, by simp, rfl, rfl⟩
    have hvb : okR (b ++ x.1) := by
      refine okR.app (fun r hr => ?_) (hv x (by simp))
      have hall : okR (allR l) := by
        intro r hr
        unfold allR at hr
        obtain ⟨y, hy, hr⟩ := List.mem_flatMap.1 hr
        exact hv y (by simp [hy]) r hr
      exact hall r (by rw [h2]; simp [hr])
    have hlastx : (l ++ [x]).getLast? = some x := by simp
    have hold : ∀ t, ∀ (i : Nat) (hi : i < l.length), news (l ++ [x]) i → stSeg ts (l ++ [x]) i ((l ++ [x])[i]'(by simp; omega)).2 ∈ rsegs qz (toks ++ t) := by
      intro t i hi hnw
      have e1 : (l ++ [x])[i]'(by simp; omega) = l[i] := List.getElem_append_left hi
      have hm := hsg i hi (fun hi' => by
        have := hnw (by simp; omega)
        rcases this with q | q
        · exact .inl q
        · right
          rw [e1] at q
          rwa [List.getElem_append_left (by omega)] at q)
      have e2 : stSeg ts (l ++ [x]) i ((l ++ [x])[i]'(by simp; omega)).2 = stSeg ts l i (l[i]).2 := by
        unfold stSeg
        rw [e1, List.take_append_of_le_length (by omega)]
      rw [e2, rsegs_app]
      exact List.mem_append_left _ hm
    by_cases hq : (cgo ts l).1.ploc = (x.2 : Int)
    · have e : (cgo ts l).1.add ts ((cgo ts l).2 ++ encs x.1) (txt (b ++ x.1)) x.2 = (cgo ts l).1 := by unfold Bd.add; rw [if_pos hq]
      rw [e] at hb hbn ⊢
      refine ⟨_, a, b ++ x.1, hb, hbn, by rw [hlastx]; exact hq, ?_, hal, h3, h4, h5, h6⟩
      intro i hi hnw
      rcases Nat.lt_or_ge i l.length with hil | hil
      · exact hold _ i hil hnw
      · exfalso
        obtain rfl : i = l.length := by simp at hi; omega
        rw [hpl] at hq
        have := hnw (by simp)
        rcases List.eq_nil_or_concat l with e0 | ⟨l', y, e0⟩
        · rw [e0] at hq; simp at hq
        · rw [List.concat_eq_append] at e0
          have e1 : (l ++ [x])[l.length]'(by simp) = x := by simp
          have e2 : (l ++ [x])[l.length - 1]'(by simp; omega) = y := by
            subst e0
            simp
          rw [e1, e2] at this
          have e3 : l.getLast? = some y := by rw [e0]; simp
          rw [e3] at hq
          simp only at hq
          rcases this with q | q
          · rw [e0] at q; simp at q
          · apply q; omega
    · obtain ⟨p1, p2, p3, p4⟩ := add_place (cgo ts l).1 ts ((cgo ts l).2 ++ encs x.1) (txt (b ++ x.1)) x.2 hq
      have hu := upd_all (b ++ x.1) hvb (advI a (0, 0)).1 { (cgo ts l).1 with ploc := (x.2 : Int), plen := ((cgo ts l).2 ++ encs x.1).length } h4
      have happ : advI (a ++ (b ++ x.1)) (0, 0) = advI (b ++ x.1) (advI a (0, 0)) := advI_append a (b ++ x.1) (0, 0) (fun q => absurd q (last_ne h6))
      have e5 : ((advI a (0, 0)).1, (cgo ts l).1.gcol) = advI a (0, 0) := by rw [h5]
      have r1 : ((cgo ts l).1.add ts ((cgo ts l).2 ++ encs x.1) (txt (b ++ x.1)) x.2).st.gl = ((advI (a ++ (b ++ x.1)) (0, 0)).1 : Int) := by
        rw [p1, hu.1, happ]
        show ((advI (b ++ x.1) ((advI a (0, 0)).1, (cgo ts l).1.gcol)).1 : Int) = _
        rw [e5]
      have r2 : ((cgo ts l).1.add ts ((cgo ts l).2 ++ encs x.1) (txt (b ++ x.1)) x.2).gcol = (advI (a ++ (b ++ x.1)) (0, 0)).2 := by
        rw [p2, hu.2, happ]
        show (advI (b ++ x.1) ((advI a (0, 0)).1, (cgo ts l).1.gcol)).2 = _
        rw [e5]
      refine ⟨_, a ++ (b ++ x.1), [], hb, hbn, by rw [hlastx]; exact p4, ?_, by rw [hal, List.append_nil], ?_, r1, r2, by rw [← hal]; exact hla⟩
      · intro i hi hnw
        rcases Nat.lt_or_ge i l.length with hil | hil
        · exact hold _ i hil hnw
        · obtain rfl : i = l.length := by simp at hi; omega
          have hm := hbs hq
          rw [r1, r2, ← hal] at hm
          have e1 : (l ++ [x])[l.length]'(by simp) = x := by simp
          have e2 : (l ++ [x]).take (l.length + 1) = l ++ [x] := List.take_of_length_le (by simp)
          rw [e1]
          unfold stSeg
          rw [e2]
          exact hm
      · rw [p3, hob]
/-- What holds of the builder at the end. -/
theorem cend_inv2 (ts : List LT) (hts : TabBd ts) (hl : ts.length ≤ 1073741824) (l : List (List Nat × Nat)) (rest : List Nat) (hp : ∀ x ∈ l, x.2 ≤ 1073741824) (hv : ∀ x ∈ l, okR x.1) (hlast : ∀ x ∈ l, x.1.getLast? ≠ some 13) (hr : okR rest) (hz : (encs (allR l)).length + (encs rest).length + l.length ≤ 1073741824) :
    ∃ toks, CI (FSt ts l) (cend ts l rest) toks ∧ (∀ (i : Nat) (hi : i < l.length), news l i → stSeg ts l i (l[i]'hi).2 ∈ rsegs qz toks) ∧ (cend ts l rest).st.gl = ((advI (allR l ++ rest) (0, 0)).1 : Int) ∧ (cend ts l rest).gcol = (advI (allR l ++ rest) (0, 0)).2 ∧ (cend ts l rest).le 8589934590 := by
  obtain ⟨toks, a, b, h1, h1n, hpl, hsg, h2, h3, h4, h5, h6⟩ := cgo_inv2 ts hts hl l hp hv hlast (by omega)
  obtain ⟨hlu, hle⟩ := cgo_le ts hts 1073741824 (Nat.le_refl _) hl l hp
  have hout := cgo_out ts l
  have hob : (cgo ts l).2 ++ encs rest = encs (a ++ (b ++ rest)) := by rw [hout, h2, ← encs_app, List.append_assoc]
  have htl : tailOf ((cgo ts l).2 ++ encs rest) (cgo ts l).1.lu = txt (b ++ rest) := by rw [hob, h3, tail_txt]
  have hall : okR (allR l) := by
    intro r hr
    unfold allR at hr
    obtain ⟨y, hy, hr⟩ := List.mem_flatMap.1 hr
    exact hv y hy r hr
  have hvb : okR (b ++ rest) := okR.app (fun r hr => hall r (by rw [h2]; simp [hr])) hr
  have hbz : (txt (b ++ rest)).size ≤ (encs (allR l)).length + (encs rest).length := by
    rw [txt_size, h2]
    simp only [encs_app, List.length_append]
    omega
  have hluz : (cgo ts l).1.lu ≤ (encs (allR l)).length := by rw [← hout]; exact hlu
  obtain ⟨t, hb, _⟩ := CI.upd (s := txt (b ++ rest)) (txt (b ++ rest)).size 0 h1 h1n hle (by omega)
  have hle2 := upd_le (txt (b ++ rest)) (txt (b ++ rest)).size 0 hle
  have hu := upd_all (b ++ rest) hvb (advI a (0, 0)).1 (cgo ts l).1 h4
  have happ : advI (a ++ (b ++ rest)) (0, 0) = advI (b ++ rest) (advI a (0, 0)) := advI_append a (b ++ rest) (0, 0) (fun q => absurd q (last_ne h6))
  have e5 : ((advI a (0, 0)).1, (cgo ts l).1.gcol) = advI a (0, 0) := by rw [h5]
  unfold cend Bd.done
  rw [htl]
  refine ⟨_, hb.same rfl rfl rfl rfl, fun i hi hnw => ?_, ?_, ?_, ?_⟩
  · rw [rsegs_app]
    exact List.mem_append_left _ (hsg i hi hnw)
  · rw [h2, List.append_assoc, happ, ← e5]
    exact hu.1
  · rw [h2, List.append_assoc, happ, ← e5]
    exact hu.2
  · exact Bd.le.mono (N := 1073741824 + 2 * (cgo ts l).1.lu + 2 * l.length + 2 * (txt (b ++ rest)).size) hle2 (by omega)
end Go.Proofs.YtnokiikgnplpmaaDoor

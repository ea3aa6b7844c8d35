/-
  The contract of impl.Chunk. Conditions: the source has at most 2^24 bytes, the output at most 2^25; there is a step, and its text is not empty; each place of the source is one that its tables tell.
-/
import Derived.Test.YtnokiikgnplpmaaDoorM7
import Derived.Test.YtnokiikgnplpmaaDoorM1
import Derived.Test.YtnokiikgnplpmaaDoorM11
import Derived.Test.YtnokiikgnplpmaaDoorM5
namespace Go.Proofs.YtnokiikgnplpmaaDoor
open Go.RowKit

/-- Steps in memory, below block B. -/
def StepsAt (w : World) (B : Nat) (v : Value) (l : List (List Nat × Nat)) : Prop :=
  ∃ R c : Nat, v = .slice (some ⟨R, 0, none⟩) l.length c ∧ R < B ∧ ∀ (j : Nat) (hj : j < l.length), w.cell? ⟨R, j * 3, none⟩ = some (.string (txt (l[j]'hj).1)) ∧ w.cell? ⟨R, j * 3 + 1, none⟩ = some (.int .i64 ((l[j]'hj).2 : Int)) ∧ w.cell? ⟨R, j * 3 + 2, none⟩ = some (.string ByteArray.empty)
theorem StepsAt.below {w w' : World} {B : Nat} {v : Value} {l : List (List Nat × Nat)} (h : StepsAt w B v l) (hb : Below B w w') : StepsAt w' B v l := by
  obtain ⟨R, c, h1, h2, h3⟩ := h
  exact ⟨R, c, h1, h2, fun j hj => ⟨(hb.cell (p := ⟨R, _, none⟩) h2).trans (h3 j hj).1, (hb.cell (p := ⟨R, _, none⟩) h2).trans (h3 j hj).2.1, (hb.cell (p := ⟨R, _, none⟩) h2).trans (h3 j hj).2.2⟩⟩
theorem B64.mono {B B' : Nat} {w : World} (h : B64 B w) (hB : B ≤ B') : B64 B' w := by
  obtain ⟨R, o, c, h1, h2, h3, h4⟩ := h
  exact ⟨R, o, c, by omega, by omega, h3, h4⟩
/-- A row of bytes of one's own, as output. -/
theorem own_out {w : World} {base : Nat} {v : Value} {ob : List UInt8} (h : w.ownsRow base 5 1 v ob.length (bc ob)) (hn : 0 < ob.length) : ∃ k c, v = .slice (some ⟨k, 0, none⟩) ob.length c ∧ ob.length ≤ c ∧ base ≤ k ∧ OutAt w k ob.length ob := by
  rcases h.2 with ⟨rfl, h0⟩ | ⟨g, cap, cur, rfl, h3, h4, h5, h6, h7⟩
  · omega
  · refine ⟨g, cap, rfl, h5, h3, rfl, (Array.getElem?_eq_some_iff.1 h4).1, fun j hj => ?_⟩
    have := h.cells (g := g) rfl j (.int .u8 ((ob[j]'hj).toNat : Int)) (by simp [bc, hj])
    rwa [Addr.add_lit, Nat.zero_add] at this
def stC (s : St) : Array Value := #[.int .i64 s.gl, .int .i64 s.gc, .int .i64 s.si, .int .i64 s.ol, .int .i64 s.oc, .int .i64 s.on]

theorem byteCells_txt (rs : List Nat) : byteCells (txt rs) = bc (encs rs) := by simp [byteCells, bc, txt]
/-- The builder and the output behind steps, in memory. -/
def ChRel (W3 : World) (g : Nat) (mp tv : Value) (d : Bd) (ob : List UInt8) (s13 v : Value) (wx : World) : Prop :=
  Bld wx g (g + 1) v mp tv d ∧ wx.ownsRow (g + 1) 5 1 s13 ob.length (bc ob) ∧ (v.ownBlock = none ∨ v.ownBlock ≠ s13.ownBlock) ∧ Kep (fun k => k = g) W3 wx ∧ W3.heap.size = g + 1
/-- New blocks. -/
theorem ChRel.alloc {W3 wr : World} {g : Nat} {mp tv : Value} {d : Bd} {ob : List UInt8} {s13 v : Value} (h : ChRel W3 g mp tv d ob s13 v wr) (o : Obj) : ChRel W3 g mp tv d ob s13 v (wr.alloc o) := by
  obtain ⟨h1, h2, h3, h4, h5⟩ := h
  exact ⟨h1.after (balloc (Below.refl _ _) o), h2.alloc o, h3, h4.alloc o, h5⟩
/-- The output grows. -/
theorem ChRel.app {W3 wr w2 : World} {g : Nat} {mp tv : Value} {d : Bd} {ob : List UInt8} {s13 v u : Value} {rs : List Nat} (h : ChRel W3 g mp tv d ob s13 v wr) (ho : w2.ownsRow (g + 1) 5 1 u (ob.length + (txt rs).size) (bc ob ++ byteCells (txt rs))) (hg : wr.grownBy w2 s13.ownBlock) (hat : u.ownBlock = s13.ownBlock ∨ u.ownBlock = some wr.heap.size) :
    ChRel W3 g mp tv d (ob ++ encs rs) u v w2 := by
  obtain ⟨h1, h2, h3, h4, h5⟩ := h
  have kp : Kep (fun k => s13.ownBlock = some k) wr w2 := Kep.of_grown hg
  have ng : ¬ s13.ownBlock = some g := fun e => by have := own_lt h2 e; omega
  refine ⟨⟨h1.1.kep kp ng, own_kep h1.2.1 kp (fun q hq e => ?_), h1.2.2.1, Nat.le_trans h1.2.2.2 kp.size⟩, ?_, ?_, h4.then kp (fun i hi => .inr (by have := own_lt h2 hi; omega)), h5⟩
  · rcases h3 with h3 | h3
    · rw [h3] at hq; cases hq
    · exact h3 (hq.trans e.symm)
  · rw [bc_app, List.length_append, ← byteCells_txt, ← txt_size]
    exact ho
  · rcases h3 with h3 | h3
    · exact .inl h3
    · right
      rcases hat with e | e
      · rw [e]; exact h3
      · rw [e]
        intro q
        have := own_lt h1.2.1 q
        omega
/-- The builder works. -/
theorem ChRel.bst {W3 wr w2 : World} {g : Nat} {mp tv : Value} {d d2 : Bd} {ob : List UInt8} {s13 v v2 : Value} (h : ChRel W3 g mp tv d ob s13 v wr) (hb : Bld w2 g (g + 1) v2 mp tv d2) (hs : Bst wr g v w2 v2) : ChRel W3 g mp tv d2 ob s13 v2 w2 := by
  obtain ⟨h1, h2, h3, h4, h5⟩ := h
  have ng : ¬ s13.ownBlock = some g := fun e => by have := own_lt h2 e; omega
  refine ⟨hb, own_kep h2 hs.1 (fun q hq e => ?_), ?_, h4.then hs.1 (fun i hi => ?_), h5⟩
  · rcases e with e | e
    · subst e; exact ng hq
    · rcases h3 with h3 | h3
      · rw [h3] at e; cases e
      · exact h3 (e.trans hq.symm)
  · rcases hs.2 with e | ⟨k, hk, e⟩
    · rw [e]; exact h3
    · right
      rw [e]
      intro q
      have := own_lt h2 q.symm
      omega
  · rcases hi with e | e
    · exact .inl e
    · have := own_lt h1.2.1 e
      exact .inr (by omega)

theorem allR_app (a b : List (List Nat × Nat)) : allR (a ++ b) = allR a ++ allR b := by simp [allR]
theorem allR_take (l : List (List Nat × Nat)) (j : Nat) : (encs (allR (l.take j))).length ≤ (encs (allR l)).length := by
  conv => rhs; rw [← List.take_append_drop j l]
  rw [allR_app, encs_app, List.length_append]
  omega
theorem allR_first (x : List Nat × Nat) (y : List (List Nat × Nat)) (j : Nat) : (encs x.1).length ≤ (encs (allR ((x :: y).take (j + 1)))).length := by
  have e : allR ((x :: y).take (j + 1)) = x.1 ++ allR (y.take j) := by simp [allR]
  rw [e, encs_app, List.length_append]
  omega

/-- Cells lie at the head of a block. -/
def RowAt (w : World) (k : Nat) (cs : List Value) : Prop := ∀ j u, cs[j]? = some u → w.cell? ⟨k, j, none⟩ = some u
theorem RowAt.set {w : World} {k : Nat} {cs : List Value} (h : RowAt w k cs) {p : Addr} (hp : p.block ≠ k) (u : Value) : RowAt (w.setCell p u) k cs := fun j x hx => by
  rw [World.cell?_of_block (w := w) (Below.heap_setCell w p u k (Ne.symm hp))]
  exact h j x hx
theorem RowAt.drew {w : World} {k : Nat} {cs : List Value} (h : RowAt w k cs) : RowAt w.drew k cs := h
theorem conv_row {w : World} {k c : Nat} {l : List UInt8} (h : RowAt w k (bc l)) : (convert 72 9 (.slice (some ⟨k, 0, none⟩) l.length c)).run Tryd.prog w = .ok (.string ⟨l.toArray⟩) w := by
  refine run_convert_bytes_back (P := Tryd.prog) w 72 9 5 ⟨k, 0, none⟩ c l Tryd.underlying72 Tryd.underlying5 Tryd.underlying9 (fun j hj => ?_)
  rw [Addr.add_lit, Nat.zero_add]
  exact h j _ (by simp [bc, hj])
theorem index0_any (w : World) : Calls Tryd.prog 33 #[.agg #[.int .u32 0]] w fun e w' => e = .returned (.bool false) ∧ Below w.heap.size w w' := by
  go_enter Tryd.func33, Tryd.ntmps33
  go_wp2_with fail
  go_ret
  exact ⟨rfl, balloc (Below.refl _ _) _⟩
theorem stz_one (a b c d e f : Int) : (#[Value.int .i64 a, .int .i64 b, .int .i64 c, .int .i64 d, .int .i64 e, .int .i64 f] : Array Value).all (·.oneCell') = true := by
  simp [Value.oneCell']
theorem size_st : (Tryd.prog.info? 30).map (·.size) = some 6 := by kernel_rfl

set_option maxHeartbeats 8000000 in
set_option maxRecDepth 100000 in
theorem chunk_any (s : ByteArray) (ln : Nat) (l : List (List Nat × Nat)) (vs : Value) (rest : List Nat) (w : World) (B : Nat) (hT : B64 B w) (hB : B ≤ w.heap.size) (hs : s.size ≤ 16777216) (hln : ln ≤ 1000) (hst : StepsAt w w.heap.size vs l)
    (hz : (encs (allR l)).length + (encs rest).length ≤ 33554432) (hn0 : l.length ≤ 16777216) (h0 : ∃ x y, l = x :: y ∧ 0 < (encs x.1).length) (hp : ∀ x ∈ l, x.2 ≤ 1073741824 ∧ LocOk (tabsOf s) x.2) :
    Calls Tryd.prog 14 #[.string s, .int .i64 (ln : Int), vs, .string (txt rest)] w fun e w' => e = .returned (.tuple #[.string ⟨(cend (tabsOf s) l rest).sm.toArray⟩, .agg (stC (cend (tabsOf s) l rest).st), .int .i64 ((cend (tabsOf s) l rest).gcol : Int), .int .i64 (-1)]) ∧ Below w.heap.size w w' := by
  obtain ⟨i0, hi0, hz0, hz1, hz2⟩ := info_parts info_u8
  obtain ⟨R, cS, rfl, hR, hcl⟩ := hst
  have HCL := Lib.hid hcl
  have HP := Lib.hid hp
  have H0 := Lib.hid h0
  clear hcl hp h0
  have htd := tabs_bd s (by omega)
  have hok := tabs_ok s
  have hbA := balloc (Below.refl w.heap.size w) (.cells #[.int .i64 0, .int .i64 0, .int .i64 0, .int .i64 0, .int .i64 0, .int .i64 0] 30)
  have bA := Blk.new w 30 #[.int .i64 0, .int .i64 0, .int .i64 0, .int .i64 0, .int .i64 0, .int .i64 0]
  have HA := Lib.hid hbA
  have HBA := Lib.hid bA
  clear hbA bA
  obtain ⟨ts, hts⟩ : ∃ ts, ts = tabsOf s := ⟨_, rfl⟩
  rw [← hts] at htd hok
  have htl : ts.length ≤ 16777218 := by have := htd.2; omega
  have HTD := Lib.hid htd.1
  have HOK := Lib.hid hok
  have HTS := Lib.hid hts
  clear htd hok hts
  go_enter Tryd.func14, Tryd.ntmps14
  go_wp2_with fail
  refine (tabs_any s ln _ hs hln).mono ?_
  rintro e W1 ⟨tv, rfl, htb, hb1⟩
  rw [← HTS.out] at htb
  obtain ⟨tb, tcap, rfl, _⟩ := (show ∃ tb cap : Nat, tv = .slice (some ⟨tb, 0, none⟩) ts.length cap ∧ True from by obtain ⟨a, b, c, _⟩ := htb; exact ⟨a, b, c, trivial⟩)
  have hb1z := hb1.size
  have HB1 := Lib.hid (bthen HA.out hb1)
  have BA1 := Lib.hid (HBA.out.kep (Kep.of_below (X := fun _ => False) hb1) (fun q => q))
  have HTB := Lib.hid htb
  clear hb1 htb HA HBA
  go_wp2_with fail
  refine (make_any _ _ _ _).mono ?_
  rintro e W2 ⟨mp, rfl, hb2⟩
  have HB2 := Lib.hid (bthen HB1.out hb2)
  have BA2 := Lib.hid (BA1.out.kep (Kep.of_below (X := fun _ => False) hb2) (fun q => q))
  have HTB2 := Lib.hid (HTB.out.below hb2)
  have hz12 := hb2.size
  have hgz := hb1z
  clear hb2 HB1 BA1 HTB
  simp only [World.size_alloc] at hgz
  generalize hcs : Bd.zero.cells (.slice none 0 0) (.map (some mp)) (.slice (some ⟨tb, 0, none⟩) ts.length tcap) = cs
  have HCS := Lib.hid hcs
  have hall := cells_one Bd.zero (some ⟨tb, 0, none⟩) ts.length tcap mp
  rw [hcs] at hall
  have HAL := Lib.hid hall
  have HSZ : Hid (cs.size = 22) := Lib.hid (by rw [← hcs]; rfl)
  clear hall hcs
  go_upto_block 0 with (refine wpList_store_blk rfl 84 (.tmp 12) (.tmp 22) rfl W2.heap.size 84 bdz cs rfl rfl (Blk.new _ _ _) HSZ.out (by rw [size_bd, HSZ.out]) HAL.out ?_; intro W3 hb3 hk3 hz3; have HB3 := Lib.hid hb3; have HK3 := Lib.hid hk3; have HZ3 := Lib.hid hz3; clear hb3 hk3 hz3)
  have hg3 : W3.heap.size = W2.heap.size + 1 := by rw [HZ3.out]; simp
  have BA3 : Hid (Blk W3 w.heap.size 30 #[.int .i64 0, .int .i64 0, .int .i64 0, .int .i64 0, .int .i64 0, .int .i64 0]) := Lib.hid ((BA2.out.alloc _).kep HK3.out (fun e => by have := BA2.out.lt; omega))
  have hW2 : W1.heap.size ≤ W2.heap.size := hz12
  have hbw3 : Below W2.heap.size W2 W3 := ((Kep.of_below (X := fun k => k = W2.heap.size) (balloc (Below.refl _ _) _)).then HK3.out (fun i hi => .inl hi)).below (Nat.le_refl _) (fun k hk e => by omega)
  have HBW3 := Lib.hid hbw3
  have HB3w := Lib.hid (HB2.out.trans (hbw3.mono (by omega)))
  have HTB3 := Lib.hid (HTB2.out.below (hbw3.mono (by omega)))
  have hT3 : B64 W1.heap.size W3 := (hT.below ((HB3w.out).mono hB)).mono (by omega)
  have HT3 := Lib.hid hT3
  have HG3 := Lib.hid hg3
  generalize hg : W2.heap.size = g at *
  clear hg hbw3 hT3 BA2 HB2 HTB2 hg3
  have HREL0 : Hid (ChRel W3 g (.map (some mp)) (.slice (some ⟨tb, 0, none⟩) ts.length tcap) Bd.zero [] (.slice none 0 0) (.slice none 0 0) W3) := Lib.hid ⟨⟨by rw [HCS.out]; exact HB3.out, World.ownsRow_nil _ _ _ _, Nat.lt_succ_self _, by rw [HG3.out]; exact Nat.le_refl _⟩, World.ownsRow_nil _ _ _ _, .inl rfl, Kep.refl _ _, HG3.out⟩
  clear HB3 HK3 HZ3 HCS HAL HSZ
  go_cut [13] (fun s13 wx => ∃ v, ChRel W3 g (.map (some mp)) (.slice (some ⟨tb, 0, none⟩) ts.length tcap) (cgo ts l).1 (cgo ts l).2 s13 v wx)
  case first =>
    as_aux_lemma =>
      go_wp2_with fail
      go_loopg [13, 25] l.length (fun f s13 s25 wr => ∃ j v, j + f = l.length ∧ s25 = .int .i64 (j : Int) ∧ ChRel W3 g (.map (some mp)) (.slice (some ⟨tb, 0, none⟩) ts.length tcap) (cgo ts (l.take j)).1 (cgo ts (l.take j)).2 s13 v wr)
      case atStart => exact ⟨0, _, by omega, rfl, HREL0.out⟩
      case round =>
        obtain ⟨j, v, hj, rfl, hrel⟩ := hrel
        by_cases hlt : j < l.length
        · obtain ⟨f, rfl⟩ : ∃ f, gk = f + 1 := ⟨gk - 1, by omega⟩
          have hbr : Below w.heap.size w wr := HB3w.out.trans (hrel.2.2.2.1.below (by have := HG3.out; omega) (fun k hk e => by omega))
          have c0 : wr.cell? ⟨R, j * 3, none⟩ = some (.string (txt (l[j]'hlt).1)) := (hbr.cell (p := ⟨R, _, none⟩) hR).trans (HCL.out j hlt).1
          have c1 : wr.cell? ⟨R, j * 3 + 1, none⟩ = some (.int .i64 ((l[j]'hlt).2 : Int)) := (hbr.cell (p := ⟨R, _, none⟩) hR).trans (HCL.out j hlt).2.1
          have c2 : wr.cell? ⟨R, j * 3 + 2, none⟩ = some (.string ByteArray.empty) := (hbr.cell (p := ⟨R, _, none⟩) hR).trans (HCL.out j hlt).2.2
          have hpx := HP.out (l[j]'hlt) (List.getElem_mem hlt)
          rw [← HTS.out] at hpx
          have hcs : cgo ts (l.take (j + 1)) = cstep ts (cgo ts (l.take j)) (l[j]'hlt) := by rw [List.take_succ_eq_append_getElem hlt, cgo_snoc]
          have hout := cgo_out ts (l.take j)
          have hout1 := cgo_out ts (l.take (j + 1))
          have ht1 := allR_take l (j + 1)
          have hle := cgo_le ts HTD.out 1073741824 (Nat.le_refl _) (by omega) (l.take j) (fun x hx => (HP.out x (List.mem_of_mem_take hx)).1)
          have hob1 : (cgo ts (l.take j)).2.length + (encs (l[j]'hlt).1).length ≤ 33554432 ∧ 0 < (cgo ts (l.take j)).2.length + (encs (l[j]'hlt).1).length := by
            have e : (cgo ts (l.take (j + 1))).2.length = (cgo ts (l.take j)).2.length + (encs (l[j]'hlt).1).length := by
              rw [hcs]
              exact List.length_append
            rw [← e, hout1]
            refine ⟨by omega, ?_⟩
            obtain ⟨x, y, rfl, hx⟩ := H0.out
            have := allR_first x y j
            omega
          have hjl : (l.take j).length = j := by rw [List.length_take]; omega
          rw [hjl] at hle
          have HCST := Lib.hid hcs
          have HLE := Lib.hid hle
          have HLX := Lib.hid hpx
          have hlu := hle.1
          have HR := Lib.hid hrel
          have hx1 := hpx.1
          clear hcs hout hout1 ht1 hle hpx hrel hbr HREL0 hjl
          obtain ⟨d, hd⟩ : ∃ d, d = (cgo ts (l.take j)).1 := ⟨_, rfl⟩
          obtain ⟨ob, hob⟩ : ∃ ob, ob = (cgo ts (l.take j)).2 := ⟨_, rfl⟩
          have HD : Hid (cgo ts (l.take j) = (d, ob)) := Lib.hid (by rw [hd, hob])
          rw [← hob] at hlu hob1 HR HLE
          rw [← hd] at hlu HR HLE
          clear hd hob
          generalize (l[j]'hlt) = xj at *
          obtain ⟨rs, p⟩ := xj
          simp only at c0 c1 c2 hob1 HLX hx1
          have hsz := txt_size rs
          have hbz : g + 1 ≤ wr.heap.size := by have := HR.out.2.2.2.1.size; have := HG3.out; omega
          go_upto_region 7 with (at_builtin; refine wpList_append_own_src _ rfl (.tmp 29) (.tmp 31) 72 9 rfl (g + 1) 5 i0 _ 1 1 Tryd.underlying72 hi0 hz0 hz1 hz2 rfl (by omega) u13 ob.length (bc ob) rfl (HR.out.2.1.alloc _) (.string (txt rs)) (txt rs).size (byteCells (txt rs)) rfl (Src.ofString _ Tryd.underlying9 _) (by unfold maxLen; omega) (by omega) (by simp; omega) ?_; intro u w2 ho2 hg2 hat2; have O2 := Lib.hid ho2; have G2 := Lib.hid hg2; have A2 := Lib.hid hat2; clear ho2 hg2 hat2)
          have X1 := Blk.new wr 40 #[.string (txt rs), .int .i64 (p : Int), .string ByteArray.empty]
          have nX : ¬ u13.ownBlock = some wr.heap.size := fun e => by have := own_lt HR.out.2.1 e; omega
          have X2 := X1.kep (Kep.of_grown G2.out) nX
          have R2 := (HR.out.alloc _).app O2.out G2.out A2.out
          clear O2 G2 A2 HR c0 c1 c2 X1
          have x1 : w2.cell? ⟨wr.heap.size, 1, none⟩ = some (.int .i64 (p : Int)) := X2.cell 1
          have x2 : w2.cell? ⟨wr.heap.size, 2, none⟩ = some (.string ByteArray.empty) := X2.cell 2
          have hlen : (ob ++ encs rs).length = ob.length + (encs rs).length := List.length_append
          obtain ⟨k, cp, rfl, hcp, hk1, hout2⟩ := own_out R2.2.1 (by omega)
          have HLEN := Lib.hid hlen
          have HX2 := Lib.hid X2
          have hk2 : k < w2.heap.size := hout2.2.1
          have HR2 := Lib.hid R2
          have HO2 := Lib.hid hout2
          clear R2 hout2 X2 hlen
          go_wp2_with fail
          have hbk := HR2.out.2.2.2.1.below (B := W1.heap.size) (by have := HG3.out; omega) (fun k hk e => by omega)
          have hout3 : OutAt w2 k (ob.length + (encs rs).length) (ob ++ encs rs) := by rw [← HLEN.out]; exact HO2.out
          refine (addsrc_any w2 g (g + 1) W1.heap.size k (ob.length + (encs rs).length) cp (1073741824 + 2 * d.lu + 2 * j) p v (.map (some mp)) (.slice (some ⟨tb, 0, none⟩) ts.length tcap) d (ob ++ encs rs) ts HR2.out.1 (HT3.out.below hbk) hz12 hout3 (by omega) ?_ hob1.2 (by have := HLEN.out; omega) (by omega) HLE.out.2 (by omega) (HTB3.out.below hbk) HOK.out HLX.out.2 hx1 (by omega) HTD.out).mono ?_
          · rcases HR2.out.2.2.1 with q | q
            · rw [q]; simp
            · exact q
          rintro e w3 ⟨rfl, v3, hb3, hs3⟩
          have R3 := Lib.hid (HR2.out.bst hb3 hs3)
          clear hb3 hs3 hbk hout3 HR2 HO2 HX2 x1 x2
          go_wp2_with fail
          go_roundg f
          case measure => omega
          case rel =>
            refine ⟨j + 1, v3, by omega, by go_num, ?_⟩
            have R4 := R3.out
            rw [HLEN.out] at R4
            rw [HCST.out, HD.out]
            exact R4
        · obtain rfl : j = l.length := by omega
          rw [List.take_length] at hrel
          have HR := Lib.hid hrel
          clear hrel
          go_wp2_with fail
          go_meet
          exact ⟨_, HR.out⟩
  case rest =>
  obtain ⟨v, hrel⟩ := hcut
  have hout := cgo_out ts l
  have hle := cgo_le ts HTD.out 1073741824 (Nat.le_refl _) (by omega) l (fun x hx => (HP.out x hx).1)
  have hobz : (cgo ts l).2.length + (encs rest).length ≤ 33554432 ∧ 0 < (cgo ts l).2.length := by
    rw [hout]
    refine ⟨hz, ?_⟩
    obtain ⟨x, y, rfl, hx⟩ := H0.out
    have := allR_first x y (x :: y).length
    rw [List.take_of_length_le (by omega)] at this
    omega
  have HLE := Lib.hid hle
  have hlu := hle.1
  have hsmp : 0 < (cend ts l rest).sm.length := by
    obtain ⟨x, y, rfl, hx⟩ := H0.out
    exact cend_sm ts x y rest
  clear hle hout HCL HP H0 HREL0
  obtain ⟨d, hd⟩ : ∃ d, d = (cgo ts l).1 := ⟨_, rfl⟩
  obtain ⟨ob, hob⟩ : ∃ ob, ob = (cgo ts l).2 := ⟨_, rfl⟩
  have HD : Hid (cgo ts l = (d, ob)) := Lib.hid (by rw [hd, hob])
  rw [← hob] at hlu hobz hrel HLE
  rw [← hd] at hlu hrel HLE
  clear hd hob
  have HR := Lib.hid hrel
  clear hrel
  have hsz := txt_size rest
  obtain ⟨wr, hwr⟩ : ∃ wr, wr = wc := ⟨_, rfl⟩
  rw [← hwr] at HR
  rw [← hwr]
  clear hwr
  have hbz : g + 1 ≤ wr.heap.size := by have := HR.out.2.2.2.1.size; have := HG3.out; omega
  go_upto_region 10 with (at_builtin; refine wpList_append_own_src _ rfl (.tmp 42) (.tmp 43) 72 9 rfl (g + 1) 5 i0 _ 1 1 Tryd.underlying72 hi0 hz0 hz1 hz2 rfl (by omega) u13 ob.length (bc ob) rfl HR.out.2.1 (.string (txt rest)) (txt rest).size (byteCells (txt rest)) rfl (Src.ofString _ Tryd.underlying9 _) (by unfold maxLen; omega) (by omega) (by omega) ?_; intro u w2 ho2 hg2 hat2; have O2 := Lib.hid ho2; have G2 := Lib.hid hg2; have A2 := Lib.hid hat2; clear ho2 hg2 hat2)
  have R2 := HR.out.app O2.out G2.out A2.out
  clear O2 G2 A2 HR
  have hlen : (ob ++ encs rest).length = ob.length + (encs rest).length := List.length_append
  obtain ⟨k, cp, rfl, hcp, hk1, hout2⟩ := own_out R2.2.1 (by omega)
  have HLEN := Lib.hid hlen
  have HR2 := Lib.hid R2
  have HO2 := Lib.hid hout2
  clear R2 hout2 hlen
  go_wp2_with fail
  have hbk := HR2.out.2.2.2.1.below (B := W1.heap.size) (by have := HG3.out; omega) (fun k hk e => by omega)
  have hout3 : OutAt w2 k (ob.length + (encs rest).length) (ob ++ encs rest) := by rw [← HLEN.out]; exact HO2.out
  refine (gen_any w2 g (g + 1) W1.heap.size k (ob.length + (encs rest).length) cp (1073741824 + 2 * d.lu + 2 * l.length) v (.map (some mp)) (.slice (some ⟨tb, 0, none⟩) ts.length tcap) d (ob ++ encs rest) HR2.out.1 (HT3.out.below hbk) hz12 hout3 (by omega) ?_ (by omega) (by have := HLEN.out; omega) (by omega) HLE.out.2 (by omega)).mono ?_
  · rcases HR2.out.2.2.1 with q | q
    · rw [q]; simp
    · exact q
  rintro e w3 ⟨v3, b, rfl, hb3, hs3⟩
  have R3 := Lib.hid (HR2.out.bst hb3 hs3)
  have HCE : Hid (d.done (ob ++ encs rest) = cend ts l rest) := Lib.hid (by unfold cend; rw [HD.out])
  clear hb3 hs3 hbk hout3 HR2 HO2
  rw [HCE.out] at R3
  rw [HCE.out]
  obtain ⟨D, hD⟩ : ∃ D, D = cend ts l rest := ⟨_, rfl⟩
  rw [← hD] at R3 hsmp
  rw [← hD]
  have HDD := Lib.hid hD
  clear hD
  obtain ⟨A3, c3, rfl, hA3⟩ := own_form R3.out.1.2.1
  have HA3 := Lib.hid hA3
  clear hA3
  go_upto_region 11 with (refine wpList_store_blk rfl 91 (.tmp 16) (.tmp 46) rfl w3.heap.size 91 chz (chC D (.slice A3 D.sm.length c3) b) rfl rfl (Blk.new _ _ _) rfl size_ch (ch_one _ _ _ _ _) ?_; intro w4 hb4 hk4 hz4; have HB4 := Lib.hid hb4; have HK4 := Lib.hid hk4; have HZ4 := Lib.hid hz4; clear hb4 hk4 hz4)
  have q0 : w4.cell? ⟨w3.heap.size, 0, none⟩ = some (.slice A3 D.sm.length c3) := HB4.out.cell 0
  have q1 : w4.cell? ⟨w3.heap.size, 1, none⟩ = some (.int .u32 0) := HB4.out.cell 1
  have q3 : w4.cell? ⟨w3.heap.size, 3, none⟩ = some (.int .i64 D.st.gl) := HB4.out.cell 3
  have q4 : w4.cell? ⟨w3.heap.size, 4, none⟩ = some (.int .i64 D.st.gc) := HB4.out.cell 4
  have q5 : w4.cell? ⟨w3.heap.size, 5, none⟩ = some (.int .i64 D.st.si) := HB4.out.cell 5
  have q6 : w4.cell? ⟨w3.heap.size, 6, none⟩ = some (.int .i64 D.st.ol) := HB4.out.cell 6
  have q7 : w4.cell? ⟨w3.heap.size, 7, none⟩ = some (.int .i64 D.st.oc) := HB4.out.cell 7
  have q8 : w4.cell? ⟨w3.heap.size, 8, none⟩ = some (.int .i64 D.st.on) := HB4.out.cell 8
  have q9 : w4.cell? ⟨w3.heap.size, 9, none⟩ = some (.bool false) := HB4.out.cell 9
  have q10 : w4.cell? ⟨w3.heap.size, 10, none⟩ = some (.int .i64 (D.gcol : Int)) := HB4.out.cell 10
  have z4 : w3.heap.size < w4.heap.size := HB4.out.lt
  go_wp2_with fail
  obtain ⟨k3, rfl, hc3⟩ := HA3.out hsmp
  have hk3 : k3 < w3.heap.size := (own_lt R3.out.1.2.1 rfl).2
  have hk3g : g + 1 ≤ k3 := (own_lt R3.out.1.2.1 rfl).1
  have Y4 := Blk.new w4 77 #[.int .i64 D.st.gl, .int .i64 D.st.gc, .int .i64 D.st.si, .int .i64 D.st.ol, .int .i64 D.st.oc, .int .i64 D.st.on, .bool false]
  have hz34 : w3.heap.size ≤ w4.heap.size := by omega
  refine (index0_any _).mono ?_
  rintro e w5 ⟨rfl, hb5⟩
  have hkA : Kep (fun k => k = g) W3 w3 := R3.out.2.2.2.1
  have k34 : Kep (fun k => k = w3.heap.size) w3 w4 := ((Kep.refl (fun k => k = w3.heap.size) w3).alloc _).then HK4.out (fun i hi => .inl hi)
  have k45 : Below w4.heap.size w4 w5 := (balloc (Below.refl w4.heap.size w4) _).trans (hb5.mono (by simp))
  have Y5 : Blk w5 w4.heap.size 77 #[.int .i64 D.st.gl, .int .i64 D.st.gc, .int .i64 D.st.si, .int .i64 D.st.ol, .int .i64 D.st.oc, .int .i64 D.st.on, .bool false] := Y4.kep (Kep.of_below (X := fun _ => False) hb5) (fun q => q)
  have X5 : Blk w5 w3.heap.size 91 (chC D (.slice (some ⟨k3, 0, none⟩) D.sm.length c3) b) := HB4.out.kep (Kep.of_below (X := fun _ => False) k45) (fun q => q)
  have hAg : w.heap.size < g := by omega
  have S5 : Blk w5 w.heap.size 30 #[.int .i64 0, .int .i64 0, .int .i64 0, .int .i64 0, .int .i64 0, .int .i64 0] := by
    have h1 := BA3.out.kep hkA (by omega)
    have h2 := h1.kep k34 (by have := h1.lt; omega)
    exact h2.kep (Kep.of_below (X := fun _ => False) k45) (fun q => q)
  have hrow : RowAt w5 k3 (bc D.sm) := fun j u hj => by
    exact (k45.cell (p := ⟨k3, j, none⟩) (by simp only; omega)).trans ((k34.cell (p := ⟨k3, j, none⟩) hk3 (by simp only; omega)).trans (hc3 j _ hj))
  have hconv := conv_row (c := c3) hrow
  have hbe : Below w.heap.size w w5 := by
    have h1 := HB3w.out.trans (hkA.below (B := w.heap.size) (by have := HG3.out; omega) (fun k hk e => by omega))
    have h2 := h1.trans (k34.below (B := w.heap.size) h1.size (fun k hk e => by have := h1.size; omega))
    exact h2.trans (k45.mono (by have := h2.size; omega))
  have y0 : w5.cell? ⟨w4.heap.size, 0, none⟩ = some (.int .i64 D.st.gl) := Y5.cell 0
  have y1 : w5.cell? ⟨w4.heap.size, 1, none⟩ = some (.int .i64 D.st.gc) := Y5.cell 1
  have y2 : w5.cell? ⟨w4.heap.size, 2, none⟩ = some (.int .i64 D.st.si) := Y5.cell 2
  have y3 : w5.cell? ⟨w4.heap.size, 3, none⟩ = some (.int .i64 D.st.ol) := Y5.cell 3
  have y4 : w5.cell? ⟨w4.heap.size, 4, none⟩ = some (.int .i64 D.st.oc) := Y5.cell 4
  have y5 : w5.cell? ⟨w4.heap.size, 5, none⟩ = some (.int .i64 D.st.on) := Y5.cell 5
  have x0 : w5.cell? ⟨w3.heap.size, 0, none⟩ = some (.slice (some ⟨k3, 0, none⟩) D.sm.length c3) := X5.cell 0
  have x10 : w5.cell? ⟨w3.heap.size, 10, none⟩ = some (.int .i64 (D.gcol : Int)) := X5.cell 10
  have HS5 := Lib.hid S5
  have HBE := Lib.hid hbe
  clear q0 q1 q3 q4 q5 q6 q7 q8 q9 q10 hb5 hbe S5 X5 Y5 Y4 k34 k45 hkA hc3 HB4 HK4 HZ4 R3 HB3w HTB3 HT3 BA3
  go_wp2_with fail
  have n1 : w.heap.size ≠ w4.heap.size := by omega
  have hrow' : RowAt w5.drew k3 (bc D.sm) := hrow
  have hconv' := conv_row (c := c3) hrow'
  have n2 : w.heap.size ≠ w3.heap.size := by omega
  have n3 : w.heap.size ≠ k3 := by omega
  have zz : w.heap.size < w5.heap.size := HS5.out.lt
  have s0 : w5.cell? ⟨w.heap.size, 0, none⟩ = some (.int .i64 0) := HS5.out.cell 0
  have s1 : w5.cell? ⟨w.heap.size, 1, none⟩ = some (.int .i64 0) := HS5.out.cell 1
  have s2 : w5.cell? ⟨w.heap.size, 2, none⟩ = some (.int .i64 0) := HS5.out.cell 2
  have s3 : w5.cell? ⟨w.heap.size, 3, none⟩ = some (.int .i64 0) := HS5.out.cell 3
  have s4 : w5.cell? ⟨w.heap.size, 4, none⟩ = some (.int .i64 0) := HS5.out.cell 4
  have s5 : w5.cell? ⟨w.heap.size, 5, none⟩ = some (.int .i64 0) := HS5.out.cell 5
  have f0 := HS5.out.frozen 0
  have f1 := HS5.out.frozen 1
  have f2 := HS5.out.frozen 2
  have f3 := HS5.out.frozen 3
  have f4 := HS5.out.frozen 4
  have f5 := HS5.out.frozen 5
  generalize w5 = w6 at *
  have r7 := (((((RowAt.set (p := ⟨w.heap.size, 0, none⟩) hrow n3 (.int .i64 D.st.gl)).set (p := ⟨w.heap.size, 1, none⟩) n3 (.int .i64 D.st.gc)).set (p := ⟨w.heap.size, 2, none⟩) n3 (.int .i64 D.st.si)).set (p := ⟨w.heap.size, 3, none⟩) n3 (.int .i64 D.st.ol)).set (p := ⟨w.heap.size, 4, none⟩) n3 (.int .i64 D.st.oc)).set (p := ⟨w.heap.size, 5, none⟩) n3 (.int .i64 D.st.on)
  have cv7 := conv_row (c := c3) r7.drew
  clear r7 hrow hrow' hconv
  go_region_held3 (fun w' => w'.cell? ⟨w4.heap.size, 0, none⟩ = some (.int .i64 D.st.gl) ∧ w'.cell? ⟨w4.heap.size, 1, none⟩ = some (.int .i64 D.st.gc) ∧ w'.cell? ⟨w4.heap.size, 2, none⟩ = some (.int .i64 D.st.si) ∧ w'.cell? ⟨w4.heap.size, 3, none⟩ = some (.int .i64 D.st.ol) ∧ w'.cell? ⟨w4.heap.size, 4, none⟩ = some (.int .i64 D.st.oc) ∧ w'.cell? ⟨w4.heap.size, 5, none⟩ = some (.int .i64 D.st.on) ∧ w'.cell? ⟨w3.heap.size, 0, none⟩ = some (.slice (some ⟨k3, 0, none⟩) D.sm.length c3) ∧ w'.cell? ⟨w3.heap.size, 10, none⟩ = some (.int .i64 (D.gcol : Int)) ∧ (convert 72 9 (.slice (some ⟨k3, 0, none⟩) D.sm.length c3)).run Tryd.prog w' = .ok (.string ⟨D.sm.toArray⟩) w')
    (go_keep) (fail)
  have S7 : Blk ((((((w6.setCell ⟨w.heap.size, 0, none⟩ (.int .i64 D.st.gl)).setCell ⟨w.heap.size, 1, none⟩ (.int .i64 D.st.gc)).setCell ⟨w.heap.size, 2, none⟩ (.int .i64 D.st.si)).setCell ⟨w.heap.size, 3, none⟩ (.int .i64 D.st.ol)).setCell ⟨w.heap.size, 4, none⟩ (.int .i64 D.st.oc)).setCell ⟨w.heap.size, 5, none⟩ (.int .i64 D.st.on)).drew w.heap.size 30 (stC D.st) := Blk.drew ((((((HS5.out.set_ 0 (.int .i64 D.st.gl)).set_ 1 (.int .i64 D.st.gc)).set_ 2 (.int .i64 D.st.si)).set_ 3 (.int .i64 D.st.ol)).set_ 4 (.int .i64 D.st.oc)).set_ 5 (.int .i64 D.st.on))
  have B7 : Below w.heap.size w ((((((w6.setCell ⟨w.heap.size, 0, none⟩ (.int .i64 D.st.gl)).setCell ⟨w.heap.size, 1, none⟩ (.int .i64 D.st.gc)).setCell ⟨w.heap.size, 2, none⟩ (.int .i64 D.st.si)).setCell ⟨w.heap.size, 3, none⟩ (.int .i64 D.st.ol)).setCell ⟨w.heap.size, 4, none⟩ (.int .i64 D.st.oc)).setCell ⟨w.heap.size, 5, none⟩ (.int .i64 D.st.on)).drew := ((((((HBE.out.setCell (p := ⟨w.heap.size, 0, none⟩) (Nat.le_refl _) (.int .i64 D.st.gl)).setCell (p := ⟨w.heap.size, 1, none⟩) (Nat.le_refl _) (.int .i64 D.st.gc)).setCell (p := ⟨w.heap.size, 2, none⟩) (Nat.le_refl _) (.int .i64 D.st.si)).setCell (p := ⟨w.heap.size, 3, none⟩) (Nat.le_refl _) (.int .i64 D.st.ol)).setCell (p := ⟨w.heap.size, 4, none⟩) (Nat.le_refl _) (.int .i64 D.st.oc)).setCell (p := ⟨w.heap.size, 5, none⟩) (Nat.le_refl _) (.int .i64 D.st.on)).drew
  clear cv7 hconv' s0 s1 s2 s3 s4 s5 f0 f1 f2 f3 f4 f5 x0 x10 y0 y1 y2 y3 y4 y5
  generalize ((((((w6.setCell ⟨w.heap.size, 0, none⟩ (.int .i64 D.st.gl)).setCell ⟨w.heap.size, 1, none⟩ (.int .i64 D.st.gc)).setCell ⟨w.heap.size, 2, none⟩ (.int .i64 D.st.si)).setCell ⟨w.heap.size, 3, none⟩ (.int .i64 D.st.ol)).setCell ⟨w.heap.size, 4, none⟩ (.int .i64 D.st.oc)).setCell ⟨w.heap.size, 5, none⟩ (.int .i64 D.st.on)).drew = W8 at *
  have t0 : W8.cell? ⟨w.heap.size, 0, none⟩ = some (.int .i64 D.st.gl) := S7.cell 0
  have t1 : W8.cell? ⟨w.heap.size, 1, none⟩ = some (.int .i64 D.st.gc) := S7.cell 1
  have t2 : W8.cell? ⟨w.heap.size, 2, none⟩ = some (.int .i64 D.st.si) := S7.cell 2
  have t3 : W8.cell? ⟨w.heap.size, 3, none⟩ = some (.int .i64 D.st.ol) := S7.cell 3
  have t4 : W8.cell? ⟨w.heap.size, 4, none⟩ = some (.int .i64 D.st.oc) := S7.cell 4
  have t5 : W8.cell? ⟨w.heap.size, 5, none⟩ = some (.int .i64 D.st.on) := S7.cell 5
  have HB7 := Lib.hid B7
  clear B7 S7 HS5 HBE
  go_wp2_with fail
  refine bodyPost_ret (v := .tuple #[.string ⟨D.sm.toArray⟩, .agg (stC D.st), .int .i64 (D.gcol : Int), .int .i64 (-1)]) (by simp [results, Tryd.results14, go_sem, t0, t1, t2, t3, t4, t5, stC]) rfl ⟨?_, HB7.out⟩
  rw [← HTS.out, ← HDD.out]
end Go.Proofs.YtnokiikgnplpmaaDoor

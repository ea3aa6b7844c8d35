/-
  The contract of (*ChunkBuilder).GenerateChunk. Conditions: the output is not empty, and of at most 2^32 bytes together with what the builder holds.
-/
import Derived.Test.YtnokiikgnplpmaaDoorUpdFn
import Derived.Test.YtnokiikgnplpmaaDoorSetKit
import Derived.Great.BuildSlice
import Derived.Deep.CutBlock
import Derived.StillTailTactics
namespace Go.Proofs.YtnokiikgnplpmaaDoor
open Go.RowKit

/-- A chunk's cells. -/
def chC (d : Bd) (v : Value) (b : Bool) : Array Value := #[v, .int .u32 0, .slice none 0 0, .int .i64 d.st.gl, .int .i64 d.st.gc, .int .i64 d.st.si, .int .i64 d.st.ol, .int .i64 d.st.oc, .int .i64 d.st.on, .bool false, .int .i64 d.gcol, .bool b]
def chz : Array Value := #[.slice none 0 0, .int .u32 0, .slice none 0 0, .int .i64 0, .int .i64 0, .int .i64 0, .int .i64 0, .int .i64 0, .int .i64 0, .bool false, .int .i64 0, .bool false]
/-- The builder at the end. -/
def Bd.done (d : Bd) (ob : List UInt8) : Bd := { upd (tailOf ob d.lu) (tailOf ob d.lu).size 0 d with lu := ob.length }
theorem OutAt.after {w w' : World} {k n : Nat} {ob : List UInt8} (h : OutAt w k n ob) (hb : Below w.heap.size w w') : OutAt w' k n ob :=
  ⟨h.1, Nat.lt_of_lt_of_le h.2.1 hb.size, fun j hj => (hb.cell (p := ⟨k, j, none⟩) h.2.1).trans (h.2.2 j hj)⟩

theorem size_ch : (Tryd.prog.info? 91).map (·.size) = some 12 := by kernel_rfl
theorem ch_one (d : Bd) (a : Option Addr) (n c : Nat) (b : Bool) : (chC d (.slice a n c) b).all (·.oneCell') = true := by
  simp [chC, Value.oneCell']

set_option maxHeartbeats 2000000 in
set_option maxRecDepth 100000 in
theorem gen_any (w : World) (g base B k n cap N : Nat) (v mp tv : Value) (d : Bd) (ob : List UInt8) (h : Bld w g base v mp tv d) (hT : B64 B w) (hB : B ≤ g) (hob : OutAt w k n ob) (hkg : k ≠ g) (hkv : v.ownBlock ≠ some k)
    (hn : 0 < n) (hcap : n ≤ cap) (hlu : d.lu ≤ n) (hle : d.le N) (hN : N + 2 * n ≤ 8589934592) :
    Calls Tryd.prog 32 #[.pointer (some ⟨g, 0, none⟩), .slice (some ⟨k, 0, none⟩) n cap] w fun e w' => ∃ v' b, e = .returned (.agg (chC (d.done ob) v' b)) ∧ Bld w' g base v' mp tv (d.done ob) ∧ Bst w g v w' v' := by
  have hb0 := balloc (Below.refl w.heap.size w) (.cells chz 91)
  have bR := Blk.new w 91 chz
  have hup := update_any (w.alloc (.cells chz 91)) g base B k n cap N v mp tv d ob (h.after hb0) (hT.below (hb0.mono (by have := h.1.lt; omega))) hB (hob.after hb0) hkg hkv hn hcap hlu hle hN
  have hon : ob.length = n := hob.1
  rw [← hon] at hup
  rw [show ({ upd (tailOf ob d.lu) (tailOf ob d.lu).size 0 d with lu := ob.length } : Bd) = d.done ob from rfl, hon] at hup
  have HU := Lib.hid hup
  have HBR := Lib.hid bR
  have HB0 := Lib.hid hb0
  have H := Lib.hid h
  clear hup bR hb0 h
  go_enter Tryd.func32, Tryd.ntmps32
  go_wp2_with fail
  refine HU.out.mono ?_
  rintro e W1 ⟨rfl, v1, hB1, hS1⟩
  have hne : ¬ v.ownBlock = some w.heap.size := fun e => by have := own_lt H.out.2.1 e; omega
  have hgw : g < w.heap.size := H.out.1.lt
  have bR1 := Lib.hid (HBR.out.kep hS1.1 (fun q => by rcases q with q | q; omega; exact hne q))
  have HB1 := Lib.hid hB1
  have HS1 := Lib.hid (hS1.after HB0.out)
  have hne1 : v1.ownBlock ≠ some w.heap.size := by
    rcases hS1.2 with e | ⟨q, hq', e⟩
    · rw [e]; exact hne
    · rw [e]
      intro e2
      injection e2 with e2
      simp at hq'
      omega
  obtain ⟨d1, hd1⟩ : ∃ d1, d1 = d.done ob := ⟨_, rfl⟩
  rw [← hd1] at hB1 HB1
  have HD1 := Lib.hid hd1
  clear hS1 hd1
  have c1 : W1.cell? ⟨g, 1, none⟩ = some v1 := hB1.1.cell 1
  have hg1 : g < W1.heap.size := hB1.1.lt
  obtain ⟨A1, cp1, rfl, hA1⟩ := own_form hB1.2.1
  have HA1 := Lib.hid hA1
  have hln : d1.sm.length ≤ 9223372036854775807 := by
    obtain ⟨_, h2⟩ := hB1.2.1
    rcases h2 with ⟨e, e2⟩ | ⟨g, cap, cur, e, _, _, h4, h5, _⟩
    · omega
    · unfold maxLen at h5; omega
  clear hA1 hB1
  go_upto_block 0 with fail
  go_cut [5] (fun s5 wx => (∃ b, s5 = .bool b) ∧ W1 = wx)
  case first =>
    go_wp2_with fail
    go_loopg [5, 16] d1.sm.length (fun f s5 s16 wr => ∃ j : Nat, j + f = d1.sm.length ∧ s16 = .int .i64 (j : Int) ∧ s5 = .bool true ∧ W1 = wr)
    case atStart => exact ⟨0, by omega, rfl, rfl, rfl⟩
    case round =>
      obtain ⟨j, hj, rfl, rfl, rfl⟩ := hrel
      by_cases hlt : j < d1.sm.length
      · obtain ⟨f, rfl⟩ : ∃ f, gk = f + 1 := ⟨gk - 1, by omega⟩
        obtain ⟨k1, rfl, hc1⟩ := HA1.out (by omega)
        have cj : W1.cell? ⟨k1, j, none⟩ = some (.int .u8 ((d1.sm[j]'hlt).toNat : Int)) := hc1 j _ (by simp [bc, hlt])
        clear hc1 HA1
        generalize (d1.sm[j]'hlt).toNat = x at *
        by_cases hx : x = 59
        · have e1 : ((x : Int) != 59) = false := by simp; omega
          go_wp2_with fail
          go_roundg f
          case measure => omega
          case rel => exact ⟨j + 1, by omega, by go_num, rfl, rfl⟩
        · have e1 : ((x : Int) != 59) = true := by simp; omega
          go_wp2_with fail
          go_meet
          exact ⟨⟨_, rfl⟩, rfl⟩
      · go_wp2_with fail
        go_meet
        exact ⟨⟨_, rfl⟩, rfl⟩
  case rest =>
  obtain ⟨⟨b, rfl⟩, rfl⟩ := hcut
  have p2 : W1.cell? ⟨g, 2, none⟩ = some (.slice none 0 0) := HB1.out.1.cell 2
  have p6 : W1.cell? ⟨g, 6, none⟩ = some (.int .i64 d1.st.gl) := HB1.out.1.cell 6
  have p7 : W1.cell? ⟨g, 7, none⟩ = some (.int .i64 d1.st.gc) := HB1.out.1.cell 7
  have p8 : W1.cell? ⟨g, 8, none⟩ = some (.int .i64 d1.st.si) := HB1.out.1.cell 8
  have p9 : W1.cell? ⟨g, 9, none⟩ = some (.int .i64 d1.st.ol) := HB1.out.1.cell 9
  have p10 : W1.cell? ⟨g, 10, none⟩ = some (.int .i64 d1.st.oc) := HB1.out.1.cell 10
  have p11 : W1.cell? ⟨g, 11, none⟩ = some (.int .i64 d1.st.on) := HB1.out.1.cell 11
  have p12 : W1.cell? ⟨g, 12, none⟩ = some (.bool false) := HB1.out.1.cell 12
  have p14 : W1.cell? ⟨g, 14, none⟩ = some (.int .i64 d1.gcol) := HB1.out.1.cell 14
  have p17 : W1.cell? ⟨g, 17, none⟩ = some (.int .u32 0) := HB1.out.1.cell 17
  go_wp2_with fail
  go_still_tail 23, (by kernel_rfl)
  change wpList _ _ _ _ _ W1.drew
  refine wpList_store_blk rfl 91 (.tmp 4) (.tmp 45) rfl w.heap.size 91 chz (chC d1 (.slice A1 d1.sm.length cp1) b) rfl rfl bR1.out.drew rfl size_ch (ch_one _ _ _ _ _) ?_
  intro w2 hb2 hk2 hz2
  go_wp2_with fail
  refine bodyPost_ret (v := .agg (chC d1 (.slice A1 d1.sm.length cp1) b)) (results_cell_row (p := 4) (ty := 91) rfl _ _ w.heap.size _ _ (0, 0) _ rfl hb2 Tryd.underlying91 rfl size_ch) rfl ⟨.slice A1 d1.sm.length cp1, b, by rw [HD1.out], ?_, ?_⟩
  · have kd : Kep (fun k => k = w.heap.size) W1 w2 := ⟨hk2.os, hk2.tape, hk2.output, hk2.size, hk2.block⟩
    have h1 := HB1.out
    rw [← HD1.out]
    refine ⟨h1.1.kep kd (by omega), own_kep h1.2.1 kd (fun q hq e => ?_), h1.2.2.1, Nat.le_trans h1.2.2.2 kd.size⟩
    subst e
    exact hne1 hq
  · have kd : Kep (fun k => k = w.heap.size) W1 w2 := ⟨hk2.os, hk2.tape, hk2.output, hk2.size, hk2.block⟩
    exact ⟨HS1.out.1.then kd (fun i hi => .inr (by omega)), HS1.out.2⟩
end Go.Proofs.YtnokiikgnplpmaaDoor

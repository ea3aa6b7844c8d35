/-
  The contract of sourcemap.encodeVLQ: it appends a number's digits. Conditions: the number is below 2^40 either way.
-/
import Derived.Test.YtnokiikgnplpmaaDoorTabKit
import Derived.Test.YtnokiikgnplpmaaDoorBits
import Derived.Deep.LoopGhost
namespace Go.Proofs.YtnokiikgnplpmaaDoor
open Go.RowKit

theorem info_u8 : (Tryd.prog.info? 5).map (fun i => (i.zero, i.size, i.bytes)) = some (some (.int .u8 0), 1, 1) := by kernel_rfl

/-- The cells of digits. -/
def sgc (l : List Nat) : List Value := l.map fun d => Value.int .u8 (sg d : Int)

theorem sgc_len (l : List Nat) : (sgc l).length = l.length := by simp [sgc]
theorem sgc_snoc (l : List Nat) (d : Nat) : sgc (l ++ [d]) = sgc l ++ [Value.int .u8 (sg d : Int)] := by simp [sgc]

/-- What is left behind appending cells to a row of one's own: that row, new blocks, nothing else. -/
def App (base n : Nat) (xs : List Value) (v : Value) (w : World) (cs : List Value) (v' : Value) (w' : World) : Prop :=
  w'.ownsRow base 5 1 v' (n + cs.length) (xs ++ cs) ∧ Kep (fun k => v.ownBlock = some k) w w' ∧ (v'.ownBlock = v.ownBlock ∨ ∃ k, w.heap.size ≤ k ∧ v'.ownBlock = some k)

theorem App.nil {base n : Nat} {xs : List Value} {v : Value} {w : World} (h : w.ownsRow base 5 1 v n xs) : App base n xs v w [] v w :=
  ⟨by simpa using h, Kep.refl _ _, .inl rfl⟩

theorem App.trans {base n : Nat} {xs cs ds : List Value} {v v1 v2 : Value} {w w1 w2 : World} (h : App base n xs v w cs v1 w1) (k : App base (n + cs.length) (xs ++ cs) v1 w1 ds v2 w2) : App base n xs v w (cs ++ ds) v2 w2 := by
  obtain ⟨a1, a2, a3⟩ := h
  obtain ⟨b1, b2, b3⟩ := k
  refine ⟨by simpa [Nat.add_assoc] using b1, a2.then b2 fun i hi => ?_, ?_⟩
  · rcases a3 with a3 | ⟨j, hj, a3⟩
    · left; rw [← a3]; exact hi
    · right; rw [a3] at hi; injection hi with hi; omega
  · rcases b3 with b3 | ⟨j, hj, b3⟩
    · rw [b3]; exact a3
    · right; exact ⟨j, by have := a2.size; omega, b3⟩

/-- New blocks ahead of it. -/
theorem App.after {base n : Nat} {xs cs : List Value} {v v1 : Value} {w w0 w1 : World} (h : Below w.heap.size w w0) (k : App base n xs v w0 cs v1 w1) : App base n xs v w cs v1 w1 := by
  obtain ⟨b1, b2, b3⟩ := k
  refine ⟨b1, (Kep.of_below h).then b2 fun i hi => .inl hi, ?_⟩
  rcases b3 with b3 | ⟨j, hj, b3⟩
  · exact .inl b3
  · right; exact ⟨j, by have := h.size; omega, b3⟩
/-- New blocks behind it. -/
theorem App.alloc {base n : Nat} {xs cs : List Value} {v v1 : Value} {w w1 : World} (h : App base n xs v w cs v1 w1) (o : Obj) : App base n xs v w cs v1 (w1.alloc o) := ⟨h.1.alloc o, h.2.1.alloc o, h.2.2⟩
theorem App.drew {base n : Nat} {xs cs : List Value} {v v1 : Value} {w w1 : World} (h : App base n xs v w cs v1 w1) : App base n xs v w cs v1 w1.drew := ⟨h.1.drew, h.2.1.drew, h.2.2⟩

/-- One cell more, by append's own law. -/
theorem App.snoc {base n : Nat} {xs : List Value} {v v1 v2 : Value} {w w1 w2 : World} {cs : List Value} {u : Value} {o : Obj} (h : App base n xs v w cs v1 w1)
    (h1 : w2.ownsRow base 5 1 v2 (n + cs.length + 1) (xs ++ cs ++ [u])) (h2 : (w1.alloc o).grownBy w2 v1.ownBlock) (h3 : v2.ownBlock = v1.ownBlock ∨ v2.ownBlock = some (w1.heap.size + 1)) : App base n xs v w (cs ++ [u]) v2 w2 := by
  refine h.trans ⟨by simpa using h1, ((Kep.refl _ _).alloc o).grown h2 fun k hk => .inl hk, ?_⟩
  rcases h3 with h3 | h3
  · exact .inl h3
  · right; exact ⟨_, by omega, h3⟩

theorem App.below {base n B : Nat} {xs cs : List Value} {v v1 : Value} {w w1 : World} (h : App base n xs v w cs v1 w1) (hown : w.ownsRow base 5 1 v n xs) (hB : B ≤ base) (hb : base ≤ w.heap.size) : Below B w w1 :=
  h.2.1.below (by omega) fun k hk e => by
    obtain ⟨_, h⟩ := hown
    rcases h with ⟨rfl, _⟩ | ⟨g, cap, cur, rfl, hgb, _⟩
    · simp [Value.ownBlock] at e
    · simp [Value.ownBlock] at e; omega

theorem digs_step (f y : Nat) (h : ¬ y / 32 = 0) : digs (f + 1) y 0 = (y % 32 + 32) :: digs f (y / 32) 0 := by
  simp [digs, h]
theorem digs_last (f y : Nat) (h : y / 32 = 0) : digs f y 0 = [y % 32] := by
  cases f <;> simp [digs, h]

set_option maxHeartbeats 1000000 in
set_option maxRecDepth 100000 in
theorem encode_any (v : Value) (n : Nat) (xs : List Value) (x : Int) (B base : Nat) (w : World) (hT : B64 B w) (hown : w.ownsRow base 5 1 v n xs) (hbase : base ≤ w.heap.size) (hB : B ≤ base) (hn : n ≤ 1099511627776)
    (hx1 : -1099511627776 < x) (hx2 : x < 1099511627776) :
    Calls Tryd.prog 55 #[v, .int .i64 x] w fun e w' => ∃ v', e = .returned v' ∧ App base n xs v w (sgc (nd x)) v' w' := by
  obtain ⟨i0, hi0, hz0, hz1, hz2⟩ := info_parts info_u8
  have hy : vl x < 2199023255553 := by unfold vl; split <;> omega
  obtain ⟨y, hyx⟩ : ∃ y, y = vl x := ⟨_, rfl⟩
  rw [← hyx] at hy
  have Hyx := Lib.hid hyx
  clear hyx
  go_enter Tryd.func55, Tryd.ntmps55
  go_upto_if 9 with fail
  go_cut [5] (fun s5 wx => s5 = .int .i64 (y : Int) ∧ w = wx)
  case first =>
    rcases Int.lt_or_le x 0 with hx | hx
    · have hb := i64_or1 x.natAbs (by omega)
      rw [show ((x.natAbs : Nat) : Int) = -x by omega] at hb
      have e : ((2 * x.natAbs + 1 : Nat) : Int) = y := by rw [Hyx.out]; unfold vl; rw [if_pos hx]
      rw [e] at hb
      clear e
      go_wp2_with fail
      go_meet
      exact ⟨rfl, rfl⟩
    · have e : x * 2 = y := by rw [Hyx.out]; unfold vl; rw [if_neg (by omega)]; omega
      have E := Lib.hid e
      clear e
      go_wp2_with fail
      go_meet
      exact ⟨by rw [E.out], rfl⟩
  case rest =>
    obtain ⟨rfl, rfl⟩ := hcut
    by_cases hs : y / 32 = 0
    · obtain ⟨R, o, c, hR, hG, hg, hc⟩ := hT
      have hand := i64_and31 y (by omega)
      have hcell := hc (y % 32) (by omega)
      have e1 : nd x = [y % 32] := by unfold nd; rw [← Hyx.out]; exact digs_last _ _ hs
      have E1 := Lib.hid e1
      have hd : y % 32 < 32 := by omega
      have h0 : ((y : Int) / 32 == 0) = true := by simp; omega
      clear hc e1
      generalize y % 32 = d at *
      go_wp2_with (at_builtin; refine wpList_append_own_at _ rfl (.tmp 21) (.tmp 26) _ rfl base 5 i0 _ 1 1 Tryd.underlying72 hi0 hz0 hz1 hz2 rfl (by omega) v n xs rfl (hown.alloc _) ⟨w.heap.size, 0, none⟩ 1 1 [.int .u8 (sg d : Int)] rfl rfl (cell_one_new _ _ _) (by intro u hu; simp at hu; subst hu; rfl) (by unfold maxLen; omega) (by omega) (by simp; omega) ?_; intro v2 w2 hown2 hg2 hnil2 hat2; clear hnil2)
      go_ret
      refine ⟨v2, rfl, ?_⟩
      rw [E1.out]
      exact (App.nil hown).snoc (by simpa using hown2) hg2 (by simpa using hat2)
    · have h0 : ((y : Int) / 32 == 0) = false := by simp; omega
      go_wp2_with fail
      go_loopg [0, 5] 12 (fun f s0 s5 wr => ∃ (y1 : Nat) (l : List Nat), s5 = .int .i64 (y1 : Int) ∧ y1 < 2199023255553 ∧ y1 < 32 ^ (f + 1) ∧ nd x = l ++ digs f y1 0 ∧ App base n xs v w (sgc l) s0 wr)
      case atStart => exact ⟨y, [], rfl, hy, Nat.lt_of_lt_of_le hy (by decide), by unfold nd; rw [← Hyx.out]; rfl, App.nil hown⟩
      case round =>
        obtain ⟨y1, l, rfl, hy1, hp, hnd, henc⟩ := hrel
        have hll : l.length ≤ 13 := by have := nd_len x; rw [hnd] at this; simp at this; omega
        have Hnd := Lib.hid hnd
        have ho := henc.1
        rw [sgc_len] at ho
        have hbw : base ≤ wr.heap.size := Nat.le_trans hbase henc.2.1.size
        have hT2 : B64 B wr := hT.below (henc.below hown hB hbase)
        have HE := Lib.hid henc
        clear hnd henc hT
        obtain ⟨R, o, c, hR, hG, hg, hc⟩ := hT2
        have hand := i64_and31 y1 (by omega)
        by_cases hs1 : y1 / 32 = 0
        · have hcell := hc (y1 % 32) (by omega)
          have e1 : nd x = l ++ [y1 % 32] := by rw [Hnd.out, digs_last _ _ hs1]
          have E1 := Lib.hid e1
          have hd : y1 % 32 < 32 := by omega
          have h1 : ((y1 : Int) / 32 == 0) = true := by simp; omega
          have h2 : ((y1 : Int) / 32 != 0) = false := by simp; omega
          clear hc e1 Hnd
          generalize y1 % 32 = d at *
          go_wp2_with (at_builtin; refine wpList_append_own_at _ rfl (.tmp 37) (.tmp 42) _ rfl base 5 i0 _ 1 1 Tryd.underlying72 hi0 hz0 hz1 hz2 rfl (by omega) u0 (n + l.length) (xs ++ sgc l) rfl (ho.alloc _) ⟨wr.heap.size, 0, none⟩ 1 1 [.int .u8 (sg d : Int)] rfl rfl (cell_one_new _ _ _) (by intro u hu; simp at hu; subst hu; rfl) (by unfold maxLen; omega) (by omega) (by simp; omega) ?_; intro v2 w2 hown2 hg2 hnil2 hat2; clear hnil2)
          go_ret
          refine ⟨v2, rfl, ?_⟩
          rw [E1.out]
          rw [sgc_snoc]
          exact HE.out.snoc (by rw [sgc_len]; exact hown2) hg2 (by simpa using hat2)
        · obtain ⟨f, rfl⟩ : ∃ f, gk = f + 1 := by
            cases gk with
            | zero => simp at hp; omega
            | succ f => exact ⟨f, rfl⟩
          have hcell := hc (y1 % 32 + 32) (by omega)
          have hor := i64_or32 (y1 % 32) (by omega)
          have e1 : nd x = (l ++ [y1 % 32 + 32]) ++ digs f (y1 / 32) 0 := by rw [Hnd.out, digs_step _ _ hs1]; simp
          have E1 := Lib.hid e1
          have hd : y1 % 32 < 32 := by omega
          have h1 : ((y1 : Int) / 32 == 0) = false := by simp; omega
          have h2 : ((y1 : Int) / 32 != 0) = true := by simp; omega
          have hp1 : y1 / 32 < 32 ^ (f + 1) := by
            apply Nat.div_lt_of_lt_mul
            rw [Nat.pow_succ] at hp
            omega
          have HP := Lib.hid hp1
          clear hc e1 Hnd hp hp1
          generalize y1 % 32 = d at *
          generalize hdd : d + 32 = dd at *
          have hdl : dd < 64 := by omega
          have HDD := Lib.hid hdd
          clear hdd
          go_wp2_with (at_builtin; refine wpList_append_own_at _ rfl (.tmp 37) (.tmp 42) _ rfl base 5 i0 _ 1 1 Tryd.underlying72 hi0 hz0 hz1 hz2 rfl (by omega) u0 (n + l.length) (xs ++ sgc l) rfl (ho.alloc _) ⟨wr.heap.size, 0, none⟩ 1 1 [.int .u8 (sg dd : Int)] rfl rfl (cell_one_new _ _ _) (by intro u hu; simp at hu; subst hu; rfl) (by unfold maxLen; omega) (by omega) (by simp; omega) ?_; intro v2 w2 hown2 hg2 hnil2 hat2; clear hnil2)
          go_roundg f
          case measure => omega
          case rel => exact ⟨y1 / 32, l ++ [dd], by go_num, by omega, HP.out, E1.out, by rw [sgc_snoc]; exact HE.out.snoc (by rw [sgc_len]; exact hown2) hg2 (by simpa using hat2)⟩
end Go.Proofs.YtnokiikgnplpmaaDoor

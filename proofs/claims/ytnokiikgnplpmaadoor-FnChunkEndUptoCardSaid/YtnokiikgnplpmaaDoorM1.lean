/-
  Small lemmas on worlds: what lay below a number of blocks reads as before. Conditions: as each one says.
  Numbers of source maps as digits of 5 bits: plain arithmetic, no program. Conditions: as each lemma says.
  What lies in memory: the table of signs; what a step may have changed. Conditions: as each lemma says.
  Bits of int and int32 at numbers that are not below 0: plain arithmetic. Conditions: as each lemma says.
  The contract of sourcemap.encodeVLQ: it appends a number's digits. Conditions: the number is below 2^40 either way.
  The contract of sourcemap.appendMappingToBuffer, without a name: a comma (unless a line begins), then four numbers. Conditions: the numbers of both states are below 2^38.
  A whole struct is stored into a block that is known whole, or loaded out of the middle of one. Conditions: as each lemma says.
  Rows of one's own, where a step has changed only some blocks. Conditions: as each lemma says.
  append(row, source...): a row of one's own, and whatever source (a string, a slice). Conditions: as each lemma says.
  Mappings as plain data, and mappings at rising places: no program. Conditions: as each lemma says.
  Texts of mappings as tokens (none: a semicolon; some: a mapping's numbers), and what is read of them: plain. Conditions: as each lemma says.
  UTF-8 as plain arithmetic: what is encoded is decoded; texts made of runes. Conditions: as each lemma says.
  The contract of laws.valid: a text without what is no UTF-8. Conditions: the text has at most 2^47 bytes.
  Places behind texts, as folds over runes: plain, no program. Conditions: as each lemma says.
  Places behind texts of runes: what the laws need, plain. Conditions: as each lemma says.
-/
import Derived.Test.YtnokiikgnplpmaaDoorProg
import Derived.Tactics
import Derived.Tactics2
import Derived.WalkKit
import Derived.WalkSpells
import Derived.WalkLawsBesides
import Derived.KernelRfl
import Derived.Lib.Hide
import Derived.Below
import Derived.Laws.ResultCell
import Derived.Outline
import Derived.Deep.RegionHeld3
import Derived.Handy
import Derived.RegionTactic
import Derived.Deep.QuietTactic
import Derived.BigQuiet
import Derived.BigRegion
import Derived.Deep.DeepFit
import Derived.Deep.DeepMust
import Derived.Deep.DeepCutAuto
import Derived.Deep.CutBlock
import Derived.Deep.LoopGhost
import Derived.LoopTactic
import Derived.Laws.AppendOwn
import Derived.Maps.AppendAt
import Derived.Deep.AppendLies
import Derived.Lib.LaidPrint
import Derived.Laws.BitsAllLaws
import Derived.Laws.BitsLemmas
import Derived.IntWalk
import Derived.Laws.Rows
import Derived.Deep.MidRow
import Derived.Laws.OwnMore
import Derived.Deep.Onto
import Derived.Deep.AppendSrc
import Derived.Deep.Upon
import Derived.Laws.RangeAny
import Derived.Laws.Runes
import Derived.Laws.Strings
import Derived.Laws.Concat
namespace Go.Proofs.YtnokiikgnplpmaaDoor
open Go.RowKit

/-- Behind a call that made memory all old cells, and whether they may be written, are as they were. -/
theorem bcell {W w1 : World} (hb : Below W.heap.size W w1) : (∀ b o, b < W.heap.size → w1.cell? ⟨b, o, none⟩ = W.cell? ⟨b, o, none⟩) ∧ (∀ b o, b < W.heap.size → w1.frozen? ⟨b, o, none⟩ = W.frozen? ⟨b, o, none⟩) :=
  ⟨fun b o h => hb.cell (p := ⟨b, o, none⟩) h, fun b o h => hb.frozen (p := ⟨b, o, none⟩) h⟩

/-- What a call that made memory leaves, from a world that itself lies behind another one. -/
theorem bthen {a W w1 : World} (h : Below a.heap.size a W) (hb : Below W.heap.size W w1) : Below a.heap.size a w1 := h.trans (hb.mono h.size)
theorem balloc {a W : World} (h : Below a.heap.size a W) (o : Obj) : Below a.heap.size a (W.alloc o) := h.alloc h.size o
end Go.Proofs.YtnokiikgnplpmaaDoor
namespace Go.Proofs.YtnokiikgnplpmaaDoor

/-- The sign of a digit. -/
def sg (d : Nat) : Nat := if d < 26 then 65 + d else if d < 52 then 71 + d else if d < 62 then d - 4 else if d = 62 then 43 else 47

/-- What a sign counts; -1: it is none. -/
def ix (c : Nat) : Int := if 65 ≤ c ∧ c ≤ 90 then (c : Int) - 65 else if 97 ≤ c ∧ c ≤ 122 then (c : Int) - 71 else if 48 ≤ c ∧ c ≤ 57 then (c : Int) + 4 else if c = 43 then 62 else if c = 47 then 63 else -1

theorem ix_sg (d : Nat) (h : d < 64) : ix (sg d) = d := by
  unfold ix sg
  repeat' split
  all_goals omega

theorem sg_lt (d : Nat) (h : d < 64) : sg d < 128 := by
  unfold sg
  repeat' split
  all_goals omega

theorem sg_ix (c : Nat) (h : 0 ≤ ix c) : sg (ix c).toNat = c := by
  unfold ix at *
  unfold sg
  split at h <;> rename_i h1
  · rw [if_pos h1]; split <;> omega
  split at h <;> rename_i h2
  · rw [if_neg h1, if_pos h2]; repeat' split
    all_goals omega
  split at h <;> rename_i h3
  · rw [if_neg h1, if_neg h2, if_pos h3]; repeat' split
    all_goals omega
  split at h <;> rename_i h4
  · subst h4; rfl
  split at h <;> rename_i h5
  · subst h5; rfl
  · omega

theorem ix_lt (c : Nat) : ix c < 64 := by
  unfold ix
  repeat' split
  all_goals omega

theorem ix_lo (c : Nat) : -1 ≤ ix c := by
  unfold ix
  repeat' split
  all_goals omega

/-- The digits of a number without a sign bit, with so many digits 0 more; f bounds their count. -/
def digs : Nat → Nat → Nat → List Nat
  | 0, x, _ => [x % 32]
  | f + 1, x, m => if x / 32 = 0 ∧ m = 0 then [x % 32] else (x % 32 + 32) :: digs f (x / 32) (if x / 32 = 0 then m - 1 else m)

/-- A number doubled, 1 more of it below 0. -/
def vl (n : Int) : Nat := if n < 0 then 2 * n.natAbs + 1 else 2 * n.natAbs
def unvl (x : Nat) : Int := if x % 2 = 1 then -((x / 2 : Nat) : Int) else ((x / 2 : Nat) : Int)

theorem unvl_vl (n : Int) : unvl (vl n) = n := by
  unfold unvl vl
  split <;> split <;> omega

/-- What digits count. -/
def val : List Nat → Nat
  | [] => 0
  | d :: l => d % 32 + 32 * val l

theorem digs_lt (f x m : Nat) : ∀ d ∈ digs f x m, d < 64 := by
  induction f generalizing x m with
  | zero => intro d hd; simp [digs] at hd; omega
  | succ f ih =>
    intro d hd
    unfold digs at hd
    split at hd
    · simp at hd; omega
    · rcases List.mem_cons.1 hd with rfl | h
      · omega
      · exact ih _ _ d h

theorem digs_ne (f x m : Nat) : digs f x m ≠ [] := by
  cases f with
  | zero => simp [digs]
  | succ f => unfold digs; split <;> simp

theorem digs_len (f x m : Nat) : (digs f x m).length ≤ f + 1 := by
  induction f generalizing x m with
  | zero => simp [digs]
  | succ f ih =>
    unfold digs
    split
    · simp
    · have := ih (x / 32) (if x / 32 = 0 then m - 1 else m)
      rw [List.length_cons]; omega

theorem val_digs (f x m : Nat) (h : x < 32 ^ (f + 1)) : val (digs f x m) = x := by
  induction f generalizing x m with
  | zero => simp [digs, val]; simp at h; omega
  | succ f ih =>
    unfold digs
    split
    · rename_i hx
      simp [val]; omega
    · have hx : x / 32 < 32 ^ (f + 1) := by
        apply Nat.div_lt_of_lt_mul
        rw [Nat.pow_succ] at h
        omega
      simp only [val]
      rw [ih _ _ hx]
      omega

/-- All digits but the last one go on, the last one ends. -/
theorem digs_form (f x m : Nat) (h : x < 32 ^ (f + 1)) (hm : m = 0 ∨ (x < 32 ^ (f - m) ∧ m + 1 ≤ f)) : ∃ l d, digs f x m = l ++ [d] ∧ d < 32 ∧ ∀ y ∈ l, 32 ≤ y := by
  induction f generalizing x m with
  | zero => exact ⟨[], x % 32, by simp [digs], by omega, by simp⟩
  | succ f ih =>
    unfold digs
    split
    · exact ⟨[], x % 32, by simp, by omega, by simp⟩
    · rename_i hx
      have h1 : x / 32 < 32 ^ (f + 1) := by
        apply Nat.div_lt_of_lt_mul
        rw [Nat.pow_succ] at h
        omega
      have h2 : (if x / 32 = 0 then m - 1 else m) = 0 ∨ (x / 32 < 32 ^ (f - (if x / 32 = 0 then m - 1 else m)) ∧ (if x / 32 = 0 then m - 1 else m) + 1 ≤ f) := by
        split
        · rename_i h0
          rcases hm with hm | hm
          · omega
          · by_cases h3 : m = 1
            · left; omega
            · right
              refine ⟨?_, by omega⟩
              rw [h0]
              exact Nat.pow_pos (by omega)
        · rename_i h0
          rcases hm with hm | hm
          · left; exact hm
          · by_cases h3 : m = 0
            · left; exact h3
            · right
              have h4 : f + 1 - m = (f - m) + 1 := by omega
              have h5 : x / 32 < 32 ^ (f - m) := by
                apply Nat.div_lt_of_lt_mul
                have := hm.1
                rw [h4, Nat.pow_succ] at this
                omega
              refine ⟨h5, ?_⟩
              rcases Nat.lt_or_ge m f with h6 | h6
              · exact h6
              · have : f - m = 0 := by omega
                rw [this] at h5
                simp at h5
                omega
      obtain ⟨l, d, e, hd, hl⟩ := ih _ _ h1 h2
      refine ⟨(x % 32 + 32) :: l, d, by rw [e]; rfl, hd, ?_⟩
      intro y hy
      rcases List.mem_cons.1 hy with rfl | hy
      · omega
      · exact hl y hy

/-- The digits of a number (up to 2^60 either way). -/
def nd (n : Int) : List Nat := digs 12 (vl n) 0

theorem vl_lt (n : Int) (h1 : -1152921504606846976 < n) (h2 : n < 1152921504606846976) : vl n < 32 ^ 13 := by
  unfold vl
  have : (32 : Nat) ^ 13 = 36893488147419103232 := by decide
  rw [this]
  split <;> omega

theorem nd_form (n : Int) (h1 : -1152921504606846976 < n) (h2 : n < 1152921504606846976) : ∃ l d, nd n = l ++ [d] ∧ d < 32 ∧ ∀ y ∈ l, 32 ≤ y :=
  digs_form 12 (vl n) 0 (vl_lt n h1 h2) (.inl rfl)

theorem val_nd (n : Int) (h1 : -1152921504606846976 < n) (h2 : n < 1152921504606846976) : unvl (val (nd n)) = n := by
  unfold nd
  rw [val_digs 12 (vl n) 0 (vl_lt n h1 h2), unvl_vl]

theorem nd_lt (n : Int) : ∀ d ∈ nd n, d < 64 := digs_lt _ _ _
theorem nd_ne (n : Int) : nd n ≠ [] := digs_ne _ _ _
theorem nd_len (n : Int) : (nd n).length ≤ 13 := digs_len _ _ _

/-- A number as text. -/
def nb (n : Int) : List UInt8 := (nd n).map fun d => UInt8.ofNat (sg d)
end Go.Proofs.YtnokiikgnplpmaaDoor
namespace Go.Proofs.YtnokiikgnplpmaaDoor
open Go.RowKit

/-- The table of signs lies in its variable, below block B. -/
def B64 (B : Nat) (w : World) : Prop := ∃ R o c : Nat, R < B ∧ 0 < B ∧ w.cell? ⟨0, 0, none⟩ = some (.slice (some ⟨R, o, none⟩) 64 c) ∧ ∀ j : Nat, j < 64 → w.cell? ⟨R, o + j, none⟩ = some (.int .u8 (sg j : Int))

theorem B64.below {B : Nat} {w w' : World} (h : B64 B w) (hb : Below B w w') : B64 B w' := by
  obtain ⟨R, o, c, h1, h2, h3, h4⟩ := h
  exact ⟨R, o, c, h1, h2, (hb.cell (p := ⟨_, 0, none⟩) h2).trans h3, fun j hj => (hb.cell (p := ⟨R, o + j, none⟩) h1).trans (h4 j hj)⟩

/-- w' is w with new blocks, and with changes in the blocks of X alone. -/
structure Kep (X : Nat → Prop) (w w' : World) : Prop where
  os : w'.os = w.os
  tape : w'.tape = w.tape
  output : w'.output = w.output
  size : w.heap.size ≤ w'.heap.size
  block : ∀ k, k < w.heap.size → ¬ X k → w'.heap[k]? = w.heap[k]?

theorem Kep.refl (X : Nat → Prop) (w : World) : Kep X w w := ⟨rfl, rfl, rfl, Nat.le_refl _, fun _ _ _ => rfl⟩
theorem Kep.trans {X : Nat → Prop} {a b c : World} (h : Kep X a b) (k : Kep X b c) : Kep X a c :=
  ⟨k.os.trans h.os, k.tape.trans h.tape, k.output.trans h.output, Nat.le_trans h.size k.size, fun i hi hx => (k.block i (Nat.lt_of_lt_of_le hi h.size) hx).trans (h.block i hi hx)⟩
/-- Two steps, each with its own blocks: what the second one may change is the first one's to change, or new. -/
theorem Kep.then {X Y : Nat → Prop} {a b c : World} (h : Kep X a b) (k : Kep Y b c) (hy : ∀ i, Y i → X i ∨ a.heap.size ≤ i) : Kep X a c :=
  ⟨k.os.trans h.os, k.tape.trans h.tape, k.output.trans h.output, Nat.le_trans h.size k.size, fun i hi hx => (k.block i (Nat.lt_of_lt_of_le hi h.size) (fun q => by rcases hy i q with q | q; exact hx q; omega)).trans (h.block i hi hx)⟩
theorem Kep.mono {X Y : Nat → Prop} {a b : World} (h : Kep X a b) (hx : ∀ i, i < a.heap.size → X i → Y i) : Kep Y a b := ⟨h.os, h.tape, h.output, h.size, fun i hi hn => h.block i hi (fun q => hn (hx i hi q))⟩
theorem Kep.drew {X : Nat → Prop} {a w : World} (h : Kep X a w) : Kep X a w.drew := ⟨h.os, h.tape, h.output, h.size, h.block⟩
theorem Kep.alloc {X : Nat → Prop} {a w : World} (h : Kep X a w) (o : Obj) : Kep X a (w.alloc o) :=
  h.trans ⟨rfl, rfl, rfl, by simp, fun k hk _ => Below.heap_alloc _ _ _ hk⟩
theorem Kep.setCell {X : Nat → Prop} {a w : World} (h : Kep X a w) {p : Addr} (hp : X p.block ∨ a.heap.size ≤ p.block) (u : Value) : Kep X a (w.setCell p u) :=
  ⟨h.os, h.tape, h.output, by simpa [World.setCell] using h.size, fun k hk hx => (Below.heap_setCell _ _ _ _ (by rintro rfl; rcases hp with hp | hp; exact hx hp; omega)).trans (h.block k hk hx)⟩
theorem Kep.grown {X : Nat → Prop} {a w w' : World} {row : Option Nat} (h : Kep X a w) (hg : w.grownBy w' row) (hr : ∀ k, row = some k → X k ∨ a.heap.size ≤ k) : Kep X a w' :=
  ⟨hg.os.trans h.os, hg.tape.trans h.tape, hg.output.trans h.output, Nat.le_trans h.size hg.size, fun i hi hx => (hg.block i (Nat.lt_of_lt_of_le hi h.size) (fun e => by rcases hr i e.symm with q | q; exact hx q; omega)).trans (h.block i hi hx)⟩
theorem Kep.below {X : Nat → Prop} {w w' : World} {B : Nat} (h : Kep X w w') (hB : B ≤ w.heap.size) (hx : ∀ k, k < B → ¬ X k) : Below B w w' := ⟨h.os, h.tape, h.output, h.size, fun k hk => h.block k (by omega) (hx k hk)⟩
theorem Kep.of_below {w w' : World} {X : Nat → Prop} (h : Below w.heap.size w w') : Kep X w w' := ⟨h.os, h.tape, h.output, h.size, fun k hk _ => h.block k hk⟩
theorem Kep.of_grown {w w' : World} {row : Option Nat} (h : w.grownBy w' row) : Kep (fun k => row = some k) w w' := ⟨h.os, h.tape, h.output, h.size, fun k hk hx => h.block k hk (fun e => hx e.symm)⟩
theorem Kep.to_grown {w w' : World} {row : Option Nat} (h : Kep (fun k => row = some k) w w') : w.grownBy w' row := ⟨h.os, h.tape, h.output, h.size, fun k hk hx => h.block k hk (fun e => hx e.symm)⟩
theorem Kep.cell {X : Nat → Prop} {w w' : World} (h : Kep X w w') {p : Addr} (hp : p.block < w.heap.size) (hx : ¬ X p.block) : w'.cell? p = w.cell? p := World.cell?_of_block (w := w) (h.block p.block hp hx)
theorem Kep.frozen {X : Nat → Prop} {w w' : World} (h : Kep X w w') {p : Addr} (hp : p.block < w.heap.size) (hx : ¬ X p.block) : w'.frozen? p = w.frozen? p := World.frozen?_of_block (w := w) (h.block p.block hp hx)
end Go.Proofs.YtnokiikgnplpmaaDoor
namespace Go.Proofs.YtnokiikgnplpmaaDoor
open Go.RowKit

theorem ofInt_i64 (a : Nat) (ha : a < 9223372036854775808) : (BitVec.ofInt 64 (a : Int)).toNat = a := by
  rw [BitVec.ofInt_natCast, BitVec.toNat_ofNat]; exact Nat.mod_eq_of_lt (by omega)
theorem i64_and_nat (a b : Nat) (ha : a < 9223372036854775808) (hb : b < 9223372036854775808) : bits .and .i64 (a : Int) (b : Int) = ((a &&& b : Nat) : Int) := by
  have hx : a &&& b < 2 ^ 63 := Nat.and_lt_two_pow _ (by omega)
  show IntKind.i64.wrap ((BitVec.ofInt 64 (a : Int) &&& BitVec.ofInt 64 (b : Int)).toNat : Int) = _
  rw [BitVec.toNat_and, ofInt_i64 a ha, ofInt_i64 b hb, IntKind.wrap_i64]
  omega
theorem i64_or_nat (a b : Nat) (ha : a < 9223372036854775808) (hb : b < 9223372036854775808) : bits .or .i64 (a : Int) (b : Int) = ((a ||| b : Nat) : Int) := by
  have hx : a ||| b < 2 ^ 63 := Nat.or_lt_two_pow (by omega) (by omega)
  show IntKind.i64.wrap ((BitVec.ofInt 64 (a : Int) ||| BitVec.ofInt 64 (b : Int)).toNat : Int) = _
  rw [BitVec.toNat_or, ofInt_i64 a ha, ofInt_i64 b hb, IntKind.wrap_i64]
  omega
theorem ofInt_i32 (a : Nat) (ha : a < 2147483648) : (BitVec.ofInt 32 (a : Int)).toNat = a := by
  rw [BitVec.ofInt_natCast, BitVec.toNat_ofNat]; exact Nat.mod_eq_of_lt (by omega)
theorem i32_and_nat (a b : Nat) (ha : a < 2147483648) (hb : b < 2147483648) : bits .and .i32 (a : Int) (b : Int) = ((a &&& b : Nat) : Int) := by
  have hx : a &&& b < 2 ^ 31 := Nat.and_lt_two_pow _ (by omega)
  show IntKind.i32.wrap ((BitVec.ofInt 32 (a : Int) &&& BitVec.ofInt 32 (b : Int)).toNat : Int) = _
  rw [BitVec.toNat_and, ofInt_i32 a ha, ofInt_i32 b hb, IntKind.wrap_i32]
  omega
theorem i32_or_nat (a b : Nat) (ha : a < 2147483648) (hb : b < 2147483648) : bits .or .i32 (a : Int) (b : Int) = ((a ||| b : Nat) : Int) := by
  have hx : a ||| b < 2 ^ 31 := Nat.or_lt_two_pow (by omega) (by omega)
  show IntKind.i32.wrap ((BitVec.ofInt 32 (a : Int) ||| BitVec.ofInt 32 (b : Int)).toNat : Int) = _
  rw [BitVec.toNat_or, ofInt_i32 a ha, ofInt_i32 b hb, IntKind.wrap_i32]
  omega

theorem and31 (x : Nat) : x &&& 31 = x % 32 := Nat.and_two_pow_sub_one_eq_mod x 5
theorem and1 (x : Nat) : x &&& 1 = x % 2 := Nat.and_two_pow_sub_one_eq_mod x 1
theorem or_shift (a b k : Nat) (h : b < 2 ^ k) : b ||| (a * 2 ^ k) = b + a * 2 ^ k := by
  rw [Nat.or_comm, ← Nat.shiftLeft_eq, ← Nat.shiftLeft_add_eq_or_of_lt h, Nat.add_comm]
theorem and32 (d : Nat) (h : d < 64) : (d &&& 32 = 0) ↔ d < 32 := by
  have e : ∀ d : Fin 64, (d.val &&& 32 = 0) ↔ d.val < 32 := by decide
  exact e ⟨d, h⟩
theorem and32' (d : Nat) (h : d < 64) (h' : 32 ≤ d) : d &&& 32 = 32 := by
  have e : ∀ d : Fin 64, 32 ≤ d.val → d.val &&& 32 = 32 := by decide
  exact e ⟨d, h⟩ h'

theorem i64_and31 (y : Nat) (h : y < 9223372036854775808) : bits .and .i64 (y : Int) 31 = ((y % 32 : Nat) : Int) := by
  have := i64_and_nat y 31 h (by omega)
  rw [and31] at this
  exact this
theorem i64_and1 (y : Nat) (h : y < 9223372036854775808) : bits .and .i64 (y : Int) 1 = ((y % 2 : Nat) : Int) := by
  have := i64_and_nat y 1 h (by omega)
  rw [and1] at this
  exact this
theorem i64_or32 (d : Nat) (h : d < 32) : bits .or .i64 (d : Int) 32 = ((d + 32 : Nat) : Int) := by
  have := i64_or_nat d 32 (by omega) (by omega)
  rw [show d ||| 32 = d + 32 from or_shift 1 d 5 (by omega)] at this
  exact this
theorem i64_or1 (k : Nat) (h : k < 1152921504606846976) : bits .or .i64 ((k : Int) * 2) 1 = ((2 * k + 1 : Nat) : Int) := by
  have := i64_or_nat (k * 2) 1 (by omega) (by omega)
  have e : k * 2 ||| 1 = 2 * k + 1 := by
    rw [Nat.or_comm, show k * 2 = k * 2 ^ 1 by omega, or_shift k 1 1 (by omega)]; omega
  rw [e] at this
  rw [show ((k : Int) * 2) = ((k * 2 : Nat) : Int) by omega]
  exact this
end Go.Proofs.YtnokiikgnplpmaaDoor
namespace Go.Proofs.YtnokiikgnplpmaaDoor
open Go.RowKit

theorem info_u8 : (Tryd.prog.info? 5).map (fun i => (i.zero, i.size, i.bytes)) = some (some (.int .u8 0), 1, 1) := by kernel_rfl

/-- The cells of digits. -/
def sgc (l : List Nat) : List Value := l.map fun d => Value.int .u8 (sg d : Int)

theorem sgc_len (l : List Nat) : (sgc l).length = l.length := by simp [sgc]
theorem sgc_snoc (l : List Nat) (d : Nat) : sgc (l ++ [d]) = sgc l ++ [Value.int .u8 (sg d : Int)] := by simp [sgc]

/-- What is left behind appending cells to a row of one's own: that row, new blocks, nothing else. -/
def App (base n : Nat) (xs : List Value) (v : Value) (w : World) (cs : List Value) (v' : Value) (w' : World) : Prop :=
  w'.ownsRow base 5 1 v' (n + cs.length) (xs ++ cs) ∧ Kep (fun k => v.ownBlock = some k) w w' ∧ (v'.ownBlock = v.ownBlock ∨ ∃ k, w.heap.size ≤ k ∧ v'.ownBlock = some k)

theorem App.nil {base n : Nat} {xs : List Value} {v : Value} {w : World} (h : w.ownsRow base 5 1 v n xs) : App base n xs v w [] v w :=
  ⟨by simpa using h, Kep.refl _ _, .inl rfl⟩

theorem App.trans {base n : Nat} {xs cs ds : List Value} {v v1 v2 : Value} {w w1 w2 : World} (h : App base n xs v w cs v1 w1) (k : App base (n + cs.length) (xs ++ cs) v1 w1 ds v2 w2) : App base n xs v w (cs ++ ds) v2 w2 := by
  obtain ⟨a1, a2, a3⟩ := h
  obtain ⟨b1, b2, b3⟩ := k
  refine ⟨by simpa [Nat.add_assoc] using b1, a2.then b2 fun i hi => ?_, ?_⟩
  · rcases a3 with a3 | ⟨j, hj, a3⟩
    · left; rw [← a3]; exact hi
    · right; rw [a3] at hi; injection hi with hi; omega
  · rcases b3 with b3 | ⟨j, hj, b3⟩
    · rw [b3]; exact a3
    · right; exact ⟨j, by have := a2.size; omega, b3⟩

/-- New blocks ahead of it. -/
theorem App.after {base n : Nat} {xs cs : List Value} {v v1 : Value} {w w0 w1 : World} (h : Below w.heap.size w w0) (k : App base n xs v w0 cs v1 w1) : App base n xs v w cs v1 w1 := by
  obtain ⟨b1, b2, b3⟩ := k
  refine ⟨b1, (Kep.of_below h).then b2 fun i hi => .inl hi, ?_⟩
  rcases b3 with b3 | ⟨j, hj, b3⟩
  · exact .inl b3
  · right; exact ⟨j, by have := h.size; omega, b3⟩
/-- New blocks behind it. -/
theorem App.alloc {base n : Nat} {xs cs : List Value} {v v1 : Value} {w w1 : World} (h : App base n xs v w cs v1 w1) (o : Obj) : App base n xs v w cs v1 (w1.alloc o) := ⟨h.1.alloc o, h.2.1.alloc o, h.2.2⟩
theorem App.drew {base n : Nat} {xs cs : List Value} {v v1 : Value} {w w1 : World} (h : App base n xs v w cs v1 w1) : App base n xs v w cs v1 w1.drew := ⟨h.1.drew, h.2.1.drew, h.2.2⟩

/-- One cell more, by append's own law. -/
theorem App.snoc {base n : Nat} {xs : List Value} {v v1 v2 : Value} {w w1 w2 : World} {cs : List Value} {u : Value} {o : Obj} (h : App base n xs v w cs v1 w1)
    (h1 : w2.ownsRow base 5 1 v2 (n + cs.length + 1) (xs ++ cs ++ [u])) (h2 : (w1.alloc o).grownBy w2 v1.ownBlock) (h3 : v2.ownBlock = v1.ownBlock ∨ v2.ownBlock = some (w1.heap.size + 1)) : App base n xs v w (cs ++ [u]) v2 w2 := by
  refine h.trans ⟨by simpa using h1, ((Kep.refl _ _).alloc o).grown h2 fun k hk => .inl hk, ?_⟩
  rcases h3 with h3 | h3
  · exact .inl h3
  · right; exact ⟨_, by omega, h3⟩

theorem App.below {base n B : Nat} {xs cs : List Value} {v v1 : Value} {w w1 : World} (h : App base n xs v w cs v1 w1) (hown : w.ownsRow base 5 1 v n xs) (hB : B ≤ base) (hb : base ≤ w.heap.size) : Below B w w1 :=
  h.2.1.below (by omega) fun k hk e => by
    obtain ⟨_, h⟩ := hown
    rcases h with ⟨rfl, _⟩ | ⟨g, cap, cur, rfl, hgb, _⟩
    · simp [Value.ownBlock] at e
    · simp [Value.ownBlock] at e; omega

theorem digs_step (f y : Nat) (h : ¬ y / 32 = 0) : digs (f + 1) y 0 = (y % 32 + 32) :: digs f (y / 32) 0 := by
  simp [digs, h]
theorem digs_last (f y : Nat) (h : y / 32 = 0) : digs f y 0 = [y % 32] := by
  cases f <;> simp [digs, h]

set_option maxHeartbeats 1000000 in
set_option maxRecDepth 100000 in
theorem encode_any (v : Value) (n : Nat) (xs : List Value) (x : Int) (B base : Nat) (w : World) (hT : B64 B w) (hown : w.ownsRow base 5 1 v n xs) (hbase : base ≤ w.heap.size) (hB : B ≤ base) (hn : n ≤ 1099511627776)
    (hx1 : -1099511627776 < x) (hx2 : x < 1099511627776) :
    Calls Tryd.prog 55 #[v, .int .i64 x] w fun e w' => ∃ v', e = .returned v' ∧ App base n xs v w (sgc (nd x)) v' w' := by
  obtain ⟨i0, hi0, hz0, hz1, hz2⟩ := info_parts info_u8
  have hy : vl x < 2199023255553 := by unfold vl; split <;> omega
  obtain ⟨y, hyx⟩ : ∃ y, y = vl x := ⟨_, rfl⟩
  rw [← hyx] at hy
  have Hyx := Lib.hid hyx
  clear hyx
  go_enter Tryd.func55, Tryd.ntmps55
  go_upto_if 9 with fail
  go_cut [5] (fun s5 wx => s5 = .int .i64 (y : Int) ∧ w = wx)
  case first =>
    rcases Int.lt_or_le x 0 with hx | hx
    · have hb := i64_or1 x.natAbs (by omega)
      rw [show ((x.natAbs : Nat) : Int) = -x by omega] at hb
      have e : ((2 * x.natAbs + 1 : Nat) : Int) = y := by rw [Hyx.out]; unfold vl; rw [if_pos hx]
      rw [e] at hb
      clear e
      go_wp2_with fail
      go_meet
      exact ⟨rfl, rfl⟩
    · have e : x * 2 = y := by rw [Hyx.out]; unfold vl; rw [if_neg (by omega)]; omega
      have E := Lib.hid e
      clear e
      go_wp2_with fail
      go_meet
      exact ⟨by rw [E.out], rfl⟩
  case rest =>
    obtain ⟨rfl, rfl⟩ := hcut
    by_cases hs : y / 32 = 0
    · obtain ⟨R, o, c, hR, hG, hg, hc⟩ := hT
      have hand := i64_and31 y (by omega)
      have hcell := hc (y % 32) (by omega)
      have e1 : nd x = [y % 32] := by unfold nd; rw [← Hyx.out]; exact digs_last _ _ hs
      have E1 := Lib.hid e1
      have hd : y % 32 < 32 := by omega
      have h0 : ((y : Int) / 32 == 0) = true := by simp; omega
      clear hc e1
      generalize y % 32 = d at *
      go_wp2_with (at_builtin; refine wpList_append_own_at _ rfl (.tmp 21) (.tmp 26) _ rfl base 5 i0 _ 1 1 Tryd.underlying72 hi0 hz0 hz1 hz2 rfl (by omega) v n xs rfl (hown.alloc _) ⟨w.heap.size, 0, none⟩ 1 1 [.int .u8 (sg d : Int)] rfl rfl (cell_one_new _ _ _) (by intro u hu; simp at hu; subst hu; rfl) (by unfold maxLen; omega) (by omega) (by simp; omega) ?_; intro v2 w2 hown2 hg2 hnil2 hat2; clear hnil2)
      go_ret
      refine ⟨v2, rfl, ?_⟩
      rw [E1.out]
      exact (App.nil hown).snoc (by simpa using hown2) hg2 (by simpa using hat2)
    · have h0 : ((y : Int) / 32 == 0) = false := by simp; omega
      go_wp2_with fail
      go_loopg [0, 5] 12 (fun f s0 s5 wr => ∃ (y1 : Nat) (l : List Nat), s5 = .int .i64 (y1 : Int) ∧ y1 < 2199023255553 ∧ y1 < 32 ^ (f + 1) ∧ nd x = l ++ digs f y1 0 ∧ App base n xs v w (sgc l) s0 wr)
      case atStart => exact ⟨y, [], rfl, hy, Nat.lt_of_lt_of_le hy (by decide), by unfold nd; rw [← Hyx.out]; rfl, App.nil hown⟩
      case round =>
        obtain ⟨y1, l, rfl, hy1, hp, hnd, henc⟩ := hrel
        have hll : l.length ≤ 13 := by have := nd_len x; rw [hnd] at this; simp at this; omega
        have Hnd := Lib.hid hnd
        have ho := henc.1
        rw [sgc_len] at ho
        have hbw : base ≤ wr.heap.size := Nat.le_trans hbase henc.2.1.size
        have hT2 : B64 B wr := hT.below (henc.below hown hB hbase)
        have HE := Lib.hid henc
        clear hnd henc hT
        obtain ⟨R, o, c, hR, hG, hg, hc⟩ := hT2
        have hand := i64_and31 y1 (by omega)
        by_cases hs1 : y1 / 32 = 0
        · have hcell := hc (y1 % 32) (by omega)
          have e1 : nd x = l ++ [y1 % 32] := by rw [Hnd.out, digs_last _ _ hs1]
          have E1 := Lib.hid e1
          have hd : y1 % 32 < 32 := by omega
          have h1 : ((y1 : Int) / 32 == 0) = true := by simp; omega
          have h2 : ((y1 : Int) / 32 != 0) = false := by simp; omega
          clear hc e1 Hnd
          generalize y1 % 32 = d at *
          go_wp2_with (at_builtin; refine wpList_append_own_at _ rfl (.tmp 37) (.tmp 42) _ rfl base 5 i0 _ 1 1 Tryd.underlying72 hi0 hz0 hz1 hz2 rfl (by omega) u0 (n + l.length) (xs ++ sgc l) rfl (ho.alloc _) ⟨wr.heap.size, 0, none⟩ 1 1 [.int .u8 (sg d : Int)] rfl rfl (cell_one_new _ _ _) (by intro u hu; simp at hu; subst hu; rfl) (by unfold maxLen; omega) (by omega) (by simp; omega) ?_; intro v2 w2 hown2 hg2 hnil2 hat2; clear hnil2)
          go_ret
          refine ⟨v2, rfl, ?_⟩
          rw [E1.out]
          rw [sgc_snoc]
          exact HE.out.snoc (by rw [sgc_len]; exact hown2) hg2 (by simpa using hat2)
        · obtain ⟨f, rfl⟩ : ∃ f, gk = f + 1 := by
            cases gk with
            | zero => simp at hp; omega
            | succ f => exact ⟨f, rfl⟩
          have hcell := hc (y1 % 32 + 32) (by omega)
          have hor := i64_or32 (y1 % 32) (by omega)
          have e1 : nd x = (l ++ [y1 % 32 + 32]) ++ digs f (y1 / 32) 0 := by rw [Hnd.out, digs_step _ _ hs1]; simp
          have E1 := Lib.hid e1
          have hd : y1 % 32 < 32 := by omega
          have h1 : ((y1 : Int) / 32 == 0) = false := by simp; omega
          have h2 : ((y1 : Int) / 32 != 0) = true := by simp; omega
          have hp1 : y1 / 32 < 32 ^ (f + 1) := by
            apply Nat.div_lt_of_lt_mul
            rw [Nat.pow_succ] at hp
            omega
          have HP := Lib.hid hp1
          clear hc e1 Hnd hp hp1
          generalize y1 % 32 = d at *
          generalize hdd : d + 32 = dd at *
          have hdl : dd < 64 := by omega
          have HDD := Lib.hid hdd
          clear hdd
          go_wp2_with (at_builtin; refine wpList_append_own_at _ rfl (.tmp 37) (.tmp 42) _ rfl base 5 i0 _ 1 1 Tryd.underlying72 hi0 hz0 hz1 hz2 rfl (by omega) u0 (n + l.length) (xs ++ sgc l) rfl (ho.alloc _) ⟨wr.heap.size, 0, none⟩ 1 1 [.int .u8 (sg dd : Int)] rfl rfl (cell_one_new _ _ _) (by intro u hu; simp at hu; subst hu; rfl) (by unfold maxLen; omega) (by omega) (by simp; omega) ?_; intro v2 w2 hown2 hg2 hnil2 hat2; clear hnil2)
          go_roundg f
          case measure => omega
          case rel => exact ⟨y1 / 32, l ++ [dd], by go_num, by omega, HP.out, E1.out, by rw [sgc_snoc]; exact HE.out.snoc (by rw [sgc_len]; exact hown2) hg2 (by simpa using hat2)⟩
end Go.Proofs.YtnokiikgnplpmaaDoor
namespace Go.Proofs.YtnokiikgnplpmaaDoor
open Go.RowKit

/-- A state: the generated line and column, the source, the original line and column, the name (it has none). -/
structure St where
  gl : Int
  gc : Int
  si : Int
  ol : Int
  oc : Int
  on : Int
def St.cells (s : St) : Array Value := #[.int .i64 s.gl, .int .i64 s.gc, .int .i64 s.si, .int .i64 s.ol, .int .i64 s.oc, .int .i64 s.on, .bool false]
def St.ok (s : St) : Prop := (-274877906944 < s.gl ∧ s.gl < 274877906944) ∧ (-274877906944 < s.gc ∧ s.gc < 274877906944) ∧ (-274877906944 < s.si ∧ s.si < 274877906944) ∧ (-274877906944 < s.ol ∧ s.ol < 274877906944) ∧ (-274877906944 < s.oc ∧ s.oc < 274877906944)

/-- Is there a comma behind this byte? -/
def comma (lb : Nat) : Bool := decide (lb ≠ 0 ∧ lb ≠ 59 ∧ lb ≠ 34)
/-- The comma's cell. -/
def cmc (lb : Nat) : List Value := if comma lb then [.int .u8 44] else []
/-- The cells of a mapping. -/
def segc (lb : Nat) (p c : St) : List Value := cmc lb ++ sgc (nd (c.gc - p.gc)) ++ sgc (nd (c.si - p.si)) ++ sgc (nd (c.ol - p.ol)) ++ sgc (nd (c.oc - p.oc))

theorem own_lt {w : World} {base e size n : Nat} {v : Value} {xs : List Value} (h : w.ownsRow base e size v n xs) {k : Nat} (hk : v.ownBlock = some k) : base ≤ k ∧ k < w.heap.size := by
  obtain ⟨_, h⟩ := h
  rcases h with ⟨rfl, _⟩ | ⟨g, cap, cur, rfl, hgb, hh, _⟩
  · simp [Value.ownBlock] at hk
  · simp [Value.ownBlock] at hk
    subst hk
    refine ⟨hgb, ?_⟩
    rcases Nat.lt_or_ge g w.heap.size with hlt | hge
    · exact hlt
    · rw [Array.getElem?_eq_none hge] at hh; cases hh

theorem cmc_len (lb : Nat) : (cmc lb).length ≤ 1 := by unfold cmc; split <;> simp
theorem segc_len (lb : Nat) (p c : St) : (segc lb p c).length ≤ 53 := by
  have h0 := cmc_len lb
  have h1 := nd_len (c.gc - p.gc)
  have h2 := nd_len (c.si - p.si)
  have h3 := nd_len (c.ol - p.ol)
  have h4 := nd_len (c.oc - p.oc)
  simp only [segc, List.length_append, sgc_len]
  omega

/-- A block is known whole. -/
def Blk (w : World) (g : Nat) (t : TypeId) (cs : Array Value) : Prop := w.heap[g]? = some (.cells cs t (0, 0))
theorem Blk.cell {w : World} {g : Nat} {t : TypeId} {cs : Array Value} (h : Blk w g t cs) (i : Nat) : w.cell? ⟨g, i, none⟩ = cs[i]? := cell_of_row w g i cs t (0, 0) h
theorem Blk.frozen {w : World} {g : Nat} {t : TypeId} {cs : Array Value} (h : Blk w g t cs) (i : Nat) : w.frozen? ⟨g, i, none⟩ = false := by
  unfold Blk at h
  simp [World.frozen?, h]
theorem Blk.lt {w : World} {g : Nat} {t : TypeId} {cs : Array Value} (h : Blk w g t cs) : g < w.heap.size := by
  rcases Nat.lt_or_ge g w.heap.size with hlt | hge
  · exact hlt
  · unfold Blk at h; rw [Array.getElem?_eq_none hge] at h; cases h
theorem Blk.kep {w w' : World} {g : Nat} {t : TypeId} {cs : Array Value} {X : Nat → Prop} (h : Blk w g t cs) (k : Kep X w w') (hx : ¬ X g) : Blk w' g t cs := (k.block g h.lt hx).trans h
theorem Blk.new (w : World) (t : TypeId) (cs : Array Value) : Blk (w.alloc (.cells cs t)) w.heap.size t cs := heap_alloc_new w _
theorem Blk.alloc {w : World} {g : Nat} {t : TypeId} {cs : Array Value} (h : Blk w g t cs) (o : Obj) : Blk (w.alloc o) g t cs := (Below.heap_alloc w o g h.lt).trans h
theorem Blk.drew {w : World} {g : Nat} {t : TypeId} {cs : Array Value} (h : Blk w g t cs) : Blk w.drew g t cs := h
theorem Blk.set_ {w : World} {g : Nat} {t : TypeId} {cs : Array Value} (h : Blk w g t cs) (i : Nat) (u : Value) : Blk (w.setCell ⟨g, i, none⟩ u) g t (cs.setIfInBounds i u) := by
  unfold Blk at h ⊢
  simp [World.setCell, Array.getElem?_modify, h]
theorem Blk.far {w : World} {g : Nat} {t : TypeId} {cs : Array Value} (h : Blk w g t cs) {p : Addr} (hp : g ≠ p.block) (u : Value) : Blk (w.setCell p u) g t cs := (Below.heap_setCell w p u g hp).trans h

/-- A store elsewhere, among blocks that were new to begin with. -/
theorem App.setCell {base n : Nat} {xs cs : List Value} {v v1 : Value} {w w0 w1 : World} {p : Addr} (h : App base n xs v w cs v1 w1) (hne : ¬ v.ownBlock = some p.block) (h0 : Below w0.heap.size w0 w) (hp : w0.heap.size ≤ p.block) (hp2 : p.block < w.heap.size) (u : Value) : App base n xs v w0 cs v1 (w1.setCell p u) := by
  obtain ⟨a1, a2, a3⟩ := h.after h0
  have ne1 : v1.ownBlock ≠ some p.block := by
    rcases h.2.2 with e | ⟨k, hk, e⟩
    · rw [e]; exact hne
    · rw [e]; intro q; injection q with q; omega
  exact ⟨ownsRow_setCell_other a1 ne1 u, a2.setCell (.inr hp) u, a3⟩

set_option maxHeartbeats 2000000 in
set_option maxRecDepth 100000 in
theorem mapping_any (v : Value) (n : Nat) (xs : List Value) (lb : Nat) (p c : St) (B base : Nat) (w : World) (hT : B64 B w) (hown : w.ownsRow base 5 1 v n xs) (hbase : base ≤ w.heap.size) (hB : B ≤ base) (hn : n ≤ 549755813888)
    (hp : p.ok) (hc : c.ok) :
    Calls Tryd.prog 53 #[v, .int .u8 (lb : Int), .agg p.cells, .agg c.cells, .bool false] w fun e w' => ∃ v', e = .returned (.tuple #[v', .agg #[.int .u32 0]]) ∧ App base n xs v w (segc lb p c) v' w' := by
  obtain ⟨i0, hi0, hz0, hz1, hz2⟩ := info_parts info_u8
  obtain ⟨pgl, pgc, psi, pol, poc, pon⟩ := p
  obtain ⟨cgl, cgc, csi, col, coc, con⟩ := c
  obtain ⟨⟨p1, p2⟩, ⟨p3, p4⟩, ⟨p5, p6⟩, ⟨p7, p8⟩, ⟨p9, p10⟩⟩ := hp
  obtain ⟨⟨c1, c2⟩, ⟨c3, c4⟩, ⟨c5, c6⟩, ⟨c7, c8⟩, ⟨c9, c10⟩⟩ := hc
  simp only at p1 p2 p3 p4 p5 p6 p7 p8 p9 p10 c1 c2 c3 c4 c5 c6 c7 c8 c9 c10
  clear p1 p2 c1 c2
  show Calls Tryd.prog 53 #[v, .int .u8 (lb : Int), .agg #[.int .i64 pgl, .int .i64 pgc, .int .i64 psi, .int .i64 pol, .int .i64 poc, .int .i64 pon, .bool false], .agg #[.int .i64 cgl, .int .i64 cgc, .int .i64 csi, .int .i64 col, .int .i64 coc, .int .i64 con, .bool false], .bool false] w _
  go_enter Tryd.func53, Tryd.ntmps53
  go_upto_region 1 with fail
  have bP : Blk (((w.alloc (.cells #[.int .i64 pgl, .int .i64 pgc, .int .i64 psi, .int .i64 pol, .int .i64 poc, .int .i64 pon, .bool false] 77)).alloc (.cells #[.int .i64 cgl, .int .i64 cgc, .int .i64 csi, .int .i64 col, .int .i64 coc, .int .i64 con, .bool false] 77)).alloc (.cells #[.int .u32 0] 82)) w.heap.size 77 _ := ((Blk.new _ _ _).alloc _).alloc _
  have bC : Blk (((w.alloc (.cells #[.int .i64 pgl, .int .i64 pgc, .int .i64 psi, .int .i64 pol, .int .i64 poc, .int .i64 pon, .bool false] 77)).alloc (.cells #[.int .i64 cgl, .int .i64 cgc, .int .i64 csi, .int .i64 col, .int .i64 coc, .int .i64 con, .bool false] 77)).alloc (.cells #[.int .u32 0] 82)) (w.heap.size + 1) 77 _ := (by simpa using (Blk.new (w.alloc (.cells #[.int .i64 pgl, .int .i64 pgc, .int .i64 psi, .int .i64 pol, .int .i64 poc, .int .i64 pon, .bool false] 77)) 77 #[.int .i64 cgl, .int .i64 cgc, .int .i64 csi, .int .i64 col, .int .i64 coc, .int .i64 con, .bool false]).alloc (.cells #[.int .u32 0] 82))
  have bR : Blk (((w.alloc (.cells #[.int .i64 pgl, .int .i64 pgc, .int .i64 psi, .int .i64 pol, .int .i64 poc, .int .i64 pon, .bool false] 77)).alloc (.cells #[.int .i64 cgl, .int .i64 cgc, .int .i64 csi, .int .i64 col, .int .i64 coc, .int .i64 con, .bool false] 77)).alloc (.cells #[.int .u32 0] 82)) (w.heap.size + 1 + 1) 82 #[.int .u32 0] := (by simpa using Blk.new ((w.alloc (.cells #[.int .i64 pgl, .int .i64 pgc, .int .i64 psi, .int .i64 pol, .int .i64 poc, .int .i64 pon, .bool false] 77)).alloc (.cells #[.int .i64 cgl, .int .i64 cgc, .int .i64 csi, .int .i64 col, .int .i64 coc, .int .i64 con, .bool false] 77)) 82 #[.int .u32 0])
  have bW : Below w.heap.size w (((w.alloc (.cells #[.int .i64 pgl, .int .i64 pgc, .int .i64 psi, .int .i64 pol, .int .i64 poc, .int .i64 pon, .bool false] 77)).alloc (.cells #[.int .i64 cgl, .int .i64 cgc, .int .i64 csi, .int .i64 col, .int .i64 coc, .int .i64 con, .bool false] 77)).alloc (.cells #[.int .u32 0] 82)) := balloc (balloc (balloc (Below.refl _ _) _) _) _
  have hoW := ((hown.alloc (.cells #[.int .i64 pgl, .int .i64 pgc, .int .i64 psi, .int .i64 pol, .int .i64 poc, .int .i64 pon, .bool false] 77)).alloc (.cells #[.int .i64 cgl, .int .i64 cgc, .int .i64 csi, .int .i64 col, .int .i64 coc, .int .i64 con, .bool false] 77)).alloc (.cells #[.int .u32 0] 82)
  have zW : (((w.alloc (.cells #[.int .i64 pgl, .int .i64 pgc, .int .i64 psi, .int .i64 pol, .int .i64 poc, .int .i64 pon, .bool false] 77)).alloc (.cells #[.int .i64 cgl, .int .i64 cgc, .int .i64 csi, .int .i64 col, .int .i64 coc, .int .i64 con, .bool false] 77)).alloc (.cells #[.int .u32 0] 82)).heap.size = w.heap.size + 3 := by simp
  generalize ((w.alloc (.cells #[.int .i64 pgl, .int .i64 pgc, .int .i64 psi, .int .i64 pol, .int .i64 poc, .int .i64 pon, .bool false] 77)).alloc (.cells #[.int .i64 cgl, .int .i64 cgc, .int .i64 csi, .int .i64 col, .int .i64 coc, .int .i64 con, .bool false] 77)).alloc (.cells #[.int .u32 0] 82) = W0 at *
  have HZ := Lib.hid zW
  have zW1 : w.heap.size + 2 < W0.heap.size := by omega
  clear zW
  have hTW : B64 B W0 := hT.below (bW.mono (by omega))
  have neP : ¬ (v.ownBlock = some w.heap.size) := fun e => by have := own_lt hown e; omega
  have neC : ¬ (v.ownBlock = some (w.heap.size + 1)) := fun e => by have := own_lt hown e; omega
  have neR : ¬ (v.ownBlock = some (w.heap.size + 1 + 1)) := fun e => by have := own_lt hown e; omega
  clear hT
  go_cut [22] (fun s22 wx => s22 = .bool (comma lb) ∧ W0 = wx)
  case first =>
    rcases (show lb = 0 ∨ lb = 59 ∨ lb = 34 ∨ (lb ≠ 0 ∧ lb ≠ 59 ∧ lb ≠ 34) by omega) with rfl | rfl | rfl | ⟨h1, h2, h3⟩
    · go_wp2_with fail
      go_meet
      exact ⟨rfl, rfl⟩
    · go_wp2_with fail
      go_meet
      exact ⟨rfl, rfl⟩
    · go_wp2_with fail
      go_meet
      exact ⟨rfl, rfl⟩
    · have hcm : comma lb = true := by simp [comma, h1, h2, h3]
      have e1 : ((lb : Int) != 0) = true := by simp; omega
      have e2 : ((lb : Int) != 59) = true := by simp; omega
      have e3 : ((lb : Int) != 34) = true := by simp; omega
      have HC := Lib.hid hcm
      clear hcm h1 h2 h3
      go_wp2_with fail
      go_meet
      exact ⟨by rw [HC.out], rfl⟩
  case rest =>
    obtain ⟨rfl, rfl⟩ := hcut
    go_upto_if 22 with fail
    go_cut [0] (fun s0 wx => App base n xs v W0 (cmc lb) s0 wx)
    case first =>
      rcases hcm : comma lb with _ | _
      · have HC := Lib.hid hcm
        clear hcm
        go_wp2_with fail
        go_meet
        unfold cmc
        rw [HC.out]
        exact App.nil hoW
      · have HC := Lib.hid hcm
        clear hcm
        go_wp2_with (at_builtin; refine wpList_append_own_at _ rfl (.tmp 23) (.tmp 24) _ rfl base 5 i0 _ 1 1 Tryd.underlying72 hi0 hz0 hz1 hz2 rfl (by omega) v n xs rfl (hoW.alloc _) ⟨W0.heap.size, 0, none⟩ 1 1 [.int .u8 44] rfl rfl (cell_one_new _ _ _) (by intro u hu; simp at hu; subst hu; rfl) (by unfold maxLen; omega) (by omega) (by simp; omega) ?_; intro v2 w2 hown2 hg2 hnil2 hat2; clear hnil2)
        go_meet
        unfold cmc
        rw [HC.out]
        exact (App.nil hoW).snoc (by simpa using hown2) hg2 (by simpa using hat2)
    case rest =>
    obtain ⟨w0, hw0⟩ : ∃ w0, w0 = wc := ⟨_, rfl⟩
    obtain ⟨v0, hv0⟩ : ∃ v0, v0 = u0 := ⟨_, rfl⟩
    rw [← hw0, ← hv0] at hcut
    rw [← hw0, ← hv0]
    clear hw0 hv0
    have A0 : App base n xs v W0 (cmc lb) v0 w0 := hcut
    clear hcut
    have hm0 : (cmc lb).length ≤ 1 := by have h0 := cmc_len lb; omega
    have ho0 := A0.1
    have hT0 : B64 B w0 := hTW.below (A0.below hoW hB (by omega))
    have hs0 : W0.heap.size ≤ w0.heap.size := A0.2.1.size
    have c0 : w0.cell? ⟨w.heap.size + 1, 1, none⟩ = some (.int .i64 cgc) := (bC.kep A0.2.1 neC).cell 1
    have d0 : w0.cell? ⟨w.heap.size, 1, none⟩ = some (.int .i64 pgc) := (bP.kep A0.2.1 neP).cell 1
    have HA0 := Lib.hid A0
    clear A0
    go_wp2_with fail
    refine (encode_any v0 (n + (cmc lb).length) (xs ++ (cmc lb)) _ B base _ hT0 ho0 (by omega) hB (by omega) (by omega) (by omega)).mono ?_
    rintro e w1 ⟨v1, rfl, ha1⟩
    have A1 := HA0.out.trans ha1
    clear ho0 hT0 hs0 c0 d0 HA0 ha1
    have hm1 : (cmc lb ++ sgc (nd (cgc - pgc))).length ≤ 14 := by have h0 := cmc_len lb; have h1 := nd_len (cgc - pgc); simp only [List.length_append, sgc_len]; omega
    have ho1 := A1.1
    have hT1 : B64 B w1 := hTW.below (A1.below hoW hB (by omega))
    have hs1 : W0.heap.size ≤ w1.heap.size := A1.2.1.size
    have c1 : w1.cell? ⟨w.heap.size + 1, 2, none⟩ = some (.int .i64 csi) := (bC.kep A1.2.1 neC).cell 2
    have d1 : w1.cell? ⟨w.heap.size, 2, none⟩ = some (.int .i64 psi) := (bP.kep A1.2.1 neP).cell 2
    have HA1 := Lib.hid A1
    clear A1
    go_wp2_with fail
    refine (encode_any v1 (n + (cmc lb ++ sgc (nd (cgc - pgc))).length) (xs ++ (cmc lb ++ sgc (nd (cgc - pgc)))) _ B base _ hT1 ho1 (by omega) hB (by omega) (by omega) (by omega)).mono ?_
    rintro e w2 ⟨v2, rfl, ha2⟩
    have A2 := HA1.out.trans ha2
    clear ho1 hT1 hs1 c1 d1 HA1 ha2
    have hm2 : (cmc lb ++ sgc (nd (cgc - pgc)) ++ sgc (nd (csi - psi))).length ≤ 27 := by have h0 := cmc_len lb; have h1 := nd_len (cgc - pgc); have h2 := nd_len (csi - psi); simp only [List.length_append, sgc_len]; omega
    have ho2 := A2.1
    have hT2 : B64 B w2 := hTW.below (A2.below hoW hB (by omega))
    have hs2 : W0.heap.size ≤ w2.heap.size := A2.2.1.size
    have c2 : w2.cell? ⟨w.heap.size + 1, 3, none⟩ = some (.int .i64 col) := (bC.kep A2.2.1 neC).cell 3
    have d2 : w2.cell? ⟨w.heap.size, 3, none⟩ = some (.int .i64 pol) := (bP.kep A2.2.1 neP).cell 3
    have HA2 := Lib.hid A2
    clear A2
    go_wp2_with fail
    refine (encode_any v2 (n + (cmc lb ++ sgc (nd (cgc - pgc)) ++ sgc (nd (csi - psi))).length) (xs ++ (cmc lb ++ sgc (nd (cgc - pgc)) ++ sgc (nd (csi - psi)))) _ B base _ hT2 ho2 (by omega) hB (by omega) (by omega) (by omega)).mono ?_
    rintro e w3 ⟨v3, rfl, ha3⟩
    have A3 := HA2.out.trans ha3
    clear ho2 hT2 hs2 c2 d2 HA2 ha3
    have hm3 : (cmc lb ++ sgc (nd (cgc - pgc)) ++ sgc (nd (csi - psi)) ++ sgc (nd (col - pol))).length ≤ 40 := by have h0 := cmc_len lb; have h1 := nd_len (cgc - pgc); have h2 := nd_len (csi - psi); have h3 := nd_len (col - pol); simp only [List.length_append, sgc_len]; omega
    have ho3 := A3.1
    have hT3 : B64 B w3 := hTW.below (A3.below hoW hB (by omega))
    have hs3 : W0.heap.size ≤ w3.heap.size := A3.2.1.size
    have c3 : w3.cell? ⟨w.heap.size + 1, 4, none⟩ = some (.int .i64 coc) := (bC.kep A3.2.1 neC).cell 4
    have d3 : w3.cell? ⟨w.heap.size, 4, none⟩ = some (.int .i64 poc) := (bP.kep A3.2.1 neP).cell 4
    have HA3 := Lib.hid A3
    clear A3
    go_wp2_with fail
    refine (encode_any v3 (n + (cmc lb ++ sgc (nd (cgc - pgc)) ++ sgc (nd (csi - psi)) ++ sgc (nd (col - pol))).length) (xs ++ (cmc lb ++ sgc (nd (cgc - pgc)) ++ sgc (nd (csi - psi)) ++ sgc (nd (col - pol)))) _ B base _ hT3 ho3 (by omega) hB (by omega) (by omega) (by omega)).mono ?_
    rintro e w4 ⟨v4, rfl, ha4⟩
    have A4 := HA3.out.trans ha4
    clear ho3 hT3 hs3 c3 d3 HA3 ha4
    have e6 : w4.cell? ⟨w.heap.size + 1, 6, none⟩ = some (.bool false) := (bC.kep A4.2.1 neC).cell 6
    have bR4 := bR.kep A4.2.1 neR
    have r0 : w4.cell? ⟨w.heap.size + 1 + 1, 0, none⟩ = some (.int .u32 0) := bR4.cell 0
    have r1 : w4.frozen? ⟨w.heap.size + 1 + 1, 0, none⟩ = false := bR4.frozen 0
    have hs4 : W0.heap.size ≤ w4.heap.size := A4.2.1.size
    have z4 : w.heap.size + 1 + 1 < w4.heap.size := by omega
    have z5 : w.heap.size + 1 < w4.heap.size := by omega
    have HA4 := Lib.hid A4
    have HB4 := Lib.hid bR4
    clear A4 bR4
    go_wp2_with fail
    go_region
    all_goals go_wp2_with fail
    all_goals refine bodyPost_ret (v := .tuple #[v4, .agg #[.int .u32 0]]) (by simp [results, Tryd.results53, go_sem, r0, z4]) rfl ⟨v4, rfl, ?_⟩
    all_goals exact ((HA4.out.setCell (p := ⟨w.heap.size + 1 + 1, 0, none⟩) neR bW (by show w.heap.size ≤ w.heap.size + 1 + 1; omega) (by show w.heap.size + 1 + 1 < W0.heap.size; omega) _).alloc _).drew
end Go.Proofs.YtnokiikgnplpmaaDoor
namespace Go.Proofs.YtnokiikgnplpmaaDoor
open Go.RowKit

theorem heap_setCells (g : Nat) : ∀ (vs : List Value) (o : Nat) (w : World) (k : Nat), k ≠ g → (w.setCells g o vs).heap[k]? = w.heap[k]?
  | [], _, _, _, _ => rfl
  | v :: r, o, w, k, h => by rw [World.setCells, heap_setCells g r (o + 1) _ k h]; exact Below.heap_setCell w ⟨g, o, none⟩ v k h
theorem size_setCells (g : Nat) : ∀ (vs : List Value) (o : Nat) (w : World), (w.setCells g o vs).heap.size = w.heap.size
  | [], _, _ => rfl
  | v :: r, o, w => by rw [World.setCells, size_setCells g r (o + 1) _, World.size_setCell]
theorem rest_setCells (g : Nat) : ∀ (vs : List Value) (o : Nat) (w : World), (w.setCells g o vs).os = w.os ∧ (w.setCells g o vs).tape = w.tape ∧ (w.setCells g o vs).output = w.output
  | [], _, _ => ⟨rfl, rfl, rfl⟩
  | v :: r, o, w => by rw [World.setCells]; exact rest_setCells g r (o + 1) _
theorem Kep.setCells {X : Nat → Prop} {a w : World} (h : Kep X a w) {g : Nat} (hp : X g ∨ a.heap.size ≤ g) (o : Nat) (vs : List Value) : Kep X a (w.setCells g o vs) := by
  obtain ⟨r1, r2, r3⟩ := rest_setCells g vs o w
  exact ⟨r1.trans h.os, r2.trans h.tape, r3.trans h.output, by rw [size_setCells]; exact h.size, fun k hk hx => (heap_setCells g vs o w k (by rintro rfl; rcases hp with q | q; exact hx q; omega)).trans (h.block k hk hx)⟩
theorem Blk.setCells {g : Nat} {t : TypeId} : ∀ (vs : List Value) (o : Nat) (w : World) (cs : Array Value), Blk w g t cs → o + vs.length ≤ cs.size → ∃ cs', Blk (w.setCells g o vs) g t cs' ∧ cs'.toList = cs.toList.take o ++ vs ++ cs.toList.drop (o + vs.length)
  | [], o, w, cs, h, _ => ⟨cs, h, by simp⟩
  | v :: r, o, w, cs, h, hs => by
    have hs' : o + (r.length + 1) ≤ cs.size := by simpa using hs
    obtain ⟨cs', h1, h2⟩ := Blk.setCells r (o + 1) _ _ (h.set_ o v) (by rw [Array.size_setIfInBounds]; omega)
    refine ⟨cs', h1, ?_⟩
    rw [h2, Array.toList_setIfInBounds]
    have e1 : List.take (o + 1) (cs.toList.set o v) = cs.toList.take o ++ [v] := by
      rw [List.take_succ_eq_append_getElem (by simp; omega), List.take_set_of_le (Nat.le_refl _)]
      simp
    have e2 : List.drop (o + 1 + r.length) (cs.toList.set o v) = cs.toList.drop (o + (v :: r).length) := by
      rw [List.drop_set_of_lt (by omega)]
      congr 1
      simp
      omega
    rw [e1, e2]
    simp
theorem Blk.setAll {w : World} {g : Nat} {t : TypeId} {cs0 : Array Value} (h : Blk w g t cs0) (cs : Array Value) (hz : cs.size = cs0.size) : Blk (w.setCells g 0 cs.toList) g t cs := by
  obtain ⟨cs', h1, h2⟩ := Blk.setCells cs.toList 0 w cs0 h (by simp; omega)
  have : cs' = cs := by
    apply Array.ext'
    rw [h2]
    have : List.drop (0 + cs.toList.length) cs0.toList = [] := by
      rw [List.drop_eq_nil_iff]
      simp
      omega
    rw [this]
    simp
  rw [← this]
  rw [this] at h1 ⊢
  exact h1
theorem Blk.there {w : World} {g : Nat} {t : TypeId} {cs : Array Value} (h : Blk w g t cs) (o n : Nat) (hn : o + n ≤ cs.size) : w.there g o n := fun j hj => by
  refine ⟨?_, h.frozen _⟩
  rw [h.cell, Array.getElem?_eq_getElem (by omega)]
  rfl

/-- A whole struct is stored into a block that is known whole. -/
theorem wpList_store_blk {P : Program} {ops : Array Oper} {rest : List Oper} {op : Oper} {a : Act} {w : World} {Q : Exit → Act → World → Prop} (hgd : op.guard = none) (ty : TypeId) (x y : Operand) (ho : op.op = .store ty x y)
    (g : Nat) (t : TypeId) (cs0 cs : Array Value) (hx : a.eval x = .pointer (some ⟨g, 0, none⟩)) (hy : a.eval y = .agg cs) (hb : Blk w g t cs0) (hz : cs.size = cs0.size) (hi : (P.info? ty).map (·.size) = some cs.size) (h1 : cs.all (·.oneCell') = true)
    (h : ∀ w' : World, Blk w' g t cs → Kep (fun k => k = g) w w' → w'.heap.size = w.heap.size → wpList P ops Q rest (a.put op.dst undef) w') : wpList P ops Q (op :: rest) a w :=
  wpList_store_mid hgd ty x y ho g 0 cs hx hy (hb.there 0 cs.size (by omega)) hi h1 (h _ (hb.setAll cs hz) ((Kep.refl (fun k => k = g) w).setCells (.inl rfl) 0 _) (size_setCells g _ 0 w))
theorem own_kep {X : Nat → Prop} {w w' : World} {base : Nat} {e : TypeId} {size : Nat} {v : Value} {n : Nat} {xs : List Value} (h : w.ownsRow base e size v n xs) (k : Kep X w w') (hx : ∀ g, v.ownBlock = some g → ¬ X g) : w'.ownsRow base e size v n xs := by
  obtain ⟨h1, h2⟩ := h
  refine ⟨h1, ?_⟩
  rcases h2 with h2 | ⟨g, cap, cur, rfl, h3, h4, h5⟩
  · exact .inl h2
  · have hlt : g < w.heap.size := (Array.getElem?_eq_some_iff.1 h4).1
    exact .inr ⟨g, cap, cur, rfl, h3, (k.block g hlt (hx g rfl)).trans h4, h5⟩
end Go.Proofs.YtnokiikgnplpmaaDoor
namespace Go.Proofs.YtnokiikgnplpmaaDoor
open Go.RowKit

theorem cell_lt' {w : World} {p : Addr} {v : Value} (h : w.cell? p = some v) : p.block < w.heap.size := by
  rcases Nat.lt_or_ge p.block w.heap.size with h1 | h1
  · exact h1
  · simp [World.cell?, Array.getElem?_eq_none h1] at h
theorem heap_new2 (w : World) (o p : Obj) : ((w.alloc o).alloc p).heap[w.heap.size + 1]? = some p := by
  have h := heap_alloc_new (w.alloc o) p
  rw [show (w.alloc o).heap.size = w.heap.size + 1 by simp] at h
  exact h
theorem own_below {w w' : World} {base : Nat} {e : TypeId} {size : Nat} {v : Value} {n : Nat} {xs : List Value} (h : w.ownsRow base e size v n xs) (hb : Below w.heap.size w w') : w'.ownsRow base e size v n xs :=
  own_kep h (Kep.of_below (X := fun _ => False) hb) (fun _ _ q => q)
theorem Blk.below {w w' : World} {g : Nat} {t : TypeId} {cs : Array Value} (h : Blk w g t cs) (hb : Below w.heap.size w w') : Blk w' g t cs := h.kep (Kep.of_below (X := fun _ => False) hb) (fun q => q)
theorem Blk.grown {w w' : World} {g : Nat} {t : TypeId} {cs : Array Value} {row : Option Nat} (h : Blk w g t cs) (hg : w.grownBy w' row) (hr : row ≠ some g) : Blk w' g t cs := (hg.block g h.lt (fun e => hr e.symm)).trans h
/-- What was made behind base is not below it. -/
theorem own_ge {w : World} {base : Nat} {e : TypeId} {size : Nat} {v : Value} {n : Nat} {xs : List Value} (h : w.ownsRow base e size v n xs) {g : Nat} (hg : g < base) : v.ownBlock ≠ some g := fun q => by have := (h.lt _ q).1; omega
theorem below_grown {a w w' : World} {B : Nat} {row : Option Nat} (h : Below B a w) (hB : B ≤ a.heap.size) (hg : w.grownBy w' row) (hr : ∀ k, row = some k → B ≤ k) : Below B a w' :=
  ⟨hg.os.trans h.os, hg.tape.trans h.tape, hg.output.trans h.output, Nat.le_trans h.size hg.size, fun k hk => (hg.block k (by have := h.size; omega) (fun q => by have := hr k q.symm; omega)).trans (h.block k hk)⟩
theorem below_drewN {a w : World} {B : Nat} (h : Below B a w) (q : Nat) : Below B a (w.drewN q) := ⟨h.os, h.tape, h.output, h.size, h.block⟩
end Go.Proofs.YtnokiikgnplpmaaDoor
namespace Go.Proofs.YtnokiikgnplpmaaDoor
open Go.RowKit

theorem run_append_own_src {P : Program} (w : World) (base : Nat) (t tx ty e : TypeId) (i : TypeInfo) (z : Value) (size bytes : Nat) (ht : P.underlying t = some (.slice e)) (hi : P.info? e = some i) (hz : i.zero = some z)
    (hsize : i.size = size) (hby : i.bytes = bytes) (hzs : z.cells.size = size) (hsz : 0 < size) (v : Value) (n : Nat) (xs : List Value) (hown : w.ownsRow base e size v n xs)
    (x : Value) (m : Nat) (news : List Value) (hs : Src P size tx x m news w) (h63 : n + m ≤ maxLen) (hbytes : (n + m) * bytes ≤ 140737488355328) (hbase : base ≤ w.heap.size) :
    ∃ v' w', (Builtin.append_ #[t, tx] ty #[v, x]).run P w = .ok v' w' ∧ w'.ownsRow base e size v' (n + m) (xs ++ news) ∧ w.grownBy w' v.ownBlock ∧ (v'.ownBlock = v.ownBlock ∨ v'.ownBlock = some w.heap.size) := by
  subst hsize
  subst hby
  have h64 : n + m ≤ 9223372036854775807 := by simp only [maxLen] at h63; omega
  have hlen : (xs ++ news).length = (n + m) * i.size := by rw [List.length_append, hown.1, hs.newsLen, Nat.add_mul]
  have hnew : ∀ old : Nat, old < n + m → (w.drew.alloc (.cells ((xs ++ news).toArray ++ Builtin.zeroCells z.cells (grownCap w (n + m) old e - (n + m))) e)).ownsRow base e i.size (.slice (some ⟨w.heap.size, 0, none⟩) (n + m) (grownCap w (n + m) old e)) (n + m) (xs ++ news) := by
    intro old _
    have h1 := grownCap_ge w (n + m) old e
    refine ⟨hlen, .inr ⟨w.heap.size, _, _, rfl, hbase, heap_alloc_new w.drew _, h1, grownCap_le_maxLen w (n + m) old e h63, ?_, ?_⟩⟩
    · simp only [Array.size_append, List.size_toArray, size_zeroCells, hzs]
      rw [hlen, ← Nat.add_mul]
      congr 1
      omega
    · rw [Array.toList_append, ← hlen]
      exact List.take_left
  have hgrw : ∀ (o : Obj) (row : Option Nat), w.grownBy (w.drew.alloc o) row := fun o row => ⟨rfl, rfl, rfl, by simp, fun k hk _ => Below.heap_alloc w.drew _ k hk⟩
  rcases hown.2 with ⟨rfl, rfl⟩ | ⟨g, cap, cur, rfl, hbg, hg, hnc, hcm, hcs, htake⟩
  · have hx : xs = [] := List.eq_nil_of_length_eq_zero (by simpa using hown.1)
    subst hx
    by_cases hm : m = 0
    · subst hm
      have hn : news = [] := List.eq_nil_of_length_eq_zero (by simpa using hs.newsLen)
      subst hn
      exact ⟨.slice none 0 0, w, run_append_nothing w t tx ty e i ht hi none 0 0 (Nat.le_refl _) x hs, World.ownsRow_nil w base e i.size, ⟨rfl, rfl, rfl, Nat.le_refl _, fun _ _ _ => rfl⟩, .inl rfl⟩
    · have hr := run_append_grow_src (P := P) w t tx ty e i z ht hi hz none 0 0 [] (run_firstCells_none w.drew i.size 0 0 0) x m news hs (by omega) (by omega) (growslice_fits (by omega) hbytes)
      have := hnew 0 (by omega)
      simp only [Nat.zero_add, List.nil_append] at this hr ⊢
      exact ⟨_, _, hr, this, hgrw _ _, .inr rfl⟩
  · by_cases hroom : n + m ≤ cap
    · have hb : Blk w g e cur := hg
      have hfit : n * i.size + news.length ≤ cur.size := by rw [hs.newsLen, hcs, ← Nat.add_mul]; exact Nat.mul_le_mul_right _ hroom
      have hr := run_append_room_src (P := P) w t tx ty e i ht hi g 0 n cap x m news hs hroom (fun j hj => by rw [Nat.zero_add, hb.cell, Array.getElem?_eq_getElem (by omega)]; rfl) (fun j _ => hb.frozen _)
      rw [Nat.zero_add] at hr
      obtain ⟨cs', h1, h2⟩ := Blk.setCells news (n * i.size) w cur hb hfit
      refine ⟨_, _, hr, ⟨hlen, .inr ⟨g, cap, cs', rfl, hbg, h1, hroom, hcm, ?_, ?_⟩⟩, ?_, .inl rfl⟩
      · rw [← Array.length_toList, h2]
        simp only [List.length_append, List.length_take, List.length_drop, Array.length_toList]
        omega
      · rw [h2, htake, ← hlen]
        exact List.take_left
      · obtain ⟨r1, r2, r3⟩ := rest_setCells g news (n * i.size) w
        exact ⟨r1, r2, r3, by rw [size_setCells]; exact Nat.le_refl _, fun k _ hk => heap_setCells g news _ w k (fun q => hk (by simp [Value.ownBlock, q]))⟩
    · have hold := run_firstCells_some (P := P) w.drew i.size n ⟨g, 0, none⟩ n cap xs hown.1 (fun j u hj => (hown.cells (g := g) rfl j u hj))
      have hr := run_append_grow_src (P := P) w t tx ty e i z ht hi hz (some ⟨g, 0, none⟩) n cap xs hold x m news hs (by omega) (by omega) (growslice_fits (by omega) hbytes)
      exact ⟨_, _, hr, hnew cap (by omega), hgrw _ _, .inr rfl⟩

/-- At the operation, for the walk. -/
theorem wpList_append_own_src {P : Program} (w : World) {ops : Array Oper} {rest : List Oper} {o : Oper} {a : Act} {Q : Exit → Act → World → Prop} (hgd : o.guard = none) (s x : Operand) (t tx : TypeId)
    (ho : o.op = .call { callee := .builtin .append, args := #[s, x], argTypes := #[t, tx] })
    (base : Nat) (e : TypeId) (i : TypeInfo) (z : Value) (size bytes : Nat) (ht : P.underlying t = some (.slice e)) (hi : P.info? e = some i) (hz : i.zero = some z)
    (hsize : i.size = size) (hby : i.bytes = bytes) (hzs : z.cells.size = size) (hsz : 0 < size) (v : Value) (n : Nat) (xs : List Value) (hs : a.eval s = v) (hown : w.ownsRow base e size v n xs)
    (xv : Value) (m : Nat) (news : List Value) (hx : a.eval x = xv) (hsrc : Src P size tx xv m news w) (h63 : n + m ≤ maxLen) (hbytes : (n + m) * bytes ≤ 140737488355328) (hbase : base ≤ w.heap.size)
    (h : ∀ v' w', w'.ownsRow base e size v' (n + m) (xs ++ news) → w.grownBy w' v.ownBlock → (v'.ownBlock = v.ownBlock ∨ v'.ownBlock = some w.heap.size) → wpList P ops Q rest (a.put o.dst v') w') :
    wpList P ops Q (o :: rest) a w := by
  refine wpList_plain hgd fun K hK => ?_
  obtain ⟨v', w', hr, h2, h3, h4⟩ := run_append_own_src (P := P) w base t tx o.type e i z size bytes ht hi hz hsize hby hzs hsz v n xs hown xv m news hsrc h63 hbytes hbase
  unfold Oper.wp execOp
  simp only [ho, resolve, invoke, builtin, Sem.run_bind, Sem.run_pure, Result.andThen_ok, List.map_toArray, List.map_cons, List.map_nil, hs, hx, hr]
  exact hK _ _ (h v' w' h2 h3 h4)
end Go.Proofs.YtnokiikgnplpmaaDoor
namespace Go.Proofs.YtnokiikgnplpmaaDoor

/-- A mapping. -/
structure Seg where
  l : Int
  c : Int
  s : Int
  fl : Int
  fc : Int
  nm : Int
  nd : Bool
/-- Its cells. -/
def Seg.cells (x : Seg) : List Value := [.int .i64 x.l, .int .i64 x.c, .int .i64 x.s, .int .i64 x.fl, .int .i64 x.fc, .int .i64 x.nm, .bool x.nd]
def sgs (l : List Seg) : List Value := l.flatMap Seg.cells
theorem Seg.cells_len (x : Seg) : x.cells.length = 7 := rfl
theorem sgs_len (l : List Seg) : (sgs l).length = l.length * 7 := by
  induction l with
  | nil => rfl
  | cons x l ih => simp [sgs, Seg.cells] at ih ⊢; omega
theorem sgs_snoc (l : List Seg) (x : Seg) : sgs (l ++ [x]) = sgs l ++ x.cells := by simp [sgs]
theorem sgs_at (l : List Seg) (i j : Nat) (hi : i < l.length) (hj : j < 7) : (sgs l)[i * 7 + j]? = (l[i]).cells[j]? := by
  induction l generalizing i with
  | nil => simp at hi
  | cons x l ih =>
    have e : sgs (x :: l) = x.cells ++ sgs l := by simp [sgs]
    rw [e]
    cases i with
    | zero =>
      rw [Nat.zero_mul, Nat.zero_add, List.getElem?_append_left (by rw [Seg.cells_len]; exact hj)]
      rfl
    | succ i =>
      rw [List.getElem?_append_right (by rw [Seg.cells_len]; omega), Seg.cells_len, show (i + 1) * 7 + j - 7 = i * 7 + j by omega]
      exact ih i (by simpa using hi)

/-- The column of a place that lies so far behind another one. -/
def sumC (b c d : Int) : Int := if c = 0 then b + d else d
/-- How far a mapping lies behind the one before. -/
def farL (Z : Nat → Nat → Int) (i : Nat) : Int := Z i 0 % 3
def farC (Z : Nat → Nat → Int) (i : Nat) : Int := if (Z i 0 % 3 = 0 ∧ Z i 1 % 1000 = 0) ∧ 0 < i then 1 else Z i 1 % 1000
/-- The place behind i steps. -/
def atP (Z : Nat → Nat → Int) : Nat → Int × Int
  | 0 => (0, 0)
  | i + 1 => ((atP Z i).1 + farL Z i, sumC (atP Z i).2 (farL Z i) (farC Z i))
def segOf (Z : Nat → Nat → Int) (i : Nat) : Seg := ⟨(atP Z (i + 1)).1, (atP Z (i + 1)).2, Z i 2 % 100, Z i 3 % 10000, Z i 4 % 10000, 0, false⟩
def risL (Z : Nat → Nat → Int) (n : Nat) : List Seg := (List.range n).map (segOf Z)
theorem risL_succ (Z : Nat → Nat → Int) (n : Nat) : risL Z (n + 1) = risL Z n ++ [segOf Z n] := by simp [risL, List.range_succ]
theorem risL_len (Z : Nat → Nat → Int) (n : Nat) : (risL Z n).length = n := by simp [risL]
theorem risL_at (Z : Nat → Nat → Int) (n i : Nat) (h : i < (risL Z n).length) : (risL Z n)[i] = segOf Z i := by simp [risL]

theorem far_bd (Z : Nat → Nat → Int) (i : Nat) : 0 ≤ farL Z i ∧ farL Z i ≤ 2 ∧ 0 ≤ farC Z i ∧ farC Z i ≤ 999 := by
  unfold farL farC
  split <;> omega
theorem at_bd (Z : Nat → Nat → Int) (i : Nat) : 0 ≤ (atP Z i).1 ∧ (atP Z i).1 ≤ 2 * i ∧ 0 ≤ (atP Z i).2 ∧ (atP Z i).2 ≤ 999 * i := by
  induction i with
  | zero => simp [atP]
  | succ i ih =>
    have := far_bd Z i
    simp only [atP]
    unfold sumC
    split <;> omega
/-- Each one lies behind the one before. -/
theorem at_lt (Z : Nat → Nat → Int) (i : Nat) (h : 0 < i) : (atP Z i).1 < (atP Z (i + 1)).1 ∨ (atP Z i).1 = (atP Z (i + 1)).1 ∧ (atP Z i).2 < (atP Z (i + 1)).2 := by
  have hb := far_bd Z i
  simp only [atP]
  by_cases h0 : farL Z i = 0
  · right
    refine ⟨by omega, ?_⟩
    unfold sumC
    rw [if_pos h0]
    have : 1 ≤ farC Z i := by
      unfold farC
      unfold farL at h0
      split <;> rename_i hq
      · omega
      · have : ¬ Z i 1 % 1000 = 0 := fun q => hq ⟨⟨h0, q⟩, h⟩
        omega
    omega
  · left; omega
theorem seg_lt (Z : Nat → Nat → Int) (i j : Nat) (h : i < j) : (segOf Z i).l < (segOf Z j).l ∨ (segOf Z i).l = (segOf Z j).l ∧ (segOf Z i).c < (segOf Z j).c := by
  induction j with
  | zero => omega
  | succ j ih =>
    have h1 := at_lt Z (j + 1) (by omega)
    rcases Nat.lt_or_ge i j with h2 | h2
    · have := ih h2
      simp only [segOf] at this ⊢
      omega
    · obtain rfl : i = j := by omega
      exact h1
end Go.Proofs.YtnokiikgnplpmaaDoor
namespace Go.Proofs.YtnokiikgnplpmaaDoor

/-- The bytes of numbers. -/
def nums (ns : List Int) : List UInt8 := ns.flatMap nb
/-- The bytes of tokens; is the place fresh (a line's beginning)? -/
def tokB : Bool → List (Option (List Int)) → List UInt8
  | _, [] => []
  | _, none :: r => 59 :: tokB true r
  | fr, some ns :: r => (if fr then [] else [44]) ++ (nums ns ++ tokB false r)
/-- A semicolon is read. -/
def rsemi (q : Seg × Int) : Seg × Int := ({ q.1 with l := q.1.l + 1, c := 0 }, q.2)
/-- A mapping's numbers are read. -/
def rstep (q : Seg × Int) (ns : List Int) : Seg × Int :=
  (⟨q.1.l, q.1.c + ns.getD 0 0, q.1.s + ns.getD 1 0, q.1.fl + ns.getD 2 0, q.1.fc + ns.getD 3 0, if ns.length = 5 then q.2 + ns.getD 4 0 else 0, decide (ns.length = 5)⟩, if ns.length = 5 then q.2 + ns.getD 4 0 else q.2)
/-- The mappings of tokens. -/
def rsegs : Seg × Int → List (Option (List Int)) → List Seg
  | _, [] => []
  | q, none :: r => rsegs (rsemi q) r
  | q, some ns :: r => (rstep q ns).1 :: rsegs (rstep q ns) r
/-- The state behind tokens. -/
def rgo : Seg × Int → List (Option (List Int)) → Seg × Int
  | q, [] => q
  | q, none :: r => rgo (rsemi q) r
  | q, some ns :: r => rgo (rstep q ns) r
def qz : Seg × Int := (⟨0, 0, 0, 0, 0, 0, false⟩, 0)
/-- The numbers of a state are not too great. -/
def sOk (q : Seg × Int) : Prop := (-1099511627776 < q.1.l ∧ q.1.l < 1099511627776) ∧ (-1099511627776 < q.1.c ∧ q.1.c < 1099511627776) ∧ (-1099511627776 < q.1.s ∧ q.1.s < 1099511627776) ∧ (-1099511627776 < q.1.fl ∧ q.1.fl < 1099511627776) ∧ (-1099511627776 < q.1.fc ∧ q.1.fc < 1099511627776) ∧ (-1099511627776 < q.2 ∧ q.2 < 1099511627776)
def nOk (ns : List Int) : Prop := (ns.length = 4 ∨ ns.length = 5) ∧ ∀ n ∈ ns, -17179869184 < n ∧ n < 17179869184
/-- Tokens can be read from a state on. -/
def rok : Seg × Int → List (Option (List Int)) → Prop
  | q, [] => sOk q
  | q, none :: r => sOk q ∧ rok (rsemi q) r
  | q, some ns :: r => sOk q ∧ nOk ns ∧ rok (rstep q ns) r
theorem rok_ok {q : Seg × Int} {ts : List (Option (List Int))} (h : rok q ts) : sOk q := by
  cases ts with
  | nil => exact h
  | cons t r => cases t with
    | none => exact h.1
    | some ns => exact h.1

theorem tokB_app : ∀ (a b : List (Option (List Int))) (fr : Bool), tokB fr (a ++ b) = tokB fr a ++ tokB (match a.getLast? with | none => fr | some none => true | some (some _) => false) b := by
  intro a
  induction a with
  | nil => intro b fr; rfl
  | cons t a ih =>
    intro b fr
    have e : ∀ x : Bool, (match (t :: a).getLast? with | none => fr | some none => true | some (some _) => false) = (match a.getLast? with | none => (match t with | none => true | some _ => false) | some none => true | some (some _) => false) := by
      intro _
      cases a with
      | nil => cases t <;> rfl
      | cons u a => rw [List.getLast?_cons_cons]; cases h : (u :: a).getLast? with
        | none => simp at h
        | some y => cases y <;> rfl
    rw [e true]
    cases t with
    | none => simp only [List.cons_append, tokB]; rw [ih b true]
    | some ns =>
      simp only [List.cons_append, tokB]
      rw [ih b false]
      simp [List.append_assoc]
theorem rgo_app (a b : List (Option (List Int))) (q : Seg × Int) : rgo q (a ++ b) = rgo (rgo q a) b := by
  induction a generalizing q with
  | nil => rfl
  | cons t a ih => cases t <;> simp only [List.cons_append, rgo] <;> exact ih _
theorem rsegs_app (a b : List (Option (List Int))) (q : Seg × Int) : rsegs q (a ++ b) = rsegs q a ++ rsegs (rgo q a) b := by
  induction a generalizing q with
  | nil => rfl
  | cons t a ih => cases t <;> simp only [List.cons_append, rsegs, rgo] <;> rw [ih]
theorem rok_app {a b : List (Option (List Int))} {q : Seg × Int} (ha : rok q a) (hb : rok (rgo q a) b) : rok q (a ++ b) := by
  induction a generalizing q with
  | nil => exact hb
  | cons t a ih =>
    cases t with
    | none => exact ⟨ha.1, ih ha.2 hb⟩
    | some ns => exact ⟨ha.1, ha.2.1, ih ha.2.2 hb⟩

theorem digs_short (f x k : Nat) (h : x < 32 ^ (k + 1)) : (digs f x 0).length ≤ k + 1 := by
  induction f generalizing x k with
  | zero => simp [digs]
  | succ f ih =>
    unfold digs
    split
    · simp
    · rename_i hx
      cases k with
      | zero => simp at h; omega
      | succ k =>
        have : x / 32 < 32 ^ (k + 1) := by
          apply Nat.div_lt_of_lt_mul
          rw [Nat.pow_succ] at h
          omega
        have := ih (x / 32) k this
        have e : (if x / 32 = 0 then 0 - 1 else 0) = 0 := by split <;> rfl
        rw [e, List.length_cons]
        omega
/-- The digits of a number that is read. -/
theorem nd_small (n : Int) (h1 : -17179869184 < n) (h2 : n < 17179869184) : ∃ l d, nd n = l ++ [d] ∧ d < 32 ∧ (∀ y ∈ l, 32 ≤ y ∧ y < 64) ∧ l.length ≤ 7 ∧ unvl (val (l ++ [d])) = n := by
  obtain ⟨l, d, e, hd, hl⟩ := nd_form n (by omega) (by omega)
  have hlt := nd_lt n
  have hle : (nd n).length ≤ 6 + 1 := digs_short 12 (vl n) 6 (by
    have h7 : (32 : Nat) ^ (6 + 1) = 34359738368 := (by decide)
    rw [h7]
    unfold vl
    split <;> omega)
  have hv := val_nd n (by omega) (by omega)
  rw [e] at hlt hle hv
  exact ⟨l, d, e, hd, fun y hy => ⟨hl y hy, hlt y (by simp [hy])⟩, by simp at hle; omega, hv⟩
theorem sg_ne (d : Nat) : sg d ≠ 44 ∧ sg d ≠ 59 ∧ sg d ≠ 0 ∧ sg d ≠ 34 := by
  unfold sg
  repeat' split
  all_goals omega
theorem nb_len (n : Int) : (nb n).length = (nd n).length := by simp [nb]
theorem nums_cons (n : Int) (ns : List Int) : nums (n :: ns) = nb n ++ nums ns := by simp [nums]
theorem nums_app (a b : List Int) : nums (a ++ b) = nums a ++ nums b := by simp [nums]
/-- What stands behind a mapping's numbers: nothing, a comma, or a semicolon. -/
theorem tokB_false (r : List (Option (List Int))) : tokB false r = [] ∨ ∃ x t, tokB false r = x :: t ∧ (x = 44 ∨ x = 59) := by
  cases r with
  | nil => exact .inl rfl
  | cons t r => cases t with
    | none => exact .inr ⟨_, _, rfl, .inr rfl⟩
    | some ns => exact .inr ⟨_, _, rfl, .inl rfl⟩
end Go.Proofs.YtnokiikgnplpmaaDoor
namespace Go.Proofs.YtnokiikgnplpmaaDoor

/-- A rune that texts may hold here: a scalar value other than the one for what is no UTF-8. -/
def good (r : Nat) : Bool := Utf8.valid (r : Int) && decide (r ≠ 65533)

/-- The bytes of a rune. -/
def enc (r : Nat) : List UInt8 := if r < 128 then [UInt8.ofNat r] else if r < 2048 then [UInt8.ofNat (192 + r / 64), UInt8.ofNat (128 + r % 64)] else if r < 65536 then [UInt8.ofNat (224 + r / 4096), UInt8.ofNat (128 + r / 64 % 64), UInt8.ofNat (128 + r % 64)] else [UInt8.ofNat (240 + r / 262144), UInt8.ofNat (128 + r / 4096 % 64), UInt8.ofNat (128 + r / 64 % 64), UInt8.ofNat (128 + r % 64)]
/-- The bytes of runes. -/
def encs (rs : List Nat) : List UInt8 := rs.flatMap enc

theorem u8n (n : Nat) (h : n < 256) : (UInt8.ofNat n).toNat = n := by simp; omega

theorem encode_of (z : Int) (n : Nat) (hz : z.toNat = n) (hv : Utf8.valid z = true) : Utf8.encode z = (if n < 128 then (⟨#[UInt8.ofNat n]⟩ : ByteArray) else if n < 2048 then ⟨#[UInt8.ofNat (192 + n / 64), UInt8.ofNat (128 + n % 64)]⟩ else if n < 65536 then ⟨#[UInt8.ofNat (224 + n / 4096), UInt8.ofNat (128 + n / 64 % 64), UInt8.ofNat (128 + n % 64)]⟩ else ⟨#[UInt8.ofNat (240 + n / 262144), UInt8.ofNat (128 + n / 4096 % 64), UInt8.ofNat (128 + n / 64 % 64), UInt8.ofNat (128 + n % 64)]⟩) := by
  unfold Utf8.encode
  simp only [hv, if_true, hz]

theorem enc1 (r : Nat) (_hv : Utf8.valid (r : Int) = true) (h1 : r < 128) : enc r = [UInt8.ofNat r] := by
  unfold enc; rw [if_pos h1]
theorem enc2 (r : Nat) (_hv : Utf8.valid (r : Int) = true) (h1 : ¬ r < 128) (h2 : r < 2048) : enc r = [UInt8.ofNat (192 + r / 64), UInt8.ofNat (128 + r % 64)] := by
  unfold enc; rw [if_neg h1, if_pos h2]
theorem enc3 (r : Nat) (_hv : Utf8.valid (r : Int) = true) (h1 : ¬ r < 128) (h2 : ¬ r < 2048) (h3 : r < 65536) : enc r = [UInt8.ofNat (224 + r / 4096), UInt8.ofNat (128 + r / 64 % 64), UInt8.ofNat (128 + r % 64)] := by
  unfold enc; rw [if_neg h1, if_neg h2, if_pos h3]
theorem enc4 (r : Nat) (_hv : Utf8.valid (r : Int) = true) (h1 : ¬ r < 128) (h2 : ¬ r < 2048) (h3 : ¬ r < 65536) : enc r = [UInt8.ofNat (240 + r / 262144), UInt8.ofNat (128 + r / 4096 % 64), UInt8.ofNat (128 + r / 64 % 64), UInt8.ofNat (128 + r % 64)] := by
  unfold enc; rw [if_neg h1, if_neg h2, if_neg h3]
theorem encode_enc (z : Int) (r : Nat) (hz : z.toNat = r) (hv : Utf8.valid z = true) : Utf8.encode z = ⟨(enc r).toArray⟩ := by
  rw [encode_of z r hz hv]
  unfold enc
  repeat' split
  all_goals rfl

theorem valid_le (r : Nat) (hv : Utf8.valid (r : Int) = true) : r ≤ 1114111 := by
  simp [Utf8.valid] at hv; omega

theorem dec1 (s : ByteArray) (i r : Nat) (h1 : r < 128) (b0 : (s.get! i).toNat = r) : Utf8.decode s i = (r, 1) := by
  unfold Utf8.decode
  simp only [Nat.add_zero, b0]
  rw [if_pos h1]
theorem dec2 (s : ByteArray) (i r : Nat) (h1 : ¬ r < 128) (h2 : r < 2048) (hi : i + 2 ≤ s.size) (b0 : (s.get! i).toNat = 192 + r / 64) (b1 : (s.get! (i + 1)).toNat = 128 + r % 64) : Utf8.decode s i = (r, 2) := by
  have e : (192 + r / 64) % 32 * 64 + (128 + r % 64) % 64 = r := by omega
  unfold Utf8.decode
  simp only [Nat.add_zero, b0, b1, e]
  rw [if_neg (by omega), if_pos (by simp; omega), if_pos (by omega)]
theorem dec3 (s : ByteArray) (i r : Nat) (hv : Utf8.valid (r : Int) = true) (h2 : ¬ r < 2048) (h3 : r < 65536) (hi : i + 3 ≤ s.size) (b0 : (s.get! i).toNat = 224 + r / 4096) (b1 : (s.get! (i + 1)).toNat = 128 + r / 64 % 64) (b2 : (s.get! (i + 2)).toNat = 128 + r % 64) : Utf8.decode s i = (r, 3) := by
  have e : (224 + r / 4096) % 16 * 4096 + (128 + r / 64 % 64) % 64 * 64 + (128 + r % 64) % 64 = r := by omega
  unfold Utf8.decode
  simp only [Nat.add_zero, b0, b1, b2, e]
  rw [if_neg (by omega), if_neg (by simp; omega), if_pos (by simp; omega), if_pos (by simp [hv]; omega)]
theorem dec4 (s : ByteArray) (i r : Nat) (hv : Utf8.valid (r : Int) = true) (h3 : ¬ r < 65536) (hi : i + 4 ≤ s.size) (b0 : (s.get! i).toNat = 240 + r / 262144) (b1 : (s.get! (i + 1)).toNat = 128 + r / 4096 % 64) (b2 : (s.get! (i + 2)).toNat = 128 + r / 64 % 64) (b3 : (s.get! (i + 3)).toNat = 128 + r % 64) : Utf8.decode s i = (r, 4) := by
  have hr := valid_le r hv
  have e : (240 + r / 262144) % 8 * 262144 + (128 + r / 4096 % 64) % 64 * 4096 + (128 + r / 64 % 64) % 64 * 64 + (128 + r % 64) % 64 = r := by omega
  unfold Utf8.decode
  simp only [Nat.add_zero, b0, b1, b2, b3, e]
  rw [if_neg (by omega), if_neg (by simp; omega), if_neg (by simp; omega), if_pos (by simp; omega), if_pos (by simp [hv]; omega)]

/-- What is encoded is decoded, wherever it stands. -/
theorem decode_enc (s : ByteArray) (i r : Nat) (hv : Utf8.valid (r : Int) = true) (hi : i + (enc r).length ≤ s.size) (h : ∀ k, k < (enc r).length → s.get! (i + k) = (enc r).getD k 0) : Utf8.decode s i = (r, (enc r).length) := by
  have hr := valid_le r hv
  by_cases h1 : r < 128
  · rw [enc1 r hv h1] at hi h ⊢
    have a0 : s.get! i = UInt8.ofNat r := h 0 (by simp)
    exact dec1 s i r h1 (by rw [a0, u8n]; omega)
  by_cases h2 : r < 2048
  · rw [enc2 r hv h1 h2] at hi h ⊢
    have a0 : s.get! i = UInt8.ofNat (192 + r / 64) := h 0 (by simp)
    have a1 : s.get! (i + 1) = UInt8.ofNat (128 + r % 64) := h 1 (by simp)
    exact dec2 s i r h1 h2 hi (by rw [a0, u8n]; omega) (by rw [a1, u8n]; omega)
  by_cases h3 : r < 65536
  · rw [enc3 r hv h1 h2 h3] at hi h ⊢
    have a0 : s.get! i = UInt8.ofNat (224 + r / 4096) := h 0 (by simp)
    have a1 : s.get! (i + 1) = UInt8.ofNat (128 + r / 64 % 64) := h 1 (by simp)
    have a2 : s.get! (i + 2) = UInt8.ofNat (128 + r % 64) := h 2 (by simp)
    exact dec3 s i r hv h2 h3 hi (by rw [a0, u8n]; omega) (by rw [a1, u8n]; omega) (by rw [a2, u8n]; omega)
  · rw [enc4 r hv h1 h2 h3] at hi h ⊢
    have a0 : s.get! i = UInt8.ofNat (240 + r / 262144) := h 0 (by simp)
    have a1 : s.get! (i + 1) = UInt8.ofNat (128 + r / 4096 % 64) := h 1 (by simp)
    have a2 : s.get! (i + 2) = UInt8.ofNat (128 + r / 64 % 64) := h 2 (by simp)
    have a3 : s.get! (i + 3) = UInt8.ofNat (128 + r % 64) := h 3 (by simp)
    exact dec4 s i r hv h3 hi (by rw [a0, u8n]; omega) (by rw [a1, u8n]; omega) (by rw [a2, u8n]; omega) (by rw [a3, u8n]; omega)

theorem enc_len (r : Nat) (hv : Utf8.valid (r : Int) = true) : 1 ≤ (enc r).length ∧ (enc r).length ≤ 4 := by
  by_cases h1 : r < 128
  · rw [enc1 r hv h1]; simp
  by_cases h2 : r < 2048
  · rw [enc2 r hv h1 h2]; simp
  by_cases h3 : r < 65536
  · rw [enc3 r hv h1 h2 h3]; simp
  · rw [enc4 r hv h1 h2 h3]; simp

/-- decode, byte by byte. -/
def dec (n b0 b1 b2 b3 : Nat) : Nat × Nat :=
  if b0 < 128 then (b0, 1)
  else if (b0 / 32 == 6 && (decide (1 < n) && b1 / 64 == 2)) = true then
    if b0 % 32 * 64 + b1 % 64 ≥ 128 then (b0 % 32 * 64 + b1 % 64, 2) else (65533, 1)
  else if (b0 / 16 == 14 && (decide (1 < n) && b1 / 64 == 2) && (decide (2 < n) && b2 / 64 == 2)) = true then
    if (decide (b0 % 16 * 4096 + b1 % 64 * 64 + b2 % 64 ≥ 2048) && Utf8.valid ((b0 % 16 * 4096 + b1 % 64 * 64 + b2 % 64 : Nat) : Int)) = true then (b0 % 16 * 4096 + b1 % 64 * 64 + b2 % 64, 3) else (65533, 1)
  else if (b0 / 8 == 30 && (decide (1 < n) && b1 / 64 == 2) && (decide (2 < n) && b2 / 64 == 2) && (decide (3 < n) && b3 / 64 == 2)) = true then
    if (decide (b0 % 8 * 262144 + b1 % 64 * 4096 + b2 % 64 * 64 + b3 % 64 ≥ 65536) && Utf8.valid ((b0 % 8 * 262144 + b1 % 64 * 4096 + b2 % 64 * 64 + b3 % 64 : Nat) : Int)) = true then (b0 % 8 * 262144 + b1 % 64 * 4096 + b2 % 64 * 64 + b3 % 64, 4) else (65533, 1)
  else (65533, 1)

theorem decode_dec (s : ByteArray) (i : Nat) : Utf8.decode s i = dec (s.size - i) (s.get! i).toNat (s.get! (i + 1)).toNat (s.get! (i + 2)).toNat (s.get! (i + 3)).toNat := by
  have e : ∀ k, decide (k < s.size - i) = decide (i + k < s.size) := fun k => by rw [decide_eq_decide]; omega
  unfold Utf8.decode dec
  simp only [e, Nat.add_zero]
  rfl

theorem dec_width (n b0 b1 b2 b3 : Nat) (h0 : b0 < 256) (h : (dec n b0 b1 b2 b3).1 ≠ 65533) : Utf8.valid ((dec n b0 b1 b2 b3).1 : Int) = true ∧ (enc (dec n b0 b1 b2 b3).1).length = (dec n b0 b1 b2 b3).2 := by
  revert h
  unfold dec
  split
  · rename_i q
    intro _
    have hv : Utf8.valid ((b0 : Nat) : Int) = true := by simp [Utf8.valid]; omega
    exact ⟨hv, by simp only; rw [enc1 _ hv q]; rfl⟩
  split
  · rename_i q1 q2
    simp at q2
    split
    · rename_i q3
      intro _
      have hv : Utf8.valid ((b0 % 32 * 64 + b1 % 64 : Nat) : Int) = true := by simp [Utf8.valid]; omega
      exact ⟨hv, by simp only; rw [enc2 _ hv (by omega) (by omega)]; rfl⟩
    · intro q; exact absurd rfl q
  split
  · rename_i q1 q2 q3
    simp at q3
    split
    · rename_i q4
      intro _
      rw [Bool.and_eq_true] at q4
      have hv := q4.2
      have q5 := of_decide_eq_true q4.1
      exact ⟨hv, by simp only; rw [enc3 _ hv (by omega) (by omega) (by omega)]; rfl⟩
    · intro q; exact absurd rfl q
  split
  · rename_i q1 q2 q3 q4
    split
    · rename_i q5
      intro _
      rw [Bool.and_eq_true] at q5
      have hv := q5.2
      have q6 := of_decide_eq_true q5.1
      exact ⟨hv, by simp only; rw [enc4 _ hv (by omega) (by omega) (by omega)]; rfl⟩
    · intro q; exact absurd rfl q
  · intro q; exact absurd rfl q

/-- A rune that was read takes as many bytes as it is written with; what is read is a scalar value. -/
theorem decode_width (s : ByteArray) (i : Nat) (h : (Utf8.decode s i).1 ≠ 65533) : Utf8.valid ((Utf8.decode s i).1 : Int) = true ∧ (enc (Utf8.decode s i).1).length = (Utf8.decode s i).2 := by
  rw [decode_dec] at h ⊢
  exact dec_width _ _ _ _ _ (s.get! i).toNat_lt h
end Go.Proofs.YtnokiikgnplpmaaDoor
namespace Go.Proofs.YtnokiikgnplpmaaDoor
open Go.RowKit

/-- The runes of a text from a place on; f bounds how many. -/
def runes (s : ByteArray) : Nat → Nat → List Nat
  | 0, _ => []
  | f + 1, pos => if pos < s.size then (Utf8.decode s pos).1 :: runes s f (pos + (Utf8.decode s pos).2) else []
/-- The runes that valid keeps. -/
def keptR (l : List Nat) : List Nat := l.filter fun r => decide (r ≠ 65533)
def validL (s : ByteArray) : List Nat := keptR (runes s s.size 0)
/-- The text of runes. -/
def txt (rs : List Nat) : ByteArray := ⟨(encs rs).toArray⟩

theorem runes_end (s : ByteArray) (f pos : Nat) (h : ¬ pos < s.size) : runes s f pos = [] := by
  cases f <;> simp [runes, h]

theorem runes_good (s : ByteArray) (f pos : Nat) : ∀ r ∈ keptR (runes s f pos), good r = true := by
  induction f generalizing pos with
  | zero => simp [runes, keptR]
  | succ f ih =>
    intro r hr
    unfold runes at hr
    split at hr
    · unfold keptR at hr
      rw [List.filter_cons] at hr
      split at hr
      · rename_i h
        rcases List.mem_cons.1 hr with e | e
        · rw [e]
          have h1 := of_decide_eq_true h
          have := decode_width s pos h1
          simp [good, this.1, h1]
        · exact ih _ r e
      · exact ih _ r hr
    · simp [keptR] at hr

theorem validL_good (s : ByteArray) : ∀ r ∈ validL s, good r = true := runes_good s _ _

theorem encs_app (a b : List Nat) : encs (a ++ b) = encs a ++ encs b := by simp [encs]
theorem encs_one (r : Nat) : encs [r] = enc r := by simp [encs]
theorem txt_size (rs : List Nat) : (txt rs).size = (encs rs).length := by simp [txt, ByteArray.size]

/-- What valid leaves: it is no longer than the text. -/
theorem width1 (s : ByteArray) (pos : Nat) (h : pos < s.size) : 1 ≤ (Utf8.decode s pos).2 := by
  by_cases ha : (s[pos]'h).toNat < 128
  · rw [decode_ascii s pos h ha]
    exact Nat.le_refl _
  · exact (decode_high s pos h (by omega)).2

theorem dec_end (n b0 b1 b2 b3 : Nat) : (dec n b0 b1 b2 b3).2 ≤ n ∨ n = 0 := by
  unfold dec
  repeat' split
  all_goals simp_all
  all_goals omega
theorem decode_end (s : ByteArray) (pos : Nat) (h : pos < s.size) : pos + (Utf8.decode s pos).2 ≤ s.size := by
  rw [decode_dec]
  rcases dec_end (s.size - pos) (s.get! pos).toNat (s.get! (pos + 1)).toNat (s.get! (pos + 2)).toNat (s.get! (pos + 3)).toNat with h1 | h1 <;> omega

theorem validL_len (s : ByteArray) : (encs (validL s)).length ≤ s.size := by
  have : ∀ f pos, pos ≤ s.size → (encs (keptR (runes s f pos))).length ≤ s.size - pos := by
    intro f
    induction f with
    | zero => intro pos h; simp [runes, keptR, encs]
    | succ f ih =>
      intro pos h
      unfold runes
      split
      · rename_i hp
        have h1 := decode_end s pos hp
        have h2 := ih _ h1
        have h3 := width1 s pos hp
        unfold keptR
        rw [List.filter_cons]
        split
        · rename_i hd
          have h4 := (decode_width s pos (of_decide_eq_true hd)).2
          have e : ∀ (r : Nat) (l : List Nat), encs (r :: l) = enc r ++ encs l := fun r l => by simp [encs]
          rw [e, List.length_append, h4]
          unfold keptR at h2
          omega
        · unfold keptR at h2
          omega
      · simp [keptR, encs]
  have := this s.size 0 (by omega)
  simpa [validL] using this

set_option maxHeartbeats 1000000 in
theorem valid_any (s : ByteArray) (w : World) (hs : s.size ≤ 140737488351232) :
    Calls Tryd.prog 12 #[.string s] w fun e w' => e = .returned (.string (txt (validL s))) ∧ Below w.heap.size w w' := by
  have ks : ∀ (W : World) (x y : ByteArray), x.size + y.size ≤ 9223372036854775807 → (Op.stringOp .add x y).run Tryd.prog W = .ok (.string (x ++ y)) W := fun W x y h => run_string_add_sum W x y h
  go_enter Tryd.func12, Tryd.ntmps12
  go_wp2
  go_loopg [3] s.size (fun f s3 wr => ∃ (pos : Nat) (acc : List Nat), w.iter s pos = wr ∧ s3 = .string (txt acc) ∧ s.size ≤ pos + f ∧ Hid (acc ++ keptR (runes s f pos) = validL s))
  case atStart => exact ⟨0, [], rfl, rfl, by omega, rfl⟩
  case round =>
    obtain ⟨pos, acc, rfl, rfl, hf, hacc⟩ := hrel
    by_cases hp : pos < s.size
    · obtain ⟨f, rfl⟩ : ∃ f, gk = f + 1 := ⟨gk - 1, by omega⟩
      have hnx : ∀ ty, (Instr.next (.pointer (some ⟨w.heap.size, 0, none⟩)) true ty).run Tryd.prog (w.iter s pos) = _ := fun ty => run_next_any w s pos ty hp
      have hwd := width1 s pos hp
      have hle := decode_le s pos
      have hlen := validL_len s
      have hrun : runes s (f + 1) pos = (Utf8.decode s pos).1 :: runes s f (pos + (Utf8.decode s pos).2) := by simp [runes, hp]
      have hac := hacc.out
      rw [hrun] at hac
      by_cases hc : (Utf8.decode s pos).1 = 65533
      · have e2 : acc ++ keptR (runes s f (pos + (Utf8.decode s pos).2)) = validL s := by rw [← hac, hc]; rfl
        have E2 := Lib.hid e2
        have h1 : (((Utf8.decode s pos).1 : Int) != 65533) = false := by simp; omega
        clear hac hrun hacc hc e2
        generalize (Utf8.decode s pos).1 = c at *
        generalize (Utf8.decode s pos).2 = wd at *
        go_wp2
        go_roundg f
        case measure => omega
        case rel => exact ⟨pos + wd, acc, rfl, rfl, by omega, E2.out⟩
      · have h1 : (((Utf8.decode s pos).1 : Int) != 65533) = true := by simp; omega
        have hdw := decode_width s pos hc
        have hen := encode_enc ((Utf8.decode s pos).1 : Int) (Utf8.decode s pos).1 (Int.toNat_natCast _) hdw.1
        have e2 : acc ++ [(Utf8.decode s pos).1] ++ keptR (runes s f (pos + (Utf8.decode s pos).2)) = validL s := by rw [← hac]; unfold keptR; rw [List.filter_cons, if_pos (by simpa using hc)]; simp
        have hl2 : (encs acc).length + (enc (Utf8.decode s pos).1).length ≤ s.size := by
          have h3 := hlen
          rw [← e2, encs_app, encs_app, encs_one] at h3
          simp at h3
          omega
        have E2 := Lib.hid e2
        clear hac hrun hacc hc e2 hdw hlen
        generalize (Utf8.decode s pos).1 = c at *
        generalize (Utf8.decode s pos).2 = wd at *
        have hsz : (txt acc).size + (⟨(enc c).toArray⟩ : ByteArray).size ≤ 9223372036854775807 := by
          rw [txt_size]
          have : (⟨(enc c).toArray⟩ : ByteArray).size = (enc c).length := by simp [ByteArray.size]
          omega
        have hcat : txt acc ++ (⟨(enc c).toArray⟩ : ByteArray) = txt (acc ++ [c]) := by
          unfold txt
          rw [encs_app, encs_one]
          apply ByteArray.ext
          simp
        go_wp2
        go_roundg f
        case measure => omega
        case rel => exact ⟨pos + wd, acc ++ [c], rfl, rfl, by omega, E2.out⟩
    · have hnx : ∀ ty, (Instr.next (.pointer (some ⟨w.heap.size, 0, none⟩)) true ty).run Tryd.prog (w.iter s pos) = _ := fun ty => run_next_end w s pos ty hp
      have e := hacc.out
      rw [runes_end s gk pos hp] at e
      have E := Lib.hid e
      clear hacc e
      go_wp2
      go_ret
      refine ⟨?_, balloc (Below.refl _ _) _⟩
      have e2 : acc = validL s := by rw [← E.out]; simp [keptR]
      rw [← e2]
      rfl
end Go.Proofs.YtnokiikgnplpmaaDoor
namespace Go.Proofs.YtnokiikgnplpmaaDoor

def isNlR (c : Nat) : Prop := c = 13 ∨ c = 10 ∨ c = 8232 ∨ c = 8233
instance (c : Nat) : Decidable (isNlR c) := by unfold isNlR; infer_instance
/-- How many units of UTF-16 a rune takes. -/
def unitsR (c : Nat) : Nat := if c ≤ 65535 then 1 else 2

/-- What AdvanceString counts. -/
def advI : List Nat → Nat × Nat → Nat × Nat
  | [], p => p
  | c :: rs, p => if isNlR c then (if c = 13 ∧ rs.head? = some 10 then advI rs (p.1, p.2 + 1) else advI rs (p.1 + 1, 0)) else advI rs (p.1, p.2 + unitsR c)

/-- What the format counts. -/
def advS : Nat → List Nat → Nat × Nat → Nat × Nat
  | _, [], p => p
  | was, c :: rs, p => if c = 10 ∧ was = 13 then advS c rs p else if isNlR c then advS c rs (p.1 + 1, 0) else advS c rs (p.1, p.2 + unitsR c)

theorem advS_cons (was c : Nat) (rs : List Nat) (p : Nat × Nat) : advS was (c :: rs) p = if c = 10 ∧ was = 13 then advS c rs p else if isNlR c then advS c rs (p.1 + 1, 0) else advS c rs (p.1, p.2 + unitsR c) := rfl

theorem adv_eq : ∀ (n : Nat) (rs : List Nat) (was : Nat) (p : Nat × Nat), rs.length ≤ n → (was = 13 → rs.head? ≠ some 10) → advI rs p = advS was rs p := by
  intro n
  induction n with
  | zero => intro rs was p hl _; cases rs with | nil => rfl | cons c rs => simp at hl
  | succ n ih =>
    intro rs was p hl hw
    cases rs with
    | nil => rfl
    | cons c rs =>
      have h1 : ¬ (c = 10 ∧ was = 13) := by
        rintro ⟨rfl, h⟩
        exact hw h rfl
      simp only [List.length_cons] at hl
      unfold advI advS
      rw [if_neg h1]
      by_cases hn : isNlR c
      · rw [if_pos hn, if_pos hn]
        by_cases hc : c = 13 ∧ rs.head? = some 10
        · rw [if_pos hc]
          obtain ⟨rfl, h2⟩ := hc
          cases rs with
          | nil => simp at h2
          | cons e rs =>
            simp at h2
            subst h2
            have hl2 : rs.length ≤ n := by simp at hl; omega
            have hn10 : isNlR 10 := by decide
            unfold advI advS
            rw [if_pos hn10, if_neg (by simp), if_pos ⟨rfl, rfl⟩]
            exact ih rs 10 _ hl2 (by simp)
        · rw [if_neg hc]
          exact ih rs c _ (by omega) (fun h h2 => hc ⟨h, h2⟩)
      · rw [if_neg hn, if_neg hn]
        refine ih rs c _ (by omega) (fun h => ?_)
        exact absurd (Or.inl h) hn

theorem unitsR_le (c : Nat) : unitsR c ≤ 2 := by unfold unitsR; split <;> omega
theorem unitsR_pos (c : Nat) : 1 ≤ unitsR c := by unfold unitsR; split <;> omega

theorem advI_le (rs : List Nat) (p : Nat × Nat) : (advI rs p).1 ≤ p.1 + rs.length ∧ (advI rs p).2 ≤ p.2 + 2 * rs.length := by
  induction rs generalizing p with
  | nil => simp [advI]
  | cons c rs ih =>
    unfold advI
    have hu := unitsR_le c
    split
    · split
      · have := ih (p.1, p.2 + 1); simp only [List.length_cons] at *; omega
      · have := ih (p.1 + 1, 0); simp only [List.length_cons] at *; omega
    · have := ih (p.1, p.2 + unitsR c); simp only [List.length_cons] at *; omega
theorem advS_le (was : Nat) (rs : List Nat) (p : Nat × Nat) : (advS was rs p).1 ≤ p.1 + rs.length ∧ (advS was rs p).2 ≤ p.2 + 2 * rs.length := by
  induction rs generalizing p was with
  | nil => simp [advS]
  | cons c rs ih =>
    unfold advS
    have hu := unitsR_le c
    split
    · have := ih c p; simp only [List.length_cons] at *; omega
    · split
      · have := ih c (p.1 + 1, 0); simp only [List.length_cons] at *; omega
      · have := ih c (p.1, p.2 + unitsR c); simp only [List.length_cons] at *; omega

/-- The last rune of a text, or what was. -/
def lastR (was : Nat) (rs : List Nat) : Nat := rs.getLastD was
theorem advS_append (rs ss : List Nat) (was : Nat) (p : Nat × Nat) : advS was (rs ++ ss) p = advS (lastR was rs) ss (advS was rs p) := by
  induction rs generalizing was p with
  | nil => simp [advS, lastR]
  | cons c rs ih =>
    have hl : lastR was (c :: rs) = lastR c rs := by
      unfold lastR
      cases rs with
      | nil => rfl
      | cons e rs => simp [List.getLastD]
    rw [List.cons_append, hl, advS_cons, advS_cons]
    split
    · exact ih c p
    · split
      · exact ih c _
      · exact ih c _

/-- Nothing of a text without runes that end lines but columns. -/
theorem advI_x (rs : List Nat) (p : Nat × Nat) : advI (rs ++ [120]) p = ((advI rs p).1, (advI rs p).2 + 1) := by
  rw [adv_eq (rs ++ [120]).length _ 0 p (Nat.le_refl _) (by simp), adv_eq rs.length rs 0 p (Nat.le_refl _) (by simp), advS_append]
  rfl
end Go.Proofs.YtnokiikgnplpmaaDoor
namespace Go.Proofs.YtnokiikgnplpmaaDoor

theorem get_bang (s : ByteArray) (j : Nat) (h : j < s.size) : s.get! j = s[j]'h := by
  simp [ByteArray.get!, getElem!_pos, h]
  rfl
theorem get_out (s : ByteArray) (j : Nat) (h : ¬ j < s.size) : s.get! j = 0 := by
  have h' : ¬ j < s.data.size := h
  simp only [ByteArray.get!]
  rw [getElem!_neg s.data j h']
  rfl
theorem get_txt (rs : List Nat) (j : Nat) (h : j < (encs rs).length) : (txt rs).get! j = (encs rs)[j] := by
  rw [get_bang _ _ (by rw [txt_size]; exact h)]
  simp [txt, ByteArray.getElem_eq_getElem_data]
theorem encs_cons (r : Nat) (rs : List Nat) : encs (r :: rs) = enc r ++ encs rs := by simp [encs]

/-- From a place on at which runes begin, they are read. -/
theorem runes_txt_from (rs : List Nat) (hv : ∀ r ∈ rs, Utf8.valid (r : Int) = true) : ∀ (pre post : List Nat) (f : Nat), rs = pre ++ post → post.length ≤ f → runes (txt rs) f (encs pre).length = post := by
  intro pre post
  induction post generalizing pre with
  | nil =>
    intro f he _
    rw [runes_end]
    rw [txt_size, he]
    simp
  | cons r post ih =>
    intro f he hf
    obtain ⟨f, rfl⟩ : ∃ g, f = g + 1 := ⟨f - 1, by simp at hf; omega⟩
    have hr := hv r (by rw [he]; simp)
    have hl := enc_len r hr
    have hsz : (encs rs).length = (encs pre).length + ((enc r).length + (encs post).length) := by rw [he, encs_app, encs_cons]; simp
    have hd : Utf8.decode (txt rs) (encs pre).length = (r, (enc r).length) := by
      apply decode_enc _ _ _ hr
      · rw [txt_size, hsz]; omega
      · intro k hk
        rw [get_txt _ _ (by rw [hsz]; omega)]
        have : encs rs = encs pre ++ (enc r ++ encs post) := by rw [he, encs_app, encs_cons]
        simp only [this]
        rw [List.getElem_append_right (by omega), List.getElem_append_left (by omega)]
        simp [List.getD, hk]
    unfold runes
    rw [if_pos (by rw [txt_size, hsz]; omega), hd]
    have h2 := ih (pre ++ [r]) f (by rw [he]; simp) (by simp at hf; omega)
    rw [encs_app, encs_one, List.length_append] at h2
    simp only
    rw [h2]
theorem encs_ge (rs : List Nat) (hv : ∀ r ∈ rs, Utf8.valid (r : Int) = true) : rs.length ≤ (encs rs).length := by
  induction rs with
  | nil => simp
  | cons r rs ih =>
    have := enc_len r (hv r (by simp))
    have := ih (fun x hx => hv x (by simp [hx]))
    rw [encs_cons]
    simp only [List.length_cons, List.length_append]
    omega
theorem runes_txt (rs : List Nat) (hv : ∀ r ∈ rs, Utf8.valid (r : Int) = true) : runes (txt rs) (txt rs).size 0 = rs := by
  have := runes_txt_from rs hv [] rs (txt rs).size rfl (by rw [txt_size]; exact encs_ge rs hv)
  simpa [encs] using this
theorem good_valid {r : Nat} (h : good r = true) : Utf8.valid (r : Int) = true := by
  unfold good at h
  rw [Bool.and_eq_true] at h
  exact h.1
theorem validL_valid (s : ByteArray) : ∀ r ∈ validL s, Utf8.valid (r : Int) = true := fun r hr => good_valid (validL_good s r hr)
theorem txt_app (a b : List Nat) : txt a ++ txt b = txt (a ++ b) := by
  unfold txt
  rw [encs_app]
  apply ByteArray.ext
  simp
theorem txt_x : txt [120] = ⟨#[120]⟩ := by decide
theorem valid_120 : Utf8.valid ((120 : Nat) : Int) = true := by decide
theorem valid_app {a b : List Nat} (ha : ∀ r ∈ a, Utf8.valid (r : Int) = true) (hb : ∀ r ∈ b, Utf8.valid (r : Int) = true) : ∀ r ∈ a ++ b, Utf8.valid (r : Int) = true := by
  intro r hr
  rcases List.mem_append.1 hr with h | h
  · exact ha r h
  · exact hb r h
/-- A sign ahead of which nothing reads on. -/
theorem dec_stop (n b0 b1 b2 b3 k : Nat) (hk : 1 ≤ k) (hn : k + 1 = n) (h1 : k = 1 → b1 = 120) (h2 : k = 2 → b2 = 120) (h3 : k = 3 → b3 = 120) : (dec n b0 b1 b2 b3).2 ≤ k := by
  unfold dec
  repeat' split
  all_goals simp_all
  all_goals omega
theorem decode_stop (s : ByteArray) (pos : Nat) (h : pos < s.size) : pos + (Utf8.decode (s ++ ⟨#[120]⟩) pos).2 ≤ s.size := by
  have hsz : (s ++ (⟨#[120]⟩ : ByteArray)).size = s.size + 1 := by simp [ByteArray.size_append]; rfl
  have hlast : (s ++ (⟨#[120]⟩ : ByteArray)).get! s.size = 120 := by
    rw [get_bang _ _ (by rw [hsz]; omega)]
    rw [ByteArray.getElem_append_right (by omega)]
    simp
    rfl
  rw [decode_dec]
  have := dec_stop ((s ++ (⟨#[120]⟩ : ByteArray)).size - pos) ((s ++ (⟨#[120]⟩ : ByteArray)).get! pos).toNat ((s ++ (⟨#[120]⟩ : ByteArray)).get! (pos + 1)).toNat ((s ++ (⟨#[120]⟩ : ByteArray)).get! (pos + 2)).toNat ((s ++ (⟨#[120]⟩ : ByteArray)).get! (pos + 3)).toNat (s.size - pos) (by omega) (by rw [hsz]; omega)
    (fun e => by rw [show pos + 1 = s.size by omega, hlast]; rfl) (fun e => by rw [show pos + 2 = s.size by omega, hlast]; rfl) (fun e => by rw [show pos + 3 = s.size by omega, hlast]; rfl)
  omega
theorem runes_x (s : ByteArray) : ∀ (f pos : Nat), pos ≤ s.size → s.size + 1 ≤ pos + f → ∃ l, runes (s ++ ⟨#[120]⟩) f pos = l ++ [120] := by
  have hsz : (s ++ (⟨#[120]⟩ : ByteArray)).size = s.size + 1 := by simp [ByteArray.size_append]; rfl
  intro f
  induction f with
  | zero => intro pos h1 h2; omega
  | succ f ih =>
    intro pos h1 h2
    unfold runes
    rw [if_pos (by rw [hsz]; omega)]
    by_cases h : pos < s.size
    · have h3 := decode_stop s pos h
      have h4 := width1 (s ++ ⟨#[120]⟩) pos (by rw [hsz]; omega)
      obtain ⟨l, hl⟩ := ih _ h3 (by omega)
      rw [hl]
      exact ⟨_ :: l, rfl⟩
    · obtain rfl : pos = s.size := by omega
      have hlast : (s ++ (⟨#[120]⟩ : ByteArray)).get! s.size = 120 := by
        rw [get_bang _ _ (by rw [hsz]; omega)]
        rw [ByteArray.getElem_append_right (by omega)]
        simp
        rfl
      rw [dec1 _ _ 120 (by omega) (by rw [hlast]; rfl), runes_end _ _ _ (by rw [hsz]; simp)]
      exact ⟨[], rfl⟩

/-- A place comes before another one. -/
def ltP (p q : Nat × Nat) : Prop := p.1 < q.1 ∨ p.1 = q.1 ∧ p.2 < q.2
theorem ltP.trans {a b c : Nat × Nat} (h : ltP a b) (k : ltP b c) : ltP a c := by unfold ltP at *; omega
theorem advI_lt : ∀ (rs : List Nat) (p : Nat × Nat), rs ≠ [] → ltP p (advI rs p) := by
  intro rs
  induction rs with
  | nil => intro p h; exact absurd rfl h
  | cons c rs ih =>
    intro p _
    have step : ∀ q, ltP p q → ltP p (advI rs q) := fun q hq => by
      by_cases hr : rs = []
      · subst hr; exact hq
      · exact hq.trans (ih q hr)
    have hu := unitsR_pos c
    unfold advI
    split
    · split
      · exact step _ (by unfold ltP; simp)
      · exact step _ (by unfold ltP; simp)
    · exact step _ (by unfold ltP; simp; omega)
/-- Places add up. -/
theorem advI_sum : ∀ (rs : List Nat) (L C l c : Nat), advI rs (if l = 0 then (L, C + c) else (L + l, c)) = (if (advI rs (l, c)).1 = 0 then (L, C + (advI rs (l, c)).2) else (L + (advI rs (l, c)).1, (advI rs (l, c)).2)) := by
  intro rs
  induction rs with
  | nil => intro L C l c; rfl
  | cons r rs ih =>
    intro L C l c
    unfold advI
    by_cases hn : isNlR r
    · rw [if_pos hn, if_pos hn]
      by_cases hc : r = 13 ∧ rs.head? = some 10
      · rw [if_pos hc, if_pos hc, ← ih]
        congr 1
        split <;> simp [Nat.add_assoc]
      · rw [if_neg hc, if_neg hc, ← ih]
        congr 1
        split <;> simp_all [Nat.add_assoc]
    · rw [if_neg hn, if_neg hn, ← ih]
      congr 1
      split <;> simp [Nat.add_assoc]
/-- What runes on end a text that no CR ends ahead of a LF. -/
theorem advI_append (rs ss : List Nat) (p : Nat × Nat) (h : lastR 0 rs = 13 → ss.head? ≠ some 10) : advI (rs ++ ss) p = advI ss (advI rs p) := by
  rw [adv_eq (rs ++ ss).length _ 0 p (Nat.le_refl _) (by simp), advS_append, adv_eq rs.length rs 0 p (Nat.le_refl _) (by simp), adv_eq ss.length ss (lastR 0 rs) _ (Nat.le_refl _) h]
theorem advI_S (rs : List Nat) (p : Nat × Nat) : advI rs p = advS 0 rs p := adv_eq rs.length rs 0 p (Nat.le_refl _) (by simp)
end Go.Proofs.YtnokiikgnplpmaaDoor

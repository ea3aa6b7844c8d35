/-
  How many mappings a builder holds: counted by the last signs of numbers. Conditions: as each lemma says.
-/
import Derived.Test.YtnokiikgnplpmaaDoorTwoKit
namespace Go.Proofs.YtnokiikgnplpmaaDoor
open Go.RowKit

/-- Is a byte the last sign of a number? -/
def isT (b : UInt8) : Bool := decide ((65 ≤ b.toNat ∧ b.toNat ≤ 90) ∨ (97 ≤ b.toNat ∧ b.toNat ≤ 102))
def cT (l : List UInt8) : Nat := l.countP isT
theorem cT_app (a b : List UInt8) : cT (a ++ b) = cT a + cT b := List.countP_append
theorem isT_sg (d : Nat) (h : d < 64) : isT (UInt8.ofNat (sg d)) = decide (d < 32) := by
  have hs := sg_lt d h
  unfold isT
  rw [u8n _ (by omega), decide_eq_decide]
  unfold sg
  repeat' split
  all_goals omega
theorem cT_digs (f x m : Nat) : cT ((digs f x m).map fun d => UInt8.ofNat (sg d)) = 1 := by
  induction f generalizing x m with
  | zero =>
    show cT [UInt8.ofNat (sg (x % 32))] = 1
    unfold cT
    rw [List.countP_singleton, isT_sg _ (by omega)]
    simp
    omega
  | succ f ih =>
    unfold digs
    split
    · show cT [UInt8.ofNat (sg (x % 32))] = 1
      unfold cT
      rw [List.countP_singleton, isT_sg _ (by omega)]
      simp
      omega
    · rw [List.map_cons]
      unfold cT
      rw [List.countP_cons, isT_sg _ (by omega)]
      have := ih (x / 32) (if x / 32 = 0 then m - 1 else m)
      unfold cT at this
      rw [this]
      simp
theorem cT_nb (n : Int) : cT (nb n) = 1 := cT_digs _ _ _
theorem cT_nums (ns : List Int) : cT (nums ns) = ns.length := by
  induction ns with
  | nil => rfl
  | cons n ns ih => rw [nums_cons, cT_app, cT_nb, ih, List.length_cons]; omega
theorem cT_44 : cT [44] = 0 := by decide
theorem cT_59 : cT [59] = 0 := by decide
theorem cT_segb (lb : Nat) (p c : St) : cT (segb lb p c) = 4 := by
  unfold segb
  simp only [cT_app, cT_nb]
  have : cT (if comma lb then ([44] : List UInt8) else []) = 0 := by split <;> rfl
  rw [this]
theorem cT_tok (toks : List (Option (List Int))) (q : Seg × Int) (fr : Bool) (h : ∀ ns, some ns ∈ toks → nOk ns) : 4 * (rsegs q toks).length ≤ cT (tokB fr toks) := by
  induction toks generalizing q fr with
  | nil => simp [rsegs]
  | cons t r ih => cases t with
    | none =>
      have := ih (rsemi q) true (fun ns hn => h ns (by simp [hn]))
      have e : tokB fr (none :: r) = [59] ++ tokB true r := rfl
      rw [e, cT_app, cT_59]
      simp only [rsegs]
      omega
    | some ns =>
      have := ih (rstep q ns) false (fun ns hn => h ns (by simp [hn]))
      have h4 : 4 ≤ ns.length := by rcases (h ns (by simp)).1 with e | e <;> omega
      have e : tokB fr (some ns :: r) = (if fr then [] else [44]) ++ (nums ns ++ tokB false r) := rfl
      have e2 : cT (if fr then ([] : List UInt8) else [44]) = 0 := by split <;> rfl
      rw [e, cT_app, cT_app, cT_nums, e2]
      simp only [rsegs, List.length_cons]
      omega
/-- A builder holds at most so many mappings. -/
def NS (d : Bd) (n : Nat) : Prop := cT d.sm + (if d.lsm = false then 4 else 0) ≤ 4 * n
theorem NS.mono {d : Bd} {n m : Nat} (h : NS d n) (hm : n ≤ m) : NS d m := by unfold NS at *; omega
theorem NS.newline {d : Bd} {n : Nat} (h : NS d n) : NS d.newline (n + 1) := by
  rw [newline_eq]
  unfold Bd.covered NS at *
  split
  · rename_i hq
    rw [if_pos hq.1] at h
    simp only [Bd.emit, cT_app, cT_segb, cT_59, if_true]
    omega
  · simp only [cT_app, cT_59, if_true]
    split at h <;> omega
theorem NS.upd (s : ByteArray) (f pos : Nat) {d : Bd} {n : Nat} (h : NS d n) : NS (Go.Proofs.YtnokiikgnplpmaaDoor.upd s f pos d) (n + f) := by
  induction f generalizing pos d n with
  | zero => exact h
  | succ f ih =>
    unfold Go.Proofs.YtnokiikgnplpmaaDoor.upd
    split
    · have h1 : NS (d.step s pos (Utf8.decode s pos).1) (n + 1) := by
        unfold Bd.step
        split
        · split
          · exact h.mono (by omega)
          · exact h.newline
        · exact NS.mono (d := { d with gcol := _ }) (n := n) h (by omega)
      exact (ih _ h1).mono (by omega)
    · exact h.mono (by omega)
theorem NS.add {d : Bd} {n : Nat} (h : NS d n) (ts : List LT) (ob : List UInt8) (tail : ByteArray) (loc : Nat) : NS (d.add ts ob tail loc) (n + tail.size + 1) := by
  unfold Bd.add
  split
  · exact h.mono (by omega)
  · have h1 : NS ({ d with ploc := (loc : Int), plen := ob.length } : Bd) n := h
    have h2 : NS ({ Go.Proofs.YtnokiikgnplpmaaDoor.upd tail tail.size 0 { d with ploc := (loc : Int), plen := ob.length } with lu := ob.length } : Bd) (n + tail.size) := NS.upd tail tail.size 0 h1
    generalize ({ Go.Proofs.YtnokiikgnplpmaaDoor.upd tail tail.size 0 { d with ploc := (loc : Int), plen := ob.length } with lu := ob.length } : Bd) = u at *
    unfold NS at *
    simp only
    by_cases hq : u.lsm = false ∧ 0 < u.gcol ∧ u.has = true
    · rw [if_pos hq]
      rw [if_pos hq.1] at h2
      simp only [Bd.emit, cT_app, cT_segb]
      simp
      omega
    · rw [if_neg hq]
      simp only [Bd.emit, cT_app, cT_segb]
      split at h2 <;> simp <;> omega
theorem cgo_NS (ts : List LT) (l : List (List Nat × Nat)) : (cgo ts l).1.lu ≤ (cgo ts l).2.length ∧ NS (cgo ts l).1 (1 + (cgo ts l).1.lu + l.length) := by
  induction l using snoc_ind with
  | h0 => exact ⟨Nat.le_refl _, by show 0 + (if (false : Bool) = false then 4 else 0) ≤ 4 * (1 + 0 + 0); simp⟩
  | hs l x ih =>
    obtain ⟨h1, h2⟩ := ih
    rw [cgo_snoc]
    unfold cstep
    have ha := h2.add ts ((cgo ts l).2 ++ encs x.1) (tailOf ((cgo ts l).2 ++ encs x.1) (cgo ts l).1.lu) x.2
    have hu := add_lu (cgo ts l).1 ts ((cgo ts l).2 ++ encs x.1) (tailOf ((cgo ts l).2 ++ encs x.1) (cgo ts l).1.lu) x.2
    have hz := tail_size ((cgo ts l).2 ++ encs x.1) (cgo ts l).1.lu
    have hlen : ((cgo ts l).2 ++ encs x.1).length = (cgo ts l).2.length + (encs x.1).length := List.length_append
    generalize (cgo ts l).2 ++ encs x.1 = ob at *
    generalize tailOf ob (cgo ts l).1.lu = tl at *
    rw [List.length_append, List.length_singleton]
    by_cases hq : (cgo ts l).1.ploc = (x.2 : Int)
    · have e : (cgo ts l).1.add ts ob tl x.2 = (cgo ts l).1 := by unfold Bd.add; rw [if_pos hq]
      rw [e]
      exact ⟨by simp only; omega, h2.mono (by simp only; omega)⟩
    · rw [if_neg hq] at hu
      rw [hu]
      exact ⟨Nat.le_refl _, ha.mono (by omega)⟩
theorem cend_NS (ts : List LT) (l : List (List Nat × Nat)) (rest : List Nat) : NS (cend ts l rest) (1 + (encs (allR l)).length + (encs rest).length + l.length) := by
  obtain ⟨h1, h2⟩ := cgo_NS ts l
  have hout := cgo_out ts l
  have hz := tail_size ((cgo ts l).2 ++ encs rest) (cgo ts l).1.lu
  have hu := NS.upd (tailOf ((cgo ts l).2 ++ encs rest) (cgo ts l).1.lu) (tailOf ((cgo ts l).2 ++ encs rest) (cgo ts l).1.lu).size 0 h2
  have hlen : ((cgo ts l).2 ++ encs rest).length = (encs (allR l)).length + (encs rest).length := by rw [hout, List.length_append]
  have h1' : (cgo ts l).1.lu ≤ (encs (allR l)).length := by rw [← hout]; exact h1
  have h3 : NS (cend ts l rest) _ := hu
  exact h3.mono (by omega)
/-- How many mappings are read of a builder's bytes. -/
theorem CI.count {F : Int → Int → Prop} {d : Bd} {toks : List (Option (List Int))} (h : CI F d toks) {n : Nat} (hn : NS d n) : (rsegs qz toks).length ≤ n := by
  have h1 := cT_tok toks qz true (rok_nok toks qz h.tok.ok)
  rw [← h.tok.sm] at h1
  unfold NS at hn
  omega
end Go.Proofs.YtnokiikgnplpmaaDoor

/-
  The contract of laws.valid: a text without what is no UTF-8. Conditions: the text has at most 2^47 bytes.
-/
import Derived.Test.YtnokiikgnplpmaaDoorKit
import Derived.Test.YtnokiikgnplpmaaDoorUtf
import Derived.Laws.Concat
namespace Go.Proofs.YtnokiikgnplpmaaDoor
open Go.RowKit

/-- The runes of a text from a place on; f bounds how many. -/
def runes (s : ByteArray) : Nat → Nat → List Nat
  | 0, _ => []
  | f + 1, pos => if pos < s.size then (Utf8.decode s pos).1 :: runes s f (pos + (Utf8.decode s pos).2) else []
/-- The runes that valid keeps. -/
def keptR (l : List Nat) : List Nat := l.filter fun r => decide (r ≠ 65533)
def validL (s : ByteArray) : List Nat := keptR (runes s s.size 0)
/-- The text of runes. -/
def txt (rs : List Nat) : ByteArray := ⟨(encs rs).toArray⟩

theorem runes_end (s : ByteArray) (f pos : Nat) (h : ¬ pos < s.size) : runes s f pos = [] := by
  cases f <;> simp [runes, h]

theorem runes_good (s : ByteArray) (f pos : Nat) : ∀ r ∈ keptR (runes s f pos), good r = true := by
  induction f generalizing pos with
  | zero => simp [runes, keptR]
  | succ f ih =>
    intro r hr
    unfold runes at hr
    split at hr
    · unfold keptR at hr
      rw [List.filter_cons] at hr
      split at hr
      · rename_i h
        rcases List.mem_cons.1 hr with e | e
        · rw [e]
          have h1 := of_decide_eq_true h
          have := decode_width s pos h1
          simp [good, this.1, h1]
        · exact ih _ r e
      · exact ih _ r hr
    · simp [keptR] at hr

theorem validL_good (s : ByteArray) : ∀ r ∈ validL s, good r = true := runes_good s _ _

theorem encs_app (a b : List Nat) : encs (a ++ b) = encs a ++ encs b := by simp [encs]
theorem encs_one (r : Nat) : encs [r] = enc r := by simp [encs]
theorem txt_size (rs : List Nat) : (txt rs).size = (encs rs).length := by simp [txt, ByteArray.size]

/-- What valid leaves: it is no longer than the text. -/
theorem width1 (s : ByteArray) (pos : Nat) (h : pos < s.size) : 1 ≤ (Utf8.decode s pos).2 := by
  by_cases ha : (s[pos]'h).toNat < 128
  · rw [decode_ascii s pos h ha]
    exact Nat.le_refl _
  · exact (decode_high s pos h (by omega)).2

theorem dec_end (n b0 b1 b2 b3 : Nat) : (dec n b0 b1 b2 b3).2 ≤ n ∨ n = 0 := by
  unfold dec
  repeat' split
  all_goals simp_all
  all_goals omega
theorem decode_end (s : ByteArray) (pos : Nat) (h : pos < s.size) : pos + (Utf8.decode s pos).2 ≤ s.size := by
  rw [decode_dec]
  rcases dec_end (s.size - pos) (s.get! pos).toNat (s.get! (pos + 1)).toNat (s.get! (pos + 2)).toNat (s.get! (pos + 3)).toNat with h1 | h1 <;> omega

theorem validL_len (s : ByteArray) : (encs (validL s)).length ≤ s.size := by
  have : ∀ f pos, pos ≤ s.size → (encs (keptR (runes s f pos))).length ≤ s.size - pos := by
    intro f
    induction f with
    | zero => intro pos h; simp [runes, keptR, encs]
    | succ f ih =>
      intro pos h
      unfold runes
      split
      · rename_i hp
        have h1 := decode_end s pos hp
        have h2 := ih _ h1
        have h3 := width1 s pos hp
        unfold keptR
        rw [List.filter_cons]
        split
        · rename_i hd
          have h4 := (decode_width s pos (of_decide_eq_true hd)).2
          have e : ∀ (r : Nat) (l : List Nat), encs (r :: l) = enc r ++ encs l := fun r l => by simp [encs]
          rw [e, List.length_append, h4]
          unfold keptR at h2
          omega
        · unfold keptR at h2
          omega
      · simp [keptR, encs]
  have := this s.size 0 (by omega)
  simpa [validL] using this

set_option maxHeartbeats 1000000 in
theorem valid_any (s : ByteArray) (w : World) (hs : s.size ≤ 140737488351232) :
    Calls Tryd.prog 12 #[.string s] w fun e w' => e = .returned (.string (txt (validL s))) ∧ Below w.heap.size w w' := by
  have ks : ∀ (W : World) (x y : ByteArray), x.size + y.size ≤ 9223372036854775807 → (Op.stringOp .add x y).run Tryd.prog W = .ok (.string (x ++ y)) W := fun W x y h => run_string_add_sum W x y h
  go_enter Tryd.func12, Tryd.ntmps12
  go_wp2
  go_loopg [3] s.size (fun f s3 wr => ∃ (pos : Nat) (acc : List Nat), w.iter s pos = wr ∧ s3 = .string (txt acc) ∧ s.size ≤ pos + f ∧ Hid (acc ++ keptR (runes s f pos) = validL s))
  case atStart => exact ⟨0, [], rfl, rfl, by omega, rfl⟩
  case round =>
    obtain ⟨pos, acc, rfl, rfl, hf, hacc⟩ := hrel
    by_cases hp : pos < s.size
    · obtain ⟨f, rfl⟩ : ∃ f, gk = f + 1 := ⟨gk - 1, by omega⟩
      have hnx : ∀ ty, (Instr.next (.pointer (some ⟨w.heap.size, 0, none⟩)) true ty).run Tryd.prog (w.iter s pos) = _ := fun ty => run_next_any w s pos ty hp
      have hwd := width1 s pos hp
      have hle := decode_le s pos
      have hlen := validL_len s
      have hrun : runes s (f + 1) pos = (Utf8.decode s pos).1 :: runes s f (pos + (Utf8.decode s pos).2) := by simp [runes, hp]
      have hac := hacc.out
      rw [hrun] at hac
      by_cases hc : (Utf8.decode s pos).1 = 65533
      · have e2 : acc ++ keptR (runes s f (pos + (Utf8.decode s pos).2)) = validL s := by rw [← hac, hc]; rfl
        have E2 := Lib.hid e2
        have h1 : (((Utf8.decode s pos).1 : Int) != 65533) = false := by simp; omega
        clear hac hrun hacc hc e2
        generalize (Utf8.decode s pos).1 = c at *
        generalize (Utf8.decode s pos).2 = wd at *
        go_wp2
        go_roundg f
        case measure => omega
        case rel => exact ⟨pos + wd, acc, rfl, rfl, by omega, E2.out⟩
      · have h1 : (((Utf8.decode s pos).1 : Int) != 65533) = true := by simp; omega
        have hdw := decode_width s pos hc
        have hen := encode_enc ((Utf8.decode s pos).1 : Int) (Utf8.decode s pos).1 (Int.toNat_natCast _) hdw.1
        have e2 : acc ++ [(Utf8.decode s pos).1] ++ keptR (runes s f (pos + (Utf8.decode s pos).2)) = validL s := by rw [← hac]; unfold keptR; rw [List.filter_cons, if_pos (by simpa using hc)]; simp
        have hl2 : (encs acc).length + (enc (Utf8.decode s pos).1).length ≤ s.size := by
          have h3 := hlen
          rw [← e2, encs_app, encs_app, encs_one] at h3
          simp at h3
          omega
        have E2 := Lib.hid e2
        clear hac hrun hacc hc e2 hdw hlen
        generalize (Utf8.decode s pos).1 = c at *
        generalize (Utf8.decode s pos).2 = wd at *
        have hsz : (txt acc).size + (⟨(enc c).toArray⟩ : ByteArray).size ≤ 9223372036854775807 := by
          rw [txt_size]
          have : (⟨(enc c).toArray⟩ : ByteArray).size = (enc c).length := by simp [ByteArray.size]
          omega
        have hcat : txt acc ++ (⟨(enc c).toArray⟩ : ByteArray) = txt (acc ++ [c]) := by
          unfold txt
          rw [encs_app, encs_one]
          apply ByteArray.ext
          simp
        go_wp2
        go_roundg f
        case measure => omega
        case rel => exact ⟨pos + wd, acc ++ [c], rfl, rfl, by omega, E2.out⟩
    · have hnx : ∀ ty, (Instr.next (.pointer (some ⟨w.heap.size, 0, none⟩)) true ty).run Tryd.prog (w.iter s pos) = _ := fun ty => run_next_end w s pos ty hp
      have e := hacc.out
      rw [runes_end s gk pos hp] at e
      have E := Lib.hid e
      clear hacc e
      go_wp2
      go_ret
      refine ⟨?_, balloc (Below.refl _ _) _⟩
      have e2 : acc = validL s := by rw [← E.out]; simp [keptR]
      rw [← e2]
      rfl
end Go.Proofs.YtnokiikgnplpmaaDoor

/-
  The contracts of bytes.IndexByte at the table of signs, and of sourcemap.DecodeVLQ. Conditions: as each one says.
-/
import Derived.Test.YtahfnlhpodbbaaaDoorTabKit
import Derived.Test.YtahfnlhpodbbaaaDoorBits
import Derived.Lib.BytesEntry
import Derived.StillTailTactics
import Derived.Deep.DrawnRows
namespace Go.Proofs.YtahfnlhpodbbaaaDoor
open Go.RowKit

def tabL : List Int := (List.range 64).map fun j => (sg j : Int)
theorem tabL_len : tabL.length = 64 := by simp [tabL]
theorem tabL_at (i : Nat) (h : i < 64) : tabL.getD i 0 = (sg i : Int) := by simp [tabL, List.getD, h]
theorem tab_fin : ∀ c : Fin 256, Lib.indexByte (Lib.bytesOf tabL) ((c.val : Int).toNat.toUInt8) = ix c.val := by decide +kernel
theorem tab_ix (c : Nat) (h : c < 256) : Lib.indexByte (Lib.bytesOf tabL) ((c : Int).toNat.toUInt8) = ix c := tab_fin ⟨c, h⟩

set_option maxHeartbeats 1000000 in
set_option maxRecDepth 100000 in
theorem index_any (R o cp c : Nat) (w : World) (hc : ∀ j : Nat, j < 64 → w.cell? ⟨R, o + j, none⟩ = some (.int .u8 (sg j : Int))) (h : c < 256) :
    Calls Tryd.prog 20 #[.slice (some ⟨R, o, none⟩) 64 cp, .int .u8 (c : Int)] w fun e w' => e = .returned (.int .i64 (ix c)) ∧ w' = w := by
  have hx := tab_ix c h
  go_enter Tryd.func20, Tryd.ntmps20
  go_wp2
  rw [run_callFunc_extern Tryd.func21 (by kernel_rfl) (by kernel_rfl) (by kernel_rfl) (e := Extern.BytealgIndexByte.indexByte) (by kernel_rfl), Lib.run_indexByteSlice w R o 64 cp tabL tabL_len (fun i hi => by rw [tabL_at i hi]; exact hc i hi) (c : Int), hx]
  simp only [Result.andThen]
  rw [Oper.upon_value]
  go_wp2
  go_ret
  exact ⟨rfl, rfl⟩

theorem val_lt (l : List Nat) : val l < 32 ^ l.length := by
  induction l with
  | nil => simp [val]
  | cons d l ih => simp only [val, List.length_cons, Nat.pow_succ]; omega
theorem val_snoc (l : List Nat) (d : Nat) : val (l ++ [d]) = val l + d % 32 * 2 ^ (5 * l.length) := by
  induction l with
  | nil => simp [val]
  | cons e l ih =>
    simp only [List.cons_append, val, List.length_cons, ih]
    rw [show 5 * (l.length + 1) = 5 * l.length + 5 by omega, Nat.pow_add]
    have : d % 32 * (2 ^ (5 * l.length) * 2 ^ 5) = 32 * (d % 32 * 2 ^ (5 * l.length)) := by rw [← Nat.mul_assoc]; omega
    omega
/-- One digit more: its bits do not meet those that are there. -/
theorem val_or (l : List Nat) (d : Nat) (h : l.length ≤ 11) : bits .or .i64 ((val l : Nat) : Int) ((d % 32 * 2 ^ (5 * l.length) : Nat) : Int) = ((val (l ++ [d]) : Nat) : Int) := by
  have h1 := val_lt l
  have h2 : (32 : Nat) ^ l.length = 2 ^ (5 * l.length) := by rw [show (32 : Nat) = 2 ^ 5 by decide, ← Nat.pow_mul]
  rw [h2] at h1
  have h3 : (2 : Nat) ^ (5 * l.length) ≤ 2 ^ 55 := Nat.pow_le_pow_right (by decide) (by omega)
  have h4 : d % 32 * 2 ^ (5 * l.length) ≤ 31 * 2 ^ 55 := Nat.mul_le_mul (by omega) h3
  rw [i64_or_nat _ _ (by omega) (by omega), or_shift _ _ _ h1, val_snoc]

theorem pair_eq {a b a' b' : Int} (h1 : a = a') (h2 : b = b') : Ending.returned (Value.tuple #[.int .i64 a, .int .i64 b]) = Ending.returned (.tuple #[.int .i64 a', .int .i64 b']) := by rw [h1, h2]
theorem val_bound (l : List Nat) (h : l.length ≤ 12) : val l < 1152921504606846976 := by
  have h1 := val_lt l
  have h2 : (32 : Nat) ^ l.length ≤ 32 ^ 12 := Nat.pow_le_pow_right (by decide) h
  have h3 : (32 : Nat) ^ 12 = 1152921504606846976 := by decide
  omega
theorem val_or' (l : List Nat) (d : Nat) (h : l.length ≤ 11) : bits .or .i64 ((val l : Nat) : Int) (wrap64 ((d : Int) % 32 * 2 ^ (5 * l.length))) = ((val (l ++ [d]) : Nat) : Int) := by
  have h1 := val_bound (l ++ [d]) (by simp; omega)
  rw [val_snoc] at h1
  rw [← val_or l d h]
  have e : ((d : Int) % 32 * 2 ^ (5 * l.length)) = ((d % 32 * 2 ^ (5 * l.length) : Nat) : Int) := by simp
  rw [e, IntWalk.wrap64_in _ (by omega)]

set_option maxHeartbeats 1000000 in
set_option maxRecDepth 100000 in
theorem decode_any (R o n cp i B : Nat) (l : List Nat) (d : Nat) (w : World) (hT : B64 B w) (hn : n ≤ 1152921504606846976) (hi : i + l.length + 1 ≤ n)
    (hc : ∀ j (h : j < (l ++ [d]).length), w.cell? ⟨R, o + (i + j), none⟩ = some (.int .u8 (sg ((l ++ [d])[j]) : Int))) (hl : ∀ y ∈ l, 32 ≤ y ∧ y < 64) (hd : d < 32) (hlen : l.length ≤ 11) :
    Calls Tryd.prog 17 #[.slice (some ⟨R, o, none⟩) n cp, .int .i64 (i : Int)] w fun e w' => e = .returned (.tuple #[.int .i64 (unvl (val (l ++ [d]))), .int .i64 ((i + l.length + 1 : Nat) : Int)]) ∧ ∃ m, w' = w.drewN m := by
  go_enter Tryd.func17, Tryd.ntmps17
  go_wp2_with fail
  obtain ⟨R0, o0, c0, hR0, hG0, hg, htab⟩ := hT
  go_loopg [1, 6, 7] l.length (fun f s1 s6 s7 wr => ∃ (q : Nat) (l1 l2 : List Nat), Hid (w.drewN q = wr) ∧ Hid (l = l1 ++ l2) ∧ l2.length = f ∧ l1.length + f ≤ 11 ∧ l1.length + f = l.length ∧ s1 = .int .i64 ((i + l1.length : Nat) : Int) ∧ s6 = .int .i64 ((5 * l1.length : Nat) : Int) ∧ s7 = .int .i64 ((val l1 : Nat) : Int))
  case atStart => exact ⟨0, [], l, rfl, rfl, rfl, by simpa using hlen, by simp, rfl, rfl, rfl⟩
  case round =>
    obtain ⟨q, l1, l2, hw, hll, hf, hk, hkl, rfl, rfl, rfl⟩ := hrel
    have hcs : ∀ a, wr.cell? a = w.cell? a := fun a => by rw [← hw.out]; rfl
    have hgr := (hcs _).trans hg
    have htr : ∀ j : Nat, j < 64 → wr.cell? ⟨R0, o0 + j, none⟩ = some (.int .u8 (sg j : Int)) := fun j hj => (hcs _).trans (htab j hj)
    clear hg htab
    have hpn : i + l1.length < n := by omega
    have hvl := val_lt l1
    cases l2 with
    | nil =>
      have hcell := (hcs _).trans <| hc l1.length (by simp; omega)
      have hx : (l ++ [d])[l1.length]'(by simp; omega) = d := by
        have e0 := hll.out
        subst e0
        simp
      rw [hx] at hcell
      have hsg := sg_lt d (by omega)
      have hix := ix_sg d (by omega)
      have hor := val_or' l1 d (by omega)
      have hvb := val_bound (l1 ++ [d]) (by simp; omega)
      have he1 : val (l1 ++ [d]) = val (l ++ [d]) := by rw [hll.out]; simp
      generalize val (l1 ++ [d]) = v at *
      have HE := Lib.hid he1
      clear he1
      have ha31 := i64_and31 d (by omega)
      have ha32 : bits .and .i64 (d : Int) 32 = 0 := by
        have := i64_and_nat d 32 (by omega) (by omega)
        rw [(and32 d (by omega)).2 hd] at this
        exact this
      generalize hP : i + l1.length = p at *
      clear hc hcs
      go_wp2_with fail
      go_quiet ((go_at_call 20; refine Calls.quiet_of_same (index_any R0 o0 c0 (sg d) _ (fun j hj => htr j hj) (by omega))))
      rcases Nat.mod_two_eq_zero_or_one v with hv2 | hv2
      · have ha1 := i64_and1 v (by omega)
        rw [hv2] at ha1
        have E : Hid (unvl (val (l ++ [d])) = ((v / 2 : Nat) : Int)) := Lib.hid (by rw [← HE.out]; unfold unvl; rw [if_neg (by omega)])
        go_wp2_with fail
        go_ret2
        exact ⟨pair_eq (a := (v : Int) / 2) (b := (p : Int) + 1) (by rw [E.out]; omega) (by simp at hf; omega), q + nq, by rw [← hw.out]; simp⟩
      · have ha1 := i64_and1 v (by omega)
        rw [hv2] at ha1
        have E : Hid (unvl (val (l ++ [d])) = -((v / 2 : Nat) : Int)) := Lib.hid (by rw [← HE.out]; unfold unvl; rw [if_pos hv2])
        go_wp2_with fail
        go_ret2
        exact ⟨pair_eq (a := -((v : Int) / 2)) (b := (p : Int) + 1) (by rw [E.out]; omega) (by simp at hf; omega), q + nq, by rw [← hw.out]; simp⟩
    | cons e l2 =>
      have hcell := (hcs _).trans <| hc l1.length (by simp; omega)
      have hx : (l ++ [d])[l1.length]'(by simp; omega) = e := by
        have e0 := hll.out
        subst e0
        simp
      rw [hx] at hcell
      have he := hl e (by rw [hll.out]; simp)
      have hsg := sg_lt e he.2
      have hix := ix_sg e he.2
      have hor := val_or' l1 e (by omega)
      have hvb := val_bound (l1 ++ [e]) (by simp; omega)
      generalize hV : val (l1 ++ [e]) = v at *
      have HV := Lib.hid hV
      clear hV
      have ha31 := i64_and31 e (by omega)
      have ha32 : bits .and .i64 (e : Int) 32 = 32 := by
        have := i64_and_nat e 32 (by omega) (by omega)
        rw [and32' e (by omega) (by omega)] at this
        exact this
      generalize hP : i + l1.length = p at *
      clear hc hcs
      go_wp2_with fail
      go_quiet ((go_at_call 20; refine Calls.quiet_of_same (index_any R0 o0 c0 (sg e) _ (fun j hj => htr j hj) (by omega))))
      go_wp2_with fail
      go_roundg l2.length
      case measure => simp at hf; omega
      case rel => exact ⟨q + nq, l1 ++ [e], l2, Lib.hid (by rw [← hw.out]; simp), Lib.hid (by rw [hll.out]; simp), rfl, by simp at hf ⊢; omega, by simp at hf ⊢; omega, by simp; omega, by simp; omega, by rw [HV.out]⟩
end Go.Proofs.YtahfnlhpodbbaaaDoor

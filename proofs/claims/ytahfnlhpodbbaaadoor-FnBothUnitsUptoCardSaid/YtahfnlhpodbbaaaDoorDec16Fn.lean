/-
  The contract of sourcemap.DecodeVLQUTF16: a number of units, or none. Conditions: as each one says.
-/
import Derived.Test.YtahfnlhpodbbaaaDoorDecFn
namespace Go.Proofs.YtahfnlhpodbbaaaDoor
open Go.RowKit

/-- One digit more, in 32 bits. -/
theorem val_or32 (l : List Nat) (d : Nat) (h : val (l ++ [d]) < 2147483648) : bits .or .i32 ((val l : Nat) : Int) (wrap32 ((d : Int) % 32 * 2 ^ (5 * l.length))) = ((val (l ++ [d]) : Nat) : Int) := by
  have h1 := val_lt l
  have h2 : (32 : Nat) ^ l.length = 2 ^ (5 * l.length) := by rw [show (32 : Nat) = 2 ^ 5 by decide, ← Nat.pow_mul]
  rw [h2] at h1
  rw [val_snoc] at h ⊢
  have e : ((d : Int) % 32 * 2 ^ (5 * l.length)) = ((d % 32 * 2 ^ (5 * l.length) : Nat) : Int) := by simp
  rw [e, IntWalk.wrap32_in _ (by omega), i32_or_nat _ _ (by omega) (by omega), or_shift _ _ _ h1]

theorem val_app (a b : List Nat) : val (a ++ b) = val a + 32 ^ a.length * val b := by
  induction a with
  | nil => simp [val]
  | cons x a ih =>
    simp only [List.cons_append, val, ih, List.length_cons, Nat.pow_succ]
    have : 32 * (32 ^ a.length * val b) = 32 ^ a.length * 32 * val b := by rw [Nat.mul_comm (32 ^ a.length) 32, Nat.mul_assoc]
    omega
theorem val_pre (a b : List Nat) : val a ≤ val (a ++ b) := by rw [val_app]; omega

theorem trip_eq {a b a' b' : Int} {c : Bool} (h1 : a = a') (h2 : b = b') : Ending.returned (Value.tuple #[.int .i32 a, .int .i64 b, .bool c]) = Ending.returned (.tuple #[.int .i32 a', .int .i64 b', .bool c]) := by rw [h1, h2]
/-- What is read of digits that go on, and of one that ends them, or none. -/
def read16 (l : List Nat) : Option Nat → Value
  | none => .tuple #[.int .i32 0, .int .i64 0, .bool false]
  | some d => .tuple #[.int .i32 (unvl (val (l ++ [d]))), .int .i64 ((l.length + 1 : Nat) : Int), .bool true]

set_option maxHeartbeats 1000000 in
set_option maxRecDepth 100000 in
/-- Units that begin with a number, or break off within one. -/
theorem decode16_any (R o n cp B : Nat) (l : List Nat) (tl : Option Nat) (w : World) (hT : B64 B w) (hn : n ≤ 1152921504606846976) (hn0 : 0 < n) (hi : l.length + tl.toList.length ≤ n) (ht : tl = none → n = l.length)
    (hc : ∀ j (h : j < (l ++ tl.toList).length), w.cell? ⟨R, o + j, none⟩ = some (.int .u16 (sg ((l ++ tl.toList)[j]) : Int))) (hl : ∀ y ∈ l, 32 ≤ y ∧ y < 64) (hd : ∀ d, tl = some d → d < 32) (hlen : l.length ≤ 6) (hval : val (l ++ tl.toList) < 2147483648) :
    Calls Tryd.prog 18 #[.slice (some ⟨R, o, none⟩) n cp] w fun e w' => e = .returned (read16 l tl) ∧ ∃ m, w' = w.drewN m := by
  obtain ⟨R0, o0, c0, hR0, hG0, hg, htab⟩ := hT
  have hn1 : ((n : Int) == 0) = false := by simp; omega
  go_enter Tryd.func18, Tryd.ntmps18
  go_wp2_with fail
  go_loopg [6, 7, 8] l.length (fun f s6 s7 s8 wr => ∃ (q : Nat) (l1 l2 : List Nat), Hid (w.drewN q = wr) ∧ Hid (l = l1 ++ l2) ∧ l2.length = f ∧ l1.length + f ≤ 6 ∧ l1.length + f = l.length ∧ s6 = .int .i64 (l1.length : Int) ∧ s7 = .int .i64 ((5 * l1.length : Nat) : Int) ∧ s8 = .int .i32 ((val l1 : Nat) : Int))
  case atStart => exact ⟨0, [], l, rfl, rfl, rfl, by simpa using hlen, by simp, rfl, rfl, rfl⟩
  case round =>
    obtain ⟨q, l1, l2, hw, hll, hf, hk, hkl, rfl, rfl, rfl⟩ := hrel
    have hcs : ∀ a, wr.cell? a = w.cell? a := fun a => by rw [← hw.out]; rfl
    have hgr := (hcs _).trans hg
    have htr : ∀ j : Nat, j < 64 → wr.cell? ⟨R0, o0 + j, none⟩ = some (.int .u8 (sg j : Int)) := fun j hj => (hcs _).trans (htab j hj)
    clear hg htab
    cases l2 with
    | nil =>
      have hle : Hid (l1.length = l.length) := Lib.hid (by simp at hf; omega)
      cases tl with
      | none =>
        have hge : (l1.length : Int) ≥ (n : Int) := by have := ht rfl; have := hle.out; omega
        go_wp2_with fail
        go_ret3
        exact ⟨rfl, q, hw.out.symm⟩
      | some d =>
        have hd := hd d rfl
        have hpn : l1.length < n := by have := hle.out; simp at hi; omega
        have hcell := (hcs _).trans <| hc l1.length (by have := hle.out; simp; omega)
        have hx : (l ++ (some d).toList)[l1.length]'(by have := hle.out; simp; omega) = d := by
          have e0 := hll.out
          subst e0
          simp
        rw [hx] at hcell
        have hsg := sg_lt d (by omega)
        have hix := ix_sg d (by omega)
        have hvb : val (l1 ++ [d]) < 2147483648 := by
          have := hval
          rw [hll.out] at this
          simpa using this
        have hor := val_or32 l1 d hvb
        have he1 : val (l1 ++ [d]) = val (l ++ [d]) := by rw [hll.out]; simp
        generalize val (l1 ++ [d]) = v at *
        have HE := Lib.hid he1
        clear he1
        have ha31 : bits .and .i32 (d : Int) 31 = (d : Int) % 32 := by
          have := i32_and_nat d 31 (by omega) (by omega)
          rw [and31] at this
          simpa using this
        have ha32 : bits .and .i32 (d : Int) 32 = 0 := by
          have := i32_and_nat d 32 (by omega) (by omega)
          rw [(and32 d (by omega)).2 hd] at this
          exact this
        clear hc hcs hkl ht hf hi hval hl hx
        generalize l1.length = p at *
        go_wp2_with fail
        go_quiet ((go_at_call 20; refine Calls.quiet_of_same (index_any R0 o0 c0 (sg d) _ (fun j hj => htr j hj) (by omega))))
        have ha1 := i32_and_nat v 1 (by omega) (by omega)
        rw [and1] at ha1
        rcases Nat.mod_two_eq_zero_or_one v with hv2 | hv2
        · rw [hv2] at ha1
          have E : Hid (unvl (val (l ++ [d])) = ((v / 2 : Nat) : Int)) := Lib.hid (by rw [← HE.out]; unfold unvl; rw [if_neg (by omega)])
          have ha1' : bits .and .i32 (v : Int) 1 = 0 := ha1
          clear ha1
          go_wp2_with fail
          go_ret3
          exact ⟨trip_eq (a := (v : Int) / 2) (b := (p : Int) + 1) (by rw [E.out]; omega) (by have := hle.out; omega), q + nq, by rw [← hw.out]; simp⟩
        · rw [hv2] at ha1
          have E : Hid (unvl (val (l ++ [d])) = -((v / 2 : Nat) : Int)) := Lib.hid (by rw [← HE.out]; unfold unvl; rw [if_pos hv2])
          have ha1' : bits .and .i32 (v : Int) 1 = 1 := ha1
          clear ha1
          go_wp2_with fail
          go_ret3
          exact ⟨trip_eq (a := -((v : Int) / 2)) (b := (p : Int) + 1) (by rw [E.out]; omega) (by have := hle.out; omega), q + nq, by rw [← hw.out]; simp⟩
    | cons e l2 =>
      have hpn : l1.length < n := by simp at hf; omega
      have hcell := (hcs _).trans <| hc l1.length (by simp at hf ⊢; omega)
      have hx : (l ++ tl.toList)[l1.length]'(by simp at hf ⊢; omega) = e := by
        have e0 := hll.out
        subst e0
        simp
      rw [hx] at hcell
      have he := hl e (by rw [hll.out]; simp)
      have hsg := sg_lt e he.2
      have hix := ix_sg e he.2
      have hvb : val (l1 ++ [e]) < 2147483648 := by
        have := val_pre (l1 ++ [e]) (l2 ++ tl.toList)
        have h2 := hval
        rw [hll.out] at h2
        simp at this h2
        omega
      have hor := val_or32 l1 e hvb
      generalize hV : val (l1 ++ [e]) = v at *
      have HV := Lib.hid hV
      clear hV
      have ha31 : bits .and .i32 (e : Int) 31 = (e : Int) % 32 := by
        have := i32_and_nat e 31 (by omega) (by omega)
        rw [and31] at this
        simpa using this
      have ha32 : bits .and .i32 (e : Int) 32 = 32 := by
        have := i32_and_nat e 32 (by omega) (by omega)
        rw [and32' e (by omega) (by omega)] at this
        exact this
      have HK := Lib.hid hkl
      have HF := Lib.hid hf
      clear hc hcs hx hkl hf hi ht hval hl
      generalize hP : l1.length = p at *
      go_wp2_with fail
      go_quiet ((go_at_call 20; refine Calls.quiet_of_same (index_any R0 o0 c0 (sg e) _ (fun j hj => htr j hj) (by omega))))
      go_wp2_with fail
      go_roundg l2.length
      case measure => have := HF.out; simp at this; omega
      case rel =>
        have h1 := HF.out
        have h2 := HK.out
        simp at h1
        exact ⟨q + nq, l1 ++ [e], l2, Lib.hid (by rw [← hw.out]; simp), Lib.hid (by rw [hll.out]; simp), rfl, by simp; omega, by simp; omega, by simp; omega, by simp; omega, by rw [HV.out]⟩
end Go.Proofs.YtahfnlhpodbbaaaDoor

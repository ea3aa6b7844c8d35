/-
  laws.FnNoUnits returns true for every input: what begins with a unit that is no digit is no number. Conditions: the table of signs lies in its variable.
-/
import Derived.Test.YtahfnlhpodbbaaaDoorOwn16
import Derived.Test.YtahfnlhpodbbaaaDoorLaidKit
import Derived.Test.YtahfnlhpodbbaaaDoorRowKit
import Derived.Laws.AppendOwnNone
namespace Go.Proofs.YtahfnlhpodbbaaaDoor
open Go.RowKit Go.ChangeShapes Go.WideShapes Go.ChangeAt

/-- The unit that the law takes. -/
def noUnit (c : Nat) : Nat := if 0 ≤ ix (c % 128) then 32 else c % 128
theorem noUnit_ix (c : Nat) : ix (noUnit c) = -1 ∧ noUnit c < 128 := by
  unfold noUnit
  split
  · exact ⟨by decide, by decide⟩
  · have := ix_lo (c % 128)
    exact ⟨by omega, by omega⟩

theorem own16_no (base n B c : Nat) (v : Value) (xs : List Value) (w : World) (hT : B64 B w) (hown : w.ownsRow base 35 1 v n xs) (hn : n ≤ 1152921504606846976) (hn0 : 0 < n)
    (hc : xs[0]? = some (.int .u16 (c : Int))) (hc1 : c < 256) (hc2 : ix c = -1) :
    Calls Tryd.prog 14 #[v] w fun e w' => e = .returned (.tuple #[.int .i64 0, .int .i64 0, .bool false]) ∧ ∃ m, w' = w.drewN m := by
  rcases own_cells hown with ⟨rfl, h0⟩ | ⟨g, cap, rfl, _, _, hcell⟩
  · omega
  · exact impl16_any _ 0 0 false w (by decide) (by decide) (decode16_no g 0 n cap B c w hT hn hn0 ((hcell 0 hn0).trans hc) hc1 hc2)

theorem below_drewN {B m : Nat} {w W : World} (h : Below B w W) : Below B w (W.drewN m) := ⟨h.os, h.tape, h.output, h.size, h.block⟩
/-- The cells of a row, behind a new block. -/
theorem row_cells {w : World} {ad : Addr} {zs : List Int} {o : Obj} (hr : IntRow .u16 w (some ad) zs) : ∀ j u, (zs.map (Value.int .u16))[j]? = some u → (w.alloc o).cell? (ad.add j) = some u := by
  intro j u hu
  rw [List.getElem?_map] at hu
  obtain ⟨z, hz, rfl⟩ := Option.map_eq_some_iff.1 hu
  have hj := (List.getElem?_eq_some_iff.1 hz).1
  obtain ⟨b, o, e, hb, hc⟩ := hr j hj
  cases e
  rw [List.getElem?_eq_getElem hj] at hz
  cases hz
  rw [Addr.add_lit, (balloc (Below.refl w.heap.size w) _).cell (p := ⟨b, o + j, none⟩) hb]
  exact hc

set_option maxHeartbeats 1000000 in
set_option maxRecDepth 100000 in
theorem fnNoUnits_walk (c : Int) (a : Option Addr) (cap : Nat) (zs : List Int) (hc : (Lit.int .u16 c).wf = true) (hz : zs.length ≤ 70368744175616) (w : World) (hr : IntRow .u16 w a zs) (hnil : a = none → zs = [] ∧ cap = 0) (hT : B64 w.heap.size w) :
    Calls Tryd.prog 7 #[.int .u16 c, .slice a zs.length cap] w fun e w' => e = .returned (.bool true) ∧ Below w.heap.size w w' := by
  obtain ⟨k, rfl⟩ : ∃ k : Nat, c = (k : Int) := by
    simp [Lit.wf, IntKind.min, IntKind.max, IntKind.signed, IntKind.bits] at hc
    exact ⟨c.toNat, by omega⟩
  obtain ⟨i0, hi0, hz0, hz1, hz2⟩ := info_parts info_u16
  go_enter Tryd.func7, Tryd.ntmps7
  have hnu := noUnit_ix k
  go_upto_if 14 with (go_at_call 16; refine (isDigit_any (k % 128) w (by omega)).mono ?_; rintro e w1 ⟨rfl, hw1⟩; obtain rfl := hw1.symm)
  go_cut [0] (fun s0 wx => s0 = .int .u16 (noUnit k : Int) ∧ w = wx)
  case first =>
    by_cases hx : 0 ≤ ix (k % 128)
    · have E : Hid (noUnit k = 32) := Lib.hid (by unfold noUnit; rw [if_pos hx])
      have hd : decide (0 ≤ ix (k % 128)) = true := by simpa using hx
      go_wp2_with fail
      go_meet
      exact ⟨by rw [E.out]; rfl, rfl⟩
    · have E : Hid (noUnit k = k % 128) := Lib.hid (by unfold noUnit; rw [if_neg hx])
      have hd : decide (0 ≤ ix (k % 128)) = false := by simpa using hx
      go_wp2_with fail
      go_meet
      exact ⟨by rw [E.out]; rfl, rfl⟩
  case rest =>
    obtain ⟨rfl, rfl⟩ := hcut
    generalize noUnit k = c at *
    have hlit := World.ownsRow_lit (e := 35) (size := 1) w #[Value.int .u16 (c : Int)] 1 (Nat.le_refl _) (by decide) rfl
    have key : ∀ v W, W.ownsRow w.heap.size 35 1 v (1 + zs.length) ([Value.int .u16 (c : Int)] ++ zs.map (Value.int .u16)) → Below w.heap.size w W → Calls Tryd.prog 14 #[v] W fun e w' => e = .returned (.tuple #[.int .i64 0, .int .i64 0, .bool false]) ∧ ∃ m, w' = W.drewN m :=
      fun v W ho hb => own16_no _ _ w.heap.size c v _ W (hT.below hb) ho (by omega) (by omega) rfl (by omega) hnu.1
    have key2 : ∀ W, Below w.heap.size w W → Calls Tryd.prog 15 #[.string ⟨#[68]⟩] W fun e w' => ∃ v, e = .returned v ∧ Below w.heap.size w w' ∧ (Calls Tryd.prog 14 #[v] w' fun e w'' => e = .returned (.tuple #[.int .i64 (-1), .int .i64 1, .bool true]) ∧ ∃ m, w'' = w'.drewN m) := by
      intro W hb
      refine (units_any ⟨#[68]⟩ W (by decide)).mono ?_
      rintro e w' ⟨v, rfl, ho, hb'⟩
      have hb2 := hb.trans (hb'.mono hb.size)
      refine ⟨v, rfl, hb2, ?_⟩
      exact own16 _ _ w.heap.size v _ w' (hT.below hb2) ho (by decide) [] (some 3) (by decide) (fun h => by cases h) (fun j h => by
        obtain rfl : j = 0 := by simp at h; omega
        rfl) (by simp) (fun d h => by cases h; decide) (by decide) (by decide)
    have Key := Lib.hid key
    have Key2 := Lib.hid key2
    clear key key2 hT
    cases a with
    | none =>
      obtain ⟨rfl, rfl⟩ := hnil rfl
      go_wp2_with (at_builtin; refine wpList_append_own_none rfl (.tmp 17) (.tmp 18) _ rfl w.heap.size 35 i0 1 Tryd.underlying33 hi0 _ 1 _ rfl hlit rfl ?_)
      refine (Key.out _ _ hlit (balloc (Below.refl w.heap.size w) _)).mono ?_
      rintro e w3 ⟨rfl, m, rfl⟩
      have HB := Lib.hid (below_drewN (m := m) (balloc (Below.refl w.heap.size w) (Obj.cells #[Value.int .u16 (c : Int)] 35)))
      generalize (w.alloc (Obj.cells #[Value.int .u16 (c : Int)] 35)).drewN m = w3 at *
      go_wp2_with fail
      refine (Key2.out w3 HB.out).mono ?_
      rintro e w4 ⟨v4, rfl, hb4, hd⟩
      have HB4 := Lib.hid hb4
      have HD := Lib.hid hd
      clear hb4 hd
      go_wp2_with fail
      refine HD.out.mono ?_
      rintro e w5 ⟨rfl, m2, rfl⟩
      go_wp2_with fail
      go_ret
      exact ⟨by simp, below_drewN HB4.out⟩
    | some ad =>
      go_wp2_with (at_builtin; refine wpList_append_own_at _ rfl (.tmp 17) (.tmp 18) _ rfl w.heap.size 35 i0 _ 1 2 Tryd.underlying33 hi0 hz0 hz1 hz2 rfl (by omega) _ 1 [.int .u16 (c : Int)] rfl hlit ad zs.length cap (zs.map (Value.int .u16)) rfl (by simp) (row_cells hr) (by intro u hu; obtain ⟨z, _, rfl⟩ := List.mem_map.1 hu; rfl) (by unfold maxLen; omega) (by omega) (by simp) ?_; intro v2 w2 hown2 hg2 hnil2 hat2; clear hnil2)
      refine (Key.out _ _ hown2 (below_grown (balloc (Below.refl w.heap.size w) _) hg2 (fun k hk => (hlit.lt k hk).1))).mono ?_
      rintro e w3 ⟨rfl, m, rfl⟩
      have HB := Lib.hid (below_drewN (m := m) (below_grown (balloc (Below.refl w.heap.size w) _) hg2 (fun k hk => (hlit.lt k hk).1)))
      generalize w2.drewN m = w3 at *
      go_wp2_with fail
      refine (Key2.out w3 HB.out).mono ?_
      rintro e w4 ⟨v4, rfl, hb4, hd⟩
      have HB4 := Lib.hid hb4
      have HD := Lib.hid hd
      clear hb4 hd
      go_wp2_with fail
      refine HD.out.mono ?_
      rintro e w5 ⟨rfl, m2, rfl⟩
      go_wp2_with fail
      go_ret
      exact ⟨by simp, below_drewN HB4.out⟩

theorem fnNoUnits_wrow (os : Os) {H : Type} (enc : TypeId × Value → H) :
    (OpenSpec.ofChange Rows.fnNoUnitsSpec).preRow enc Tryd.prog Tryd.f7 Rows.fnNoUnitsRow.domain false Rows.fnNoUnitsRow.laid ((laidWorld os).forCall (fun _ _ => 0) ⟨#[], #[.int .u16 0, .slice none 0 0], []⟩).memory #[.int .u16 0, .slice none 0 0] := by
  have hw : ((DataW.whole enc Tryd.prog ((laidWorld os).forCall (fun _ _ => 0) ⟨#[], #[.int .u16 0, .slice none 0 0], []⟩).memory Tryd.f7.params.toList (OpenSpec.ofChange Rows.fnNoUnitsSpec).vars false (#[.int .u16 0, .slice none 0 0] : Array Value).toList 8).map (fun x => (x.1, x.2.1))) =
      some ([.lit (.int .u16 0), .nil], []) := by kernel_rfl
  obtain ⟨⟨x1, x2, x3⟩, hx, hx1⟩ := Option.map_eq_some_iff.1 hw
  simp only [Prod.mk.injEq] at hx1
  obtain ⟨rfl, rfl⟩ := hx1
  exact OpenSpec.preRow_of_cond 8 hx (by kernel_rfl) (fun k hk => by cases hk) (by kernel_rfl) (laid_met os _)

set_option maxRecDepth 100000 in
theorem fnNoUnits_lifted (os : Os) (started : os.Started) (H : Type) (enc : TypeId × Value → H) (F : Stop.Interp) :
    ReturnsInHanded {} Tryd.checked os 7 .any ((OpenSpec.ofChange Rows.fnNoUnitsSpec).preRow enc Tryd.prog Tryd.f7 Rows.fnNoUnitsRow.domain false Rows.fnNoUnitsRow.laid) (((OpenSpec.ofChange Rows.fnNoUnitsSpec).at F).post enc Tryd.prog Tryd.f7 false true false false) := by
  refine returnsInHanded_of_row (C := Tryd.checked) (s := OpenSpec.ofChange Rows.fnNoUnitsSpec) own started (by kernel_rfl) Tryd.func7
    (witness_row_atRef (enc := enc) (C := Tryd.checked) false (laidWorld os) #[.int .u16 0, .slice none 0 0] rfl (by kernel_rfl) (by kernel_rfl) (by kernel_rfl) (fnNoUnits_wrow os enc)) ?_
  intro W base args ds gs before hval0 hW _ hcond hsz0 hL _ _
  have hT : B64 W.heap.size W := b64_of_laid hL
  have hval : ∀ (j : Nat) t v, Tryd.f7.params[j]? = some t → args[j]? = some v → Value.okWide Tryd.prog W .any base t v := hval0
  have hW' := hW
  obtain ⟨p, q, hA0, hV, rfl, hfz, hnd⟩ := hW
  have hA : DataW.TrodAll enc Tryd.prog W 0 (fun _ => true) true Tryd.f7.params.toList args.toList ds p := hA0
  have hsz : (DataW.weightsEach Tryd.prog (Tryd.f7.params.toList ++ (OpenSpec.ofChange Rows.fnNoUnitsSpec).bare.plain.varTypes Tryd.prog) (ds ++ gs)).all (· ≤ reachBytes) = true := hsz0
  rw [Tryd.params7] at hA hval hsz
  obtain ⟨v0, vs0, d0, ds0, p0, q0, hargs, rfl, rfl, h0, r0⟩ := trodAll_cons hA
  obtain ⟨v1, vs1, d1, ds1, p1, q1, rfl, rfl, rfl, h1, r1⟩ := trodAll_cons r0
  obtain ⟨rfl, rfl, rfl⟩ := trodAll_nil r1
  obtain rfl : args = #[v0, v1] := by cases args; simp_all
  obtain ⟨a0, rfl, rfl, rfl, w0⟩ := open_int Tryd.underlying35 (hval 0 35 v0 rfl rfl) h0
  obtain ⟨a1, c1, z1, rfl, R1, w1, D1⟩ := open_introw Tryd.underlying33 Tryd.underlying35 (by kernel_rfl) (hval 1 33 v1 rfl rfl) h1
  have s1 : z1.length ≤ 70368744175616 := by
    rcases D1 with ⟨_, _, rfl⟩ | ⟨_, rest, _, _, rfl⟩
    · simp
    · have h := sized_slice hsz (j := 1) (t := 33) (e := 35) rfl rfl Tryd.underlying33
      rw [show Tryd.prog.bytesOf 35 = 2 by kernel_rfl] at h
      simp [lits, reachBytes] at h
      omega
  refine (fnNoUnits_walk a0 a1 c1 z1 w0 s1 W R1 (by rcases D1 with ⟨_, h, h2⟩ | ⟨_, _, h, _⟩; exact fun _ => ⟨h2, h⟩; exact fun q => by rw [q] at h; cases h) hT).mono fun e W' ⟨he, hb⟩ => ⟨_, he, ?_⟩
  exact law_post (s := Rows.fnNoUnitsSpec) (f := Tryd.f7) (tb := 4) (by kernel_rfl) (by kernel_rfl) (by kernel_rfl) Tryd.underlying4 rfl (fun ds h => by rw [Tryd.params7] at h; match ds, h with | [_, _], _ => rfl) hW' hb

theorem fnNoUnits_said : Rows.FnNoUnitsSaid :=
  OpenClaim.holds_of_cond 7 Tryd.f7 rfl rfl rfl rfl rfl rfl rfl ⟨rfl, rfl, rfl, rfl, rfl⟩ rfl rfl rfl rfl rfl (by kernel_rfl) Tryd.func7 (by kernel_rfl)
    (of_decide_eq_true (by kernel_rfl)) (by unfold Func.isWrapper; first | (rw [if_pos (by decide +kernel)]; kernel_rfl) | (rw [if_neg (by decide +kernel)]; exact ⟨rfl, rfl⟩))
    (fun os started H enc _ F => by rw [OpenClaim.pre_eq_preRow]; exact fnNoUnits_lifted os started H enc F)

theorem fnNoUnits_plain (f : FuncId) (fn : Func) (hf : Tryd.pinned.checked.prog.funcNamed "mapthread/laws.FnNoUnits" = some f) (hfn : Tryd.pinned.checked.prog.funcs[f]? = some fn) :
    false = Tryd.pinned.checked.prog.looks [] ∧ ∀ (j : Nat) t, fn.params[j]? = some t → Tryd.pinned.checked.prog.wantsStandIn t = false := by
  obtain rfl : f = 7 := Option.some.inj ((show Tryd.prog.funcNamed "mapthread/laws.FnNoUnits" = some 7 by kernel_rfl).symm.trans hf) |>.symm
  obtain rfl : fn = Tryd.f7 := (Option.some.inj (Tryd.func7.symm.trans hfn)).symm
  refine ⟨by kernel_rfl, fun j t ht => ?_⟩
  rw [Tryd.params7] at ht
  have hm := Array.mem_of_getElem? ht
  simp at hm
  rcases hm with rfl | rfl
  · exact (show Tryd.prog.wantsStandIn 35 = false by kernel_rfl)
  · exact (show Tryd.prog.wantsStandIn 33 = false by kernel_rfl)

theorem fnNoUnits_card : Rows.FnNoUnitsCardSaid :=
  Claim7.holds_tied_plain_at .later [] _ _ _ _ fnNoUnits_said (fun _ h => by cases h) (by kernel_rfl) (fun _ h => by cases h) fnNoUnits_row_tie rfl ⟨rfl, rfl⟩ (by kernel_rfl) rfl fnNoUnits_plain (by kernel_rfl)
#print axioms fnNoUnits_card
end Go.Proofs.YtahfnlhpodbbaaaDoor

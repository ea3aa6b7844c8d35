/-
  laws.FnUnits returns true for every input: the same is read of units of UTF-16, and how many there are. Conditions: the table of signs lies in its variable.
-/
import Derived.Test.YtahfnlhpodbbaaaDoorFnCutUnits
import Derived.Test.YtahfnlhpodbbaaaDoorFnNoUnits
namespace Go.Proofs.YtahfnlhpodbbaaaDoor
open Go.RowKit Go.ChangeShapes Go.WideShapes Go.ChangeAt

theorem row_below {k : IntKind} {w W : World} {a : Option Addr} {zs : List Int} (hr : IntRow k w a zs) (hb : Below w.heap.size w W) : IntRow k W a zs := fun i h => by
  obtain ⟨b, o, e, h1, h2⟩ := hr i h
  exact ⟨b, o, e, Nat.lt_of_lt_of_le h1 hb.size, (hb.cell (p := ⟨b, o + i, none⟩) h1).trans h2⟩
theorem row_cells0 {w : World} {ad : Addr} {zs : List Int} (hr : IntRow .u16 w (some ad) zs) : ∀ j u, (zs.map (Value.int .u16))[j]? = some u → w.cell? (ad.add j) = some u := by
  intro j u hu
  rw [List.getElem?_map] at hu
  obtain ⟨z, hz, rfl⟩ := Option.map_eq_some_iff.1 hu
  have hj := (List.getElem?_eq_some_iff.1 hz).1
  obtain ⟨b, o, e, hb, hc⟩ := hr j hj
  cases e
  rw [List.getElem?_eq_getElem hj] at hz
  cases hz
  rw [Addr.add_lit]
  exact hc

set_option maxHeartbeats 1000000 in
set_option maxRecDepth 100000 in
theorem fnUnits_walk (n : Int) (a : Option Addr) (cap : Nat) (zs : List Int) (_ : (Lit.int .i64 n).wf = true) (hz : zs.length ≤ 70368744175616) (w : World) (hr : IntRow .u16 w a zs) (hnil : a = none → zs = [] ∧ cap = 0) (hT : B64 w.heap.size w) :
    Calls Tryd.prog 8 #[.int .i64 n, .slice a zs.length cap] w fun e w' => e = .returned (.bool true) ∧ Below w.heap.size w w' := by
  obtain ⟨i0, hi0, hz0, hz1, hz2⟩ := info_parts info_u16
  have hn := tmod_abs n 1073741824 (by decide)
  go_enter Tryd.func8, Tryd.ntmps8
  go_wp2_with fail
  refine (fit_any n w).mono ?_
  rintro e w1 ⟨rfl, hw1⟩
  obtain rfl := hw1.symm
  generalize n.tmod 1073741824 = n1 at *
  go_wp2_with fail
  refine (number_any n1 0 w (by omega) (by omega) (by omega) (by omega)).mono ?_
  rintro e w1 ⟨rfl, hw1⟩
  obtain rfl := hw1.symm
  obtain ⟨l, d, e1, hd, hl, hlen, hv, hv2⟩ := digs_30 n1 (by omega) (by omega)
  rw [show (0 : Int).toNat = 0 from rfl, e1]
  have hsz := tx_size (l ++ [d])
  have hall : ∀ y ∈ l ++ [d], y < 64 := by
    intro y hy
    rcases List.mem_append.1 hy with h | h
    · exact (hl y h).2
    · simp at h; omega
  simp at hsz
  clear e1
  have hu2 := u16c_tx (l ++ [d]) hall
  have hul : (u16c (tx (l ++ [d])).data.toList).length = l.length + 1 := by rw [u16c_len, Array.length_toList]; exact hsz
  generalize tx (l ++ [d]) = s at *
  go_wp2_with fail
  refine (units_any s w (by omega)).mono ?_
  rintro e w2 ⟨v1, rfl, ho1, hb1⟩
  rw [hsz] at ho1
  have hr2 := row_below hr hb1
  have key : ∀ v W, W.ownsRow w.heap.size 35 1 v (l.length + 1 + zs.length) (u16c s.data.toList ++ zs.map (Value.int .u16)) → Below w.heap.size w W → Calls Tryd.prog 14 #[v] W fun e w' => e = .returned (.tuple #[.int .i64 n1, .int .i64 ((l.length + 1 : Nat) : Int), .bool true]) ∧ ∃ m, w' = W.drewN m :=
    fun v W ho hb => by
      have := own16 _ _ w.heap.size v _ W (hT.below hb) ho (by omega) l (some d) (by simp) (fun h => by cases h) (fun j h => by
        rw [List.getElem?_append_left (by rw [hul]; simpa using h)]
        exact hu2 j h) hl (fun d h => by cases h; omega) hlen hv2
      rw [read64_some hv] at this
      exact this
  have Key := Lib.hid key
  have hbs := hb1.size
  have HB := Lib.hid hb1
  clear key hT hr hu2 hb1
  cases a with
  | none =>
    obtain ⟨rfl, rfl⟩ := hnil rfl
    go_wp2_with (at_builtin; refine wpList_append_own_none rfl (.tmp 15) (.tmp 16) _ rfl w.heap.size 35 i0 1 Tryd.underlying33 hi0 v1 (l.length + 1) _ rfl ho1 rfl ?_)
    refine (Key.out _ _ (by simpa using ho1) HB.out).mono ?_
    rintro e w3 ⟨rfl, m, rfl⟩
    have HB3 := Lib.hid (below_drewN (m := m) HB.out)
    generalize w2.drewN m = w3 at *
    go_wp2_with fail
    go_ret
    exact ⟨by simp, HB3.out⟩
  | some ad =>
    go_wp2_with (at_builtin; refine wpList_append_own_at _ rfl (.tmp 15) (.tmp 16) _ rfl w.heap.size 35 i0 _ 1 2 Tryd.underlying33 hi0 hz0 hz1 hz2 rfl (by omega) v1 (l.length + 1) _ rfl ho1 ad zs.length cap (zs.map (Value.int .u16)) rfl (by simp) (row_cells0 hr2) (by intro u hu; obtain ⟨z, _, rfl⟩ := List.mem_map.1 hu; rfl) (by unfold maxLen; omega) (by omega) (by omega) ?_; intro v2 w4 hown2 hg2 hnil2 hat2; clear hnil2)
    refine (Key.out _ _ hown2 (below_grown HB.out hg2 (fun k hk => (ho1.lt k hk).1))).mono ?_
    rintro e w3 ⟨rfl, m, rfl⟩
    have HB3 := Lib.hid (below_drewN (m := m) (below_grown HB.out hg2 (fun k hk => (ho1.lt k hk).1)))
    generalize w4.drewN m = w3 at *
    go_wp2_with fail
    go_ret
    exact ⟨by simp, HB3.out⟩

theorem fnUnits_wrow (os : Os) {H : Type} (enc : TypeId × Value → H) :
    (OpenSpec.ofChange Rows.fnUnitsSpec).preRow enc Tryd.prog Tryd.f8 Rows.fnUnitsRow.domain false Rows.fnUnitsRow.laid ((laidWorld os).forCall (fun _ _ => 0) ⟨#[], #[.int .i64 0, .slice none 0 0], []⟩).memory #[.int .i64 0, .slice none 0 0] := by
  have hw : ((DataW.whole enc Tryd.prog ((laidWorld os).forCall (fun _ _ => 0) ⟨#[], #[.int .i64 0, .slice none 0 0], []⟩).memory Tryd.f8.params.toList (OpenSpec.ofChange Rows.fnUnitsSpec).vars false (#[.int .i64 0, .slice none 0 0] : Array Value).toList 8).map (fun x => (x.1, x.2.1))) =
      some ([.lit (.int .i64 0), .nil], []) := by kernel_rfl
  obtain ⟨⟨x1, x2, x3⟩, hx, hx1⟩ := Option.map_eq_some_iff.1 hw
  simp only [Prod.mk.injEq] at hx1
  obtain ⟨rfl, rfl⟩ := hx1
  exact OpenSpec.preRow_of_cond 8 hx (by kernel_rfl) (fun k hk => by cases hk) (by kernel_rfl) (laid_met os _)

set_option maxRecDepth 100000 in
theorem fnUnits_lifted (os : Os) (started : os.Started) (H : Type) (enc : TypeId × Value → H) (F : Stop.Interp) :
    ReturnsInHanded {} Tryd.checked os 8 .any ((OpenSpec.ofChange Rows.fnUnitsSpec).preRow enc Tryd.prog Tryd.f8 Rows.fnUnitsRow.domain false Rows.fnUnitsRow.laid) (((OpenSpec.ofChange Rows.fnUnitsSpec).at F).post enc Tryd.prog Tryd.f8 false true false false) := by
  refine returnsInHanded_of_row (C := Tryd.checked) (s := OpenSpec.ofChange Rows.fnUnitsSpec) own started (by kernel_rfl) Tryd.func8
    (witness_row_atRef (enc := enc) (C := Tryd.checked) false (laidWorld os) #[.int .i64 0, .slice none 0 0] rfl (by kernel_rfl) (by kernel_rfl) (by kernel_rfl) (fnUnits_wrow os enc)) ?_
  intro W base args ds gs before hval0 hW _ hcond hsz0 hL _ _
  have hT : B64 W.heap.size W := b64_of_laid hL
  have hval : ∀ (j : Nat) t v, Tryd.f8.params[j]? = some t → args[j]? = some v → Value.okWide Tryd.prog W .any base t v := hval0
  have hW' := hW
  obtain ⟨p, q, hA0, hV, rfl, hfz, hnd⟩ := hW
  have hA : DataW.TrodAll enc Tryd.prog W 0 (fun _ => true) true Tryd.f8.params.toList args.toList ds p := hA0
  have hsz : (DataW.weightsEach Tryd.prog (Tryd.f8.params.toList ++ (OpenSpec.ofChange Rows.fnUnitsSpec).bare.plain.varTypes Tryd.prog) (ds ++ gs)).all (· ≤ reachBytes) = true := hsz0
  rw [Tryd.params8] at hA hval hsz
  obtain ⟨v0, vs0, d0, ds0, p0, q0, hargs, rfl, rfl, h0, r0⟩ := trodAll_cons hA
  obtain ⟨v1, vs1, d1, ds1, p1, q1, rfl, rfl, rfl, h1, r1⟩ := trodAll_cons r0
  obtain ⟨rfl, rfl, rfl⟩ := trodAll_nil r1
  obtain rfl : args = #[v0, v1] := by cases args; simp_all
  obtain ⟨a0, rfl, rfl, rfl, w0⟩ := open_int Tryd.underlying3 (hval 0 3 v0 rfl rfl) h0
  obtain ⟨a1, c1, z1, rfl, R1, w1, D1⟩ := open_introw Tryd.underlying33 Tryd.underlying35 (by kernel_rfl) (hval 1 33 v1 rfl rfl) h1
  have s1 : z1.length ≤ 70368744175616 := by
    rcases D1 with ⟨_, _, rfl⟩ | ⟨_, rest, _, _, rfl⟩
    · simp
    · have h := sized_slice hsz (j := 1) (t := 33) (e := 35) rfl rfl Tryd.underlying33
      rw [show Tryd.prog.bytesOf 35 = 2 by kernel_rfl] at h
      simp [lits, reachBytes] at h
      omega
  refine (fnUnits_walk a0 a1 c1 z1 w0 s1 W R1 (by rcases D1 with ⟨_, h, h2⟩ | ⟨_, _, h, _⟩; exact fun _ => ⟨h2, h⟩; exact fun q => by rw [q] at h; cases h) hT).mono fun e W' ⟨he, hb⟩ => ⟨_, he, ?_⟩
  exact law_post (s := Rows.fnUnitsSpec) (f := Tryd.f8) (tb := 4) (by kernel_rfl) (by kernel_rfl) (by kernel_rfl) Tryd.underlying4 rfl (fun ds h => by rw [Tryd.params8] at h; match ds, h with | [_, _], _ => rfl) hW' hb

theorem fnUnits_said : Rows.FnUnitsSaid :=
  OpenClaim.holds_of_cond 8 Tryd.f8 rfl rfl rfl rfl rfl rfl rfl ⟨rfl, rfl, rfl, rfl, rfl⟩ rfl rfl rfl rfl rfl (by kernel_rfl) Tryd.func8 (by kernel_rfl)
    (of_decide_eq_true (by kernel_rfl)) (by unfold Func.isWrapper; first | (rw [if_pos (by decide +kernel)]; kernel_rfl) | (rw [if_neg (by decide +kernel)]; exact ⟨rfl, rfl⟩))
    (fun os started H enc _ F => by rw [OpenClaim.pre_eq_preRow]; exact fnUnits_lifted os started H enc F)

theorem fnUnits_plain (f : FuncId) (fn : Func) (hf : Tryd.pinned.checked.prog.funcNamed "mapthread/laws.FnUnits" = some f) (hfn : Tryd.pinned.checked.prog.funcs[f]? = some fn) :
    false = Tryd.pinned.checked.prog.looks [] ∧ ∀ (j : Nat) t, fn.params[j]? = some t → Tryd.pinned.checked.prog.wantsStandIn t = false := by
  obtain rfl : f = 8 := Option.some.inj ((show Tryd.prog.funcNamed "mapthread/laws.FnUnits" = some 8 by kernel_rfl).symm.trans hf) |>.symm
  obtain rfl : fn = Tryd.f8 := (Option.some.inj (Tryd.func8.symm.trans hfn)).symm
  refine ⟨by kernel_rfl, fun j t ht => ?_⟩
  rw [Tryd.params8] at ht
  have hm := Array.mem_of_getElem? ht
  simp at hm
  rcases hm with rfl | rfl
  · exact (show Tryd.prog.wantsStandIn 3 = false by kernel_rfl)
  · exact (show Tryd.prog.wantsStandIn 33 = false by kernel_rfl)

theorem fnUnits_card : Rows.FnUnitsCardSaid :=
  Claim7.holds_tied_plain_at .later [] _ _ _ _ fnUnits_said (fun _ h => by cases h) (by kernel_rfl) (fun _ h => by cases h) fnUnits_row_tie rfl ⟨rfl, rfl⟩ (by kernel_rfl) rfl fnUnits_plain (by kernel_rfl)
#print axioms fnUnits_card
end Go.Proofs.YtahfnlhpodbbaaaDoor

/-
  The contract of spec.Read at texts of tokens. Conditions: the numbers of the tokens, and of the states between them, are below 2^40.
-/
import Derived.Test.YtnokiikgnplpmaaDoorM1
import Derived.Test.YtnokiikgnplpmaaDoorM2
import Derived.Test.YtnokiikgnplpmaaDoorM5
import Derived.StillTailTactics
import Derived.Deep.CutBlock
namespace Go.Proofs.YtnokiikgnplpmaaDoor
open Go.RowKit

theorem info_seg : (Tryd.prog.info? 45).map (fun i => (i.zero, i.size, i.bytes)) = some (some (.agg #[.int .i64 0, .int .i64 0, .int .i64 0, .int .i64 0, .int .i64 0, .int .i64 0, .bool false]), 7, 56) := by kernel_rfl
theorem seg_one (x : Seg) : ∀ u ∈ x.cells, u.oneCell' = true := by
  intro u hu
  simp only [Seg.cells, List.mem_cons, List.not_mem_nil, or_false] at hu
  rcases hu with rfl | rfl | rfl | rfl | rfl | rfl | rfl <;> rfl
/-- The cells of a mapping. -/
def sgA (x : Seg) : Array Value := #[.int .i64 x.l, .int .i64 x.c, .int .i64 x.s, .int .i64 x.fl, .int .i64 x.fc, .int .i64 x.nm, .bool x.nd]
/-- The cells of numbers. -/
def zs64 (l : List Int) : List Value := l.map fun x => Value.int .i64 x
theorem zs64_snoc (l : List Int) (x : Int) : zs64 (l ++ [x]) = zs64 l ++ [Value.int .i64 x] := by simp [zs64]
/-- From a place on, the text is some bytes, to its end. -/
def Left (s : ByteArray) (p : Nat) (bs : List UInt8) : Prop := p + bs.length = s.size ∧ ∀ (j : Nat) (hj : j < bs.length), s.get! (p + j) = bs[j]'hj
theorem Left.drop {s : ByteArray} {p : Nat} {a b : List UInt8} (h : Left s p (a ++ b)) : Left s (p + a.length) b := by
  obtain ⟨h1, h2⟩ := h
  rw [List.length_append] at h1
  refine ⟨by omega, fun j hj => ?_⟩
  have := h2 (a.length + j) (by rw [List.length_append]; omega)
  rw [Nat.add_assoc, this, List.getElem_append_right (by omega)]
  simp
theorem Left.first {s : ByteArray} {p : Nat} {x : UInt8} {b : List UInt8} (h : Left s p (x :: b)) : ∃ hp : p < s.size, (s[p]'hp) = x := by
  obtain ⟨h1, h2⟩ := h
  have hp : p < s.size := by simp at h1; omega
  refine ⟨hp, ?_⟩
  have := h2 0 (by simp)
  rw [Nat.add_zero, get_bang' s p hp] at this
  simpa using this
theorem Left.dig {s : ByteArray} {p : Nat} {n : Int} {b : List UInt8} {l : List Nat} {d : Nat} (h : Left s p (nb n ++ b)) (e : nd n = l ++ [d]) (hd : d < 32) (hl : ∀ y ∈ l, 32 ≤ y ∧ y < 64) : DigAt s p l d := by
  obtain ⟨h1, h2⟩ := h
  have hlen : (nb n).length = l.length + 1 := by rw [nb_len, e]; simp
  rw [List.length_append] at h1
  have key : ∀ (j : Nat) (hj : j < (l ++ [d]).length), (s.get! (p + j)).toNat = sg ((l ++ [d])[j]'hj) := by
    intro j hj
    have hj' : j < (nb n).length := by rw [hlen]; simpa using hj
    rw [h2 j (by rw [List.length_append]; omega), List.getElem_append_left hj']
    have hx : (l ++ [d])[j]'hj < 64 := by
      have := nd_lt n ((l ++ [d])[j]'hj) (by rw [e]; exact List.getElem_mem hj)
      exact this
    have this : (nb n)[j]'hj' = UInt8.ofNat (sg ((l ++ [d])[j]'hj)) := by
      have e2 : nb n = (l ++ [d]).map (fun d => UInt8.ofNat (sg d)) := by unfold nb; rw [e]
      simp only [e2, List.getElem_map]
    rw [this]
    have := sg_lt _ hx
    simp
    omega
  refine ⟨by omega, fun j hj => ?_, ?_, hl, hd⟩
  · have := key j (by simp; omega)
    rwa [List.getElem_append_left hj] at this
  · have := key l.length (by simp)
    simpa using this

theorem nb_pos' (n : Int) : 0 < (nb n).length := by
  rw [nb_len]
  exact List.length_pos_iff.2 (nd_ne n)
/-- The first byte of a number. -/
theorem nb_first (n : Int) (h1 : -17179869184 < n) (h2 : n < 17179869184) : ∃ x t, nb n = x :: t ∧ x.toNat ≠ 44 ∧ x.toNat ≠ 59 := by
  obtain ⟨l, d, e, hd, hl, _, _⟩ := nd_small n h1 h2
  have hne := nd_ne n
  cases hx : nd n with
  | nil => exact absurd hx hne
  | cons y t =>
    refine ⟨UInt8.ofNat (sg y), t.map fun d => UInt8.ofNat (sg d), by simp [nb, hx], ?_⟩
    have hy : y < 64 := nd_lt n y (by rw [hx]; simp)
    have := sg_lt y hy
    have := sg_ne y
    simp
    omega
/-- What Read has in memory in the midst of a mapping. -/
def RdSt (g g9 : Nat) (w : World) (u4 u9 : Value) (dn : List Seg) (ns : List Int) (q : Array Value) (W : World) : Prop :=
  Blk W g 45 q ∧ W.ownsRow (g + 1) 45 7 u4 dn.length (sgs dn) ∧ W.ownsRow g9 3 1 u9 ns.length (zs64 ns) ∧ Below g w W ∧ g < g9
theorem RdSt.put {g g9 : Nat} {w : World} {u4 u9 : Value} {dn : List Seg} {ns : List Int} {q : Array Value} {W : World} (h : RdSt g g9 w u4 u9 dn ns q W) (i : Nat) (u : Value) : RdSt g g9 w u4 u9 dn ns (q.setIfInBounds i u) (W.setCell ⟨g, i, none⟩ u) := by
  obtain ⟨h1, h2, h3, h4, h5⟩ := h
  exact ⟨h1.set_ i u, ownsRow_setCell_below h2 (by simp only; omega) u, ownsRow_setCell_below h3 (by simp only; omega) u, h4.setCell (Nat.le_refl _) u, h5⟩
theorem RdSt.putq {g g9 : Nat} {w : World} {u4 u9 : Value} {dn : List Seg} {ns : List Int} {q : Array Value} {W : World} (h : RdSt g g9 w u4 u9 dn ns q W) (i : Nat) (u : Value) (q' : Array Value) (e : q.setIfInBounds i u = q') : RdSt g g9 w u4 u9 dn ns q' (W.setCell ⟨g, i, none⟩ u) := e ▸ h.put i u
theorem RdSt.drew {g g9 : Nat} {w : World} {u4 u9 : Value} {dn : List Seg} {ns : List Int} {q : Array Value} {W : World} (h : RdSt g g9 w u4 u9 dn ns q W) : RdSt g g9 w u4 u9 dn ns q W.drew := ⟨h.1, h.2.1, h.2.2.1, h.2.2.2.1.drew, h.2.2.2.2⟩

set_option maxHeartbeats 8000000 in
set_option maxRecDepth 100000 in
theorem read_any (toks : List (Option (List Int))) (s : ByteArray) (w : World) (hok : rok qz toks) (hsz : s.size ≤ 1099511627776) (hs : s = ⟨(tokB true toks).toArray⟩) (hlen : (rsegs qz toks).length ≤ 1099511627776) :
    Calls Tryd.prog 19 #[.string s] w fun e w' => ∃ v, e = .returned (.tuple #[v, .bool true]) ∧ w'.ownsRow w.heap.size 45 7 v (rsegs qz toks).length (sgs (rsegs qz toks)) ∧ Below w.heap.size w w' := by
  obtain ⟨iS, hiS, hS0, hS1, hS2⟩ := info_parts info_seg
  obtain ⟨iI, hiI, hI0, hI1, hI2⟩ := info_parts info_int
  have hL : Left s 0 (tokB true toks) := by
    have e : s.size = (tokB true toks).length := by rw [hs]; simp [ByteArray.size]
    refine ⟨by rw [e]; omega, fun j hj => ?_⟩
    rw [Nat.zero_add, get_bang' s j (by omega)]
    subst hs
    simp [ByteArray.getElem_eq_getElem_data]
  have HS := Lib.hid hs
  obtain ⟨ALL, hALL⟩ : ∃ A, A = rsegs qz toks := ⟨_, rfl⟩
  rw [← hALL] at hlen
  have HALL := Lib.hid hALL
  clear hs hALL
  have HK := Lib.hid hok
  have HL := Lib.hid hL
  clear hok hL
  go_enter Tryd.func19, Tryd.ntmps19
  go_wp2_with fail
  go_loopg [4, 6, 7, 8] s.size (fun f s4 s6 s7 s8 wr => ∃ (p : Nat) (post : List (Option (List Int))) (fr : Bool) (q : Seg × Int) (dn : List Seg), s8 = .int .i64 (p : Int) ∧ s7 = .bool fr ∧ s6 = .int .i64 q.2 ∧ Left s p (tokB fr post) ∧ f = s.size - p ∧ p ≤ s.size ∧ rok q post ∧ Hid (dn ++ rsegs q post = ALL) ∧ wr.ownsRow (w.heap.size + 1) 45 7 s4 dn.length (sgs dn) ∧ Blk wr w.heap.size 45 (sgA q.1) ∧ Below w.heap.size w wr)
  case atStart => exact ⟨0, toks, true, qz, [], rfl, rfl, rfl, HL.out, by omega, by omega, HK.out, Lib.hid (by rw [HALL.out]; rfl), World.ownsRow_nil _ _ _ _, Blk.new w 45 _, balloc (Below.refl _ _) _⟩
  case round =>
    obtain ⟨wo, rfl⟩ : ∃ wo : World, wo = wr := ⟨_, rfl⟩
    obtain ⟨p, post, fr, q, dn, rfl, rfl, rfl, hleft, hf, hps, hrk, hdn, hown, hbl, hbw⟩ := hrel
    have hq := rok_ok hrk
    obtain ⟨⟨l, c, sr, fl, fc, nm, nd_⟩, nam⟩ := q
    obtain ⟨q1, q2, q3, q4, q5, q6⟩ := hq
    simp only at q1 q2 q3 q4 q5 q6
    have HDN := Lib.hid hdn.out
    have HO := Lib.hid hown
    have HBL := Lib.hid hbl
    have HB := Lib.hid hbw
    have HLF := Lib.hid hleft
    have HRK := Lib.hid hrk
    have hzw : w.heap.size < wo.heap.size := hbl.lt
    clear hdn hown hbw hleft hrk
    have hx0 : wo.cell? ⟨w.heap.size, 0, none⟩ = some (.int .i64 l) := hbl.cell 0
    have hx1 : wo.cell? ⟨w.heap.size, 1, none⟩ = some (.int .i64 c) := hbl.cell 1
    have hx2 : wo.cell? ⟨w.heap.size, 2, none⟩ = some (.int .i64 sr) := hbl.cell 2
    have hx3 : wo.cell? ⟨w.heap.size, 3, none⟩ = some (.int .i64 fl) := hbl.cell 3
    have hx4 : wo.cell? ⟨w.heap.size, 4, none⟩ = some (.int .i64 fc) := hbl.cell 4
    have hf0 := hbl.frozen 0
    have hf1 := hbl.frozen 1
    clear hbl
    cases post with
    | nil =>
      have hpe : p = s.size := by have := HLF.out.1; simpa [tokB] using this
      have E : Hid (dn = ALL) := Lib.hid (by have := HDN.out; simpa [rsegs] using this)
      have hnl : ¬ p < s.size := by omega
      clear hpe
      go_wp2_with fail
      go_ret2
      exact ⟨_, rfl, by rw [← HALL.out, ← E.out]; exact own_mono HO.out (by omega), HB.out⟩
    | cons t r =>
      cases t with
      | none =>
        obtain ⟨hp, hb0⟩ := HLF.out.first
        have hbi : ((s[p]'hp).toNat : Int) = 59 := by rw [hb0]; rfl
        have e1 : (((s[p]'hp).toNat : Int) == 59) = true := by rw [hbi]; rfl
        clear hb0 hbi
        have HL2 : Hid (Left s (p + 1) (tokB true r)) := Lib.hid (HLF.out.drop (a := [59]))
        go_wp2_with fail
        go_roundg (s.size - (p + 1))
        case measure => omega
        case rel =>
          refine ⟨p + 1, r, true, rsemi (⟨l, c, sr, fl, fc, nm, nd_⟩, nam), dn, by go_num, rfl, rfl, HL2.out, rfl, by omega, HRK.out.2, HDN, ownsRow_setCell_below (ownsRow_setCell_below HO.out (by simp only; omega) _) (by simp only; omega) _, ?_, (HB.out.setCell (Nat.le_refl _) _).setCell (Nat.le_refl _) _⟩
          exact (HBL.out.set_ 0 _).set_ 1 _
      | some ns =>
        cases fr with
        | false =>
          obtain ⟨hp, hb0⟩ := HLF.out.first
          have hbi : ((s[p]'hp).toNat : Int) = 44 := by rw [hb0]; rfl
          have e1 : (((s[p]'hp).toNat : Int) == 59) = false := by rw [hbi]; rfl
          have e2 : (((s[p]'hp).toNat : Int) == 44) = true := by rw [hbi]; rfl
          clear hb0 hbi
          have HL2 : Hid (Left s (p + 1) (tokB true (some ns :: r))) := Lib.hid (HLF.out.drop (a := [44]))
          go_wp2_with fail
          go_roundg (s.size - (p + 1))
          case measure => omega
          case rel => exact ⟨p + 1, some ns :: r, true, (⟨l, c, sr, fl, fc, nm, nd_⟩, nam), dn, by go_num, rfl, rfl, HL2.out, rfl, by omega, HRK.out, HDN, HO.out, HBL.out, HB.out⟩
        | true =>
          obtain ⟨_, ⟨hn1, hn2⟩, hrk2⟩ := HRK.out
          have HN2 := Lib.hid hn2
          have HRK2 := Lib.hid hrk2
          have HL1 : Hid (Left s p (nums ns ++ tokB false r)) := HLF
          have hnl : 4 ≤ ns.length ∧ ns.length ≤ 5 := by omega
          obtain ⟨hp, x0, hx0', hb0, hb1, hb2⟩ : ∃ (hp : p < s.size) (x0 : UInt8), s[p]'hp = x0 ∧ x0.toNat ≠ 44 ∧ x0.toNat ≠ 59 ∧ True := by
            cases hns : ns with
            | nil => rw [hns] at hnl; simp at hnl
            | cons n0 nt =>
              have hb := hn2 n0 (by rw [hns]; simp)
              obtain ⟨x, t, e, h1, h2⟩ := nb_first n0 hb.1 hb.2
              have := HL1.out
              rw [hns, nums_cons, e] at this
              obtain ⟨hp, hx⟩ := this.first
              exact ⟨hp, x, hx, h1, h2, trivial⟩
          have e1 : (((s[p]'hp).toNat : Int) == 59) = false := by rw [hx0']; simp; omega
          have e2 : (((s[p]'hp).toNat : Int) == 44) = false := by rw [hx0']; simp; omega
          clear hb0 hb1 hb2 hx0' hn2 hrk2
          go_upto_block 3 with fail
          clear e1 e2
          go_cut [8, 9] (fun s8 s9 wx => s8 = .int .i64 ((p + (nums ns).length : Nat) : Int) ∧ wx.ownsRow wo.heap.size 3 1 s9 ns.length (zs64 ns) ∧ Below wo.heap.size wo wx)
          case first =>
            as_aux_lemma =>
              go_wp2_with fail
              go_loopg [8, 9] ns.length (fun g s8 s9 wx => ∃ i pi : Nat, i + g = ns.length ∧ s8 = .int .i64 (pi : Int) ∧ Hid (pi = p + (nums (ns.take i)).length) ∧ wx.ownsRow wo.heap.size 3 1 s9 i (zs64 (ns.take i)) ∧ Below wo.heap.size wo wx)
              case atStart => exact ⟨0, p, by omega, rfl, Lib.hid rfl, World.ownsRow_nil _ _ _ _, Below.refl _ _⟩
              case round =>
                obtain ⟨i, pi, hi, rfl, hpi, hown, hbb⟩ := hrel
                by_cases hlt : i < ns.length
                · obtain ⟨g, rfl⟩ : ∃ g, gk = g + 1 := ⟨gk - 1, by omega⟩
                  have hb := HN2.out (ns[i]'hlt) (List.getElem_mem hlt)
                  have hsp : nums ns = nums (ns.take i) ++ (nb (ns[i]'hlt) ++ nums (ns.drop (i + 1))) := by
                    conv => lhs; rw [← List.take_append_drop i ns, List.drop_eq_getElem_cons hlt]
                    rw [nums_app, nums_cons]
                  have hli : Left s pi (nb (ns[i]'hlt) ++ (nums (ns.drop (i + 1)) ++ tokB false r)) := by
                    have h := HL1.out
                    rw [hsp, List.append_assoc] at h
                    have h := h.drop
                    rw [← hpi.out, List.append_assoc] at h
                    exact h
                  obtain ⟨l1, d1, en, hd1, hl1, hll, hval⟩ := nd_small (ns[i]'hlt) hb.1 hb.2
                  have hdig := hli.dig en hd1 hl1
                  obtain ⟨x, t, ex, hx1', hx2'⟩ := nb_first (ns[i]'hlt) hb.1 hb.2
                  obtain ⟨hpp, hbx⟩ : ∃ hpp : pi < s.size, s[pi]'hpp = x := by
                    rw [ex] at hli
                    exact hli.first
                  have e3 : (((s[pi]'hpp).toNat : Int) != 44) = true := by rw [hbx]; simp; omega
                  have e4 : (((s[pi]'hpp).toNat : Int) != 59) = true := by rw [hbx]; simp; omega
                  have hnx : (nums (ns.take (i + 1))).length = (nums (ns.take i)).length + (l1.length + 1) := by
                    rw [List.take_succ_eq_append_getElem hlt, nums_app, List.length_append]
                    congr 1
                    rw [nums_cons, List.length_append, nb_len, en]
                    simp [nums]
                  have HTK := Lib.hid (take_any s pi l1 d1 hdig (by omega) (by omega))
                  rw [hval] at HTK
                  have HNX : Hid (pi + l1.length + 1 = p + (nums (ns.take (i + 1))).length) := Lib.hid (by rw [hnx, hpi.out]; omega)
                  have HZ : Hid (zs64 (ns.take (i + 1)) = zs64 (ns.take i) ++ [.int .i64 (ns[i]'hlt)]) := Lib.hid (by rw [List.take_succ_eq_append_getElem hlt, zs64_snoc])
                  have HO9 := Lib.hid hown
                  have HB9 := Lib.hid hbb
                  have hz9 := hbb.size
                  clear hsp hli en hl1 hdig ex hbx hnx hpi hown hbb hval hx1' hx2'
                  generalize (ns[i]'hlt) = ni at *
                  go_wp2_with fail
                  refine (HTK.out _).mono ?_
                  rintro e w' ⟨rfl, rfl⟩
                  go_wp2_with (at_builtin; refine wpList_append_own_at _ rfl (.tmp 62) (.tmp 64) _ rfl wo.heap.size 3 iI _ 1 8 Tryd.underlying69 hiI hI0 hI1 hI2 rfl (by omega) u9 i (zs64 (ns.take i)) rfl (HO9.out.alloc _) ⟨wr.heap.size, 0, none⟩ 1 1 [.int .i64 ni] rfl rfl (cell_one_new _ _ _) (by intro u hu; simp at hu; subst hu; rfl) (by unfold maxLen; omega) (by omega) (by simp; omega) ?_; intro v2 w2 hown2 hg2 hnil2 hat2; have O2 := Lib.hid hown2; have G2 := Lib.hid hg2; clear hnil2 hat2 hown2 hg2)
                  go_roundg g
                  case measure => omega
                  case rel => exact ⟨i + 1, pi + l1.length + 1, by omega, by go_num, HNX, by rw [HZ.out]; exact O2.out, bgrown (balloc HB9.out _) (Nat.le_refl _) G2.out (fun k hk => (own_lt HO9.out hk).1)⟩
                · obtain rfl : i = ns.length := by omega
                  rw [List.take_length] at hown hpi
                  have hend : Left s pi (tokB false r) := by
                    have h := HL1.out.drop
                    rw [← hpi.out] at h
                    exact h
                  have HO9 := Lib.hid hown
                  have HB9 := Lib.hid hbb
                  have HPI := Lib.hid hpi.out
                  rcases tokB_false r with hr | ⟨x, t, hr, hx⟩
                  · rw [hr] at hend
                    have hnl : ¬ pi < s.size := by have := hend.1; simp at this; omega
                    clear hend hr hown hbb hpi
                    go_wp2_with fail
                    go_meet
                    exact ⟨by rw [HPI.out], HO9.out, HB9.out⟩
                  · rw [hr] at hend
                    obtain ⟨hpp, hbx⟩ := hend.first
                    rcases hx with rfl | rfl
                    · have e3 : (((s[pi]'hpp).toNat : Int) != 44) = false := by rw [hbx]; rfl
                      clear hend hr hown hbb hpi hbx
                      go_wp2_with fail
                      go_meet
                      exact ⟨by rw [HPI.out], HO9.out, HB9.out⟩
                    · have e3 : (((s[pi]'hpp).toNat : Int) != 44) = true := by rw [hbx]; rfl
                      have e4 : (((s[pi]'hpp).toNat : Int) != 59) = false := by rw [hbx]; rfl
                      clear hend hr hown hbb hpi hbx
                      go_wp2_with fail
                      go_meet
                      exact ⟨by rw [HPI.out], HO9.out, HB9.out⟩
          case rest =>
          obtain ⟨rfl, hown9, hb9⟩ := hcut
          obtain ⟨W1, hW1⟩ : ∃ W1, W1 = wc := ⟨_, rfl⟩
          rw [← hW1] at hown9 hb9
          rw [← hW1]
          clear hW1
          have R1 : Hid (RdSt w.heap.size wo.heap.size w u4 u9 dn ns (sgA ⟨l, c, sr, fl, fc, nm, nd_⟩) W1) := Lib.hid ⟨HBL.out.kep (Kep.of_below (X := fun _ => False) hb9) (fun q => q), HO.out.kept_below hb9, hown9, HB.out.trans (hb9.mono (by omega)), hzw⟩
          obtain ⟨A9, c9, rfl, hA9⟩ := own_form hown9
          obtain ⟨k9, rfl, _⟩ := hA9 (by omega)
          have hk9 : wo.heap.size ≤ k9 := (own_lt hown9 rfl).1
          have hps2 : p + (nums ns).length ≤ s.size := by have := HL1.out.1; rw [List.length_append] at this; omega
          have hnp : 1 ≤ (nums ns).length := by
            cases hns : ns with
            | nil => rw [hns] at hnl; simp at hnl
            | cons n0 nt => rw [nums_cons, List.length_append]; have := nb_pos' n0; omega
          have hdl : dn.length ≤ 1099511627776 := by
            have := HDN.out
            rw [← this, List.length_append] at hlen
            omega
          clear hown9 hb9 hA9 HBL HO HB hx0 hx1 hx2 hx3 hx4 hf0 hf1 HLF HRK
          rcases hn1 with hn4 | hn4
          · match ns, hn4 with
            | [n0, n1, n2, n3], _ =>
              have hK9 : ∀ (X : World), X.ownsRow wo.heap.size 3 1 (.slice (some ⟨k9, 0, none⟩) 4 c9) 4 (zs64 [n0, n1, n2, n3]) → ∀ (j : Nat) (u : Value), (zs64 [n0, n1, n2, n3])[j]? = some u → X.cell? ⟨k9, j, none⟩ = some u := fun X h j u hj => by
                have := h.cells (g := k9) rfl j u hj
                rwa [Addr.add_lit, Nat.zero_add] at this
              have HK9 := Lib.hid hK9
              clear hK9
              have zk : k9 ≠ w.heap.size := by omega
              have W1c1 : W1.cell? ⟨w.heap.size, 1, none⟩ = some (.int .i64 c) := R1.out.1.cell 1
              have W1n0 : W1.cell? ⟨k9, 0, none⟩ = some (.int .i64 n0) := HK9.out W1 R1.out.2.2.1 0 _ rfl
              have W1f := R1.out.1.frozen 1
              have W1z : w.heap.size < W1.heap.size := R1.out.1.lt
              have hn0 := HN2.out n0 (by simp)
              have hn1 := HN2.out n1 (by simp)
              have hn2 := HN2.out n2 (by simp)
              have hn3 := HN2.out n3 (by simp)
              go_upto_region 27 with fail
              go_still_tail 9, (by kernel_rfl)
              change wpList _ _ _ _ _ W1.drew
              go_upto_region 28 with fail
              have R2 := Lib.hid (R1.out.putq 1 (.int .i64 (c + n0)) #[.int .i64 l, .int .i64 (c + n0), .int .i64 sr, .int .i64 fl, .int .i64 fc, .int .i64 nm, .bool nd_] rfl).drew
              clear W1c1 W1n0 W1f W1z R1
              generalize (W1.setCell ⟨w.heap.size, 1, none⟩ (.int .i64 (c + n0))).drew = W2 at *
              have W2c2 : W2.cell? ⟨w.heap.size, 2, none⟩ = some (.int .i64 sr) := R2.out.1.cell 2
              have W2n1 : W2.cell? ⟨k9, 1, none⟩ = some (.int .i64 n1) := HK9.out W2 R2.out.2.2.1 1 _ rfl
              have W2f := R2.out.1.frozen 2
              have W2z : w.heap.size < W2.heap.size := R2.out.1.lt
              go_still_tail 7, (by kernel_rfl)
              change wpList _ _ _ _ _ W2.drew
              go_upto_region 29 with fail
              have R3 := Lib.hid (R2.out.putq 2 (.int .i64 (sr + n1)) #[.int .i64 l, .int .i64 (c + n0), .int .i64 (sr + n1), .int .i64 fl, .int .i64 fc, .int .i64 nm, .bool nd_] rfl).drew
              clear W2c2 W2n1 W2f W2z R2
              generalize (W2.setCell ⟨w.heap.size, 2, none⟩ (.int .i64 (sr + n1))).drew = W3 at *
              have W3c3 : W3.cell? ⟨w.heap.size, 3, none⟩ = some (.int .i64 fl) := R3.out.1.cell 3
              have W3c4 : W3.cell? ⟨w.heap.size, 4, none⟩ = some (.int .i64 fc) := R3.out.1.cell 4
              have W3n2 : W3.cell? ⟨k9, 2, none⟩ = some (.int .i64 n2) := HK9.out W3 R3.out.2.2.1 2 _ rfl
              have W3n3 : W3.cell? ⟨k9, 3, none⟩ = some (.int .i64 n3) := HK9.out W3 R3.out.2.2.1 3 _ rfl
              have W3f3 := R3.out.1.frozen 3
              have W3f4 := R3.out.1.frozen 4
              have W3z : w.heap.size < W3.heap.size := R3.out.1.lt
              go_still_tail 16, (by kernel_rfl)
              change wpList _ _ _ _ _ W3.drew
              go_upto_region 30 with fail
              have R4 := Lib.hid ((R3.out.putq 3 (.int .i64 (fl + n2)) #[.int .i64 l, .int .i64 (c + n0), .int .i64 (sr + n1), .int .i64 (fl + n2), .int .i64 fc, .int .i64 nm, .bool nd_] rfl).putq 4 (.int .i64 (fc + n3)) #[.int .i64 l, .int .i64 (c + n0), .int .i64 (sr + n1), .int .i64 (fl + n2), .int .i64 (fc + n3), .int .i64 nm, .bool nd_] rfl).drew
              clear W3c3 W3c4 W3n2 W3n3 W3f3 W3f4 W3z R3
              generalize ((W3.setCell ⟨w.heap.size, 3, none⟩ (.int .i64 (fl + n2))).setCell ⟨w.heap.size, 4, none⟩ (.int .i64 (fc + n3))).drew = W4 at *
              have W4c5 : W4.cell? ⟨w.heap.size, 5, none⟩ = some (.int .i64 nm) := R4.out.1.cell 5
              have W4c6 : W4.cell? ⟨w.heap.size, 6, none⟩ = some (.bool nd_) := R4.out.1.cell 6
              have W4f5 := R4.out.1.frozen 5
              have W4f6 := R4.out.1.frozen 6
              have W4z : w.heap.size < W4.heap.size := R4.out.1.lt
              go_upto_region 31 with fail
              have R5 := Lib.hid ((R4.out.putq 5 (.int .i64 0) #[.int .i64 l, .int .i64 (c + n0), .int .i64 (sr + n1), .int .i64 (fl + n2), .int .i64 (fc + n3), .int .i64 0, .bool nd_] rfl).putq 6 (.bool false) #[.int .i64 l, .int .i64 (c + n0), .int .i64 (sr + n1), .int .i64 (fl + n2), .int .i64 (fc + n3), .int .i64 0, .bool false] rfl)
              clear W4c5 W4c6 W4f5 W4f6 W4z R4
              generalize (W4.setCell ⟨w.heap.size, 5, none⟩ (.int .i64 0)).setCell ⟨w.heap.size, 6, none⟩ (.bool false) = W5 at *
              have W5c6 : W5.cell? ⟨w.heap.size, 6, none⟩ = some (.bool false) := R5.out.1.cell 6
              go_upto_region 34 with fail
              clear W5c6
              have W5d0 : W5.cell? ⟨w.heap.size, 0, none⟩ = some (.int .i64 l) := R5.out.1.cell 0
              have W5d1 : W5.cell? ⟨w.heap.size, 1, none⟩ = some (.int .i64 (c + n0)) := R5.out.1.cell 1
              have W5d2 : W5.cell? ⟨w.heap.size, 2, none⟩ = some (.int .i64 (sr + n1)) := R5.out.1.cell 2
              have W5d3 : W5.cell? ⟨w.heap.size, 3, none⟩ = some (.int .i64 (fl + n2)) := R5.out.1.cell 3
              have W5d4 : W5.cell? ⟨w.heap.size, 4, none⟩ = some (.int .i64 (fc + n3)) := R5.out.1.cell 4
              have W5d5 : W5.cell? ⟨w.heap.size, 5, none⟩ = some (.int .i64 0) := R5.out.1.cell 5
              have W5d6 : W5.cell? ⟨w.heap.size, 6, none⟩ = some (.bool false) := R5.out.1.cell 6
              have hbz : w.heap.size + 1 ≤ W5.heap.size := R5.out.1.lt
              go_wp2_with (at_builtin; refine wpList_append_own_at _ rfl (.tmp 121) (.tmp 123) _ rfl (w.heap.size + 1) 45 iS _ 7 56 Tryd.underlying35 hiS hS0 hS1 hS2 rfl (by omega) u4 dn.length (sgs dn) rfl (R5.out.2.1.alloc _) ⟨W5.heap.size, 0, none⟩ 1 1 (Seg.cells ⟨l, c + n0, sr + n1, fl + n2, fc + n3, 0, false⟩) rfl rfl (World.news_of_block (cs := sgA ⟨l, c + n0, sr + n1, fl + n2, fc + n3, 0, false⟩) (t := 45) (fr := (0, 0)) (heap_alloc_new _ _)) (seg_one _) (by unfold maxLen; omega) (by omega) (by simp; omega) ?_; intro v2 w2 hown2 hg2 hnil2 hat2; have O2 := Lib.hid hown2; have G2 := Lib.hid hg2; clear hnil2 hat2 hown2 hg2)
              go_roundg (s.size - (p + (nums [n0, n1, n2, n3]).length))
              case measure => omega
              case rel =>
                refine ⟨p + (nums [n0, n1, n2, n3]).length, r, false, rstep (⟨l, c, sr, fl, fc, nm, nd_⟩, nam) [n0, n1, n2, n3], dn ++ [⟨l, c + n0, sr + n1, fl + n2, fc + n3, 0, false⟩], rfl, rfl, rfl, HL1.out.drop, rfl, by omega, HRK2.out, ?_, ?_, ?_, ?_⟩
                · refine Lib.hid ?_
                  rw [List.append_assoc]
                  exact HDN.out
                · rw [sgs_snoc]
                  simpa using O2.out
                · have h1 : (W5.alloc (.cells (sgA ⟨l, c + n0, sr + n1, fl + n2, fc + n3, 0, false⟩) 45)).grownBy w2 u4.ownBlock := G2.out
                  exact (R5.out.1.alloc _).kep (Kep.of_grown h1) (fun e => by have := own_lt R5.out.2.1 e; omega)
                · exact bgrown (balloc R5.out.2.2.2.1 _) (Nat.le_refl _) G2.out (fun k hk => by have := own_lt R5.out.2.1 hk; omega)
          · match ns, hn4 with
            | [n0, n1, n2, n3, n4], _ =>
              have hK9 : ∀ (X : World), X.ownsRow wo.heap.size 3 1 (.slice (some ⟨k9, 0, none⟩) 5 c9) 5 (zs64 [n0, n1, n2, n3, n4]) → ∀ (j : Nat) (u : Value), (zs64 [n0, n1, n2, n3, n4])[j]? = some u → X.cell? ⟨k9, j, none⟩ = some u := fun X h j u hj => by
                have := h.cells (g := k9) rfl j u hj
                rwa [Addr.add_lit, Nat.zero_add] at this
              have HK9 := Lib.hid hK9
              clear hK9
              have zk : k9 ≠ w.heap.size := by omega
              have W1c1 : W1.cell? ⟨w.heap.size, 1, none⟩ = some (.int .i64 c) := R1.out.1.cell 1
              have W1n0 : W1.cell? ⟨k9, 0, none⟩ = some (.int .i64 n0) := HK9.out W1 R1.out.2.2.1 0 _ rfl
              have W1f := R1.out.1.frozen 1
              have W1z : w.heap.size < W1.heap.size := R1.out.1.lt
              have hn0 := HN2.out n0 (by simp)
              have hn1 := HN2.out n1 (by simp)
              have hn2 := HN2.out n2 (by simp)
              have hn3 := HN2.out n3 (by simp)
              have hn4 := HN2.out n4 (by simp)
              go_upto_region 27 with fail
              go_still_tail 9, (by kernel_rfl)
              change wpList _ _ _ _ _ W1.drew
              go_upto_region 28 with fail
              have R2 := Lib.hid (R1.out.putq 1 (.int .i64 (c + n0)) #[.int .i64 l, .int .i64 (c + n0), .int .i64 sr, .int .i64 fl, .int .i64 fc, .int .i64 nm, .bool nd_] rfl).drew
              clear W1c1 W1n0 W1f W1z R1
              generalize (W1.setCell ⟨w.heap.size, 1, none⟩ (.int .i64 (c + n0))).drew = W2 at *
              have W2c2 : W2.cell? ⟨w.heap.size, 2, none⟩ = some (.int .i64 sr) := R2.out.1.cell 2
              have W2n1 : W2.cell? ⟨k9, 1, none⟩ = some (.int .i64 n1) := HK9.out W2 R2.out.2.2.1 1 _ rfl
              have W2f := R2.out.1.frozen 2
              have W2z : w.heap.size < W2.heap.size := R2.out.1.lt
              go_still_tail 7, (by kernel_rfl)
              change wpList _ _ _ _ _ W2.drew
              go_upto_region 29 with fail
              have R3 := Lib.hid (R2.out.putq 2 (.int .i64 (sr + n1)) #[.int .i64 l, .int .i64 (c + n0), .int .i64 (sr + n1), .int .i64 fl, .int .i64 fc, .int .i64 nm, .bool nd_] rfl).drew
              clear W2c2 W2n1 W2f W2z R2
              generalize (W2.setCell ⟨w.heap.size, 2, none⟩ (.int .i64 (sr + n1))).drew = W3 at *
              have W3c3 : W3.cell? ⟨w.heap.size, 3, none⟩ = some (.int .i64 fl) := R3.out.1.cell 3
              have W3c4 : W3.cell? ⟨w.heap.size, 4, none⟩ = some (.int .i64 fc) := R3.out.1.cell 4
              have W3n2 : W3.cell? ⟨k9, 2, none⟩ = some (.int .i64 n2) := HK9.out W3 R3.out.2.2.1 2 _ rfl
              have W3n3 : W3.cell? ⟨k9, 3, none⟩ = some (.int .i64 n3) := HK9.out W3 R3.out.2.2.1 3 _ rfl
              have W3f3 := R3.out.1.frozen 3
              have W3f4 := R3.out.1.frozen 4
              have W3z : w.heap.size < W3.heap.size := R3.out.1.lt
              go_still_tail 16, (by kernel_rfl)
              change wpList _ _ _ _ _ W3.drew
              go_upto_region 30 with fail
              have R4 := Lib.hid ((R3.out.putq 3 (.int .i64 (fl + n2)) #[.int .i64 l, .int .i64 (c + n0), .int .i64 (sr + n1), .int .i64 (fl + n2), .int .i64 fc, .int .i64 nm, .bool nd_] rfl).putq 4 (.int .i64 (fc + n3)) #[.int .i64 l, .int .i64 (c + n0), .int .i64 (sr + n1), .int .i64 (fl + n2), .int .i64 (fc + n3), .int .i64 nm, .bool nd_] rfl).drew
              clear W3c3 W3c4 W3n2 W3n3 W3f3 W3f4 W3z R3
              generalize ((W3.setCell ⟨w.heap.size, 3, none⟩ (.int .i64 (fl + n2))).setCell ⟨w.heap.size, 4, none⟩ (.int .i64 (fc + n3))).drew = W4 at *
              have W4c5 : W4.cell? ⟨w.heap.size, 5, none⟩ = some (.int .i64 nm) := R4.out.1.cell 5
              have W4c6 : W4.cell? ⟨w.heap.size, 6, none⟩ = some (.bool nd_) := R4.out.1.cell 6
              have W4f5 := R4.out.1.frozen 5
              have W4f6 := R4.out.1.frozen 6
              have W4z : w.heap.size < W4.heap.size := R4.out.1.lt
              go_upto_region 31 with fail
              have R5 := Lib.hid ((R4.out.putq 5 (.int .i64 0) #[.int .i64 l, .int .i64 (c + n0), .int .i64 (sr + n1), .int .i64 (fl + n2), .int .i64 (fc + n3), .int .i64 0, .bool nd_] rfl).putq 6 (.bool true) #[.int .i64 l, .int .i64 (c + n0), .int .i64 (sr + n1), .int .i64 (fl + n2), .int .i64 (fc + n3), .int .i64 0, .bool true] rfl)
              clear W4c5 W4c6 W4f5 W4f6 W4z R4
              generalize (W4.setCell ⟨w.heap.size, 5, none⟩ (.int .i64 0)).setCell ⟨w.heap.size, 6, none⟩ (.bool true) = W5 at *
              have W5c6 : W5.cell? ⟨w.heap.size, 6, none⟩ = some (.bool true) := R5.out.1.cell 6
              have W5c5 : W5.cell? ⟨w.heap.size, 5, none⟩ = some (.int .i64 0) := R5.out.1.cell 5
              have W5n4 : W5.cell? ⟨k9, 4, none⟩ = some (.int .i64 n4) := HK9.out W5 R5.out.2.2.1 4 _ rfl
              have W5f5 := R5.out.1.frozen 5
              have W5z : w.heap.size < W5.heap.size := R5.out.1.lt
              go_upto_region 34 with fail
              have R6 := Lib.hid (R5.out.putq 5 (.int .i64 (nam + n4)) #[.int .i64 l, .int .i64 (c + n0), .int .i64 (sr + n1), .int .i64 (fl + n2), .int .i64 (fc + n3), .int .i64 (nam + n4), .bool true] rfl)
              clear W5c5 W5n4 W5f5 W5z W5c6 R5
              generalize W5.setCell ⟨w.heap.size, 5, none⟩ (.int .i64 (nam + n4)) = W6 at *
              have W6d0 : W6.cell? ⟨w.heap.size, 0, none⟩ = some (.int .i64 l) := R6.out.1.cell 0
              have W6d1 : W6.cell? ⟨w.heap.size, 1, none⟩ = some (.int .i64 (c + n0)) := R6.out.1.cell 1
              have W6d2 : W6.cell? ⟨w.heap.size, 2, none⟩ = some (.int .i64 (sr + n1)) := R6.out.1.cell 2
              have W6d3 : W6.cell? ⟨w.heap.size, 3, none⟩ = some (.int .i64 (fl + n2)) := R6.out.1.cell 3
              have W6d4 : W6.cell? ⟨w.heap.size, 4, none⟩ = some (.int .i64 (fc + n3)) := R6.out.1.cell 4
              have W6d5 : W6.cell? ⟨w.heap.size, 5, none⟩ = some (.int .i64 (nam + n4)) := R6.out.1.cell 5
              have W6d6 : W6.cell? ⟨w.heap.size, 6, none⟩ = some (.bool true) := R6.out.1.cell 6
              have hbz : w.heap.size + 1 ≤ W6.heap.size := R6.out.1.lt
              go_wp2_with (at_builtin; refine wpList_append_own_at _ rfl (.tmp 121) (.tmp 123) _ rfl (w.heap.size + 1) 45 iS _ 7 56 Tryd.underlying35 hiS hS0 hS1 hS2 rfl (by omega) u4 dn.length (sgs dn) rfl (R6.out.2.1.alloc _) ⟨W6.heap.size, 0, none⟩ 1 1 (Seg.cells ⟨l, c + n0, sr + n1, fl + n2, fc + n3, (nam + n4), true⟩) rfl rfl (World.news_of_block (cs := sgA ⟨l, c + n0, sr + n1, fl + n2, fc + n3, (nam + n4), true⟩) (t := 45) (fr := (0, 0)) (heap_alloc_new _ _)) (seg_one _) (by unfold maxLen; omega) (by omega) (by simp; omega) ?_; intro v2 w2 hown2 hg2 hnil2 hat2; have O2 := Lib.hid hown2; have G2 := Lib.hid hg2; clear hnil2 hat2 hown2 hg2)
              go_roundg (s.size - (p + (nums [n0, n1, n2, n3, n4]).length))
              case measure => omega
              case rel =>
                refine ⟨p + (nums [n0, n1, n2, n3, n4]).length, r, false, rstep (⟨l, c, sr, fl, fc, nm, nd_⟩, nam) [n0, n1, n2, n3, n4], dn ++ [⟨l, c + n0, sr + n1, fl + n2, fc + n3, (nam + n4), true⟩], rfl, rfl, rfl, HL1.out.drop, rfl, by omega, HRK2.out, ?_, ?_, ?_, ?_⟩
                · refine Lib.hid ?_
                  rw [List.append_assoc]
                  exact HDN.out
                · rw [sgs_snoc]
                  simpa using O2.out
                · have h1 : (W6.alloc (.cells (sgA ⟨l, c + n0, sr + n1, fl + n2, fc + n3, (nam + n4), true⟩) 45)).grownBy w2 u4.ownBlock := G2.out
                  exact (R6.out.1.alloc _).kep (Kep.of_grown h1) (fun e => by have := own_lt R6.out.2.1 e; omega)
                · exact bgrown (balloc R6.out.2.2.2.1 _) (Nat.le_refl _) G2.out (fun k hk => by have := own_lt R6.out.2.1 hk; omega)
end Go.Proofs.YtnokiikgnplpmaaDoor

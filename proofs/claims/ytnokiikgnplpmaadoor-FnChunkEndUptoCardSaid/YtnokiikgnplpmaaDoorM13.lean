/-
  The contract of spec.Write: mappings as text, and where the first name begins. Conditions: the lines do not fall, no number is above 2^33; at most 2^22 mappings.
-/
import Derived.Test.YtnokiikgnplpmaaDoorM7
import Derived.Test.YtnokiikgnplpmaaDoorM10
import Derived.Test.YtnokiikgnplpmaaDoorM2
namespace Go.Proofs.YtnokiikgnplpmaaDoor
open Go.RowKit

theorem size_seg : (Tryd.prog.info? 45).map (·.size) = some 7 := by kernel_rfl
theorem segz_one (a b c d e f : Int) (g : Bool) : (#[Value.int .i64 a, .int .i64 b, .int .i64 c, .int .i64 d, .int .i64 e, .int .i64 f, .bool g] : Array Value).all (·.oneCell') = true := by
  simp [Value.oneCell']
/-- Mappings in memory, below block B. -/
def SegsAt (w : World) (B : Nat) (v : Value) (l : List Seg) : Prop := ∃ R c : Nat, v = .slice (some ⟨R, 0, none⟩) l.length c ∧ R < B ∧ ∀ (j : Nat) (u : Value), (sgs l)[j]? = some u → w.cell? ⟨R, j, none⟩ = some u
theorem SegsAt.below {w w' : World} {B : Nat} {v : Value} {l : List Seg} (h : SegsAt w B v l) (hb : Below B w w') : SegsAt w' B v l := by
  obtain ⟨R, c, h1, h2, h3⟩ := h
  exact ⟨R, c, h1, h2, fun j u hj => (hb.cell (p := ⟨R, j, none⟩) h2).trans (h3 j u hj)⟩
theorem SegsAt.mono {w : World} {B B' : Nat} {v : Value} {l : List Seg} (h : SegsAt w B v l) (hb : B ≤ B') : SegsAt w B' v l := by
  obtain ⟨R, c, h1, h2, h3⟩ := h
  exact ⟨R, c, h1, by omega, h3⟩
theorem segs_own {w : World} {base : Nat} {v : Value} {l : List Seg} (h : w.ownsRow base 45 7 v l.length (sgs l)) (hn : 0 < l.length) : SegsAt w w.heap.size v l := by
  obtain ⟨A, c, rfl, hA⟩ := own_form h
  obtain ⟨k, rfl, hk⟩ := hA hn
  exact ⟨k, c, rfl, (own_lt h rfl).2, hk⟩
theorem number0_any (n : Int) (w : World) (h : -34359738368 < n ∧ n < 34359738368) :
    Calls Tryd.prog 43 #[.int .i64 n, .int .i64 0] w fun e w' => e = .returned (.string (strB (nb n))) ∧ w = w' :=
  (number_any n 0 w (by omega) (by omega) (by omega) (by omega)).mono fun _ _ ⟨a, b⟩ => ⟨a, b.symm⟩
theorem strB_last (a : List UInt8) (x : UInt8) (S : ByteArray) (hS : S = strB (a ++ [x])) (h : S.size - 1 < S.size) : S[S.size - 1]'h = x := by
  have key : ∀ (n : Nat) (hn : n < S.size), n = a.length → S[n]'hn = x := by
    intro n hn e
    subst e
    subst hS
    simp [strB, ByteArray.getElem_eq_getElem_data]
  exact key _ h (by rw [hS, strB_size]; simp)
theorem rok_pre {q : Seg × Int} {a b : List (Option (List Int))} (h : rok q (a ++ b)) : rok q a := by
  induction a generalizing q with
  | nil => exact rok_ok h
  | cons t a ih => cases t with
    | none => exact ⟨h.1, ih h.2⟩
    | some ns => exact ⟨h.1, h.2.1, ih h.2.2⟩
theorem segLast_rep (k : Nat) : segLast (List.replicate k none) = false := by
  cases k with
  | zero => rfl
  | succ k => rw [List.replicate_succ']; simp [segLast]
theorem frOf_seg (toks : List (Option (List Int))) : frOf true toks = !segLast toks := by
  unfold frOf segLast
  cases toks.getLast? with
  | none => rfl
  | some x => cases x <;> rfl
/-- The first four numbers of a mapping. -/
def four (q : Seg × Int) (x : Seg) (cc : Int) : List Int := [x.c - cc, x.s - q.1.s, x.fl - q.1.fl, x.fc - q.1.fc]
theorem wtok_bytes (T : List (Option (List Int))) (q : Seg × Int) (x : Seg) (k : Nat) (cc : Int) (cm : Bool) (hk : k = (x.l - q.1.l).toNat) (hcc : cc = if q.1.l < x.l then 0 else q.1.c) (hcm : cm = segLast (T ++ List.replicate k none)) :
    tokB true (T ++ wtok q x) = tokB true T ++ List.replicate k 59 ++ (if cm = true then [44] else []) ++ nums (four q x cc) ++ (if x.nd = true then nb (x.nm - q.2) else []) := by
  unfold wtok
  rw [← hk, ← List.append_assoc, tokB_snoc, tokB_app, tokB_rep, ← hcm]
  have e : tokB (!cm) [some (wnum q x)] = (if !cm then [] else [44]) ++ (nums (wnum q x) ++ []) := rfl
  rw [e]
  have e2 : nums (wnum q x) = nums (four q x cc) ++ (if x.nd = true then nb (x.nm - q.2) else []) := by
    unfold wnum four
    rw [← hcc, nums_app]
    cases x.nd <;> simp [nums]
  rw [e2]
  cases cm <;> simp [List.append_assoc]
/-- The first name's place, when one may be added. -/
def orN (o : Option Nat) (b : Bool) (n : Nat) : Option Nat := match o with | some a => some a | none => if b = true then some n else none
theorem wtok_off (T : List (Option (List Int))) (q : Seg × Int) (x : Seg) (k : Nat) (cc : Int) (cm : Bool) (hk : k = (x.l - q.1.l).toNat) (hcc : cc = if q.1.l < x.l then 0 else q.1.c) (hcm : cm = segLast (T ++ List.replicate k none)) :
    foff true (T ++ wtok q x) = orN (foff true T) x.nd (tokB true T ++ List.replicate k 59 ++ (if cm = true then [44] else []) ++ nums (four q x cc)).length := by
  have hr : ∀ fr, foff fr (List.replicate k none) = none := by
    intro fr
    induction k generalizing fr with
    | zero => rfl
    | succ k ih =>
      rw [List.replicate_succ]
      show (foff true _).map _ = _
      have : ∀ k fr, foff fr (List.replicate k none) = none := by
        intro k
        induction k with
        | zero => intro fr; rfl
        | succ k ih => intro fr; rw [List.replicate_succ]; show (foff true _).map _ = _; rw [ih]; rfl
      rw [this]
      rfl
  unfold wtok
  rw [← hk, ← List.append_assoc, foff_app, foff_app, hr]
  unfold orN
  cases foff true T with
  | some a => rfl
  | none =>
    simp only [Option.map_none]
    rw [frOf_seg, ← hcm, tokB_app, tokB_rep]
    have e : foff (!cm) [some (wnum q x)] = if (wnum q x).length = 5 then some ((if !cm then 0 else 1) + (nums ((wnum q x).take 4)).length) else none := rfl
    rw [e]
    have e4 : (wnum q x).take 4 = four q x cc := by unfold wnum four; rw [← hcc]; cases x.nd <;> simp
    have e5 : (wnum q x).length = 5 ↔ x.nd = true := by unfold wnum; cases x.nd <;> simp
    rw [e4]
    cases hnd : x.nd with
    | false => rw [if_neg (by rw [e5, hnd]; simp)]; rfl
    | true =>
      rw [if_pos (by rw [e5, hnd])]
      simp only [Option.map_some, if_true, List.length_append]
      congr 1
      cases cm <;> simp <;> omega
/-- The last byte of tokens. -/
theorem last_tok (toks : List (Option (List Int))) (h : rok qz toks) (hne : toks ≠ []) : ∃ pre b, tokB true toks = pre ++ [b] ∧ (b.toNat = 59 ↔ segLast toks = false) := by
  rcases List.eq_nil_or_concat toks with rfl | ⟨l, t, rfl⟩
  · exact absurd rfl hne
  · have hc := comma_tok _ h
    rw [List.concat_eq_append] at h hc ⊢
    have hs : segLast (l ++ [t]) = (match t with | none => false | some _ => true) := by simp [segLast]; cases t <;> rfl
    cases t with
    | none => exact ⟨tokB true l, 59, by rw [tokB_snoc]; rfl, by rw [hs]; simp⟩
    | some ns =>
      rcases List.eq_nil_or_concat (tokB true (l ++ [some ns])) with e | ⟨p, b, e⟩
      · rw [e, hs] at hc
        simp [lastB, comma] at hc
      · rw [List.concat_eq_append] at e
        refine ⟨p, b, e, ?_⟩
        rw [e, lastB_app, hs] at hc
        rw [hs]
        unfold comma at hc
        simp at hc
        simp
        exact hc.2.1

set_option maxHeartbeats 4000000 in
set_option maxRecDepth 100000 in
theorem write_any (l : List Seg) (v : Value) (w : World) (hk : WOk l) (hn2 : l.length ≤ 4194304) (hv : SegsAt w w.heap.size v l) :
    Calls Tryd.prog 26 #[v] w fun e w' => e = .returned (.tuple #[.string (strB (tokB true (wtk l))), .int .i64 (offV (foff true (wtk l)))]) ∧ Below w.heap.size w w' := by
  have ks : ∀ (W : World) (x y : ByteArray), x.size + y.size ≤ 9223372036854775807 → (Op.stringOp .add x y).run Tryd.prog W = .ok (.string (x ++ y)) W := fun W x y h => run_string_add_sum W x y h
  obtain ⟨R, c, rfl, hR, hcl⟩ := hv
  have HCL := Lib.hid hcl
  have HK := Lib.hid hk
  clear hcl hk
  go_enter Tryd.func26, Tryd.ntmps26
  go_wp2_with fail
  go_loopg [4, 5, 7, 14] l.length (fun f s4 s5 s7 s14 wr => ∃ i : Nat, i + f = l.length ∧ s14 = .int .i64 (i : Int) ∧ s4 = .string (strB (tokB true (wtk (l.take i)))) ∧ s5 = .int .i64 (offV (foff true (wtk (l.take i)))) ∧ s7 = .int .i64 (wst (l.take i)).2 ∧ Blk wr w.heap.size 45 (sgA (wst (l.take i)).1) ∧ Below w.heap.size w wr)
  case atStart => exact ⟨0, by omega, rfl, rfl, rfl, rfl, Blk.new w _ _, balloc (Below.refl _ _) _⟩
  case round =>
    obtain ⟨wo, rfl⟩ : ∃ wo : World, wo = wr := ⟨_, rfl⟩
    obtain ⟨i, hi, rfl, rfl, rfl, rfl, hbl, hbw⟩ := hrel
    by_cases hlt : i < l.length
    · obtain ⟨f, rfl⟩ : ∃ f, gk = f + 1 := ⟨gk - 1, by omega⟩
      obtain ⟨hx, hql⟩ := HK.out i hlt
      obtain ⟨hq, hqn⟩ := wst_bd (HK.out.take i)
      have hsz := wtk_short (HK.out.take i)
      have hrk := (wtk_read (HK.out.take i)).1
      rw [List.length_take_of_le (by omega)] at hsz
      have hnx1 := wtk_snoc (l.take i) (l[i]'hlt)
      have hnx2 := wst_snoc (l.take i) (l[i]'hlt)
      rw [← take_snoc' l i hlt] at hnx1 hnx2
      have hc : ∀ j u, (l[i]'hlt).cells[j]? = some u → wo.cell? ⟨R, i * 7 + j, none⟩ = some u := fun j u hj => by
        have hj7 : j < 7 := by
          have := (List.getElem?_eq_some_iff.1 hj).1
          rwa [Seg.cells_len] at this
        refine (hbw.cell (p := ⟨R, _, none⟩) hR).trans (HCL.out _ u ?_)
        rw [sgs_at l i j hlt hj7]
        exact hj
      have HTE : Hid (i = 0 → wtk (l.take i) = []) := Lib.hid (by rintro rfl; rfl)
      have HTN : Hid (0 < i → wtk (l.take i) ≠ []) := Lib.hid (by
        intro h0 he
        obtain ⟨i, rfl⟩ : ∃ j, i = j + 1 := ⟨i - 1, by omega⟩
        rw [take_snoc' l i (by omega), wtk_snoc] at he
        simp [wtok] at he)
      have HNX1 := Lib.hid hnx1
      have HNX2 := Lib.hid hnx2
      have HRK := Lib.hid hrk
      obtain ⟨T, hT⟩ : ∃ T, T = wtk (l.take i) := ⟨_, rfl⟩
      obtain ⟨q, hqq⟩ : ∃ q, q = wst (l.take i) := ⟨_, rfl⟩
      obtain ⟨x, hxx⟩ : ∃ x, x = l[i]'hlt := ⟨_, rfl⟩
      clear hnx1 hnx2 hrk
      rw [← hT] at HNX1 HRK HTE HTN hsz ⊢
      rw [← hqq] at HNX1 HNX2 hq hqn hsz hql hbl ⊢
      rw [← hxx] at HNX1 HNX2 hx hql hc
      clear hT hqq hxx
      obtain ⟨⟨ql, qc, qs, qfl, qfc, qnm, qnd⟩, qn⟩ := q
      obtain ⟨xl, xc, xs, xfl, xfc, xnm, xnd⟩ := x
      obtain ⟨q1, q2, q3, q4, q5, q6, _⟩ := hq
      obtain ⟨x1, x2, x3, x4, x5, x6, _⟩ := hx
      simp only at q1 q2 q3 q4 q5 q6 hqn x1 x2 x3 x4 x5 x6 hql hsz hbl
      have c0 : wo.cell? ⟨R, i * 7, none⟩ = some (.int .i64 xl) := hc 0 _ rfl
      have c1 : wo.cell? ⟨R, i * 7 + 1, none⟩ = some (.int .i64 xc) := hc 1 _ rfl
      have c2 : wo.cell? ⟨R, i * 7 + 2, none⟩ = some (.int .i64 xs) := hc 2 _ rfl
      have c3 : wo.cell? ⟨R, i * 7 + 3, none⟩ = some (.int .i64 xfl) := hc 3 _ rfl
      have c4 : wo.cell? ⟨R, i * 7 + 4, none⟩ = some (.int .i64 xfc) := hc 4 _ rfl
      have c5 : wo.cell? ⟨R, i * 7 + 5, none⟩ = some (.int .i64 xnm) := hc 5 _ rfl
      have c6 : wo.cell? ⟨R, i * 7 + 6, none⟩ = some (.bool xnd) := hc 6 _ rfl
      have hg : w.heap.size < wo.heap.size := hbl.lt
      have X1 := Lib.hid (Blk.new wo 45 #[.int .i64 xl, .int .i64 xc, .int .i64 xs, .int .i64 xfl, .int .i64 xfc, .int .i64 xnm, .bool xnd])
      have W1 := Lib.hid (hbl.alloc (.cells #[.int .i64 xl, .int .i64 xc, .int .i64 xs, .int .i64 xfl, .int .i64 xfc, .int .i64 xnm, .bool xnd] 45))
      have B1 := Lib.hid (balloc hbw (.cells #[.int .i64 xl, .int .i64 xc, .int .i64 xs, .int .i64 xfl, .int .i64 xfc, .int .i64 xnm, .bool xnd] 45))
      clear hc hbl hbw
      go_upto_block 2 with fail
      clear c0 c1 c2 c3 c4 c5 c6
      generalize wo.alloc (.cells #[.int .i64 xl, .int .i64 xc, .int .i64 xs, .int .i64 xfl, .int .i64 xfc, .int .i64 xnm, .bool xnd] 45) = V1 at *
      obtain ⟨k, hk⟩ : ∃ k : Nat, k = (xl - ql).toNat := ⟨_, rfl⟩
      have hk1 : ql + k = xl := by omega
      obtain ⟨O, hO⟩ : ∃ O, O = tokB true T := ⟨_, rfl⟩
      rw [← hO] at hsz ⊢
      have HO := Lib.hid hO
      have HKK := Lib.hid hk
      obtain ⟨cc, hcc⟩ : ∃ cc : Int, cc = if ql < xl then 0 else qc := ⟨_, rfl⟩
      have hcb : 0 ≤ cc ∧ cc ≤ 8589934592 := by rw [hcc]; split <;> omega
      have hcj : Hid (cc = if k = 0 then qc else 0) := Lib.hid (by rw [hcc]; by_cases h : ql < xl; rw [if_pos h, if_neg (by omega)]; rw [if_neg h, if_pos (by omega)])
      have HCC := Lib.hid hcc
      clear hO hk hcc
      go_cut [4] (fun s4 wx => s4 = .string (strB (O ++ List.replicate k 59)) ∧ Blk wx w.heap.size 45 #[.int .i64 xl, .int .i64 cc, .int .i64 qs, .int .i64 qfl, .int .i64 qfc, .int .i64 qnm, .bool qnd] ∧ Blk wx wo.heap.size 45 #[.int .i64 xl, .int .i64 xc, .int .i64 xs, .int .i64 xfl, .int .i64 xfc, .int .i64 xnm, .bool xnd] ∧ Below w.heap.size w wx)
      case first =>
        as_aux_lemma =>
          go_wp2_with fail
          go_loopg [4] k (fun g s4 wx => ∃ j : Nat, j + g = k ∧ s4 = .string (strB (O ++ List.replicate j 59)) ∧ Blk wx w.heap.size 45 #[.int .i64 (ql + j), .int .i64 (if j = 0 then qc else 0), .int .i64 qs, .int .i64 qfl, .int .i64 qfc, .int .i64 qnm, .bool qnd] ∧ Blk wx wo.heap.size 45 #[.int .i64 xl, .int .i64 xc, .int .i64 xs, .int .i64 xfl, .int .i64 xfc, .int .i64 xnm, .bool xnd] ∧ Below w.heap.size w wx)
          case atStart => exact ⟨0, by omega, by simp, by simpa [sgA] using W1.out, X1.out, B1.out⟩
          case round =>
            obtain ⟨j, hj, rfl, hb1, hb2, hbb⟩ := hrel
            have d0 : wr.cell? ⟨w.heap.size, 0, none⟩ = some (.int .i64 (ql + j)) := hb1.cell 0
            have d1 : wr.cell? ⟨wo.heap.size, 0, none⟩ = some (.int .i64 xl) := hb2.cell 0
            have d2 : wr.cell? ⟨w.heap.size, 1, none⟩ = some (.int .i64 (if j = 0 then qc else 0)) := hb1.cell 1
            have f0 := hb1.frozen 0
            have f1 := hb1.frozen 1
            have hz1 := hb1.lt
            have hz2 := hb2.lt
            have hs1 := strB_size (O ++ List.replicate j 59)
            have hs2 : (strB (O ++ List.replicate j 59)).size ≤ 20000000000 := by rw [hs1, List.length_append, List.length_replicate]; omega
            have E1 : Hid (strB (O ++ List.replicate j 59) ++ strB [59] = strB (O ++ List.replicate (j + 1) 59)) := Lib.hid (by rw [strB_app, List.append_assoc, ← List.replicate_succ'])
            have HB1 := Lib.hid hb1
            have HB2 := Lib.hid hb2
            have HB := Lib.hid hbb
            obtain ⟨S, hS⟩ : ∃ S, S = strB (O ++ List.replicate j 59) := ⟨_, rfl⟩
            rw [← hS] at hs2 E1 ⊢
            have HSS := Lib.hid hS
            clear hb1 hb2 hbb hs1 hS
            by_cases hjk : j < k
            · obtain ⟨g, rfl⟩ : ∃ g, gk = g + 1 := ⟨gk - 1, by omega⟩
              generalize (if j = 0 then qc else 0) = cc at *
              go_wp2_with fail
              go_roundg g
              case measure => omega
              case rel =>
                refine ⟨j + 1, by omega, congrArg Value.string E1.out, ?_, (HB2.out.far (by simp only; omega) _).far (by simp only; omega) _, (HB.out.setCell (Nat.le_refl _) _).setCell (Nat.le_refl _) _⟩
                have := (HB1.out.set_ 1 (.int .i64 0)).set_ 0 (.int .i64 (ql + j + 1))
                have e : (ql + ((j + 1 : Nat) : Int)) = ql + j + 1 := by omega
                rw [e, if_neg (by omega)]
                exact this
            · obtain rfl : j = k := by omega
              go_wp2_with fail
              go_meet
              refine ⟨by rw [HSS.out], ?_, HB2.out, HB.out⟩
              rw [← hk1, hcj.out]
              exact HB1.out
      case rest =>
        obtain ⟨rfl, hb1, hb2, hbb⟩ := hcut
        clear hcj W1 X1 B1
        have hrk2 : rok qz (T ++ List.replicate k none) := by
          have h1 := (wtk_read (HK.out.take (i + 1))).1
          rw [HNX1.out] at h1
          unfold wtok at h1
          simp only at h1
          rw [← HKK.out, ← List.append_assoc] at h1
          exact rok_pre h1
        have hby : tokB true (T ++ List.replicate k none) = O ++ List.replicate k 59 := by rw [tokB_app, tokB_rep, HO.out]
        obtain ⟨cm, hcm⟩ : ∃ cm, cm = segLast (T ++ List.replicate k none) := ⟨_, rfl⟩
        have hc0 : i = 0 → cm = false := fun h => by rw [hcm, HTE.out h, List.nil_append, segLast_rep]
        have hc1 : 0 < i → ∃ pre b, O ++ List.replicate k 59 = pre ++ [b] ∧ (b.toNat = 59 ↔ cm = false) := fun h => by
          rw [← hby, hcm]
          exact last_tok _ hrk2 (by intro e; exact HTN.out h (List.append_eq_nil_iff.1 e).1)
        have HC0 := Lib.hid hc0
        have HC1 := Lib.hid hc1
        have HTB := Lib.hid (wtok_bytes T (⟨ql, qc, qs, qfl, qfc, qnm, qnd⟩, qn) ⟨xl, xc, xs, xfl, xfc, xnm, xnd⟩ k cc cm HKK.out HCC.out hcm)
        have HTO := Lib.hid (wtok_off T (⟨ql, qc, qs, qfl, qfc, qnm, qnd⟩, qn) ⟨xl, xc, xs, xfl, xfc, xnm, xnd⟩ k cc cm HKK.out HCC.out hcm)
        clear hc0 hc1 hcm hby hrk2 HTE HTN HRK HCC HKK
        have hk34 : (four (⟨ql, qc, qs, qfl, qfc, qnm, qnd⟩, qn) ⟨xl, xc, xs, xfl, xfc, xnm, xnd⟩ cc) = [xc - cc, xs - qs, xfl - qfl, xfc - qfc] := rfl
        rw [hk34] at HTB HTO
        clear hk34
        rw [← HO.out] at HTB HTO
        have hO2z : (O ++ List.replicate k 59).length ≤ 20000000000 := by rw [List.length_append, List.length_replicate]; omega
        obtain ⟨O2, hO2⟩ : ∃ O2, O2 = O ++ List.replicate k 59 := ⟨_, rfl⟩
        rw [← hO2] at HTB HTO HC1 hO2z ⊢
        clear hO2 HO hsz
        obtain ⟨S, hS⟩ : ∃ S, S = strB O2 := ⟨_, rfl⟩
        rw [← hS]
        have hSz : S.size ≤ 20000000000 := by rw [hS, strB_size]; exact hO2z
        have HSS := Lib.hid hS
        have HB1 := Lib.hid hb1
        have HB2 := Lib.hid hb2
        have HB := Lib.hid hbb
        clear hS hb1 hb2 hbb
        go_upto_region 11 with fail
        go_cut [45] (fun s45 wx => s45 = .bool cm ∧ wc = wx)
        case first =>
          as_aux_lemma =>
            by_cases hi0 : 0 < i
            · obtain ⟨pre, b, he, hb59⟩ := HC1.out hi0
              have hS1 : 1 ≤ S.size := by rw [HSS.out, he, strB_size]; simp
              have hla := strB_last pre b S (by rw [HSS.out, he]) (by omega)
              clear he
              by_cases h59 : b.toNat = 59
              · have E : Hid (cm = false) := Lib.hid (hb59.1 h59)
                have n1 : (((S[S.size - 1]'(by omega)).toNat : Int) == 59) = true := by rw [hla, h59]; rfl
                have n2 : (((S[S.size - 1]'(by omega)).toNat : Int) != 59) = false := by rw [hla, h59]; rfl
                clear hb59 h59 hla
                go_wp2_with fail
                go_meet
                exact ⟨by rw [E.out], rfl⟩
              · have E : Hid (cm = true) := Lib.hid (by
                  cases cm with
                  | true => rfl
                  | false => exact absurd (hb59.2 rfl) h59)
                have n1 : (((S[S.size - 1]'(by omega)).toNat : Int) == 59) = false := by rw [hla]; simp; omega
                have n2 : (((S[S.size - 1]'(by omega)).toNat : Int) != 59) = true := by rw [hla]; simp; omega
                clear hb59 h59 hla
                go_wp2_with fail
                go_meet
                exact ⟨by rw [E.out], rfl⟩
            · have E : Hid (cm = false) := Lib.hid (HC0.out (by omega))
              go_wp2_with fail
              go_meet
              exact ⟨by rw [E.out], rfl⟩
        case rest =>
          obtain ⟨rfl, rfl⟩ := hcut
          clear HC0 HC1
          go_upto_if 45 with fail
          go_cut [4] (fun s4 wx => s4 = .string (strB (O2 ++ if cm = true then [44] else [])) ∧ wc = wx)
          case first =>
            as_aux_lemma =>
              have E1 : Hid (S ++ strB [44] = strB (O2 ++ [44])) := Lib.hid (by rw [HSS.out, strB_app])
              have E2 : Hid (strB (O2 ++ []) = S) := Lib.hid (by rw [HSS.out, List.append_nil])
              cases cm with
              | true =>
                go_wp2_with fail
                go_meet
                exact ⟨congrArg Value.string E1.out, rfl⟩
              | false =>
                go_wp2_with fail
                go_meet
                exact ⟨congrArg Value.string E2.out.symm, rfl⟩
          case rest =>
            obtain ⟨rfl, rfl⟩ := hcut
            have hO3z : (O2 ++ if cm = true then [44] else []).length ≤ 20000000001 := by
              rw [List.length_append]
              cases cm <;> simp <;> omega
            obtain ⟨O3, hO3⟩ : ∃ O3, O3 = O2 ++ if cm = true then [44] else [] := ⟨_, rfl⟩
            rw [← hO3] at HTB HTO hO3z ⊢
            clear hO3 HSS hSz hO2z
            have d0 : wc.cell? ⟨wo.heap.size, 1, none⟩ = some (.int .i64 xc) := HB2.out.cell 1
            have d1 : wc.cell? ⟨w.heap.size, 1, none⟩ = some (.int .i64 cc) := HB1.out.cell 1
            have d2 : wc.cell? ⟨wo.heap.size, 2, none⟩ = some (.int .i64 xs) := HB2.out.cell 2
            have d3 : wc.cell? ⟨w.heap.size, 2, none⟩ = some (.int .i64 qs) := HB1.out.cell 2
            have d4 : wc.cell? ⟨wo.heap.size, 3, none⟩ = some (.int .i64 xfl) := HB2.out.cell 3
            have d5 : wc.cell? ⟨w.heap.size, 3, none⟩ = some (.int .i64 qfl) := HB1.out.cell 3
            have d6 : wc.cell? ⟨wo.heap.size, 4, none⟩ = some (.int .i64 xfc) := HB2.out.cell 4
            have d7 : wc.cell? ⟨w.heap.size, 4, none⟩ = some (.int .i64 qfc) := HB1.out.cell 4
            have hz1 := HB1.out.lt
            have hz2 := HB2.out.lt
            go_upto_block 4 with fail
            have HB1' := Lib.hid (HB1.out.alloc (.cells #[.int .i64 (xc - cc), .int .i64 (xs - qs), .int .i64 (xfl - qfl), .int .i64 (xfc - qfc)] 3))
            have HB2' := Lib.hid (HB2.out.alloc (.cells #[.int .i64 (xc - cc), .int .i64 (xs - qs), .int .i64 (xfl - qfl), .int .i64 (xfc - qfc)] 3))
            have HB3' := Lib.hid (Blk.new wc 3 #[.int .i64 (xc - cc), .int .i64 (xs - qs), .int .i64 (xfl - qfl), .int .i64 (xfc - qfc)])
            have HB' := Lib.hid (balloc HB.out (.cells #[.int .i64 (xc - cc), .int .i64 (xs - qs), .int .i64 (xfl - qfl), .int .i64 (xfc - qfc)] 3))
            clear d0 d1 d2 d3 d4 d5 d6 d7 HB1 HB2 HB
            generalize wc.alloc (.cells #[.int .i64 (xc - cc), .int .i64 (xs - qs), .int .i64 (xfl - qfl), .int .i64 (xfc - qfc)] 3) = V4 at *
            have hb4 : ∀ n ∈ [xc - cc, xs - qs, xfl - qfl, xfc - qfc], -34359738368 < n ∧ n < 34359738368 := by
              intro n hn
              simp only [List.mem_cons, List.not_mem_nil, or_false] at hn
              omega
            have hc4 : ∀ (j : Nat) (y : Int), [xc - cc, xs - qs, xfl - qfl, xfc - qfc][j]? = some y → V4.cell? ⟨wc.heap.size, j, none⟩ = some (.int .i64 y) := by
              intro j y hj
              have hj4 : j < 4 := (List.getElem?_eq_some_iff.1 hj).1
              rw [HB3'.out.cell]
              rcases (show j = 0 ∨ j = 1 ∨ j = 2 ∨ j = 3 by omega) with rfl | rfl | rfl | rfl <;> (simp at hj; subst hj; rfl)
            obtain ⟨n4, hn4⟩ : ∃ n4, n4 = [xc - cc, xs - qs, xfl - qfl, xfc - qfc] := ⟨_, rfl⟩
            have hl4 : n4.length = 4 := by rw [hn4]; rfl
            simp only [← hn4] at hb4 hc4 HTB HTO
            clear hn4
            have HB4 := Lib.hid hb4
            have HC4 := Lib.hid hc4
            have HL4 := Lib.hid hl4
            have hnz := nums_short n4
            rw [hl4] at hnz
            clear hb4 hc4 hl4
            go_cut [4] (fun s4 wx => s4 = .string (strB (O3 ++ nums n4)) ∧ V4 = wx)
            case first =>
              as_aux_lemma =>
                go_wp2_with fail
                go_loopg [4, 76] 4 (fun g s4 s76 wx => ∃ j : Nat, j + g = 4 ∧ s76 = .int .i64 (j : Int) ∧ s4 = .string (strB (O3 ++ nums (n4.take j))) ∧ V4 = wx)
                case atStart => exact ⟨0, rfl, rfl, by simp [nums], rfl⟩
                case round =>
                  obtain ⟨j, hj, rfl, rfl, rfl⟩ := hrel
                  by_cases hj4 : j < 4
                  · obtain ⟨g, rfl⟩ : ∃ g, gk = g + 1 := ⟨gk - 1, by omega⟩
                    have hjl : j < n4.length := by rw [HL4.out]; exact hj4
                    have hcj := HC4.out j _ (List.getElem?_eq_getElem hjl)
                    have hbj := HB4.out (n4[j]'hjl) (List.getElem_mem hjl)
                    have htk : nums (n4.take (j + 1)) = nums (n4.take j) ++ nb (n4[j]'hjl) := by rw [take_snoc' n4 j hjl, nums_app]; simp [nums]
                    have HTK := Lib.hid htk
                    clear htk
                    have hsn := nums_short (n4.take j)
                    rw [List.length_take_of_le (by omega)] at hsn
                    have hbn := nb_short (n4[j]'hjl)
                    generalize n4[j]'hjl = y at *
                    obtain ⟨S, hS⟩ : ∃ S, S = strB (O3 ++ nums (n4.take j)) := ⟨_, rfl⟩
                    have hSz : S.size ≤ 20000000100 := by rw [hS, strB_size, List.length_append]; omega
                    have E1 : Hid (S ++ strB (nb y) = strB (O3 ++ nums (n4.take (j + 1)))) := Lib.hid (by rw [hS, strB_app, HTK.out, List.append_assoc])
                    have hyz : (strB (nb y)).size ≤ 13 := by rw [strB_size]; exact hbn
                    rw [← hS]
                    clear hS
                    go_wp2_with (go_at_call 43; refine (number0_any _ _ hbj).mono ?_; rintro e w' ⟨rfl, rfl⟩)
                    go_roundg g
                    case measure => omega
                    case rel => exact ⟨j + 1, by omega, by go_num, congrArg Value.string E1.out, rfl⟩
                  · obtain rfl : j = 4 := by omega
                    have htk : n4.take 4 = n4 := List.take_of_length_le (by rw [HL4.out]; exact Nat.le_refl _)
                    rw [htk]
                    clear htk
                    go_wp2_with fail
                    go_meet
                    exact ⟨rfl, rfl⟩
            case rest =>
              obtain ⟨rfl, rfl⟩ := hcut
              clear HB4 HC4 HL4 HB3'
              have hO4z : (O3 ++ nums n4).length ≤ 20000000100 := by rw [List.length_append]; omega
              obtain ⟨O4, hO4⟩ : ∃ O4, O4 = O3 ++ nums n4 := ⟨_, rfl⟩
              rw [← hO4] at HTB HTO hO4z ⊢
              clear hO4
              obtain ⟨S, hS⟩ : ∃ S, S = strB O4 := ⟨_, rfl⟩
              rw [← hS]
              have hSz : S.size ≤ 20000000100 := by rw [hS, strB_size]; exact hO4z
              have hSl : Hid (S.size = O4.length) := Lib.hid (by rw [hS, strB_size])
              have HSS := Lib.hid hS
              clear hS
              have d5 : V4.cell? ⟨wo.heap.size, 5, none⟩ = some (.int .i64 xnm) := HB2'.out.cell 5
              have d6 : V4.cell? ⟨wo.heap.size, 6, none⟩ = some (.bool xnd) := HB2'.out.cell 6
              obtain ⟨fo, hfo⟩ : ∃ fo, fo = foff true T := ⟨_, rfl⟩
              rw [← hfo] at HTO ⊢
              clear hfo
              go_upto_if 86 with fail
              go_cut [4, 5, 7] (fun s4 s5 s7 wx => s4 = .string (strB (O4 ++ if xnd = true then nb (xnm - qn) else [])) ∧ s5 = .int .i64 (offV (orN fo xnd O4.length)) ∧ s7 = .int .i64 (if xnd = true then xnm else qn) ∧ V4 = wx)
              case first =>
                as_aux_lemma =>
                  cases xnd with
                  | true =>
                    have E1 : Hid (S ++ strB (nb (xnm - qn)) = strB (O4 ++ nb (xnm - qn))) := Lib.hid (by rw [HSS.out, strB_app])
                    have hbn := nb_short (xnm - qn)
                    have hyz : (strB (nb (xnm - qn))).size ≤ 13 := by rw [strB_size]; exact hbn
                    cases fo with
                    | none =>
                      have ho : offV none = -1 := rfl
                      rw [ho]
                      go_wp2_with (go_at_call 43; refine (number0_any _ _ (by omega)).mono ?_; rintro e w' ⟨rfl, rfl⟩)
                      go_meet
                      exact ⟨congrArg Value.string E1.out, by rw [hSl.out]; rfl, rfl, rfl⟩
                    | some a =>
                      have ho : offV (some a) = (a : Int) := rfl
                      rw [ho]
                      go_wp2_with (go_at_call 43; refine (number0_any _ _ (by omega)).mono ?_; rintro e w' ⟨rfl, rfl⟩)
                      go_meet
                      exact ⟨congrArg Value.string E1.out, rfl, rfl, rfl⟩
                  | false =>
                    have E1 : Hid (strB (O4 ++ []) = S) := Lib.hid (by rw [HSS.out, List.append_nil])
                    have E2 : Hid (offV (orN fo false O4.length) = offV fo) := Lib.hid (by cases fo <;> rfl)
                    go_wp2_with fail
                    go_meet
                    exact ⟨congrArg Value.string E1.out.symm, congrArg (Value.int IntKind.i64) E2.out.symm, rfl, rfl⟩
              case rest =>
                obtain ⟨rfl, rfl, rfl, rfl⟩ := hcut
                have e7 : (if xnd = true then xnm else qn) = (wst (l.take (i + 1))).2 := by rw [HNX2.out]; rfl
                rw [← HTO.out, ← HTB.out, e7, ← HNX1.out]
                clear HTO HTB HSS hSl e7
                have d0 : V4.cell? ⟨wo.heap.size, 0, none⟩ = some (.int .i64 xl) := HB2'.out.cell 0
                have d1 : V4.cell? ⟨wo.heap.size, 1, none⟩ = some (.int .i64 xc) := HB2'.out.cell 1
                have d2 : V4.cell? ⟨wo.heap.size, 2, none⟩ = some (.int .i64 xs) := HB2'.out.cell 2
                have d3 : V4.cell? ⟨wo.heap.size, 3, none⟩ = some (.int .i64 xfl) := HB2'.out.cell 3
                have d4 : V4.cell? ⟨wo.heap.size, 4, none⟩ = some (.int .i64 xfc) := HB2'.out.cell 4
                go_wp2_with (refine wpList_store_blk rfl 45 (.tmp 6) (.tmp 100) rfl w.heap.size 45 #[.int .i64 xl, .int .i64 cc, .int .i64 qs, .int .i64 qfl, .int .i64 qfc, .int .i64 qnm, .bool qnd] #[.int .i64 xl, .int .i64 xc, .int .i64 xs, .int .i64 xfl, .int .i64 xfc, .int .i64 xnm, .bool xnd] rfl rfl HB1'.out rfl size_seg (segz_one _ _ _ _ _ _ _) ?_; intro w6 hb6 hk6 hz6; have HB6 := Lib.hid hb6; have HK6 := Lib.hid hk6; clear hb6 hk6 hz6)
                go_roundg f
                case measure => omega
                case rel =>
                  refine ⟨i + 1, by omega, by go_num, rfl, rfl, rfl, ?_, ?_⟩
                  · rw [HNX2.out]; exact HB6.out
                  · exact HB'.out.trans (HK6.out.below (B := w.heap.size) HB'.out.size (fun k hk e => by omega))
    · obtain rfl : i = l.length := by omega
      rw [List.take_length]
      go_wp2_with fail
      go_ret2
      exact ⟨rfl, hbw⟩
end Go.Proofs.YtnokiikgnplpmaaDoor

/-
  The contract of sourcemap.AppendSourceMapChunk: what is appended to a joiner. Conditions: at most three lines between, the numbers are below 2^34, at most 4000000000 bytes in all.
-/
import Derived.Test.YtnokiikgnplpmaaDoorM19
import Derived.Test.YtnokiikgnplpmaaDoorM2
import Derived.StillTailTactics
namespace Go.Proofs.YtnokiikgnplpmaaDoor
open Go.RowKit

/-- The state that is appended to. -/
def pOf (P : St) (k : Nat) (sl : Nat) : St := { P with gc := if 0 < sl ∨ 0 < k then 0 else P.gc }
def sOf (S : St) (k : Nat) (n0 n1 n2 n3 : Int) : St := ⟨S.gl, (if 0 < k then 0 else S.gc) + n0, S.si + n1, S.ol + n2, S.oc + n3, S.on⟩
/-- The bytes behind the first mapping's place: the first name is told anew. -/
def NameAt (Q Q' : List UInt8) (i : Nat) (fb : Int) (d : Int) : Prop :=
  fb = 0 ∧ Q' = Q ∨ ∃ A x B, Q = A ++ nb x ++ B ∧ Q' = A ++ nb (x + d) ++ B ∧ fb = 4294967295 - ((i + A.length : Nat) : Int) ∧ (-17179869184 < x ∧ x < 17179869184) ∧ (-17179869184 < x + d ∧ x + d < 17179869184)

theorem lastByteC_any (g : Nat) (L : Int) (w : World) (c3 : w.cell? ⟨g, 3, none⟩ = some (.int .u8 L)) :
    Calls Tryd.prog 54 #[.pointer (some ⟨g, 0, none⟩)] w fun e w' => e = .returned (.int .u8 L) ∧ w = w' := by
  go_enter Tryd.func54, Tryd.ntmps54
  go_wp2_with fail
  go_ret
  exact ⟨rfl, rfl⟩
theorem rdv_nil {g H M : Nat} {vs : Value} {w : World} {bs : List UInt8} {A : Option Addr} {c : Nat} (h : bs.length = 0) : RdV g H M vs w (.slice A 0 c) bs := ⟨A, c, by rw [h], fun h0 => absurd h0 (by omega)⟩
/-- A row that was made, and nothing else. -/
def RwP (V : World) (xs : List Value) (s15 : Value) (wx : World) : Prop := wx.ownsRow V.heap.size 5 1 s15 xs.length xs ∧ Below V.heap.size V wx
theorem rwp_A {V w3 : World} {xs : List Value} {v : Value} (ha : App V.heap.size 0 [] (.slice none 0 0) V.drew xs v w3) (o : Obj) : RwP V xs v (w3.alloc o) := by
  obtain ⟨a1, a2, _⟩ := ha
  refine ⟨?_, ?_⟩
  · have := a1.alloc o
    simpa using this
  · have h : Below V.heap.size V w3 := (Below.refl V.heap.size V).drew.trans (a2.below (B := V.heap.size) (Nat.le_refl V.heap.size) (fun k _ e => by simp [Value.ownBlock] at e))
    exact balloc h o
theorem rwp_B {V w3 : World} {xs : List Value} {v : Value} {o : Obj} (ha : App V.heap.size 0 [] (.slice none 0 0) (V.alloc o).drew xs v w3) (u : Value) : RwP V xs v (w3.setCell ⟨V.heap.size, 0, none⟩ u) := by
  obtain ⟨a1, a2, a3⟩ := ha
  have hne : v.ownBlock ≠ some V.heap.size := by
    rcases a3 with e | ⟨k, hk, e⟩
    · rw [e]; simp [Value.ownBlock]
    · rw [e]
      intro q
      injection q with q
      have h2 : (V.alloc o).drew.heap.size = V.heap.size + 1 := by
        show (V.alloc o).heap.size = _
        simp
      omega
  refine ⟨?_, ?_⟩
  · have := ownsRow_setCell_other a1 (a := ⟨V.heap.size, 0, none⟩) hne u
    simpa using this
  · have h : Below V.heap.size V w3 := (balloc (Below.refl V.heap.size V) o).drew.trans (a2.below (by show V.heap.size ≤ (V.alloc o).heap.size; simp) (fun k _ e => by simp [Value.ownBlock] at e))
    exact h.setCell (by simp) u
/-- What is left behind. -/
def APost (H g Bs : Nat) (F : List UInt8) (vs : Value) (out : List UInt8) (w w' : World) : Prop :=
  ∃ its vb, Jn (fun i => H ≤ i ∧ i ≤ H + 2) Bs g F its vs vb w' ∧ flat its = out ∧ its.length ≤ 100 ∧ Kep (fun i => i = g) w w'
set_option maxHeartbeats 8000000 in
set_option maxRecDepth 100000 in
theorem append_any (g Bs B : Nat) (F : List UInt8) (vs : Value) (Rd cd : Nat) (D Q Q' : List UInt8) (P S : St) (sl k : Nat) (n0 n1 n2 n3 : Int) (fb : Int) (w : World)
    (hJ : Jn (fun i => w.heap.size ≤ i ∧ i ≤ w.heap.size + 2) Bs g F [] vs (.slice none 0 0) w) (hc : AC g Bs w.heap.size B Rd vs w) (hT : B64 B w)
    (hD : D = List.replicate k 59 ++ (nums [n0, n1, n2, n3] ++ Q)) (hdc : ∀ (j : Nat) (u : Value), (bc D)[j]? = some u → w.cell? ⟨Rd, j, none⟩ = some u)
    (hn : ∀ n ∈ [n0, n1, n2, n3], -17179869184 < n ∧ n < 17179869184) (hP : P.ok) (hS : S.ok) (hSs : (-34359738368 < S.gc ∧ S.gc < 34359738368) ∧ (-34359738368 < S.si ∧ S.si < 34359738368) ∧ (-34359738368 < S.ol ∧ S.ol < 34359738368) ∧ (-34359738368 < S.oc ∧ S.oc < 34359738368) ∧ (-34359738368 < S.on ∧ S.on < 34359738368) ∧ (-34359738368 < P.on ∧ P.on < 34359738368))
    (hsl : S.gl = (sl : Int)) (hsl3 : sl ≤ 3) (hcd : D.length ≤ cd) (hname : NameAt Q Q' (k + (nums [n0, n1, n2, n3]).length) fb (S.on - P.on)) (hsz : F.length + D.length ≤ 3000000000) :
    Calls Tryd.prog 38 #[.pointer (some ⟨g, 0, none⟩), .agg P.cells, .agg S.cells, .agg #[.slice (some ⟨Rd, 0, none⟩) D.length cd, .int .u32 fb]] w fun e w' => e = .returned (.tuple #[]) ∧ APost w.heap.size g Bs F vs (List.replicate sl 59 ++ List.replicate k 59 ++ segb (lastB (F ++ (List.replicate sl 59 ++ List.replicate k 59))) (pOf P k sl) (sOf S k n0 n1 n2 n3) ++ Q') w w' := by
  obtain ⟨pgl, pgc, psi, pol, poc, pon⟩ := P
  obtain ⟨sgl, sgc', ssi, sol, soc, son⟩ := S
  obtain ⟨⟨p1, p2⟩, ⟨p3, p4⟩, ⟨p5, p6⟩, ⟨p7, p8⟩, ⟨p9, p10⟩⟩ := hP
  obtain ⟨s3, s5, s7, s9, s11, s12⟩ := hSs
  simp only at p1 p2 p3 p4 p5 p6 p7 p8 p9 p10 s3 s5 s7 s9 s11 s12 hsl
  subst hsl
  clear hS
  have HB0 := balloc (balloc (balloc (Below.refl w.heap.size w) (.cells #[.int .i64 pgl, .int .i64 pgc, .int .i64 psi, .int .i64 pol, .int .i64 poc, .int .i64 pon, .bool false] 77)) (.cells #[.int .i64 (sl : Int), .int .i64 sgc', .int .i64 ssi, .int .i64 sol, .int .i64 soc, .int .i64 son, .bool false] 77)) (.cells #[.slice (some ⟨Rd, 0, none⟩) D.length cd, .int .u32 fb] 89)
  have hX0 := ((Blk.new w 77 #[.int .i64 pgl, .int .i64 pgc, .int .i64 psi, .int .i64 pol, .int .i64 poc, .int .i64 pon, .bool false]).alloc (.cells #[.int .i64 (sl : Int), .int .i64 sgc', .int .i64 ssi, .int .i64 sol, .int .i64 soc, .int .i64 son, .bool false] 77)).alloc (.cells #[.slice (some ⟨Rd, 0, none⟩) D.length cd, .int .u32 fb] 89)
  have hX1 := (spl_new2 w (.cells #[.int .i64 pgl, .int .i64 pgc, .int .i64 psi, .int .i64 pol, .int .i64 poc, .int .i64 pon, .bool false] 77) 77 #[.int .i64 (sl : Int), .int .i64 sgc', .int .i64 ssi, .int .i64 sol, .int .i64 soc, .int .i64 son, .bool false]).alloc (.cells #[.slice (some ⟨Rd, 0, none⟩) D.length cd, .int .u32 fb] 89)
  have hX2 := spl_new2 (w.alloc (.cells #[.int .i64 pgl, .int .i64 pgc, .int .i64 psi, .int .i64 pol, .int .i64 poc, .int .i64 pon, .bool false] 77)) (.cells #[.int .i64 (sl : Int), .int .i64 sgc', .int .i64 ssi, .int .i64 sol, .int .i64 soc, .int .i64 son, .bool false] 77) 89 #[.slice (some ⟨Rd, 0, none⟩) D.length cd, .int .u32 fb]
  obtain ⟨V0, hV0⟩ : ∃ V0, V0 = ((w.alloc (.cells #[.int .i64 pgl, .int .i64 pgc, .int .i64 psi, .int .i64 pol, .int .i64 poc, .int .i64 pon, .bool false] 77)).alloc (.cells #[.int .i64 (sl : Int), .int .i64 sgc', .int .i64 ssi, .int .i64 sol, .int .i64 soc, .int .i64 son, .bool false] 77)).alloc (.cells #[.slice (some ⟨Rd, 0, none⟩) D.length cd, .int .u32 fb] 89) := ⟨_, rfl⟩
  have hzV : V0.heap.size = w.heap.size + 3 := by rw [hV0]; simp
  rw [← hV0] at HB0 hX0 hX1 hX2
  rw [show (w.alloc (.cells #[.int .i64 pgl, .int .i64 pgc, .int .i64 psi, .int .i64 pol, .int .i64 poc, .int .i64 pon, .bool false] 77)).heap.size + 1 = w.heap.size + 2 by simp] at hX2
  have hgz := hc.gB
  have hAS0 : AS g Bs w.heap.size (w.heap.size + 3) B F vs Rd D #[.int .i64 pgl, .int .i64 pgc, .int .i64 psi, .int .i64 pol, .int .i64 poc, .int .i64 pon, .bool false] #[.int .i64 (sl : Int), .int .i64 sgc', .int .i64 ssi, .int .i64 sol, .int .i64 soc, .int .i64 son, .bool false] #[.slice (some ⟨Rd, 0, none⟩) D.length cd, .int .u32 fb] w [] 0 V0 :=
    ⟨[], .slice none 0 0, hJ.below HB0, rfl, Nat.le_refl _, hX0, hX1, hX2, fun j u hj => (HB0.cell (p := ⟨Rd, j, none⟩) hc.RdH).trans (hdc j u hj), hT.below (HB0.mono (by have := hc.BBs; have := hc.BsH; omega)), Kep.of_below HB0, fun i hi => by simp [Value.ownBlock] at hi, by omega, by omega, fun x hx => by cases hx⟩
  have HA0 := Lib.hid hAS0
  have HC := Lib.hid hc
  have HN := Lib.hid hname
  have HD := Lib.hid hD
  have hRdw := hc.RdH
  have hgw : g < w.heap.size := by have := hc.BsH; omega
  have HV0 := Lib.hid hV0
  have hRdx := Lib.hid (show Rd < w.heap.size ∧ Rd ≠ g ∧ vs.ownBlock ≠ some Rd from ⟨hc.RdH, hc.Rdg, hc.Rdv⟩)
  clear hJ hc hT hdc HB0 hX0 hX1 hX2 hAS0 hname hgz
  show Calls Tryd.prog 38 #[.pointer (some ⟨g, 0, none⟩), .agg #[.int .i64 pgl, .int .i64 pgc, .int .i64 psi, .int .i64 pol, .int .i64 poc, .int .i64 pon, .bool false], .agg #[.int .i64 (sl : Int), .int .i64 sgc', .int .i64 ssi, .int .i64 sol, .int .i64 soc, .int .i64 son, .bool false], .agg #[.slice (some ⟨Rd, 0, none⟩) D.length cd, .int .u32 fb]] w _
  -- the bytes that are read
  have hDl : D.length = k + ((nums [n0, n1, n2, n3]).length + Q.length) := by rw [hD]; simp
  obtain ⟨dl, hdl⟩ : ∃ dl, dl = D.length := ⟨_, rfl⟩
  rw [← hdl] at hsz hDl hcd ⊢
  simp only [← hdl] at HA0 HV0
  have HDL := Lib.hid hdl
  have HDl := Lib.hid hDl
  have hdl3 : dl ≤ 3000000000 := by omega
  have hFz : F.length + dl ≤ 3000000000 := hsz
  clear hdl hD hV0 hDl hsz
  go_enter Tryd.func38, Tryd.ntmps38
  go_upto_if 22 with fail
  rw [← HV0.out, show w.heap.size + 1 + 1 = w.heap.size + 2 from rfl]
  clear HV0
  obtain ⟨H, hH⟩ : ∃ H, H = w.heap.size := ⟨_, rfl⟩
  simp only [← hH] at HA0 HC hzV hRdw hgw hRdx ⊢
  have HHH := Lib.hid hH
  have hzV1 : H + 3 ≤ V0.heap.size := by omega
  clear hH hzV
  obtain ⟨pc1, hpc1⟩ : ∃ pc1 : Int, pc1 = if 0 < sl then 0 else pgc := ⟨_, rfl⟩
  have hpb1 : -274877906944 < pc1 ∧ pc1 < 274877906944 := by rw [hpc1]; split <;> omega
  have HPC1 := Lib.hid hpc1
  clear hpc1
  go_cut [] (fun wx => ∃ M, AS g Bs H M B F vs Rd D #[.int .i64 pgl, .int .i64 pc1, .int .i64 psi, .int .i64 pol, .int .i64 poc, .int .i64 pon, .bool false] #[.int .i64 (sl : Int), .int .i64 sgc', .int .i64 ssi, .int .i64 sol, .int .i64 soc, .int .i64 son, .bool false] #[.slice (some ⟨Rd, 0, none⟩) dl cd, .int .u32 fb] w (List.replicate sl 59) 1 wx)
  case first =>
    as_aux_lemma =>
      obtain ⟨its, vb, a1, a2, a3, a4, a5, a6, a7, a8, a9, a10, a11, a12, a13⟩ := HA0.out
      have d0 : V0.cell? ⟨H + 1, 0, none⟩ = some (.int .i64 (sl : Int)) := a5.cell 0
      have hz0 := a4.lt
      have hz1 := a5.lt
      have f1 := a4.frozen 1
      have c1 : V0.cell? ⟨H, 1, none⟩ = some (.int .i64 pgc) := a4.cell 1
      clear its vb a1 a2 a3 a4 a5 a6 a7 a8 a9 a10 a11 a12 a13
      by_cases h0 : 0 < sl
      · have t1 : ((sl : Int) != 0) = true := by simp; omega
        have E : Hid (pc1 = 0) := Lib.hid (by rw [HPC1.out, if_pos h0])
        have hsl' : sl = 1 ∨ sl = 2 ∨ sl = 3 := by omega
        have hrow : (V0.alloc (.cells #[.int .u8 59] 5)).cell? ⟨V0.heap.size, 0, none⟩ = some (.int .u8 59) := (Blk.new V0 5 #[.int .u8 59]).cell 0
        have HROW := Lib.hid hrow
        clear hrow
        have HA0' := Lib.hid (HA0.out.below HC.out (balloc (Below.refl V0.heap.size V0) (.cells #[.int .u8 59] 5)))
        have hza : (V0.alloc (.cells #[.int .u8 59] 5)).heap.size = V0.heap.size + 1 := by simp
        have HZA := Lib.hid hza
        clear hza
        go_wp2_with fail
        generalize V0.alloc (.cells #[.int .u8 59] 5) = V1 at *
        refine (repeat_any sl hsl' V0.heap.size _ HROW.out).mono ?_
        rintro e w1 ⟨⟨kr, cr, rfl, hkr1, hkr2, hkr3⟩, hb1⟩
        have HA1 := Lib.hid (HA0'.out.below HC.out hb1)
        have hv : RdV g H (H + 3) vs w1 (.slice (some ⟨kr, 0, none⟩) sl cr) (List.replicate sl 59) := ⟨some ⟨kr, 0, none⟩, cr, by rw [List.length_replicate], fun _ => ⟨kr, 0, rfl, .inr (by have := HZA.out; omega), hkr2, fun j u hj => by
          have hj' : j < sl := by
            have := (List.getElem?_eq_some_iff.1 hj).1
            rw [bc_len, List.length_replicate] at this
            exact this
          rw [Nat.zero_add, hkr3 j hj', ← hj]
          simp [bc, hj']⟩⟩
        have HV := Lib.hid hv
        clear hv hkr1 hkr2 hkr3 hb1 HA0' HROW HZA d0 f1 c1 hz0 hz1
        go_wp2_with fail
        refine (HA1.out.addBytes HC.out HV.out (by rw [List.length_replicate]; simp; omega) (by omega)).mono ?_
        rintro e w2 ⟨rfl, hA2⟩
        rw [List.nil_append] at hA2
        have HA2 := Lib.hid hA2
        obtain ⟨its, vb, a1, a2, a3, a4, a5, a6, a7, a8, a9, a10, a11, a12, a13⟩ := hA2
        have c1 : w2.cell? ⟨H, 1, none⟩ = some (.int .i64 pgc) := a4.cell 1
        have f1 := a4.frozen 1
        have hz0 := a4.lt
        clear its vb a1 a2 a3 a4 a5 a6 a7 a8 a9 a10 a11 a12 a13 HA1 HV
        go_wp2_with fail
        go_meet
        rw [E.out]
        exact ⟨_, HA2.out.setP HC.out 1 _ _ rfl⟩
      · obtain rfl : sl = 0 := by omega
        have t1 : (((0 : Nat) : Int) != 0) = false := rfl
        have E : Hid (pc1 = pgc) := Lib.hid (by rw [HPC1.out, if_neg (by omega)])
        go_wp2_with fail
        go_meet
        rw [E.out]
        exact ⟨_, HA0.out.more (by omega)⟩
  case rest =>
    obtain ⟨M1, hA1⟩ := hcut
    have HA1 := Lib.hid hA1
    clear HA0 hzV1 hA1
    -- the bytes, one behind the other
    have h0n := hn n0 (by simp)
    have h1n := hn n1 (by simp)
    have h2n := hn n2 (by simp)
    have h3n := hn n3 (by simp)
    clear hn
    have hnums : nums [n0, n1, n2, n3] = nb n0 ++ (nb n1 ++ (nb n2 ++ nb n3)) := by simp [nums]
    have hD0 : D = List.replicate k 59 ++ nb n0 ++ (nb n1 ++ (nb n2 ++ (nb n3 ++ Q))) := by rw [HD.out, hnums]; simp [List.append_assoc]
    have hD1 : D = (List.replicate k 59 ++ nb n0) ++ nb n1 ++ (nb n2 ++ (nb n3 ++ Q)) := by rw [hD0]; simp [List.append_assoc]
    have hD2 : D = (List.replicate k 59 ++ nb n0 ++ nb n1) ++ nb n2 ++ (nb n3 ++ Q) := by rw [hD0]; simp [List.append_assoc]
    have hD3 : D = (List.replicate k 59 ++ nb n0 ++ nb n1 ++ nb n2) ++ nb n3 ++ Q := by rw [hD0]; simp [List.append_assoc]
    have hD4 : D = (List.replicate k 59 ++ nb n0 ++ nb n1 ++ nb n2 ++ nb n3) ++ Q := by rw [hD0]; simp [List.append_assoc]
    obtain ⟨x0, t0, e0, _, h059⟩ := nb_first n0 h0n.1 h0n.2
    obtain ⟨x1, t1, e1, h144, h159⟩ := nb_first n1 h1n.1 h1n.2
    have hdk : D[k]? = some x0 := by
      rw [hD0, e0, List.append_assoc, List.getElem?_append_right (by simp), List.length_replicate, Nat.sub_self]
      rfl
    have hd59 : ∀ j, j < k → D[j]? = some 59 := fun j hj => by
      rw [hD0, List.append_assoc, List.getElem?_append_left (by simpa using hj)]
      simp [hj]
    have hdi : D[k + (nb n0).length]? = some x1 := by
      rw [hD1, e1, List.append_assoc, List.getElem?_append_right (by simp), List.length_append, List.length_replicate, Nat.sub_self]
      rfl
    have l0 := nb_short n0
    have l1 := nb_short n1
    have l2 := nb_short n2
    have l3 := nb_short n3
    have hlD := HDL.out
    have hkl : k + (nb n0).length + (nb n1).length + (nb n2).length + (nb n3).length + Q.length = dl := by rw [hlD, hD4]; simp; omega
    have hp0 := nb_pos' n0
    have hp1 := nb_pos' n1
    have HKL := Lib.hid hkl
    have hk1 : k + (nb n0).length < dl := by omega
    have hk0 : k < dl := by omega
    have X0 : x0.toNat < 256 := x0.toNat_lt
    have X1 : x1.toNat < 256 := x1.toNat_lt
    have HD0 := Lib.hid hD0
    have HD1 := Lib.hid hD1
    have HD2 := Lib.hid hD2
    have HD3 := Lib.hid hD3
    have HD4 := Lib.hid hD4
    have HD59 := Lib.hid hd59
    have HDK := Lib.hid hdk
    have HDI := Lib.hid hdi
    have hq4 : k + (nb n0).length + (nb n1).length + (nb n2).length + (nb n3).length ≤ dl := by omega
    clear hnums hD0 hD1 hD2 hD3 hD4 hdk hd59 hdi hlD hkl e0 e1
    generalize hz0 : x0.toNat = y0 at *
    generalize hz1 : x1.toNat = y1 at *
    have HZ0 := Lib.hid hz0
    have HZ1 := Lib.hid hz1
    clear hz0 hz1
    have dk : wc.cell? ⟨Rd, k, none⟩ = some (.int .u8 (y0 : Int)) := by rw [← HZ0.out]; exact HA1.out.data k x0 HDK.out
    have b2 : wc.cell? ⟨H + 2, 0, none⟩ = some (.slice (some ⟨Rd, 0, none⟩) dl cd) := HA1.out.box2 0
    go_upto_block 0 with fail
    go_cut [8] (fun s8 wx => s8 = .int .i64 (k : Int) ∧ wc = wx)
    case first =>
      as_aux_lemma =>
        go_wp2_with fail
        go_loopg [8] k (fun f s8 wx => ∃ i : Nat, i + f = k ∧ s8 = .int .i64 (i : Int) ∧ wc = wx)
        case atStart => exact ⟨0, by omega, rfl, rfl⟩
        case round =>
          obtain ⟨i, hi, rfl, rfl⟩ := hrel
          by_cases hik : i < k
          · obtain ⟨f, rfl⟩ : ∃ f, gk = f + 1 := ⟨gk - 1, by omega⟩
            have di : wc.cell? ⟨Rd, i, none⟩ = some (.int .u8 59) := HA1.out.data i 59 (HD59.out i hik)
            go_wp2_with fail
            go_roundg f
            case measure => omega
            case rel => exact ⟨i + 1, by omega, by go_num, rfl⟩
          · obtain rfl : i = k := by omega
            have t1 : ((y0 : Int) == 59) = false := by simp; omega
            go_wp2_with fail
            go_meet
            exact ⟨rfl, rfl⟩
    case rest =>
      obtain ⟨rfl, rfl⟩ := hcut
      clear dk HDK HZ0
      obtain ⟨pc2, hpc2⟩ : ∃ pc2 : Int, pc2 = if 0 < sl ∨ 0 < k then 0 else pgc := ⟨_, rfl⟩
      obtain ⟨sc2, hsc2⟩ : ∃ sc2 : Int, sc2 = if 0 < k then 0 else sgc' := ⟨_, rfl⟩
      have hpb2 : -274877906944 < pc2 ∧ pc2 < 274877906944 := by rw [hpc2]; split <;> omega
      have hsb2 : -34359738368 < sc2 ∧ sc2 < 34359738368 := by rw [hsc2]; split <;> omega
      have HPC2 := Lib.hid hpc2
      have HSC2 := Lib.hid hsc2
      clear hpc2 hsc2
      have hzc := HA1.out.sizes.1
      go_upto_if 39 with fail
      go_cut [] (fun wx => ∃ M, AS g Bs H M B F vs Rd D #[.int .i64 pgl, .int .i64 pc2, .int .i64 psi, .int .i64 pol, .int .i64 poc, .int .i64 pon, .bool false] #[.int .i64 (sl : Int), .int .i64 sc2, .int .i64 ssi, .int .i64 sol, .int .i64 soc, .int .i64 son, .bool false] #[.slice (some ⟨Rd, 0, none⟩) dl cd, .int .u32 fb] w (List.replicate sl 59 ++ List.replicate k 59) 2 wx)
      case first =>
        as_aux_lemma =>
          by_cases hk' : 0 < k
          · have E1 : Hid (pc2 = 0) := Lib.hid (by rw [HPC2.out, if_pos (.inr hk')])
            have E2 : Hid (sc2 = 0) := Lib.hid (by rw [HSC2.out, if_pos hk'])
            have hv : RdV g H M1 vs wc (.slice (some ⟨Rd, 0, none⟩) k cd) (List.replicate k 59) := by
              have := HA1.out.piece HC.out 0 (List.replicate k 59) (some ⟨Rd, 0, none⟩) cd (fun _ => rfl) (fun j hj => by
                rw [List.length_replicate] at hj
                rw [Nat.zero_add, HD59.out j hj]
                simp [hj])
              rwa [List.length_replicate] at this
            have HV := Lib.hid hv
            clear hv
            have o1 : (k : Int) ≤ (dl : Int) := by omega
            have o2 : k ≤ cd := by omega
            go_wp2_with fail
            refine (HA1.out.addBytes HC.out HV.out (by simp only [List.length_replicate]; omega) (by omega)).mono ?_
            rintro e w2 ⟨rfl, hA2⟩
            have HA2 := Lib.hid hA2
            have c1 : w2.cell? ⟨H, 1, none⟩ = some (.int .i64 pc1) := (hA2.box0 1).1
            have f1 := (hA2.box0 1).2
            have c2 : w2.cell? ⟨H + 1, 1, none⟩ = some (.int .i64 sgc') := (hA2.box1 1).1
            have f2 := (hA2.box1 1).2
            have hz0 := hA2.sizes.1
            clear hA2 b2 HV
            go_wp2_with fail
            go_meet
            rw [E1.out, E2.out]
            exact ⟨_, (HA2.out.setP HC.out 1 _ _ rfl).setS HC.out 1 _ _ rfl⟩
          · obtain rfl : k = 0 := by omega
            have E1 : Hid (pc2 = pc1) := Lib.hid (by rw [HPC2.out, HPC1.out]; by_cases h : 0 < sl; rw [if_pos (.inl h), if_pos h]; rw [if_neg (by omega), if_neg h])
            have E2 : Hid (sc2 = sgc') := Lib.hid (by rw [HSC2.out, if_neg (by omega)])
            go_wp2_with fail
            go_meet
            rw [E1.out, E2.out]
            refine ⟨M1, ?_⟩
            have := HA1.out.more (n' := 2) (by omega)
            simpa using this
      case rest =>
        obtain ⟨M2, hA2⟩ := hcut
        have HA2 := Lib.hid hA2
        clear hA2 HA1 HPC1 b2
        have b2 : wc.cell? ⟨H + 2, 0, none⟩ = some (.slice (some ⟨Rd, 0, none⟩) dl cd) := HA2.out.box2 0
        have hzc' := HA2.out.sizes.1
        go_wp2_with fail
        refine (HA2.out.decode HC.out HD0.out h0n HDL.out (by omega) List.length_replicate.symm).mono ?_
        rintro e w3 ⟨rfl, hA3⟩
        have HA3 := Lib.hid hA3
        have b3 : w3.cell? ⟨H + 2, 0, none⟩ = some (.slice (some ⟨Rd, 0, none⟩) dl cd) := hA3.box2 0
        have d3 : w3.cell? ⟨Rd, k + (nb n0).length, none⟩ = some (.int .u8 (y1 : Int)) := by rw [← HZ1.out]; exact hA3.data _ x1 HDI.out
        have hz3 := hA3.sizes.1
        clear hA3 HA2 b2 hzc'
        go_upto_if 68 with (go_at_call 52; refine (idx_any y1 _ h144 h159 X1).mono ?_; rintro e w' ⟨rfl, rfl⟩)
        go_wp2_with fail
        refine (HA3.out.decode HC.out HD1.out h1n HDL.out (by omega) (by simp)).mono ?_
        rintro e w4 ⟨rfl, hA4⟩
        have HA4 := Lib.hid hA4
        have b4 : w4.cell? ⟨H + 2, 0, none⟩ = some (.slice (some ⟨Rd, 0, none⟩) dl cd) := hA4.box2 0
        have hz4 := hA4.sizes.1
        clear hA4 HA3 b3 d3 hz3
        go_wp2_with fail
        refine (HA4.out.decode HC.out HD2.out h2n HDL.out (by omega) (by simp [Nat.add_assoc])).mono ?_
        rintro e w5 ⟨rfl, hA5⟩
        have HA5 := Lib.hid hA5
        have b5 : w5.cell? ⟨H + 2, 0, none⟩ = some (.slice (some ⟨Rd, 0, none⟩) dl cd) := hA5.box2 0
        have hz5 := hA5.sizes.1
        clear hA5 HA4 b4 hz4
        go_wp2_with fail
        refine (HA5.out.decode HC.out HD3.out h3n HDL.out (by omega) (by simp [Nat.add_assoc])).mono ?_
        rintro e w6 ⟨rfl, hA6⟩
        have HA6 := Lib.hid hA6
        clear HA5 b5 hz5
        have c1 : w6.cell? ⟨H + 1, 1, none⟩ = some (.int .i64 sc2) := (hA6.box1 1).1
        have c2 : w6.cell? ⟨H + 1, 2, none⟩ = some (.int .i64 ssi) := (hA6.box1 2).1
        have c3 : w6.cell? ⟨H + 1, 3, none⟩ = some (.int .i64 sol) := (hA6.box1 3).1
        have c4 : w6.cell? ⟨H + 1, 4, none⟩ = some (.int .i64 soc) := (hA6.box1 4).1
        have c6 : w6.cell? ⟨H, 6, none⟩ = some (.bool false) := (hA6.box0 6).1
        have f1 := (hA6.box1 1).2
        have f2 := (hA6.box1 2).2
        have f3 := (hA6.box1 3).2
        have f4 := (hA6.box1 4).2
        have f6 := (hA6.box0 6).2
        have hz6 := hA6.sizes.1
        have h7 := ((((HA6.out.setS HC.out 1 (.int .i64 (sc2 + n0)) #[.int .i64 (sl : Int), .int .i64 (sc2 + n0), .int .i64 ssi, .int .i64 sol, .int .i64 soc, .int .i64 son, .bool false] rfl).setS HC.out 2 (.int .i64 (ssi + n1)) #[.int .i64 (sl : Int), .int .i64 (sc2 + n0), .int .i64 (ssi + n1), .int .i64 sol, .int .i64 soc, .int .i64 son, .bool false] rfl).setS HC.out 3 (.int .i64 (sol + n2)) #[.int .i64 (sl : Int), .int .i64 (sc2 + n0), .int .i64 (ssi + n1), .int .i64 (sol + n2), .int .i64 soc, .int .i64 son, .bool false] rfl).setS HC.out 4 (.int .i64 (soc + n3)) #[.int .i64 (sl : Int), .int .i64 (sc2 + n0), .int .i64 (ssi + n1), .int .i64 (sol + n2), .int .i64 (soc + n3), .int .i64 son, .bool false] rfl).setP HC.out 6 (.bool false) #[.int .i64 pgl, .int .i64 pc2, .int .i64 psi, .int .i64 pol, .int .i64 poc, .int .i64 pon, .bool false] rfl
        have H7 := Lib.hid h7
        clear h7 hA6 HA6
        go_upto_region 26 with fail
        clear c1 c2 c3 c4 c6 f1 f2 f3 f4 f6 hz6
        generalize ((((w6.setCell ⟨H + 1, 1, none⟩ (.int .i64 (sc2 + n0))).setCell ⟨H + 1, 2, none⟩ (.int .i64 (ssi + n1))).setCell ⟨H + 1, 3, none⟩ (.int .i64 (sol + n2))).setCell ⟨H + 1, 4, none⟩ (.int .i64 (soc + n3))).setCell ⟨H, 6, none⟩ (.bool false) = V7 at *
        have h7 := H7.out
        have pp0 : V7.cell? ⟨H, 0, none⟩ = some (.int .i64 pgl) := (h7.box0 0).1
        have pp1 : V7.cell? ⟨H, 1, none⟩ = some (.int .i64 pc2) := (h7.box0 1).1
        have pp2 : V7.cell? ⟨H, 2, none⟩ = some (.int .i64 psi) := (h7.box0 2).1
        have pp3 : V7.cell? ⟨H, 3, none⟩ = some (.int .i64 pol) := (h7.box0 3).1
        have pp4 : V7.cell? ⟨H, 4, none⟩ = some (.int .i64 poc) := (h7.box0 4).1
        have pp5 : V7.cell? ⟨H, 5, none⟩ = some (.int .i64 pon) := (h7.box0 5).1
        have pp6 : V7.cell? ⟨H, 6, none⟩ = some (.bool false) := (h7.box0 6).1
        have ss0 : V7.cell? ⟨H + 1, 0, none⟩ = some (.int .i64 (sl : Int)) := (h7.box1 0).1
        have ss1 : V7.cell? ⟨H + 1, 1, none⟩ = some (.int .i64 (sc2 + n0)) := (h7.box1 1).1
        have ss2 : V7.cell? ⟨H + 1, 2, none⟩ = some (.int .i64 (ssi + n1)) := (h7.box1 2).1
        have ss3 : V7.cell? ⟨H + 1, 3, none⟩ = some (.int .i64 (sol + n2)) := (h7.box1 3).1
        have ss4 : V7.cell? ⟨H + 1, 4, none⟩ = some (.int .i64 (soc + n3)) := (h7.box1 4).1
        have ss5 : V7.cell? ⟨H + 1, 5, none⟩ = some (.int .i64 son) := (h7.box1 5).1
        have ss6 : V7.cell? ⟨H + 1, 6, none⟩ = some (.bool false) := (h7.box1 6).1
        obtain ⟨its7, vb7, a1, a2, a3, a4, a5, a6, a7, a8, a9, a10, a11, a12, a13⟩ := h7
        have hblk := a1.blk
        rw [a2] at hblk
        have hT7 := a8
        have hz7 : H + 2 < V7.heap.size := by omega
        have hg7 := a1.blk.lt
        have hBV : B ≤ V7.heap.size := by have := HC.out.BBs; omega
        clear a1 a2 a3 a4 a5 a6 a7 a8 a9 a10 a11 a12 a13
        obtain ⟨LB, hLB⟩ : ∃ LB, LB = lastB (F ++ (List.replicate sl 59 ++ List.replicate k 59)) := ⟨_, rfl⟩
        rw [← hLB] at hblk
        have q3 : V7.cell? ⟨g, 3, none⟩ = some (.int .u8 (LB : Int)) := hblk.cell 3
        have HBLK : Hid (Blk V7.drew g 100 #[vs, vb7, .int .u32 ((F.length + (List.replicate sl 59 ++ List.replicate k 59 : List UInt8).length : Nat) : Int), .int .u8 (LB : Int)]) := Lib.hid hblk.drew
        have HBLA := Lib.hid (hblk.alloc (.cells #[.int .u32 0] 82)).drew
        have HT7 : Hid (B64 B V7.drew) := Lib.hid hT7
        have HT7A : Hid (B64 B (V7.alloc (.cells #[.int .u32 0] 82)).drew) := Lib.hid (hT7.below ((balloc (Below.refl V7.heap.size V7) (.cells #[.int .u32 0] 82)).drew.mono hBV))
        have HLB := Lib.hid hLB
        have YN := Lib.hid (Blk.new V7 82 #[.int .u32 0])
        clear hblk hT7 hLB
        have hpok : St.ok ⟨pgl, pc2, psi, pol, poc, pon⟩ := ⟨⟨p1, p2⟩, hpb2, ⟨p5, p6⟩, ⟨p7, p8⟩, ⟨p9, p10⟩⟩
        have hcok : St.ok ⟨(sl : Int), sc2 + n0, ssi + n1, sol + n2, soc + n3, son⟩ := ⟨by simp only; omega, by simp only; omega, by simp only; omega, by simp only; omega, by simp only; omega⟩
        have HPO := Lib.hid hpok
        have HCO := Lib.hid hcok
        clear hpok hcok
        go_cut [15] (fun s15 wx => RwP V7 (segc LB ⟨pgl, pc2, psi, pol, poc, pon⟩ ⟨(sl : Int), sc2 + n0, ssi + n1, sol + n2, soc + n3, son⟩) s15 wx)
        case first =>
          clear H7 HN HD HDL HDl HPC2 HSC2 HD0 HD1 HD2 HD3 HD4 HD59 HDI HZ1 HKL hq4 hk1 HLB hcd hsl3 p1 p2 p3 p4 p5 p6 p7 p8 p9 p10 s3 s5 s7 s9 s11 s12 hpb1 hpb2 hsb2 h0n h1n h2n h3n h144 h159 X0 X1 l0 l1 l2 l3 hp0 hp1 hk0 hFz hdl3 hRdx its7 HC h059 hRdw hgw HHH
          have ne0 : H ≠ V7.heap.size := by omega
          have ne1 : H + 1 ≠ V7.heap.size := by omega
          have ne2 : g ≠ V7.heap.size := by omega
          have ne1' : V7.heap.size ≠ H + 1 := by omega
          have ne0' : V7.heap.size ≠ H := by omega
          have tt0 : (V7.alloc (.cells #[.int .u32 0] 82)).cell? ⟨H + 1, 0, none⟩ = some (.int .i64 (sl : Int)) := ((balloc (Below.refl V7.heap.size V7) (.cells #[.int .u32 0] 82)).cell (p := ⟨H + 1, 0, none⟩) (by simp only; omega)).trans ss0
          have tt1 : (V7.alloc (.cells #[.int .u32 0] 82)).cell? ⟨H + 1, 1, none⟩ = some (.int .i64 (sc2 + n0)) := ((balloc (Below.refl V7.heap.size V7) (.cells #[.int .u32 0] 82)).cell (p := ⟨H + 1, 1, none⟩) (by simp only; omega)).trans ss1
          have tt2 : (V7.alloc (.cells #[.int .u32 0] 82)).cell? ⟨H + 1, 2, none⟩ = some (.int .i64 (ssi + n1)) := ((balloc (Below.refl V7.heap.size V7) (.cells #[.int .u32 0] 82)).cell (p := ⟨H + 1, 2, none⟩) (by simp only; omega)).trans ss2
          have tt3 : (V7.alloc (.cells #[.int .u32 0] 82)).cell? ⟨H + 1, 3, none⟩ = some (.int .i64 (sol + n2)) := ((balloc (Below.refl V7.heap.size V7) (.cells #[.int .u32 0] 82)).cell (p := ⟨H + 1, 3, none⟩) (by simp only; omega)).trans ss3
          have tt4 : (V7.alloc (.cells #[.int .u32 0] 82)).cell? ⟨H + 1, 4, none⟩ = some (.int .i64 (soc + n3)) := ((balloc (Below.refl V7.heap.size V7) (.cells #[.int .u32 0] 82)).cell (p := ⟨H + 1, 4, none⟩) (by simp only; omega)).trans ss4
          have tt5 : (V7.alloc (.cells #[.int .u32 0] 82)).cell? ⟨H + 1, 5, none⟩ = some (.int .i64 son) := ((balloc (Below.refl V7.heap.size V7) (.cells #[.int .u32 0] 82)).cell (p := ⟨H + 1, 5, none⟩) (by simp only; omega)).trans ss5
          have tt6 : (V7.alloc (.cells #[.int .u32 0] 82)).cell? ⟨H + 1, 6, none⟩ = some (.bool false) := ((balloc (Below.refl V7.heap.size V7) (.cells #[.int .u32 0] 82)).cell (p := ⟨H + 1, 6, none⟩) (by simp only; omega)).trans ss6
          have uu0 : (V7.alloc (.cells #[.int .u32 0] 82)).cell? ⟨H, 0, none⟩ = some (.int .i64 pgl) := ((balloc (Below.refl V7.heap.size V7) (.cells #[.int .u32 0] 82)).cell (p := ⟨H, 0, none⟩) (by simp only; omega)).trans pp0
          have uu1 : (V7.alloc (.cells #[.int .u32 0] 82)).cell? ⟨H, 1, none⟩ = some (.int .i64 pc2) := ((balloc (Below.refl V7.heap.size V7) (.cells #[.int .u32 0] 82)).cell (p := ⟨H, 1, none⟩) (by simp only; omega)).trans pp1
          have uu2 : (V7.alloc (.cells #[.int .u32 0] 82)).cell? ⟨H, 2, none⟩ = some (.int .i64 psi) := ((balloc (Below.refl V7.heap.size V7) (.cells #[.int .u32 0] 82)).cell (p := ⟨H, 2, none⟩) (by simp only; omega)).trans pp2
          have uu3 : (V7.alloc (.cells #[.int .u32 0] 82)).cell? ⟨H, 3, none⟩ = some (.int .i64 pol) := ((balloc (Below.refl V7.heap.size V7) (.cells #[.int .u32 0] 82)).cell (p := ⟨H, 3, none⟩) (by simp only; omega)).trans pp3
          have uu4 : (V7.alloc (.cells #[.int .u32 0] 82)).cell? ⟨H, 4, none⟩ = some (.int .i64 poc) := ((balloc (Below.refl V7.heap.size V7) (.cells #[.int .u32 0] 82)).cell (p := ⟨H, 4, none⟩) (by simp only; omega)).trans pp4
          have uu5 : (V7.alloc (.cells #[.int .u32 0] 82)).cell? ⟨H, 5, none⟩ = some (.int .i64 pon) := ((balloc (Below.refl V7.heap.size V7) (.cells #[.int .u32 0] 82)).cell (p := ⟨H, 5, none⟩) (by simp only; omega)).trans pp5
          have uu6 : (V7.alloc (.cells #[.int .u32 0] 82)).cell? ⟨H, 6, none⟩ = some (.bool false) := ((balloc (Below.refl V7.heap.size V7) (.cells #[.int .u32 0] 82)).cell (p := ⟨H, 6, none⟩) (by simp only; omega)).trans pp6
          have q3a : (V7.alloc (.cells #[.int .u32 0] 82)).cell? ⟨g, 3, none⟩ = some (.int .u8 (LB : Int)) := ((balloc (Below.refl V7.heap.size V7) (.cells #[.int .u32 0] 82)).cell (p := ⟨g, 3, none⟩) hg7).trans q3
          go_region_held3 (fun w' => w'.cell? ⟨H, 0, none⟩ = some (.int .i64 pgl) ∧ w'.cell? ⟨H, 1, none⟩ = some (.int .i64 pc2) ∧ w'.cell? ⟨H, 2, none⟩ = some (.int .i64 psi) ∧ w'.cell? ⟨H, 3, none⟩ = some (.int .i64 pol) ∧ w'.cell? ⟨H, 4, none⟩ = some (.int .i64 poc) ∧ w'.cell? ⟨H, 5, none⟩ = some (.int .i64 pon) ∧ w'.cell? ⟨H, 6, none⟩ = some (.bool false) ∧ w'.cell? ⟨H + 1, 0, none⟩ = some (.int .i64 (sl : Int)) ∧ w'.cell? ⟨H + 1, 1, none⟩ = some (.int .i64 (sc2 + n0)) ∧ w'.cell? ⟨H + 1, 2, none⟩ = some (.int .i64 (ssi + n1)) ∧ w'.cell? ⟨H + 1, 3, none⟩ = some (.int .i64 (sol + n2)) ∧ w'.cell? ⟨H + 1, 4, none⟩ = some (.int .i64 (soc + n3)) ∧ w'.cell? ⟨H + 1, 5, none⟩ = some (.int .i64 son) ∧ w'.cell? ⟨H + 1, 6, none⟩ = some (.bool false) ∧ w'.cell? ⟨g, 3, none⟩ = some (.int .u8 (LB : Int)))
            (first | exact ⟨pp0, pp1, pp2, pp3, pp4, pp5, pp6, ss0, ss1, ss2, ss3, ss4, ss5, ss6, q3⟩ | exact ⟨uu0, uu1, uu2, uu3, uu4, uu5, uu6, tt0, tt1, tt2, tt3, tt4, tt5, tt6, q3a⟩ | exact ⟨(HK.out.cell (p := ⟨H, 0, none⟩) (by simp only; omega)).trans pp0, (HK.out.cell (p := ⟨H, 1, none⟩) (by simp only; omega)).trans pp1, (HK.out.cell (p := ⟨H, 2, none⟩) (by simp only; omega)).trans pp2, (HK.out.cell (p := ⟨H, 3, none⟩) (by simp only; omega)).trans pp3, (HK.out.cell (p := ⟨H, 4, none⟩) (by simp only; omega)).trans pp4, (HK.out.cell (p := ⟨H, 5, none⟩) (by simp only; omega)).trans pp5, (HK.out.cell (p := ⟨H, 6, none⟩) (by simp only; omega)).trans pp6, (HK.out.cell (p := ⟨H + 1, 0, none⟩) (by simp only; omega)).trans ss0, (HK.out.cell (p := ⟨H + 1, 1, none⟩) (by simp only; omega)).trans ss1, (HK.out.cell (p := ⟨H + 1, 2, none⟩) (by simp only; omega)).trans ss2, (HK.out.cell (p := ⟨H + 1, 3, none⟩) (by simp only; omega)).trans ss3, (HK.out.cell (p := ⟨H + 1, 4, none⟩) (by simp only; omega)).trans ss4, (HK.out.cell (p := ⟨H + 1, 5, none⟩) (by simp only; omega)).trans ss5, (HK.out.cell (p := ⟨H + 1, 6, none⟩) (by simp only; omega)).trans ss6, (HK.out.cell (p := ⟨g, 3, none⟩) hg7).trans q3⟩ | exact ⟨((balloc HK.out _).cell (p := ⟨H, 0, none⟩) (by simp only; omega)).trans pp0, ((balloc HK.out _).cell (p := ⟨H, 1, none⟩) (by simp only; omega)).trans pp1, ((balloc HK.out _).cell (p := ⟨H, 2, none⟩) (by simp only; omega)).trans pp2, ((balloc HK.out _).cell (p := ⟨H, 3, none⟩) (by simp only; omega)).trans pp3, ((balloc HK.out _).cell (p := ⟨H, 4, none⟩) (by simp only; omega)).trans pp4, ((balloc HK.out _).cell (p := ⟨H, 5, none⟩) (by simp only; omega)).trans pp5, ((balloc HK.out _).cell (p := ⟨H, 6, none⟩) (by simp only; omega)).trans pp6, ((balloc HK.out _).cell (p := ⟨H + 1, 0, none⟩) (by simp only; omega)).trans ss0, ((balloc HK.out _).cell (p := ⟨H + 1, 1, none⟩) (by simp only; omega)).trans ss1, ((balloc HK.out _).cell (p := ⟨H + 1, 2, none⟩) (by simp only; omega)).trans ss2, ((balloc HK.out _).cell (p := ⟨H + 1, 3, none⟩) (by simp only; omega)).trans ss3, ((balloc HK.out _).cell (p := ⟨H + 1, 4, none⟩) (by simp only; omega)).trans ss4, ((balloc HK.out _).cell (p := ⟨H + 1, 5, none⟩) (by simp only; omega)).trans ss5, ((balloc HK.out _).cell (p := ⟨H + 1, 6, none⟩) (by simp only; omega)).trans ss6, ((balloc HK.out _).cell (p := ⟨g, 3, none⟩) hg7).trans q3⟩ | exact ⟨((HK.out.setCell (p := ⟨V7.heap.size, 0, none⟩) (Nat.le_refl _) _).cell (p := ⟨H, 0, none⟩) (by simp only; omega)).trans pp0, ((HK.out.setCell (p := ⟨V7.heap.size, 0, none⟩) (Nat.le_refl _) _).cell (p := ⟨H, 1, none⟩) (by simp only; omega)).trans pp1, ((HK.out.setCell (p := ⟨V7.heap.size, 0, none⟩) (Nat.le_refl _) _).cell (p := ⟨H, 2, none⟩) (by simp only; omega)).trans pp2, ((HK.out.setCell (p := ⟨V7.heap.size, 0, none⟩) (Nat.le_refl _) _).cell (p := ⟨H, 3, none⟩) (by simp only; omega)).trans pp3, ((HK.out.setCell (p := ⟨V7.heap.size, 0, none⟩) (Nat.le_refl _) _).cell (p := ⟨H, 4, none⟩) (by simp only; omega)).trans pp4, ((HK.out.setCell (p := ⟨V7.heap.size, 0, none⟩) (Nat.le_refl _) _).cell (p := ⟨H, 5, none⟩) (by simp only; omega)).trans pp5, ((HK.out.setCell (p := ⟨V7.heap.size, 0, none⟩) (Nat.le_refl _) _).cell (p := ⟨H, 6, none⟩) (by simp only; omega)).trans pp6, ((HK.out.setCell (p := ⟨V7.heap.size, 0, none⟩) (Nat.le_refl _) _).cell (p := ⟨H + 1, 0, none⟩) (by simp only; omega)).trans ss0, ((HK.out.setCell (p := ⟨V7.heap.size, 0, none⟩) (Nat.le_refl _) _).cell (p := ⟨H + 1, 1, none⟩) (by simp only; omega)).trans ss1, ((HK.out.setCell (p := ⟨V7.heap.size, 0, none⟩) (Nat.le_refl _) _).cell (p := ⟨H + 1, 2, none⟩) (by simp only; omega)).trans ss2, ((HK.out.setCell (p := ⟨V7.heap.size, 0, none⟩) (Nat.le_refl _) _).cell (p := ⟨H + 1, 3, none⟩) (by simp only; omega)).trans ss3, ((HK.out.setCell (p := ⟨V7.heap.size, 0, none⟩) (Nat.le_refl _) _).cell (p := ⟨H + 1, 4, none⟩) (by simp only; omega)).trans ss4, ((HK.out.setCell (p := ⟨V7.heap.size, 0, none⟩) (Nat.le_refl _) _).cell (p := ⟨H + 1, 5, none⟩) (by simp only; omega)).trans ss5, ((HK.out.setCell (p := ⟨V7.heap.size, 0, none⟩) (Nat.le_refl _) _).cell (p := ⟨H + 1, 6, none⟩) (by simp only; omega)).trans ss6, ((HK.out.setCell (p := ⟨V7.heap.size, 0, none⟩) (Nat.le_refl _) _).cell (p := ⟨g, 3, none⟩) hg7).trans q3⟩)
            (first
              | (go_at_call 54; refine (lastByteC_any g LB _ (by first | exact q3 | exact q3a)).mono ?_; rintro e w' ⟨rfl, rfl⟩)
              | (go_at_call 53; refine (mapping_any (.slice none 0 0) 0 [] LB ⟨pgl, pc2, psi, pol, poc, pon⟩ ⟨(sl : Int), sc2 + n0, ssi + n1, sol + n2, soc + n3, son⟩ B V7.heap.size _ (by first | exact HT7.out | exact HT7A.out) (World.ownsRow_nil _ _ _ _) (by simp) hBV (by omega) HPO.out HCO.out).mono ?_; rintro e w8 ⟨v8, rfl, ha⟩; obtain ⟨A8, c8, rfl, _⟩ := own_form ha.1; rw [Nat.zero_add] at ha; (first | (have s3 : w8.cell? ⟨V7.heap.size, 0, none⟩ = some (.int .u32 0) := (Blk.kep (w := (V7.alloc (.cells #[.int .u32 0] 82)).drew) YN.out ha.2.1 (fun e => by simp [Value.ownBlock] at e)).cell 0; have s4 := (Blk.kep (w := (V7.alloc (.cells #[.int .u32 0] 82)).drew) YN.out ha.2.1 (fun e => by simp [Value.ownBlock] at e)).frozen 0) | skip); have HK : Hid (Below V7.heap.size V7 w8) := Lib.hid (by first | exact (Below.refl V7.heap.size V7).drew.trans (ha.2.1.below (B := V7.heap.size) (Nat.le_refl V7.heap.size) (fun k _ e => by simp [Value.ownBlock] at e)) | exact (balloc (Below.refl V7.heap.size V7) _).drew.trans (ha.2.1.below (by show V7.heap.size ≤ (V7.alloc _).heap.size; simp) (fun k _ e => by simp [Value.ownBlock] at e))); have HA := Lib.hid ha; clear ha))
          all_goals go_wp2_with fail
          all_goals go_meet
          all_goals first | (with_reducible exact rwp_A HA.out _) | (with_reducible exact rwp_B HA.out _)
        case rest =>
          obtain ⟨hr1, hr2⟩ := hcut
          have hA8 := H7.out.below HC.out hr2
          have hsg : segc LB ⟨pgl, pc2, psi, pol, poc, pon⟩ ⟨(sl : Int), sc2 + n0, ssi + n1, sol + n2, soc + n3, son⟩ = bc (segb LB ⟨pgl, pc2, psi, pol, poc, pon⟩ ⟨(sl : Int), sc2 + n0, ssi + n1, sol + n2, soc + n3, son⟩) := (bc_segb _ _ _).symm
          have hsgl := segc_len LB ⟨pgl, pc2, psi, pol, poc, pon⟩ ⟨(sl : Int), sc2 + n0, ssi + n1, sol + n2, soc + n3, son⟩
          obtain ⟨SB, hSB⟩ : ∃ SB, SB = segb LB ⟨pgl, pc2, psi, pol, poc, pon⟩ ⟨(sl : Int), sc2 + n0, ssi + n1, sol + n2, soc + n3, son⟩ := ⟨_, rfl⟩
          rw [← hSB] at hsg
          rw [hsg] at hr1 hsgl
          rw [bc_len] at hr1 hsgl
          have HSB := Lib.hid hSB
          obtain ⟨A8, c8, rfl, hA8'⟩ := own_form hr1
          have hM7 := H7.out.sizes
          have hv : RdV g H M2 vs wc (.slice A8 SB.length c8) SB := ⟨A8, c8, rfl, fun h0 => by
            obtain ⟨k8, e8, h8⟩ := hA8' h0
            subst e8
            have hk8 : V7.heap.size ≤ k8 ∧ k8 < wc.heap.size := own_lt hr1 rfl
            exact ⟨k8, 0, rfl, .inr ⟨by omega, by omega⟩, hk8.2, fun j u hj => by rw [Nat.zero_add]; exact h8 j u hj⟩⟩
          have HA8 := Lib.hid hA8
          have HV := Lib.hid hv
          clear hr1 hr2 hA8 hsg hA8' hv hSB hM7 H7 HBLK HBLA HT7 HT7A YN HPO HCO q3 pp0 pp1 pp2 pp3 pp4 pp5 pp6 ss0 ss1 ss2 ss3 ss4 ss5 ss6 its7
          obtain ⟨i4, hi4⟩ : ∃ i4, i4 = k + (nb n0).length + (nb n1).length + (nb n2).length + (nb n3).length := ⟨_, rfl⟩
          rw [show ((k : Int) + ((nb n0).length : Int) + ((nb n1).length : Int) + ((nb n2).length : Int) + ((nb n3).length : Int)) = (i4 : Int) by omega]
          have hD5 : Hid (D = (List.replicate k 59 ++ nb n0 ++ nb n1 ++ nb n2 ++ nb n3) ++ Q ∧ (List.replicate k 59 ++ nb n0 ++ nb n1 ++ nb n2 ++ nb n3).length = i4) := Lib.hid ⟨HD4.out, by rw [hi4]; simp only [List.length_append, List.length_replicate]⟩
          obtain ⟨PR, hPR⟩ : ∃ PR, PR = List.replicate k 59 ++ nb n0 ++ nb n1 ++ nb n2 ++ nb n3 := ⟨_, rfl⟩
          rw [← hPR] at hD5
          have hQl : i4 + Q.length = dl := by have := HKL.out; omega
          have hNM : NameAt Q Q' i4 fb (son - pon) := by
            have h := HN.out
            have e : k + (nums [n0, n1, n2, n3]).length = i4 := by rw [hi4]; simp [nums]; omega
            rw [e] at h
            exact h
          have HQL := Lib.hid hQl
          have hi4d : i4 ≤ dl := by omega
          have hki : k ≤ i4 := by omega
          have HNM := Lib.hid hNM
          clear hPR hQl hNM HN hi4 HD0 HD1 HD2 HD3 HD4 HKL hq4 hk1 HD59 HDI HZ1
          have hkdl : k ≤ dl := by omega
          go_wp2_with fail
          refine (HA8.out.addBytes HC.out HV.out (by simp only [List.length_append, List.length_replicate]; omega) (by omega)).mono ?_
          rintro e w9 ⟨rfl, hA9⟩
          have HA9 := Lib.hid hA9
          have hz9 := hA9.sizes.1
          have b9 : w9.cell? ⟨H + 2, 0, none⟩ = some (.slice (some ⟨Rd, 0, none⟩) dl cd) := hA9.box2 0
          have b9' : w9.cell? ⟨H + 2, 1, none⟩ = some (.int .u32 fb) := hA9.box2 1
          have HPOST : Hid (∀ (wx : World) (M n : Nat) (pcx scx bxx : Array Value), n ≤ 100 → AS g Bs H M B F vs Rd D pcx scx bxx w (List.replicate sl 59 ++ List.replicate k 59 ++ SB ++ Q') n wx → APost w.heap.size g Bs F vs (List.replicate sl 59 ++ List.replicate k 59 ++ segb (lastB (F ++ (List.replicate sl 59 ++ List.replicate k 59))) (pOf ⟨pgl, pgc, psi, pol, poc, pon⟩ k sl) (sOf ⟨(sl : Int), sgc', ssi, sol, soc, son⟩ k n0 n1 n2 n3) ++ Q') w wx) := Lib.hid (by
            intro wx M n pcx scx bxx hn hA
            rw [← HHH.out]
            obtain ⟨its, vb, a1, a2, a3, _, _, _, _, _, a9, _⟩ := hA
            refine ⟨its, vb, a1, ?_, by omega, a9⟩
            have e1 : pOf ⟨pgl, pgc, psi, pol, poc, pon⟩ k sl = ⟨pgl, pc2, psi, pol, poc, pon⟩ := by unfold pOf; rw [HPC2.out]
            have e2 : sOf ⟨(sl : Int), sgc', ssi, sol, soc, son⟩ k n0 n1 n2 n3 = ⟨(sl : Int), sc2 + n0, ssi + n1, sol + n2, soc + n3, son⟩ := by unfold sOf; rw [HSC2.out]
            rw [a2, HSB.out, e1, e2, HLB.out])
          clear hA9 HA8 HV HSB HPC2 HSC2 HLB
          rcases HNM.out with ⟨rfl, rfl⟩ | ⟨A, x, Bt, hQ1, hQ2, hfb, hx1, hx2⟩
          · go_wp2_with fail
            refine (valid_no _).mono ?_
            rintro e w10 ⟨rfl, hb10⟩
            have HA10 := Lib.hid (HA9.out.below HC.out hb10)
            have hv2 : ∀ A5, (0 < Q'.length → A5 = some ⟨Rd, i4, none⟩) → ∀ c5, RdV g H w9.heap.size vs w10 (.slice A5 (dl - i4) c5) Q' := fun A5 h5 c5 => by
              have := HA10.out.piece HC.out i4 Q' A5 c5 h5 (fun j hj => by
                rw [hD5.out.1, List.getElem?_append_right (by rw [hD5.out.2]; omega), hD5.out.2, Nat.add_sub_cancel_left])
              rwa [show Q'.length = dl - i4 by have := HQL.out; omega] at this
            have hqs : F.length + (List.replicate sl (59 : UInt8) ++ List.replicate k 59 ++ SB).length + Q'.length ≤ 4000000000 := by
              have := HQL.out
              simp only [List.length_append, List.length_replicate]
              omega
            have HQS := Lib.hid hqs
            have HV2 := Lib.hid hv2
            have b10 : w10.cell? ⟨H + 2, 0, none⟩ = some (.slice (some ⟨Rd, 0, none⟩) dl cd) := HA10.out.box2 0
            have hz10 := HA10.out.sizes.1
            clear hv2 hb10 HA9 b9 b9' hqs hz9
            rcases Nat.lt_or_ge i4 cd with hcap | hcap
            · have hne : ¬ cd = i4 := by omega
              go_wp2_with fail
              refine (HA10.out.addBytes HC.out (HV2.out _ (fun _ => rfl) _) HQS.out (by omega)).mono ?_
              rintro e w11 ⟨rfl, hA11⟩
              have HA11 := Lib.hid hA11
              clear hA11 b10
              go_wp2_with fail
              go_end0
              exact ⟨rfl, HPOST.out _ _ _ _ _ _ (by omega) HA11.out⟩
            · obtain rfl : dl = i4 := by omega
              obtain rfl : cd = dl := by omega
              have hQ0 : Q'.length = 0 := by have := HQL.out; omega
              have HQ0 := Lib.hid hQ0
              clear hQ0
              go_wp2_with fail
              refine (HA10.out.addBytes HC.out (rdv_nil HQ0.out) HQS.out (by omega)).mono ?_
              rintro e w11 ⟨rfl, hA11⟩
              have HA11 := Lib.hid hA11
              clear hA11 b10
              go_wp2_with fail
              go_end0
              exact ⟨rfl, HPOST.out _ _ _ _ _ _ (by omega) HA11.out⟩
          · obtain ⟨bf, hbf⟩ : ∃ bf, bf = i4 + A.length := ⟨_, rfl⟩
            rw [← hbf] at hfb
            have HFB := Lib.hid hfb
            rw [hfb] at b9'
            clear hfb
            have hbx := nb_pos' x
            have hbx2 := nb_short x
            obtain ⟨af, haf⟩ : ∃ af, af = bf + (nb x).length := ⟨_, rfl⟩
            have hQs := HQL.out
            rw [hQ1] at hQs
            simp only [List.length_append] at hQs
            have hafd : af + Bt.length = dl := by omega
            have hi4b : i4 ≤ bf := by omega
            have hbfd : bf ≤ dl := by omega
            have hafl : af ≤ dl := by omega
            have hDn : D = (PR ++ A) ++ nb x ++ Bt := by rw [hD5.out.1, hQ1]; simp [List.append_assoc]
            have hDl : bf = (PR ++ A).length := by rw [List.length_append, hD5.out.2]; exact hbf
            have HDn := Lib.hid hDn
            have HDl := Lib.hid hDl
            have HQ2 := Lib.hid hQ2
            have HBF := Lib.hid hbf
            have HAF := Lib.hid haf
            have HAFD := Lib.hid hafd
            have HQs := Lib.hid hQs
            have HQ1 := Lib.hid hQ1
            have hAl : A.length ≤ dl := by omega
            have hsum : k + A.length + Bt.length ≤ dl := by omega
            have hBl : Bt.length ≤ dl := by omega
            clear hbf hDn hDl hQ1 hQ2 hafd hQs
            go_wp2_with fail
            refine (valid_yes (bf : Int) _ (by omega)).mono ?_
            rintro e w10 ⟨rfl, hb10⟩
            have HA10 := Lib.hid (HA9.out.below HC.out hb10)
            have b10' : w10.cell? ⟨H + 2, 1, none⟩ = some (.int .u32 (4294967295 - (bf : Int))) := by
              have := HA10.out.box2 1
              rw [HFB.out] at this
              exact this
            have hz10 := HA10.out.sizes.1
            clear hb10 HA9 b9 b9' hz9
            go_wp2_with fail
            refine (index_get bf _ (by omega)).mono ?_
            rintro e w11 ⟨rfl, hb11⟩
            have HA11 := Lib.hid (HA10.out.below HC.out hb11)
            have b11 : w11.cell? ⟨H + 2, 0, none⟩ = some (.slice (some ⟨Rd, 0, none⟩) dl cd) := HA11.out.box2 0
            have hz11 := HA11.out.sizes.1
            clear hb11 HA10 b10' hz10
            go_wp2_with fail
            refine (HA11.out.decode HC.out HDn.out hx1 HDL.out (by omega) HDl.out).mono ?_
            rintro e w12 ⟨rfl, hA12⟩
            rw [← haf]
            have HA12 := Lib.hid hA12
            have b12 : w12.cell? ⟨H + 2, 0, none⟩ = some (.slice (some ⟨Rd, 0, none⟩) dl cd) := HA12.out.box2 0
            have d12 : w12.cell? ⟨H + 1, 5, none⟩ = some (.int .i64 son) := (HA12.out.box1 5).1
            have d13 : w12.cell? ⟨H, 5, none⟩ = some (.int .i64 pon) := (HA12.out.box0 5).1
            have hz12 := HA12.out.sizes.1
            have hv2 : RdV g H w9.heap.size vs w12 (.slice (some ⟨Rd, i4, none⟩) (bf - i4) (cd - i4)) A := by
              have := HA12.out.piece HC.out i4 A (some ⟨Rd, i4, none⟩) (cd - i4) (fun _ => rfl) (fun j hj => by
                rw [hD5.out.1, List.getElem?_append_right (by rw [hD5.out.2]; omega), hD5.out.2, Nat.add_sub_cancel_left, HQ1.out, List.append_assoc, List.getElem?_append_left hj])
              rwa [show A.length = bf - i4 by have := HBF.out; omega] at this
            have HV2 := Lib.hid hv2
            have hne : ¬ cd = i4 := by have := HAFD.out; omega
            clear hA12 HA11 b11 hz11 hv2 haf
            go_wp2_with fail
            refine (HA12.out.addBytes HC.out HV2.out (by simp only [List.length_append, List.length_replicate]; omega) (by omega)).mono ?_
            rintro e w13 ⟨rfl, hA13⟩
            have HA13 := Lib.hid hA13
            have hT13 : Hid (B64 B w13) := Lib.hid (by obtain ⟨_, _, _, _, _, _, _, _, _, h, _⟩ := hA13; exact h)
            have hz13 := hA13.sizes.1
            have hBz : B ≤ w13.heap.size := by have := HC.out.BBs; have := HC.out.gB; have := HC.out.BsH; omega
            clear hA13 HA12 b12 d12 d13 hz12 HV2
            go_wp2_with fail
            refine (encode_any (.slice none 0 0) 0 [] (x + (son - pon)) B w13.heap.size w13 hT13.out (World.ownsRow_nil _ _ _ _) (Nat.le_refl _) hBz (by omega) (by omega) (by omega)).mono ?_
            rintro e w14 ⟨v14, rfl, ha14⟩
            have hA14 := HA13.out.below HC.out (ha14.2.1.below (Nat.le_refl _) (fun k _ e => by simp [Value.ownBlock] at e))
            have hr14 := ha14.1
            have hcx : sgc (nd (x + (son - pon))) = bc (nb (x + (son - pon))) := by
              unfold sgc bc nb
              rw [List.map_map]
              apply List.map_congr_left
              intro d hd
              have h1 := nd_lt _ d hd
              have h2 := sg_lt d h1
              simp
              omega
            rw [hcx, List.nil_append, Nat.zero_add, bc_len] at hr14
            obtain ⟨A14, c14, rfl, hA14'⟩ := own_form hr14
            have hv3 : RdV g H w13.heap.size vs w14 (.slice A14 (nb (x + (son - pon))).length c14) (nb (x + (son - pon))) := ⟨A14, c14, rfl, fun h0 => by
              obtain ⟨k8, e8, h8⟩ := hA14' h0
              subst e8
              have hk8 : w13.heap.size ≤ k8 ∧ k8 < w14.heap.size := own_lt hr14 rfl
              exact ⟨k8, 0, rfl, .inr ⟨by omega, by omega⟩, hk8.2, fun j u hj => by rw [Nat.zero_add]; exact h8 j u hj⟩⟩
            have HA14 := Lib.hid hA14
            have HV3 := Lib.hid hv3
            have hnx := nb_short (x + (son - pon))
            clear ha14 hr14 hcx hA14' hv3 hA14 HA13 hT13 hBz
            go_wp2_with fail
            refine (HA14.out.addBytes HC.out HV3.out (by simp only [List.length_append, List.length_replicate]; omega) (by omega)).mono ?_
            rintro e w15 ⟨rfl, hA15⟩
            have HA15 := Lib.hid hA15
            have b15 : w15.cell? ⟨H + 2, 0, none⟩ = some (.slice (some ⟨Rd, 0, none⟩) dl cd) := HA15.out.box2 0
            have hz15 := HA15.out.sizes.1
            have hv4 : ∀ A5, (0 < Bt.length → A5 = some ⟨Rd, af, none⟩) → ∀ c5, RdV g H w15.heap.size vs w15 (.slice A5 (dl - af) c5) Bt := fun A5 h5 c5 => by
              have := HA15.out.piece HC.out af Bt A5 c5 h5 (fun j hj => by
                have hal : af = ((PR ++ A) ++ nb x).length := by rw [List.length_append, ← HDl.out]; exact HAF.out
                rw [HDn.out, List.getElem?_append_right (by rw [← hal]; omega), ← hal, Nat.add_sub_cancel_left])
              rwa [show Bt.length = dl - af by have := HAFD.out; omega] at this
            have HV4 := Lib.hid hv4
            have hqs : F.length + (List.replicate sl (59 : UInt8) ++ List.replicate k 59 ++ SB ++ A ++ nb (x + (son - pon))).length + Bt.length ≤ 4000000000 := by
              simp only [List.length_append, List.length_replicate]
              omega
            have HQS := Lib.hid hqs
            have HEND : Hid (List.replicate sl (59 : UInt8) ++ List.replicate k 59 ++ SB ++ A ++ nb (x + (son - pon)) ++ Bt = List.replicate sl (59 : UInt8) ++ List.replicate k 59 ++ SB ++ Q') := Lib.hid (by rw [HQ2.out]; simp [List.append_assoc])
            clear hA15 HA14 HV3 hv4 hqs hz13 hne
            rcases Nat.lt_or_ge af cd with hcap | hcap
            · have hne : ¬ cd = af := by omega
              go_wp2_with fail
              refine (HA15.out.addBytes HC.out (HV4.out _ (fun _ => rfl) _) HQS.out (by omega)).mono ?_
              rintro e w16 ⟨rfl, hA16⟩
              rw [HEND.out] at hA16
              have HA16 := Lib.hid hA16
              clear hA16 b15
              go_wp2_with fail
              refine bodyPost_ret (results_none rfl _ _ _) rfl ?_
              exact ⟨rfl, HPOST.out _ _ _ _ _ _ (by omega) HA16.out⟩
            · obtain rfl : dl = af := by omega
              obtain rfl : cd = dl := by omega
              have hQ0 : Bt.length = 0 := by have := HAFD.out; omega
              have HQ0 := Lib.hid hQ0
              clear hQ0
              go_wp2_with fail
              refine (HA15.out.addBytes HC.out (rdv_nil HQ0.out) HQS.out (by omega)).mono ?_
              rintro e w16 ⟨rfl, hA16⟩
              rw [HEND.out] at hA16
              have HA16 := Lib.hid hA16
              clear hA16 b15
              go_wp2_with fail
              refine bodyPost_ret (results_none rfl _ _ _) rfl ?_
              exact ⟨rfl, HPOST.out _ _ _ _ _ _ (by omega) HA16.out⟩
end Go.Proofs.YtnokiikgnplpmaaDoor

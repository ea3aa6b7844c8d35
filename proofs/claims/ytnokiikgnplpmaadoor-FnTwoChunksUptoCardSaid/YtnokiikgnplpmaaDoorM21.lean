/-
  The contract of impl.Join: mappings appended to a text. Conditions: as append_any's.
  Mappings appended to mappings: the bytes are those of tokens: plain. Conditions: as each lemma says.
  impl.Join at tokens: what is read of mappings appended to others. Conditions: the numbers are from 0 to 2^32, at most three lines between, at most 3000000000 bytes in all.
-/
import Derived.Test.YtnokiikgnplpmaaDoorM20
import Derived.Test.YtnokiikgnplpmaaDoorM19
import Derived.Test.YtnokiikgnplpmaaDoorM15
import Derived.Lib.ConvBytes
namespace Go.Proofs.YtnokiikgnplpmaaDoor
open Go.RowKit

set_option maxHeartbeats 8000000 in
set_option maxRecDepth 100000 in
theorem join_any (F D Q Q' : List UInt8) (P S : St) (sl k : Nat) (n0 n1 n2 n3 first : Int) (B : Nat) (w : World) (hT : B64 B w) (hB : B ≤ w.heap.size)
    (hD : D = List.replicate k 59 ++ (nums [n0, n1, n2, n3] ++ Q)) (hn : ∀ n ∈ [n0, n1, n2, n3], -17179869184 < n ∧ n < 17179869184) (hP : P.ok) (hS : S.ok)
    (hSs : (-34359738368 < S.gc ∧ S.gc < 34359738368) ∧ (-34359738368 < S.si ∧ S.si < 34359738368) ∧ (-34359738368 < S.ol ∧ S.ol < 34359738368) ∧ (-34359738368 < S.oc ∧ S.oc < 34359738368) ∧ (-34359738368 < S.on ∧ S.on < 34359738368) ∧ (-34359738368 < P.on ∧ P.on < 34359738368))
    (hsl : S.gl = (sl : Int)) (hsl3 : sl ≤ 3) (hf : first = -1 ∨ 0 ≤ first ∧ first < 4000000000) (hname : NameAt Q Q' (k + (nums [n0, n1, n2, n3]).length) (if first < 0 then 0 else 4294967295 - first) (S.on - P.on)) (hsz : F.length + D.length ≤ 3000000000) :
    Calls Tryd.prog 20 #[.string (strB F), .agg #[.int .i64 P.gl, .int .i64 P.gc, .int .i64 P.si, .int .i64 P.ol, .int .i64 P.oc, .int .i64 P.on], .agg #[.int .i64 S.gl, .int .i64 S.gc, .int .i64 S.si, .int .i64 S.ol, .int .i64 S.oc, .int .i64 S.on], .string (strB D), .int .i64 first] w fun e w' =>
      e = .returned (.string (strB (F ++ (List.replicate sl 59 ++ List.replicate k 59 ++ segb (lastB (F ++ (List.replicate sl 59 ++ List.replicate k 59))) (pOf P k sl) (sOf S k n0 n1 n2 n3) ++ Q')))) ∧ Below w.heap.size w w' := by
  obtain ⟨fb, hfb⟩ : ∃ fb : Int, fb = if first < 0 then 0 else 4294967295 - first := ⟨_, rfl⟩
  rw [← hfb] at hname
  obtain ⟨OUT, hOUT⟩ : ∃ OUT, OUT = List.replicate sl 59 ++ List.replicate k 59 ++ segb (lastB (F ++ (List.replicate sl 59 ++ List.replicate k 59))) (pOf P k sl) (sOf S k n0 n1 n2 n3) ++ Q' := ⟨_, rfl⟩
  rw [← hOUT]
  -- what AppendSourceMapChunk does
  have happ : ∀ (g Bs : Nat) (vs : Value) (Rd cd : Nat) (W : World) (_ : Jn (fun i => W.heap.size ≤ i ∧ i ≤ W.heap.size + 2) Bs g F [] vs (.slice none 0 0) W) (_ : AC g Bs W.heap.size B Rd vs W) (_ : B64 B W)
      (_ : ∀ (j : Nat) (u : Value), (bc D)[j]? = some u → W.cell? ⟨Rd, j, none⟩ = some u) (_ : D.length ≤ cd),
      Calls Tryd.prog 38 #[.pointer (some ⟨g, 0, none⟩), .agg P.cells, .agg S.cells, .agg #[.slice (some ⟨Rd, 0, none⟩) D.length cd, .int .u32 fb]] W fun e w' => e = .returned (.tuple #[]) ∧ APost W.heap.size g Bs F vs OUT W w' := by
    intro g Bs vs Rd cd W a1 a2 a3 a4 a5
    rw [hOUT]
    exact append_any g Bs B F vs Rd cd D Q Q' P S sl k n0 n1 n2 n3 fb W a1 a2 a3 hD a4 hn hP hS hSs hsl hsl3 a5 hname hsz
  have hOl : F.length + OUT.length ≤ 3000000100 := by
    have hq : Q'.length ≤ Q.length + 13 := by
      rcases hname with ⟨_, e⟩ | ⟨A, x, Bt, e1, e2, _⟩
      · rw [e]; omega
      · have := nb_short (x + (S.on - P.on))
        rw [e1, e2]
        simp only [List.length_append]
        omega
    have hs := segb_len (lastB (F ++ (List.replicate sl 59 ++ List.replicate k 59))) (pOf P k sl) (sOf S k n0 n1 n2 n3)
    rw [hD] at hsz
    rw [hOUT]
    simp only [List.length_append, List.length_replicate] at hsz hs ⊢
    omega
  obtain ⟨pgl, pgc, psi, pol, poc, pon⟩ := P
  obtain ⟨sgl, sgc', ssi, sol, soc, son⟩ := S
  have HAPP := Lib.hid happ
  have hFD : F.length ≤ 3000000000 ∧ D.length ≤ 3000000000 := by omega
  have HT := Lib.hid hT
  have HFB := Lib.hid hfb
  clear hD hn hP hS hSs hsl hname hOUT happ hT hfb
  simp only [St.cells] at HAPP
  obtain ⟨FS, hFS⟩ : ∃ FS, FS = strB F := ⟨_, rfl⟩
  obtain ⟨DS, hDS⟩ : ∃ DS, DS = strB D := ⟨_, rfl⟩
  have HFS := Lib.hid hFS
  have HDS := Lib.hid hDS
  simp only [← hFS, ← hDS]
  clear hFS hDS
  have K1 := Lib.hid (balloc (balloc (balloc (Below.refl w.heap.size w) (.cells #[.int .i64 pgl, .int .i64 pgc, .int .i64 psi, .int .i64 pol, .int .i64 poc, .int .i64 pon] 30)) (.cells #[.int .i64 sgl, .int .i64 sgc', .int .i64 ssi, .int .i64 sol, .int .i64 soc, .int .i64 son] 30)) (.cells #[.slice none 0 0, .slice none 0 0, .int .u32 0, .int .u8 0] 100))
  have X0 := Lib.hid (((Blk.new w 30 #[.int .i64 pgl, .int .i64 pgc, .int .i64 psi, .int .i64 pol, .int .i64 poc, .int .i64 pon]).alloc (.cells #[.int .i64 sgl, .int .i64 sgc', .int .i64 ssi, .int .i64 sol, .int .i64 soc, .int .i64 son] 30)).alloc (.cells #[.slice none 0 0, .slice none 0 0, .int .u32 0, .int .u8 0] 100))
  have X1 := Lib.hid ((spl_new2 w (.cells #[.int .i64 pgl, .int .i64 pgc, .int .i64 psi, .int .i64 pol, .int .i64 poc, .int .i64 pon] 30) 30 #[.int .i64 sgl, .int .i64 sgc', .int .i64 ssi, .int .i64 sol, .int .i64 soc, .int .i64 son]).alloc (.cells #[.slice none 0 0, .slice none 0 0, .int .u32 0, .int .u8 0] 100))
  have X2 := Lib.hid (spl_new2 (w.alloc (.cells #[.int .i64 pgl, .int .i64 pgc, .int .i64 psi, .int .i64 pol, .int .i64 poc, .int .i64 pon] 30)) (.cells #[.int .i64 sgl, .int .i64 sgc', .int .i64 ssi, .int .i64 sol, .int .i64 soc, .int .i64 son] 30) 100 #[.slice none 0 0, .slice none 0 0, .int .u32 0, .int .u8 0])
  go_enter Tryd.func20, Tryd.ntmps20
  go_wp2_with fail
  generalize ((w.alloc (.cells #[.int .i64 pgl, .int .i64 pgc, .int .i64 psi, .int .i64 pol, .int .i64 poc, .int .i64 pon] 30)).alloc (.cells #[.int .i64 sgl, .int .i64 sgc', .int .i64 ssi, .int .i64 sol, .int .i64 soc, .int .i64 son] 30)).alloc (.cells #[.slice none 0 0, .slice none 0 0, .int .u32 0, .int .u8 0] 100) = V at *
  rw [show (w.alloc (.cells #[.int .i64 pgl, .int .i64 pgc, .int .i64 psi, .int .i64 pol, .int .i64 poc, .int .i64 pon] 30)).heap.size + 1 = w.heap.size + 2 by simp] at X2
  rw [show w.heap.size + 1 + 1 = w.heap.size + 2 from rfl]
  have hadd := addString_any (w.heap.size + 2) F V X2.out (by omega)
  rw [← HFS.out] at hadd
  refine hadd.mono ?_
  rintro e w1 ⟨rfl, k0, c0, j1, j2, j3⟩
  rw [HFS.out] at j2
  have hzV : w.heap.size + 3 ≤ V.heap.size := by have := X2.out.lt; omega
  have Y0 := Lib.hid (X0.out.kep j3 (by omega))
  have Y1 := Lib.hid (X1.out.kep j3 (by omega))
  have K2 := Lib.hid (K1.out.trans (j3.below (B := w.heap.size) (by have := K1.out.size; omega) (fun k _ e => by omega)))
  have hz1 := j3.size
  have J1 := Lib.hid j1
  have J2 := Lib.hid j2
  have hk0 : V.heap.size ≤ k0 ∧ k0 < w1.heap.size := own_lt j2 rfl
  clear hadd j1 j2 j3 X0 X1 X2 K1
  go_wp2_with fail
  rw [Lib.run_convert_string_bytes w1 9 72 5 DS Tryd.underlying9 Tryd.underlying72 Tryd.underlying5]
  simp only [Result.andThen]
  rw [Oper.upon_value]
  have hbel : Below w1.heap.size w1 (Lib.bytesWorld w1 5 DS) := ⟨rfl, rfl, rfl, by rw [Lib.bytesWorld_size]; omega, fun k hk => Lib.bytesWorld_at_old w1 _ DS k hk⟩
  have hsz2 : (Lib.bytesWorld w1 5 DS).heap.size = w1.heap.size + 1 := Lib.bytesWorld_size _ _ _
  have hDsz : DS.size = D.length := by rw [HDS.out, strB_size]
  have hcl : Hid (∀ (j : Nat) (u : Value), (bc D)[j]? = some u → (Lib.bytesWorld w1 5 DS).cell? ⟨w1.heap.size, j, none⟩ = some u) := Lib.hid (fun j u hj => by
    have hj' : j < D.length := by
      have := (List.getElem?_eq_some_iff.1 hj).1
      rwa [bc_len] at this
    rw [Lib.bytesWorld_cell w1 5 DS j (by omega), ← hj, HDS.out]
    simp [bc, strB, List.getD, hj'])
  have hcap : D.length ≤ grownCap w1 DS.size 0 5 := by rw [← hDsz]; exact grownCap_ge _ _ _ _
  generalize Lib.bytesWorld w1 5 DS = W2 at *
  generalize grownCap w1 DS.size 0 5 = cap at *
  rw [hDsz]
  have HCAP := Lib.hid hcap
  have K3 := Lib.hid (bthen K2.out hbel)
  have B3 := Lib.hid hbel
  have U0 := Lib.hid (Y0.out.below hbel)
  have U1 := Lib.hid (Y1.out.below hbel)
  have L1 := Lib.hid (J1.out.below hbel)
  have L2 := Lib.hid (own_below J2.out hbel)
  clear hbel hcap Y0 Y1 J1 J2 K2
  obtain ⟨dl, hdl⟩ : ∃ dl, dl = D.length := ⟨_, rfl⟩
  rw [← hdl] at HCAP ⊢
  have HDL := Lib.hid hdl
  have HSZ2 := Lib.hid hsz2
  have hFI := Lib.hid hf
  clear hdl hDsz hsz2 hf
  go_upto_if 20 with fail
  have X3 := Lib.hid (Blk.new W2 89 #[.slice (some ⟨w1.heap.size, 0, none⟩) dl cap, .int .u32 0])
  have B4 := Lib.hid (balloc (Below.refl W2.heap.size W2) (.cells #[.slice (some ⟨w1.heap.size, 0, none⟩) dl cap, .int .u32 0] 89))
  generalize hV4 : W2.alloc (.cells #[.slice (some ⟨w1.heap.size, 0, none⟩) dl cap, .int .u32 0] 89) = V4 at *
  clear hV4
  go_cut [] (fun wx => Blk wx W2.heap.size 89 #[.slice (some ⟨w1.heap.size, 0, none⟩) dl cap, .int .u32 fb] ∧ Below W2.heap.size W2 wx)
  case first =>
    have f1 := X3.out.frozen 1
    have hz4 := X3.out.lt
    rcases hFI.out with e | e
    · have hfb : Hid (fb = 0) := Lib.hid (by rw [HFB.out, if_pos (by omega)])
      have ht : ¬ (first ≥ 0) := by omega
      clear e
      go_wp2_with fail
      go_meet
      rw [hfb.out]
      exact ⟨X3.out, B4.out⟩
    · obtain ⟨fn, hfn⟩ : ∃ fn : Nat, first = (fn : Int) := ⟨first.toNat, by omega⟩
      have hfb : Hid (fb = 4294967295 - (fn : Int)) := Lib.hid (by rw [HFB.out, if_neg (by omega), hfn])
      have hwr : IntKind.u32.wrap first = (fn : Int) := by rw [IntKind.wrap_u32]; omega
      have ht : first ≥ 0 := e.1
      have hfl : fn < 4294967295 := by omega
      clear e hfn
      go_wp2_with fail
      refine (make_index fn _ hfl).mono ?_
      rintro e w5 ⟨rfl, hb5⟩
      have X5 := Lib.hid (X3.out.below hb5)
      have f5 := X5.out.frozen 1
      have g5 : w5.cell? ⟨W2.heap.size, 1, none⟩ = some (.int .u32 0) := X5.out.cell 1
      have hz5 := X5.out.lt
      have B5 := Lib.hid (bthen B4.out hb5)
      clear hb5
      go_wp2_with fail
      go_meet
      rw [hfb.out]
      exact ⟨X5.out.set_ 1 _, B5.out.setCell (Nat.le_refl _) _⟩
  case rest =>
  obtain ⟨hcb, hcw⟩ := hcut
  have hzz := HSZ2.out
  have hz5 := hcw.size
  have K5 := Lib.hid (bthen K3.out hcw)
  have V0 := U0.out.below hcw
  have V1 := U1.out.below hcw
  have VJ := Lib.hid (L1.out.below hcw)
  have VS := Lib.hid (own_below L2.out hcw)
  have HCL5 : Hid (∀ (j : Nat) (u : Value), (bc D)[j]? = some u → wc.cell? ⟨w1.heap.size, j, none⟩ = some u) := Lib.hid (fun j u hj => (hcw.cell (p := ⟨w1.heap.size, j, none⟩) (by simp only; omega)).trans (hcl.out j u hj))
  have hl0 : w.heap.size < wc.heap.size := V0.lt
  have hl1 : w.heap.size + 1 < wc.heap.size := V1.lt
  have hl2 : W2.heap.size < wc.heap.size := hcb.lt
  have hfin : ∀ W, Below wc.heap.size wc W → Calls Tryd.prog 38 #[.pointer (some ⟨w.heap.size + 2, 0, none⟩), .agg #[.int .i64 pgl, .int .i64 pgc, .int .i64 psi, .int .i64 pol, .int .i64 poc, .int .i64 pon, .bool false], .agg #[.int .i64 sgl, .int .i64 sgc', .int .i64 ssi, .int .i64 sol, .int .i64 soc, .int .i64 son, .bool false], .agg #[.slice (some ⟨w1.heap.size, 0, none⟩) dl cap, .int .u32 fb]] W fun e w' => e = .returned (.tuple #[]) ∧
      (∃ N vs its vb, Jn N V.heap.size (w.heap.size + 2) F its vs vb w' ∧ flat its = OUT ∧ its.length ≤ 100 ∧ Below w.heap.size w w') ∧ (∀ i j, (i = w.heap.size ∨ i = w.heap.size + 1 ∨ i = W2.heap.size) → w'.cell? ⟨i, j, none⟩ = wc.cell? ⟨i, j, none⟩) := by
    intro W hW
    have hWz := hW.size
    have hvo : (Value.slice (some ⟨k0, 0, none⟩) 1 c0).ownBlock = some k0 := rfl
    have hJn : Jn (fun i => W.heap.size ≤ i ∧ i ≤ W.heap.size + 2) V.heap.size (w.heap.size + 2) F [] (.slice (some ⟨k0, 0, none⟩) 1 c0) (.slice none 0 0) W := by
      refine ⟨?_, own_below VS.out hW, World.ownsRow_nil _ _ _ _, fun x hx => (by cases hx), fun k hk => ?_, fun k hk => (by simp [Value.ownBlock] at hk), fun k _ => (by simp [Value.ownBlock]), by omega⟩
      · have e : F ++ flat [] = F := by simp [flat]
        rw [e]
        exact VJ.out.below hW
      · rw [hvo] at hk; injection hk with hk; omega
    have hAC : AC (w.heap.size + 2) V.heap.size W.heap.size B w1.heap.size (.slice (some ⟨k0, 0, none⟩) 1 c0) W :=
      ⟨rfl, by omega, by omega, by omega, by omega, by omega, by rw [hvo]; intro q; injection q with q; omega, fun k hk => by rw [hvo] at hk; injection hk with hk; omega⟩
    have hB5 := bthen K5.out hW
    have hcells : ∀ (j : Nat) (u : Value), (bc D)[j]? = some u → W.cell? ⟨w1.heap.size, j, none⟩ = some u := fun j u hj => (hW.cell (p := ⟨w1.heap.size, j, none⟩) (by simp only; omega)).trans (HCL5.out j u hj)
    have h := HAPP.out (w.heap.size + 2) V.heap.size (.slice (some ⟨k0, 0, none⟩) 1 c0) w1.heap.size cap W hJn hAC (HT.out.below (hB5.mono hB)) hcells (by rw [← HDL.out]; exact HCAP.out)
    rw [← HDL.out] at h
    refine h.mono ?_
    rintro e w' ⟨rfl, its, vb, a1, a2, a3, a4⟩
    refine ⟨rfl, ⟨_, _, its, vb, a1, a2, a3, hB5.trans (a4.below (B := w.heap.size) (by omega) (fun k _ e => by omega))⟩, fun i j hi => ?_⟩
    have hi2 : i < wc.heap.size := by rcases hi with e | e | e <;> omega
    exact (a4.cell (p := ⟨i, j, none⟩) (by simp only; omega) (by simp only; rcases hi with e | e | e <;> omega)).trans (hW.cell (p := ⟨i, j, none⟩) hi2)
  have HFIN := Lib.hid hfin
  have c0' : wc.cell? ⟨w.heap.size, 0, none⟩ = some (.int .i64 pgl) := V0.cell 0
  have c1' : wc.cell? ⟨w.heap.size, 1, none⟩ = some (.int .i64 pgc) := V0.cell 1
  have c2' : wc.cell? ⟨w.heap.size, 2, none⟩ = some (.int .i64 psi) := V0.cell 2
  have c3' : wc.cell? ⟨w.heap.size, 3, none⟩ = some (.int .i64 pol) := V0.cell 3
  have c4' : wc.cell? ⟨w.heap.size, 4, none⟩ = some (.int .i64 poc) := V0.cell 4
  have c5' : wc.cell? ⟨w.heap.size, 5, none⟩ = some (.int .i64 pon) := V0.cell 5
  have d0' : wc.cell? ⟨w.heap.size + 1, 0, none⟩ = some (.int .i64 sgl) := V1.cell 0
  have d1' : wc.cell? ⟨w.heap.size + 1, 1, none⟩ = some (.int .i64 sgc') := V1.cell 1
  have d2' : wc.cell? ⟨w.heap.size + 1, 2, none⟩ = some (.int .i64 ssi) := V1.cell 2
  have d3' : wc.cell? ⟨w.heap.size + 1, 3, none⟩ = some (.int .i64 sol) := V1.cell 3
  have d4' : wc.cell? ⟨w.heap.size + 1, 4, none⟩ = some (.int .i64 soc) := V1.cell 4
  have d5' : wc.cell? ⟨w.heap.size + 1, 5, none⟩ = some (.int .i64 son) := V1.cell 5
  have b0' : wc.cell? ⟨W2.heap.size, 0, none⟩ = some (.slice (some ⟨w1.heap.size, 0, none⟩) dl cap) := hcb.cell 0
  have b1' : wc.cell? ⟨W2.heap.size, 1, none⟩ = some (.int .u32 fb) := hcb.cell 1
  have HSZ5 := Lib.hid hzz
  clear hfin hcb hcw V0 V1 VJ VS HCL5 K3 U0 U1 L1 L2 hcl B3 X3 B4 HAPP hzz hz5
  go_upto_region 6 with fail
  go_cut [] (fun wx => ∃ N vs its vb, Jn N V.heap.size (w.heap.size + 2) F its vs vb wx ∧ flat its = OUT ∧ its.length ≤ 100 ∧ Below w.heap.size w wx)
  case first =>
    have HW0 := Lib.hid (Below.refl wc.heap.size wc)
    go_region_held3 (fun w' => w'.cell? ⟨w.heap.size, 0, none⟩ = some (.int .i64 pgl) ∧ w'.cell? ⟨w.heap.size, 1, none⟩ = some (.int .i64 pgc) ∧ w'.cell? ⟨w.heap.size, 2, none⟩ = some (.int .i64 psi) ∧ w'.cell? ⟨w.heap.size, 3, none⟩ = some (.int .i64 pol) ∧ w'.cell? ⟨w.heap.size, 4, none⟩ = some (.int .i64 poc) ∧ w'.cell? ⟨w.heap.size, 5, none⟩ = some (.int .i64 pon) ∧
        w'.cell? ⟨w.heap.size + 1, 0, none⟩ = some (.int .i64 sgl) ∧ w'.cell? ⟨w.heap.size + 1, 1, none⟩ = some (.int .i64 sgc') ∧ w'.cell? ⟨w.heap.size + 1, 2, none⟩ = some (.int .i64 ssi) ∧ w'.cell? ⟨w.heap.size + 1, 3, none⟩ = some (.int .i64 sol) ∧ w'.cell? ⟨w.heap.size + 1, 4, none⟩ = some (.int .i64 soc) ∧ w'.cell? ⟨w.heap.size + 1, 5, none⟩ = some (.int .i64 son) ∧
        w'.cell? ⟨W2.heap.size, 0, none⟩ = some (.slice (some ⟨w1.heap.size, 0, none⟩) dl cap) ∧ w'.cell? ⟨W2.heap.size, 1, none⟩ = some (.int .u32 fb))
      (first
        | exact ⟨c0', c1', c2', c3', c4', c5', d0', d1', d2', d3', d4', d5', b0', b1'⟩
        | exact ⟨(HX3.out _ 0 (.inl rfl)).trans c0', (HX3.out _ 1 (.inl rfl)).trans c1', (HX3.out _ 2 (.inl rfl)).trans c2', (HX3.out _ 3 (.inl rfl)).trans c3', (HX3.out _ 4 (.inl rfl)).trans c4', (HX3.out _ 5 (.inl rfl)).trans c5', (HX3.out _ 0 (.inr (.inl rfl))).trans d0', (HX3.out _ 1 (.inr (.inl rfl))).trans d1', (HX3.out _ 2 (.inr (.inl rfl))).trans d2', (HX3.out _ 3 (.inr (.inl rfl))).trans d3', (HX3.out _ 4 (.inr (.inl rfl))).trans d4', (HX3.out _ 5 (.inr (.inl rfl))).trans d5', (HX3.out _ 0 (.inr (.inr rfl))).trans b0', (HX3.out _ 1 (.inr (.inr rfl))).trans b1'⟩
        | exact ⟨(HX2.out _ 0 (.inl rfl)).trans c0', (HX2.out _ 1 (.inl rfl)).trans c1', (HX2.out _ 2 (.inl rfl)).trans c2', (HX2.out _ 3 (.inl rfl)).trans c3', (HX2.out _ 4 (.inl rfl)).trans c4', (HX2.out _ 5 (.inl rfl)).trans c5', (HX2.out _ 0 (.inr (.inl rfl))).trans d0', (HX2.out _ 1 (.inr (.inl rfl))).trans d1', (HX2.out _ 2 (.inr (.inl rfl))).trans d2', (HX2.out _ 3 (.inr (.inl rfl))).trans d3', (HX2.out _ 4 (.inr (.inl rfl))).trans d4', (HX2.out _ 5 (.inr (.inl rfl))).trans d5', (HX2.out _ 0 (.inr (.inr rfl))).trans b0', (HX2.out _ 1 (.inr (.inr rfl))).trans b1'⟩
        | exact ⟨(HX1.out _ 0 (.inl rfl)).trans c0', (HX1.out _ 1 (.inl rfl)).trans c1', (HX1.out _ 2 (.inl rfl)).trans c2', (HX1.out _ 3 (.inl rfl)).trans c3', (HX1.out _ 4 (.inl rfl)).trans c4', (HX1.out _ 5 (.inl rfl)).trans c5', (HX1.out _ 0 (.inr (.inl rfl))).trans d0', (HX1.out _ 1 (.inr (.inl rfl))).trans d1', (HX1.out _ 2 (.inr (.inl rfl))).trans d2', (HX1.out _ 3 (.inr (.inl rfl))).trans d3', (HX1.out _ 4 (.inr (.inl rfl))).trans d4', (HX1.out _ 5 (.inr (.inl rfl))).trans d5', (HX1.out _ 0 (.inr (.inr rfl))).trans b0', (HX1.out _ 1 (.inr (.inr rfl))).trans b1'⟩)
      (first
        | (go_at_call 39; refine (stateOf_any _ _ _ _ _ _ _).mono ?_; rintro e w' ⟨rfl, hbq⟩; (first | (have HW2 : Hid (Below wc.heap.size wc w') := Lib.hid (bthen HW1.out hbq); have HX2 : Hid (∀ i j, (i = w.heap.size ∨ i = w.heap.size + 1 ∨ i = W2.heap.size) → w'.cell? ⟨i, j, none⟩ = wc.cell? ⟨i, j, none⟩) := Lib.hid (fun i j hi => HW2.out.cell (p := ⟨i, j, none⟩) (by rcases hi with e | e | e <;> (simp only; omega)))) | (have HW1 : Hid (Below wc.heap.size wc w') := Lib.hid (bthen HW0.out.drew hbq); have HX1 : Hid (∀ i j, (i = w.heap.size ∨ i = w.heap.size + 1 ∨ i = W2.heap.size) → w'.cell? ⟨i, j, none⟩ = wc.cell? ⟨i, j, none⟩) := Lib.hid (fun i j hi => HW1.out.cell (p := ⟨i, j, none⟩) (by rcases hi with e | e | e <;> (simp only; omega))))); clear hbq)
        | (go_at_call 38; refine (HFIN.out _ HW2.out).mono ?_; rintro e w' ⟨rfl, hpost, hx3⟩; have HX3 := Lib.hid hx3; have HPO := Lib.hid hpost; clear hx3 hpost))
    all_goals go_wp2_with fail
    all_goals go_meet
    all_goals exact HPO.out
  case rest =>
  obtain ⟨N, vs, its, vb, j1, j2, j3, j4⟩ := hcut
  have J1 := Lib.hid j1
  have J4 := Lib.hid j4
  clear j1 j4 c0' c1' c2' c3' c4' c5' d0' d1' d2' d3' d4' d5' b0' b1' hl0 hl1 hl2
  go_wp2_with fail
  refine (done_any N V.heap.size (w.heap.size + 2) F its vs vb _ J1.out (by rw [j2]; omega) (by omega)).mono ?_
  rintro e w6 ⟨rfl, hb6, hw6⟩
  rw [j2] at hb6 ⊢
  obtain ⟨FO, hFO⟩ : ∃ FO, FO = F ++ OUT := ⟨_, rfl⟩
  rw [← hFO] at hb6 ⊢
  have hcv := conv_row (w := w6) (k := wc.heap.size) (c := FO.length) (l := FO) (fun j x hj => by
    have := hb6.cell j
    rw [this]
    simpa using hj)
  have B6 := Lib.hid (bthen J4.out hw6)
  have HFO := Lib.hid hFO
  clear hb6 hw6 hFO
  go_wp2_with fail
  go_ret
  exact ⟨by rw [← HFO.out]; rfl, B6.out⟩
end Go.Proofs.YtnokiikgnplpmaaDoor
namespace Go.Proofs.YtnokiikgnplpmaaDoor
open Go.RowKit

/-- The bytes behind the first mapping's place, and what becomes of them. -/
def qB (tl : List Int) (rest : List (Option (List Int))) : List UInt8 := nums tl ++ tokB false rest
def qB' (d : Int) (tl : List Int) (rest : List (Option (List Int))) : List UInt8 := match tl with | [] => tokB false (bump d rest) | x :: _ => nb (x + d) ++ tokB false rest
theorem dt_bytes (k : Nat) (n0 n1 n2 n3 : Int) (tl : List Int) (rest : List (Option (List Int))) : tokB true (List.replicate k none ++ some ([n0, n1, n2, n3] ++ tl) :: rest) = List.replicate k 59 ++ (nums [n0, n1, n2, n3] ++ qB tl rest) := by
  have h : ∀ k, tokB true (List.replicate k none ++ some ([n0, n1, n2, n3] ++ tl) :: rest) = List.replicate k 59 ++ tokB true (some ([n0, n1, n2, n3] ++ tl) :: rest) := by
    intro k
    induction k with
    | zero => rfl
    | succ k ih =>
      rw [List.replicate_succ, List.replicate_succ]
      show 59 :: tokB true (List.replicate k none ++ some ([n0, n1, n2, n3] ++ tl) :: rest) = 59 :: (List.replicate k 59 ++ tokB true (some ([n0, n1, n2, n3] ++ tl) :: rest))
      rw [ih]
  rw [h]
  unfold qB
  show _ ++ ([] ++ (nums ([n0, n1, n2, n3] ++ tl) ++ tokB false rest)) = _
  rw [nums_app]
  simp [List.append_assoc]
theorem dt_foff (k : Nat) (ns : List Int) (rest : List (Option (List Int))) : foff true (List.replicate k none ++ some ns :: rest) = (foff true (some ns :: rest)).map (· + k) := by
  induction k with
  | zero => simp
  | succ k ih =>
    rw [List.replicate_succ, List.cons_append]
    show (foff true _).map (· + 1) = _
    rw [ih, Option.map_map]
    rfl
/-- Where the first name is told, in the bytes. -/
theorem dt_name (k : Nat) (n0 n1 n2 n3 : Int) (tl : List Int) (rest : List (Option (List Int))) (htl : tl.length ≤ 1) (d : Int) (hd : -4294967297 < d ∧ d < 4294967297)
    (hn : ∀ ns, some ns ∈ (some ([n0, n1, n2, n3] ++ tl) :: rest) → ns.length = 5 → -8589934593 < ns.getD 4 0 ∧ ns.getD 4 0 < 8589934593) :
    NameAt (qB tl rest) (qB' d tl rest) (k + (nums [n0, n1, n2, n3]).length) (if offV (foff true (List.replicate k none ++ some ([n0, n1, n2, n3] ++ tl) :: rest)) < 0 then 0 else 4294967295 - offV (foff true (List.replicate k none ++ some ([n0, n1, n2, n3] ++ tl) :: rest))) d := by
  rw [dt_foff]
  match tl, htl with
  | [], _ =>
    have e : foff true (some ([n0, n1, n2, n3] ++ []) :: rest) = (foff false rest).map (· + (0 + (nums ([n0, n1, n2, n3] ++ [])).length)) := by
      conv => lhs; unfold foff
      rw [if_neg (by simp)]
      rfl
    rw [e, List.append_nil]
    cases h : foff false rest with
    | none =>
      left
      refine ⟨?_, ?_⟩
      · simp [offV]
      · unfold qB qB'
        simp only
        rw [bump_none d rest false h]
        rfl
    | some j =>
      right
      obtain ⟨A, x, B, e1, e2, e3, ⟨ns, m1, m2, m3⟩, _⟩ := bump_some d rest false j h
      have hx := hn ns (by simp [m1]) m2
      rw [← m3] at hx
      refine ⟨A, x, B, ?_, ?_, ?_, by omega, by omega⟩
      · unfold qB; rw [e1]; rfl
      · unfold qB'; simp only; rw [e3]
      · rw [Option.map_some, Option.map_some]
        unfold offV
        simp only
        rw [if_neg (by omega), e2]
        omega
  | [x], _ =>
    right
    have e : foff true (some ([n0, n1, n2, n3] ++ [x]) :: rest) = some (0 + (nums [n0, n1, n2, n3]).length) := by
      conv => lhs; unfold foff
      rw [if_pos (by simp)]
      rfl
    have hx := hn ([n0, n1, n2, n3] ++ [x]) (by simp) (by simp)
    have hx2 : -8589934593 < x ∧ x < 8589934593 := hx
    refine ⟨[], x, tokB false rest, ?_, ?_, ?_, by omega, by omega⟩
    · unfold qB; simp [nums]
    · unfold qB'; simp
    · rw [e, Option.map_some]
      unfold offV
      simp only
      rw [if_neg (by omega)]
      simp
      omega
theorem tokB_app2 (a b : List (Option (List Int))) : tokB true (a ++ b) = tokB true a ++ tokB (!segLast a) b := by
  rw [tokB_app]
  congr 1
  unfold segLast
  cases a.getLast? with
  | none => rfl
  | some x => cases x <;> rfl
/-- The bytes are those of tokens. -/
theorem join_bytes (ftoks : List (Option (List Int))) (hf : rok qz ftoks) (p s : Seg) (pn : Int) (sl k : Nat) (n0 n1 n2 n3 : Int) (tl : List Int) (rest : List (Option (List Int))) (htl : tl.length ≤ 1) (hl : (rgo qz ftoks).1.l + (sl + k : Nat) < 1099511627776) :
    tokB true ftoks ++ (List.replicate sl 59 ++ List.replicate k 59 ++ segb (lastB (tokB true ftoks ++ (List.replicate sl 59 ++ List.replicate k 59))) (pOf ⟨p.l, p.c, p.s, p.fl, p.fc, pn⟩ k sl) (sOf ⟨(sl : Int), s.c, s.s, s.fl, s.fc, s.nm⟩ k n0 n1 n2 n3) ++ qB' (s.nm - pn) tl rest) =
      tokB true (ftoks ++ jtoks p s (s.nm - pn) sl k n0 n1 n2 n3 tl rest) := by
  have hr : rok qz (ftoks ++ List.replicate (sl + k) none) := by
    refine rok_app hf (rep_all _ _ ?_ hl)
    clear hl
    have key : ∀ (t : List (Option (List Int))) (q : Seg × Int), rok q t → sOk (rgo q t) := by
      intro t
      induction t with
      | nil => intro q h; exact h
      | cons a t ih => cases a with
        | none => intro q h; exact ih _ h.2
        | some ns => intro q h; exact ih _ h.2.2
    exact key _ _ hf
  have hc := comma_tok _ hr
  have hb1 : tokB true (ftoks ++ List.replicate (sl + k) none) = tokB true ftoks ++ (List.replicate sl 59 ++ List.replicate k 59) := by
    rw [tokB_app, tokB_rep, List.replicate_append_replicate]
  rw [hb1] at hc
  unfold jtoks
  rw [show ftoks ++ (List.replicate (sl + k) none ++ bump (s.nm - pn) (some (headN p s sl k n0 n1 n2 n3 ++ tl) :: rest)) = (ftoks ++ List.replicate (sl + k) none) ++ bump (s.nm - pn) (some (headN p s sl k n0 n1 n2 n3 ++ tl) :: rest) from (List.append_assoc _ _ _).symm, tokB_app2, hb1]
  have hseg : segb (lastB (tokB true ftoks ++ (List.replicate sl 59 ++ List.replicate k 59))) (pOf ⟨p.l, p.c, p.s, p.fl, p.fc, pn⟩ k sl) (sOf ⟨(sl : Int), s.c, s.s, s.fl, s.fc, s.nm⟩ k n0 n1 n2 n3) = (if segLast (ftoks ++ List.replicate (sl + k) none) then [44] else []) ++ nums (headN p s sl k n0 n1 n2 n3) := by
    unfold segb
    rw [hc]
    unfold headN pOf sOf
    have e : (0 < (sl : Int) ∨ 0 < k) = (0 < sl ∨ 0 < k) := by apply propext; omega
    simp only [nums_cons, e]
    simp [nums, List.append_assoc]
  rw [hseg]
  have htok : tokB (!segLast (ftoks ++ List.replicate (sl + k) none)) (bump (s.nm - pn) (some (headN p s sl k n0 n1 n2 n3 ++ tl) :: rest)) = (if segLast (ftoks ++ List.replicate (sl + k) none) then [44] else []) ++ nums (headN p s sl k n0 n1 n2 n3) ++ qB' (s.nm - pn) tl rest := by
    have h4 : (headN p s sl k n0 n1 n2 n3).length = 4 := rfl
    match tl, htl with
    | [], _ =>
      rw [bump_cons, if_neg (by simp [h4])]
      unfold qB'
      simp only [tokB, List.append_nil]
      cases segLast (ftoks ++ List.replicate (sl + k) none) <;> simp
    | [x], _ =>
      rw [bump_cons, if_pos (by simp [h4])]
      have e : (headN p s sl k n0 n1 n2 n3 ++ [x]).take 4 ++ [(headN p s sl k n0 n1 n2 n3 ++ [x]).getD 4 0 + (s.nm - pn)] = headN p s sl k n0 n1 n2 n3 ++ [x + (s.nm - pn)] := by
        unfold headN
        simp
      rw [e]
      unfold qB'
      simp only [tokB, nums_app]
      cases segLast (ftoks ++ List.replicate (sl + k) none) <;> simp [nums, List.append_assoc]
  rw [htok]
  simp [List.append_assoc]
/-- The state behind tokens, of the mappings that are read. -/
theorem rgo_wst (toks : List (Option (List Int))) : (rgo qz toks).2 = (wst (rsegs qz toks)).2 ∧ (segLast toks = true → rgo qz toks = wst (rsegs qz toks)) := by
  induction toks using snoc_ind with
  | h0 => exact ⟨rfl, fun _ => rfl⟩
  | hs l t ih =>
    rw [rgo_app, rsegs_app]
    have hs : segLast (l ++ [t]) = (match t with | none => false | some _ => true) := by simp [segLast]; cases t <;> rfl
    rw [hs]
    cases t with
    | none =>
      refine ⟨?_, fun h => by cases h⟩
      show (rsemi (rgo qz l)).2 = (wst (rsegs qz l ++ [])).2
      rw [List.append_nil]
      exact ih.1
    | some ns =>
      have key : rstep (rgo qz l) ns = wst (rsegs qz l ++ [(rstep (rgo qz l) ns).1]) := by
        rw [wst_snoc]
        unfold wnx
        rw [← ih.1]
        unfold rstep
        simp only
        by_cases h5 : ns.length = 5
        · simp [h5]
        · simp [h5]
      refine ⟨?_, fun _ => key⟩
      show (rstep (rgo qz l) ns).2 = _
      rw [key]
      rfl
theorem bump_last (d : Int) (toks : List (Option (List Int))) : segLast (bump d toks) = segLast toks := by
  have one : ∀ (a b : Option (List Int)) (r : List (Option (List Int))), segLast (a :: b :: r) = segLast (b :: r) := by
    intro a b r
    unfold segLast
    rw [List.getLast?_cons_cons]
  induction toks with
  | nil => rfl
  | cons t r ih =>
    cases t with
    | none =>
      show segLast (none :: bump d r) = _
      cases r with
      | nil => rfl
      | cons u r =>
        rw [one]
        rw [← ih]
        cases u with
        | none => exact one _ _ _
        | some ms => rw [bump_cons]; split <;> exact one _ _ _
    | some ns =>
      rw [bump_cons]
      split
      · cases r with
        | nil => rfl
        | cons u r => rw [one, one]
      · cases r with
        | nil => rfl
        | cons u r =>
          rw [one]
          rw [← ih]
          cases u with
          | none => exact one _ _ _
          | some ms => rw [bump_cons]; split <;> exact one _ _ _
/-- How long the bytes are. -/
theorem tok_short (toks : List (Option (List Int))) (q : Seg × Int) (fr : Bool) (h : rok q toks) : (tokB fr toks).length ≤ ((rgo q toks).1.l - q.1.l).toNat + 66 * (rsegs q toks).length := by
  induction toks generalizing q fr with
  | nil => simp [tokB]
  | cons t r ih => cases t with
    | none =>
      have hi := ih (rsemi q) true h.2
      have hm := rgo_mono r (rsemi q)
      have e : (rsemi q).1.l = q.1.l + 1 := rfl
      rw [e] at hi hm
      simp only [tokB, rgo, rsegs, List.length_cons]
      omega
    | some ns =>
      have hi := ih (rstep q ns) false h.2.2
      have e : (rstep q ns).1.l = q.1.l := rfl
      have hs := nums_short ns
      have h5 : ns.length ≤ 5 := by rcases h.2.1.1 with e | e <;> omega
      rw [e] at hi
      simp only [tokB, rgo, rsegs, List.length_cons, List.length_append]
      have : (if fr = true then ([] : List UInt8) else [44]).length ≤ 1 := by split <;> simp
      omega
/-- Tokens with a mapping begin with lines' ends and a mapping. -/
theorem tok_head (toks : List (Option (List Int))) (h : ∀ ns, some ns ∈ toks → nOk ns) (hne : rsegs qz toks ≠ []) : ∃ k n0 n1 n2 n3 tl rest, toks = List.replicate k none ++ some ([n0, n1, n2, n3] ++ tl) :: rest ∧ tl.length ≤ 1 := by
  have key : ∀ (toks : List (Option (List Int))) (q : Seg × Int), (∀ ns, some ns ∈ toks → nOk ns) → rsegs q toks ≠ [] → ∃ k n0 n1 n2 n3 tl rest, toks = List.replicate k none ++ some ([n0, n1, n2, n3] ++ tl) :: rest ∧ tl.length ≤ 1 := by
    intro toks
    induction toks with
    | nil => intro q _ h; exact absurd rfl h
    | cons t r ih => cases t with
      | none =>
        intro q h1 h2
        obtain ⟨k, n0, n1, n2, n3, tl, rest, e, ht⟩ := ih (rsemi q) (fun ns hn => h1 ns (by simp [hn])) h2
        exact ⟨k + 1, n0, n1, n2, n3, tl, rest, by rw [e, List.replicate_succ]; rfl, ht⟩
      | some ns =>
        intro q h1 _
        obtain ⟨hl, _⟩ := h1 ns (by simp)
        rcases hl with h4 | h5
        · obtain ⟨a, b, c, d, rfl⟩ := four' h4
          exact ⟨0, a, b, c, d, [], r, rfl, by simp⟩
        · obtain ⟨a, b, c, d, e, rfl⟩ := five h5
          exact ⟨0, a, b, c, d, [e], r, rfl, by simp⟩
  exact key toks qz h hne
/-- Nothing is ahead, and nothing is moved. -/
theorem jtoks_zero (k : Nat) (n0 n1 n2 n3 : Int) (tl : List Int) (rest : List (Option (List Int))) : jtoks ⟨0, 0, 0, 0, 0, 0, false⟩ ⟨0, 0, 0, 0, 0, 0, false⟩ 0 0 k n0 n1 n2 n3 tl rest = List.replicate k none ++ some ([n0, n1, n2, n3] ++ tl) :: rest := by
  have hb : ∀ toks, bump 0 toks = toks := by
    intro toks
    induction toks with
    | nil => rfl
    | cons t r ih => cases t with
      | none => show none :: bump 0 r = _; rw [ih]
      | some ns =>
        rw [bump_cons]
        split
        · rename_i h5
          obtain ⟨a, b, c, d, e, rfl⟩ := five h5
          simp
        · rw [ih]
  unfold jtoks
  rw [hb, Nat.zero_add]
  have e : headN ⟨0, 0, 0, 0, 0, 0, false⟩ ⟨0, 0, 0, 0, 0, 0, false⟩ ((0 : Nat) : Int) k n0 n1 n2 n3 = [n0, n1, n2, n3] := by
    unfold headN
    simp
  rw [e]
end Go.Proofs.YtnokiikgnplpmaaDoor
namespace Go.Proofs.YtnokiikgnplpmaaDoor
open Go.RowKit

theorem Tight.names {q : Seg × Int} {toks : List (Option (List Int))} (h : Tight q toks) (hq : Bd0 q) : ∀ ns, some ns ∈ toks → ns.length = 5 → -8589934593 < ns.getD 4 0 ∧ ns.getD 4 0 < 8589934593 := by
  induction toks generalizing q with
  | nil => intro ns hn; simp at hn
  | cons t r ih =>
    have h2 := h.tail hq
    cases t with
    | none => intro ns hn h5; exact ih h2.1 h2.2 ns (by simpa using hn) h5
    | some ms =>
      intro ns hn h5
      rcases List.mem_cons.1 hn with e | hn
      · injection e with e
        subst e
        have hs : sgBd (rstep q ns).1 := h.2.1 _ (by simp [rsegs])
        obtain ⟨_, _, _, _, _, s6, _⟩ := hs
        have e : (rstep q ns).1.nm = q.2 + ns.getD 4 0 := by unfold rstep; simp only; rw [if_pos h5]
        rw [e] at s6
        have := hq.2.2.2.2.2
        omega
      · exact ih h2.2.1 h2.2.2 ns hn h5

/-- What mappings appended to others are. -/
structure JoinTk (ftoks dtoks : List (Option (List Int))) (s : Seg) (toks : List (Option (List Int))) : Prop where
  ok : rok qz toks
  segs : rsegs qz toks = rsegs qz ftoks ++ (rsegs qz dtoks).map (mvS { s with l := (rgo qz ftoks).1.l + s.l })
  last : segLast dtoks = true → segLast toks = true
  zero : ftoks = [] → s = ⟨0, 0, 0, 0, 0, 0, false⟩ → toks = dtoks
theorem segLast_app (a b : List (Option (List Int))) (h : b ≠ []) : segLast (a ++ b) = segLast b := by
  unfold segLast
  rw [List.getLast?_append]
  cases hb : b.getLast? with
  | none => rw [List.getLast?_eq_none_iff] at hb; exact absurd hb h
  | some x => rfl
theorem bump_ne (d : Int) (t : Option (List Int)) (r : List (Option (List Int))) : bump d (t :: r) ≠ [] := by
  cases t with
  | none => simp [bump]
  | some ns => rw [bump_cons]; split <;> simp
theorem joinT_any (ftoks dtoks : List (Option (List Int))) (s : Seg) (sl B : Nat) (w : World) (hT : B64 B w) (hB : B ≤ w.heap.size) (hf : rok qz ftoks) (hq : Bd0 (rgo qz ftoks)) (hpn : (rgo qz ftoks).2 ≤ 4294967296)
    (ht : Tight qz dtoks) (hne : rsegs qz dtoks ≠ []) (hs : (0 ≤ s.c ∧ s.c ≤ 4294967296) ∧ (0 ≤ s.s ∧ s.s ≤ 4294967296) ∧ (0 ≤ s.fl ∧ s.fl ≤ 4294967296) ∧ (0 ≤ s.fc ∧ s.fc ≤ 4294967296) ∧ (0 ≤ s.nm ∧ s.nm ≤ 4294967296)) (hsl : s.l = (sl : Int)) (hsl3 : sl ≤ 3)
    (hsz : (tokB true ftoks).length + (tokB true dtoks).length ≤ 3000000000) (q : Seg × Int) (hqe : rgo qz ftoks = q) (first : Int) (hfi : offV (foff true dtoks) = first) :
    Calls Tryd.prog 20 #[.string (strB (tokB true ftoks)), .agg #[.int .i64 q.1.l, .int .i64 q.1.c, .int .i64 q.1.s, .int .i64 q.1.fl, .int .i64 q.1.fc, .int .i64 q.2], .agg #[.int .i64 s.l, .int .i64 s.c, .int .i64 s.s, .int .i64 s.fl, .int .i64 s.fc, .int .i64 s.nm], .string (strB (tokB true dtoks)), .int .i64 first] w fun e w' =>
      ∃ toks, JoinTk ftoks dtoks s toks ∧ e = .returned (.string (strB (tokB true toks))) ∧ Below w.heap.size w w' := by
  obtain ⟨k, n0, n1, n2, n3, tl, rest, hdt, htl⟩ := tok_head dtoks ht.1 hne
  obtain ⟨b1, b2, b3, b4, b5, b6⟩ := id hq
  obtain ⟨s1, s2, s3, s4, s5⟩ := id hs
  have hnames := ht.names qz_bd
  have hn4 : ∀ n ∈ [n0, n1, n2, n3], -17179869184 < n ∧ n < 17179869184 := by
    intro n hn
    exact (ht.1 ([n0, n1, n2, n3] ++ tl) (by rw [hdt]; simp)).2 n (List.mem_append_left _ hn)
  have hlen : (tokB true dtoks).length = k + ((nums [n0, n1, n2, n3]).length + (qB tl rest).length) := by rw [hdt, dt_bytes]; simp
  have hl : (rgo qz ftoks).1.l + (sl + k : Nat) < 1099511627776 := by omega
  have hj := join_read ftoks hf s sl k n0 n1 n2 n3 tl rest (by rw [← hdt]; exact ht) htl hq hpn hs (by omega)
  have hby := join_bytes ftoks hf (rgo qz ftoks).1 s (rgo qz ftoks).2 sl k n0 n1 n2 n3 tl rest htl hl
  have hnm := dt_name k n0 n1 n2 n3 tl rest htl (s.nm - (rgo qz ftoks).2) (by omega) (fun ns hn h5 => hnames ns (by rw [hdt, List.mem_append]; exact .inr hn) h5)
  rw [← hdt, hfi] at hnm
  have hfirst : first = -1 ∨ 0 ≤ first ∧ first < 4000000000 := by
    rw [← hfi]
    cases h : foff true dtoks with
    | none => exact .inl rfl
    | some j =>
      right
      obtain ⟨A, x, Bt, e1, e2, _⟩ := bump_some 0 dtoks true j h
      have : j ≤ (tokB true dtoks).length := by rw [e1, ← e2]; simp only [List.length_append]; omega
      unfold offV
      simp only
      omega
  subst hqe
  have hcall := join_any (tokB true ftoks) (tokB true dtoks) (qB tl rest) (qB' (s.nm - (rgo qz ftoks).2) tl rest) ⟨(rgo qz ftoks).1.l, (rgo qz ftoks).1.c, (rgo qz ftoks).1.s, (rgo qz ftoks).1.fl, (rgo qz ftoks).1.fc, (rgo qz ftoks).2⟩ ⟨(sl : Int), s.c, s.s, s.fl, s.fc, s.nm⟩ sl k n0 n1 n2 n3 first B w hT hB
    (by rw [hdt, dt_bytes]) hn4 ⟨by simp only; omega, by simp only; omega, by simp only; omega, by simp only; omega, by simp only; omega⟩ ⟨by simp only; omega, by simp only; omega, by simp only; omega, by simp only; omega, by simp only; omega⟩
    ⟨by simp only; omega, by simp only; omega, by simp only; omega, by simp only; omega, by simp only; omega, by simp only; omega⟩ rfl hsl3 hfirst hnm hsz
  rw [hby] at hcall
  rw [hsl]
  refine hcall.mono ?_
  rintro e w' ⟨rfl, hb⟩
  refine ⟨_, ⟨hj.1, ?_, ?_, ?_⟩, rfl, hb⟩
  · rw [hj.2, ← hdt, hsl]
  · intro h
    unfold jtoks
    rw [segLast_app _ _ (by simp [bump_ne]), segLast_app _ _ (bump_ne _ _ _), bump_last]
    rw [hdt, segLast_app _ _ (by simp)] at h
    cases rest with
    | nil => rfl
    | cons u r => exact h
  · rintro rfl rfl
    obtain rfl : sl = 0 := by simp only at hsl; omega
    have e : rgo qz [] = (⟨0, 0, 0, 0, 0, 0, false⟩, 0) := rfl
    rw [e, List.nil_append]
    simp only [Int.sub_self]
    rw [jtoks_zero k n0 n1 n2 n3 tl rest, hdt]
end Go.Proofs.YtnokiikgnplpmaaDoor

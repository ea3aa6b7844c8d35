/-
  The contracts of (*Joiner).AddString, AddBytes, LastByte. Conditions: as each one says.
-/
import Derived.Test.YtnokiikgnplpmaaDoorM1
import Derived.Test.YtnokiikgnplpmaaDoorM4
import Derived.Test.YtnokiikgnplpmaaDoorM13
import Derived.Deep.RegionLaw
import Derived.Deep.AppendLies
namespace Go.Proofs.YtnokiikgnplpmaaDoor
open Go.RowKit

theorem info_js : (Tryd.prog.info? 120).map (fun i => (i.zero, i.size, i.bytes)) = some (some (.agg #[.string ByteArray.empty, .int .u32 0]), 2, 24) := by kernel_rfl
theorem info_jb : (Tryd.prog.info? 129).map (fun i => (i.zero, i.size, i.bytes)) = some (some (.agg #[.slice none 0 0, .int .u32 0]), 2, 32) := by kernel_rfl
/-- A slice of bytes in memory, its block outside of X. -/
def RdB (X : Nat → Prop) (w : World) (v : Value) (bs : List UInt8) : Prop :=
  ∃ A c, v = .slice A bs.length c ∧ (0 < bs.length → ∃ R o, A = some ⟨R, o, none⟩ ∧ ¬ X R ∧ R < w.heap.size ∧ ∀ (j : Nat) (u : Value), (bc bs)[j]? = some u → w.cell? ⟨R, o + j, none⟩ = some u)
theorem RdB.kep {X Y : Nat → Prop} {w w' : World} {v : Value} {bs : List UInt8} (h : RdB X w v bs) (k : Kep Y w w') (hy : ∀ i, Y i → X i ∨ w.heap.size ≤ i) : RdB X w' v bs := by
  obtain ⟨A, c, h1, h2⟩ := h
  refine ⟨A, c, h1, fun h0 => ?_⟩
  obtain ⟨R, o, h3, h4, h5, h6⟩ := h2 h0
  exact ⟨R, o, h3, h4, Nat.lt_of_lt_of_le h5 k.size, fun j u hj => (k.cell (p := ⟨R, _, none⟩) h5 (fun q => by rcases hy _ q with e | e; exact h4 e; simp only at e; omega)).trans (h6 j u hj)⟩

theorem strB_last' (s : List UInt8) (S : ByteArray) (hS : S = strB s) (h : 0 < S.size) : ((S[S.size - 1]'(by omega)).toNat : Int) = (lastB s : Int) := by
  rcases List.eq_nil_or_concat s with e | ⟨p, b, e⟩
  · rw [hS, e, strB_size] at h
    simp at h
  · rw [List.concat_eq_append] at e
    rw [strB_last p b S (by rw [hS, e]) (by omega), e, lastB_app]

/-- What AddString leaves. -/
def JSt (g B : Nat) (w : World) (S : ByteArray) (L : Nat) (len : Int) (wx : World) : Prop := ∃ k c, Blk wx g 100 #[.slice (some ⟨k, 0, none⟩) 1 c, .slice none 0 0, .int .u32 len, .int .u8 (L : Int)] ∧ wx.ownsRow B 120 2 (.slice (some ⟨k, 0, none⟩) 1 c) 1 [.string S, .int .u32 0] ∧ Kep (fun k => k = g) w wx
set_option maxHeartbeats 2000000 in
set_option maxRecDepth 100000 in
theorem addString_any (g : Nat) (s : List UInt8) (w : World) (hg : Blk w g 100 #[.slice none 0 0, .slice none 0 0, .int .u32 0, .int .u8 0]) (hs : s.length ≤ 4000000000) :
    Calls Tryd.prog 36 #[.pointer (some ⟨g, 0, none⟩), .string (strB s)] w fun e w' => e = .returned (.tuple #[]) ∧ JSt g w.heap.size w (strB s) (lastB s) (s.length : Int) w' := by
  obtain ⟨iJ, hiJ, hJ0, hJ1, hJ2⟩ := info_parts info_js
  obtain ⟨S, hS⟩ : ∃ S, S = strB s := ⟨_, rfl⟩
  have hsz : S.size = s.length := by rw [hS, strB_size]
  have hlb := strB_last' s S hS
  have hlt := hg.lt
  have f3 := hg.frozen 3
  have c3 : w.cell? ⟨g, 3, none⟩ = some (.int .u8 0) := hg.cell 3
  obtain ⟨L, hL⟩ : ∃ L, L = lastB s := ⟨_, rfl⟩
  have hl0 : s.length = 0 → L = 0 := fun h => by rw [hL, List.eq_nil_of_length_eq_zero h]; rfl
  rw [← hL] at hlb ⊢
  rw [← hS]
  have HSZ := Lib.hid hsz
  have hsl : S.size ≤ 4000000000 := by omega
  have hl0' : ¬ 0 < S.size → L = 0 := fun h => hl0 (by omega)
  have HG := Lib.hid hg
  clear hL hS hg hsz hl0
  go_enter Tryd.func36, Tryd.ntmps36
  go_upto_if 6 with fail
  go_cut [] (fun wx => Blk wx g 100 #[.slice none 0 0, .slice none 0 0, .int .u32 0, .int .u8 (L : Int)] ∧ Kep (fun k => k = g) w wx)
  case first =>
    by_cases h0 : 0 < S.size
    · have hlb2 := hlb h0
      have h1 : 1 ≤ S.size := h0
      generalize hX : S[S.size - 1]'(by omega) = X at hlb2
      have HLB := Lib.hid hlb2
      have HX := Lib.hid hX
      clear hlb hlb2 hl0' hX
      go_wp2_with fail
      go_meet
      rw [HX.out, HLB.out]
      exact ⟨HG.out.set_ 3 _, (Kep.refl (fun k => k = g) w).setCell (.inl rfl) _⟩
    · have E : Hid (L = 0) := Lib.hid (hl0' h0)
      clear hl0' hlb
      go_wp2_with fail
      go_meet
      rw [E.out]
      exact ⟨HG.out, Kep.refl _ _⟩
  case rest =>
    obtain ⟨hb, hk⟩ := hcut
    clear hlb hl0' c3 f3 HG
    have c0 : wc.cell? ⟨g, 0, none⟩ = some (.slice none 0 0) := hb.cell 0
    have c2 : wc.cell? ⟨g, 2, none⟩ = some (.int .u32 0) := hb.cell 2
    have f0 := hb.frozen 0
    have hltc := hb.lt
    have HB := Lib.hid hb
    have HK := Lib.hid hk
    have hwz := hk.size
    clear hb hk
    go_upto_region 2 with fail
    go_cut [] (fun wx => JSt g w.heap.size w S L 0 wx)
    case first =>
      go_region_law (first
        | (refine step_append_lies _ (by rfl) _ _ _ (by rfl) w.heap.size 120 iJ _ 2 24 Tryd.underlying97 hiJ hJ0 hJ1 hJ2 rfl (by omega) (.slice none 0 0) 0 [] (by rfl) (World.ownsRow_nil _ _ _ _) ⟨wc.heap.size, 0, none⟩ 1 1 [.string S, .int .u32 0] (by rfl) (by rfl) (World.news_of_block (cs := #[.string S, .int .u32 0]) (t := 120) (fr := (0, 0)) (heap_alloc_new wc.drew _)) (by intro u hu; simp at hu; rcases hu with rfl | rfl <;> rfl) (by omega) (by unfold maxLen; omega) (by omega) (by simp; omega) (wc.heap.size + 1) (by simp) ?_; intro g2 cap2 w2 hown2 hg2 hat2 hlt2; have b2 := (HB.out.drew.alloc (.cells #[.string S, .int .u32 0] 120)).grown hg2 (by simp [Value.ownBlock]); have q0 : w2.cell? ⟨g, 0, none⟩ = some (.slice none 0 0) := b2.cell 0; have q1 := b2.frozen 0; have B2 := Lib.hid b2; have G2 := Lib.hid hg2; have O2 := Lib.hid hown2; clear b2 hg2 hown2))
      all_goals go_wp2_with fail
      all_goals go_meet
      all_goals exact ⟨g2, cap2, B2.out.set_ 0 _, ownsRow_setCell_below O2.out (by simp only; omega) _, (((HK.out.drew.alloc (.cells #[.string S, .int .u32 0] 120)).grown G2.out (fun k hk => by simp [Value.ownBlock] at hk)).setCell (.inl rfl) _)⟩
    case rest =>
      obtain ⟨k, c, hb, ho, hk⟩ := hcut
      have c2' : wc.cell? ⟨g, 2, none⟩ = some (.int .u32 0) := hb.cell 2
      have f2 := hb.frozen 2
      have hltc := hb.lt
      have HB := Lib.hid hb
      have HO := Lib.hid ho
      have HK := Lib.hid hk
      clear hb ho hk
      go_wp2_with fail
      go_end0
      refine ⟨rfl, k, c, ?_, ownsRow_setCell_below HO.out (by simp only; omega) _, HK.out.setCell (.inl rfl) _⟩
      rw [← HSZ.out]
      exact HB.out.set_ 2 _

/-- The cells of byte pieces from an offset on. -/
def bysC : Nat → List (Value × List UInt8) → List Value
  | _, [] => []
  | o, x :: r => [x.1, .int .u32 (o : Int)] ++ bysC (o + x.2.length) r
/-- The bytes of pieces. -/
def flat (its : List (Value × List UInt8)) : List UInt8 := its.flatMap (·.2)
theorem flat_snoc (its : List (Value × List UInt8)) (x : Value × List UInt8) : flat (its ++ [x]) = flat its ++ x.2 := by simp [flat]
theorem bysC_snoc (o : Nat) (its : List (Value × List UInt8)) (x : Value × List UInt8) : bysC o (its ++ [x]) = bysC o its ++ [x.1, .int .u32 ((o + (flat its).length : Nat) : Int)] := by
  induction its generalizing o with
  | nil => simp [bysC, flat]
  | cons y r ih =>
    rw [List.cons_append]
    simp only [bysC]
    rw [ih]
    simp [flat, Nat.add_assoc]
/-- What a joiner holds. -/
def JX (g : Nat) (vs vb : Value) (k : Nat) : Prop := k = g ∨ vs.ownBlock = some k ∨ vb.ownBlock = some k
/-- A joiner in memory: a first text, and pieces of bytes. -/
structure Jn (N : Nat → Prop) (Bs g : Nat) (F : List UInt8) (its : List (Value × List UInt8)) (vs vb : Value) (w : World) : Prop where
  blk : Blk w g 100 #[vs, vb, .int .u32 ((F.length + (flat its).length : Nat) : Int), .int .u8 (lastB (F ++ flat its) : Int)]
  rs : w.ownsRow Bs 120 2 vs 1 [.string (strB F), .int .u32 0]
  rb : w.ownsRow Bs 129 2 vb its.length (bysC F.length its)
  rd : ∀ x ∈ its, RdB (JX g vs vb) w x.1 x.2
  ns : ∀ k, vs.ownBlock = some k → ¬ N k
  nb : ∀ k, vb.ownBlock = some k → ¬ N k
  ne : ∀ k, vs.ownBlock = some k → vb.ownBlock ≠ some k
  gb : g < Bs
/-- A step that leaves the joiner's blocks alone. -/
theorem Jn.kep {N X : Nat → Prop} {Bs g : Nat} {F : List UInt8} {its : List (Value × List UInt8)} {vs vb : Value} {w w' : World} (h : Jn N Bs g F its vs vb w) (k : Kep X w w') (hx : ∀ i, X i → N i) (hg : ¬ N g) (hr : ∀ x ∈ its, RdB (fun i => JX g vs vb i ∨ N i) w x.1 x.2) : Jn N Bs g F its vs vb w' := by
  refine ⟨h.blk.kep k (fun q => hg (hx _ q)), own_kep h.rs k (fun i hi q => h.ns i hi (hx _ q)), own_kep h.rb k (fun i hi q => h.nb i hi (hx _ q)), fun x hxm => ?_, h.ns, h.nb, h.ne, h.gb⟩
  obtain ⟨A, c, h1, h2⟩ := (hr x hxm).kep k (fun i hi => .inl (.inr (hx _ hi)))
  exact ⟨A, c, h1, fun h0 => by
    obtain ⟨R, o, h3, h4, h5, h6⟩ := h2 h0
    exact ⟨R, o, h3, fun q => h4 (.inl q), h5, h6⟩⟩
theorem Jn.below {N : Nat → Prop} {Bs g : Nat} {F : List UInt8} {its : List (Value × List UInt8)} {vs vb : Value} {w w' : World} (h : Jn N Bs g F its vs vb w) (hb : Below w.heap.size w w') : Jn N Bs g F its vs vb w' :=
  ⟨h.blk.below hb, own_below h.rs hb, own_below h.rb hb, fun x hx => (h.rd x hx).kep (Kep.of_below (X := fun _ => False) hb) (fun _ q => q.elim), h.ns, h.nb, h.ne, h.gb⟩
theorem lastB_app2 (a b : List UInt8) (h : 0 < b.length) : lastB (a ++ b) = lastB b := by
  rcases List.eq_nil_or_concat b with rfl | ⟨p, x, rfl⟩
  · simp at h
  · rw [List.concat_eq_append, ← List.append_assoc, lastB_app, lastB_app]
theorem bc_last (bs : List UInt8) (h : 0 < bs.length) : (bc bs)[bs.length - 1]? = some (.int .u8 (lastB bs : Int)) := by
  rcases List.eq_nil_or_concat bs with rfl | ⟨p, x, rfl⟩
  · simp at h
  · rw [List.concat_eq_append, lastB_app]
    simp [bc]

/-- What AddBytes leaves. -/
def JBt (N : Nat → Prop) (Bs g : Nat) (F : List UInt8) (its : List (Value × List UInt8)) (vs vb : Value) (w : World) (v : Value) (bs : List UInt8) (wx : World) : Prop :=
  ∃ vb', Jn N Bs g F (its ++ [(v, bs)]) vs vb' wx ∧ Kep (fun k => k = g ∨ vb.ownBlock = some k) w wx ∧ (vb'.ownBlock = vb.ownBlock ∨ ∃ k, w.heap.size ≤ k ∧ vb'.ownBlock = some k)
/-- Behind the append. -/
def JBm (Bs g : Nat) (F : List UInt8) (its : List (Value × List UInt8)) (vs vb : Value) (w : World) (v : Value) (len L : Nat) (wx : World) : Prop :=
  ∃ k c, Blk wx g 100 #[vs, .slice (some ⟨k, 0, none⟩) (its.length + 1) c, .int .u32 (len : Int), .int .u8 (L : Int)] ∧ wx.ownsRow Bs 129 2 (.slice (some ⟨k, 0, none⟩) (its.length + 1) c) (its.length + 1) (bysC F.length its ++ [v, .int .u32 (len : Int)]) ∧ Kep (fun k => k = g ∨ vb.ownBlock = some k) w wx ∧ (vb.ownBlock = some k ∨ w.heap.size ≤ k)
set_option maxHeartbeats 4000000 in
set_option maxRecDepth 100000 in
theorem addBytes_any (N : Nat → Prop) (Bs g : Nat) (F : List UInt8) (its : List (Value × List UInt8)) (vs vb v : Value) (bs : List UInt8) (w : World) (hJ : Jn N Bs g F its vs vb w) (hN : ∀ k, N k → k < w.heap.size) (hBs : Bs ≤ w.heap.size)
    (hv : RdB (JX g vs vb) w v bs) (hsz : F.length + (flat its).length + bs.length ≤ 4000000000) (hil : its.length ≤ 1000) :
    Calls Tryd.prog 49 #[.pointer (some ⟨g, 0, none⟩), v] w fun e w' => e = .returned (.tuple #[]) ∧ JBt N Bs g F its vs vb w v bs w' := by
  obtain ⟨iJ, hiJ, hJ0, hJ1, hJ2⟩ := info_parts info_jb
  obtain ⟨A, c, rfl, hrd⟩ := hv
  obtain ⟨Ab, cb, rfl, _⟩ := own_form hJ.rb
  have hgw := hJ.blk.lt
  have hgB := hJ.gb
  have c3 : w.cell? ⟨g, 3, none⟩ = some (.int .u8 (lastB (F ++ flat its) : Int)) := hJ.blk.cell 3
  have f3 := hJ.blk.frozen 3
  obtain ⟨len, hlen⟩ : ∃ len, len = F.length + (flat its).length := ⟨_, rfl⟩
  obtain ⟨L, hL⟩ : ∃ L, L = lastB (F ++ flat its ++ bs) := ⟨_, rfl⟩
  have hl0 : ¬ 0 < bs.length → lastB (F ++ flat its) = L := fun h => by rw [hL, List.eq_nil_of_length_eq_zero (l := bs) (by omega), List.append_nil]
  have hl1 : 0 < bs.length → lastB bs = L := fun h => by rw [hL, lastB_app2 _ _ h]
  have hbc := bc_last bs
  have HJ := Lib.hid hJ
  have HRD := Lib.hid hrd
  have HL := Lib.hid hL
  have HLEN := Lib.hid hlen
  have HN := Lib.hid hN
  have hblk : Blk w g 100 #[vs, .slice Ab its.length cb, .int .u32 (len : Int), .int .u8 (lastB (F ++ flat its) : Int)] := by rw [hlen]; exact hJ.blk
  have HG := Lib.hid hblk
  rw [← hlen] at hsz
  obtain ⟨m, hm⟩ : ∃ m, m = bs.length := ⟨_, rfl⟩
  simp only [← hm] at hl0 hl1 hbc hsz hrd ⊢
  have HM := Lib.hid hm
  have HRD2 := Lib.hid hrd
  clear hblk hJ hL hlen hrd hN hm
  generalize lastB (F ++ flat its) = L0 at *
  go_enter Tryd.func49, Tryd.ntmps49
  go_upto_if 6 with fail
  go_cut [] (fun wx => Blk wx g 100 #[vs, .slice Ab its.length cb, .int .u32 (len : Int), .int .u8 (L : Int)] ∧ Kep (fun k => k = g) w wx)
  case first =>
    by_cases h0 : 0 < m
    · obtain ⟨R, o, rfl, h3, h4, h5⟩ := HRD2.out h0
      have hcl := h5 _ _ (hbc h0)
      rw [hl1 h0] at hcl
      have h1 : 1 ≤ m := h0
      clear hbc hl0 hl1 h3 h5
      go_wp2_with fail
      go_meet
      exact ⟨HG.out.set_ 3 _, (Kep.refl (fun k => k = g) w).setCell (.inl rfl) _⟩
    · have E := Lib.hid (hl0 h0)
      clear hbc hl0 hl1
      go_wp2_with fail
      go_meet
      rw [← E.out]
      exact ⟨HG.out, Kep.refl _ _⟩
  case rest =>
    obtain ⟨hb, hk⟩ := hcut
    clear hbc hl0 hl1 c3 f3 HG HRD2
    have c0 : wc.cell? ⟨g, 1, none⟩ = some (.slice Ab its.length cb) := hb.cell 1
    have c2 : wc.cell? ⟨g, 2, none⟩ = some (.int .u32 (len : Int)) := hb.cell 2
    have f0 := hb.frozen 1
    have hltc := hb.lt
    have hrb := own_kep HJ.out.rb hk (fun i hi q => by subst q; have := (own_lt HJ.out.rb hi).1; omega)
    have hneg : (Value.slice Ab its.length cb).ownBlock ≠ some g := fun q => by have := (own_lt HJ.out.rb q).1; omega
    have HRB := Lib.hid hrb
    have HB := Lib.hid hb
    have HK := Lib.hid hk
    have hwz := hk.size
    clear hb hk hrb
    go_upto_region 2 with fail
    go_cut [] (fun wx => JBm Bs g F its vs (.slice Ab its.length cb) w (.slice A m c) len L wx)
    case first =>
      go_region_law (first
        | (refine step_append_lies _ (by rfl) _ _ _ (by rfl) Bs 129 iJ _ 2 32 Tryd.underlying98 hiJ hJ0 hJ1 hJ2 rfl (by omega) (.slice Ab its.length cb) its.length (bysC F.length its) (by rfl) ((HRB.out.drew).alloc _) ⟨wc.heap.size, 0, none⟩ 1 1 [.slice A m c, .int .u32 (len : Int)] (by rfl) (by rfl) (World.news_of_block (cs := #[.slice A m c, .int .u32 (len : Int)]) (t := 129) (fr := (0, 0)) (heap_alloc_new wc.drew _)) (by intro u hu; simp at hu; rcases hu with rfl | rfl <;> rfl) (by omega) (by unfold maxLen; omega) (by omega) (by simp; omega) (wc.heap.size + 1) (by simp) ?_; intro g2 cap2 w2 hown2 hg2 hat2 hlt2; have b2 := (HB.out.drew.alloc (.cells #[.slice A m c, .int .u32 (len : Int)] 129)).grown hg2 hneg; have q0 : w2.cell? ⟨g, 1, none⟩ = some (.slice Ab its.length cb) := b2.cell 1; have q1 := b2.frozen 1; have B2 := Lib.hid b2; have G2 := Lib.hid hg2; have O2 := Lib.hid hown2; have A2 := Lib.hid hat2; clear b2 hg2 hown2 hat2))
      all_goals go_wp2_with fail
      all_goals go_meet
      all_goals refine ⟨g2, cap2, B2.out.set_ 1 _, ownsRow_setCell_below O2.out (by simp only; omega) _, ?_, ?_⟩
      all_goals first
        | exact (((HK.out.mono (fun i _ h => Or.inl h)).drew.alloc (.cells #[.slice A m c, .int .u32 (len : Int)] 129)).grown G2.out (fun k hk => .inl (.inr hk))).setCell (.inl (.inl rfl)) _
        | (rcases A2.out with e | e; exact .inl e; exact .inr (by omega))
    case rest =>
      obtain ⟨k, cc, hb, ho, hk, hkn⟩ := hcut
      have c2' : wc.cell? ⟨g, 2, none⟩ = some (.int .u32 (len : Int)) := hb.cell 2
      have f2 := hb.frozen 2
      have hltc' := hb.lt
      have HB' := Lib.hid hb
      have HO' := Lib.hid ho
      have HK' := Lib.hid (hk.setCell (p := ⟨g, 2, none⟩) (.inl (.inl rfl)) (.int .u32 ((len : Int) + (m : Int))))
      have HKN := Lib.hid hkn
      clear hb ho hk hkn HB HK HRB
      go_wp2_with fail
      go_end0
      have hJ := HJ.out
      have hkb : Value.ownBlock (.slice (some ⟨k, 0, none⟩) (its.length + 1) cc) = some k := rfl
      have hfresh : ∀ i, i < w.heap.size → (Value.slice Ab its.length cb).ownBlock ≠ some i → k ≠ i := fun i hi hn q => by
        rcases HKN.out with e | e
        · exact hn (q ▸ e)
        · omega
      have hrdx : ∀ (x : Value) (ys : List UInt8), RdB (JX g vs (.slice Ab its.length cb)) w x ys → RdB (JX g vs (.slice (some ⟨k, 0, none⟩) (its.length + 1) cc)) (wc.setCell ⟨g, 2, none⟩ (.int .u32 ((len : Int) + (m : Int)))) x ys := fun x ys h => by
        obtain ⟨A1, c1, g1, g2⟩ := h.kep HK'.out (fun i hi => .inl (by rcases hi with e | e; exact .inl e; exact .inr (.inr e)))
        obtain ⟨A2, c2, e1, e2⟩ := h
        refine ⟨A1, c1, g1, fun h0 => ?_⟩
        obtain ⟨R, o, r1, r2, r3, r4⟩ := g2 h0
        obtain ⟨R', o', r1', r2', r3', _⟩ := e2 h0
        have : R = R' := by
          rw [g1] at e1
          injection e1 with e1 _ _
          rw [r1, r1'] at e1
          injection e1 with e1
          injection e1
        subst this
        refine ⟨R, o, r1, ?_, r3, r4⟩
        rintro (q | q | q)
        · exact r2 (.inl q)
        · exact r2 (.inr (.inl q))
        · rw [hkb] at q
          injection q with q
          exact hfresh R r3' (fun e => r2' (.inr (.inr e))) q
      refine ⟨rfl, .slice (some ⟨k, 0, none⟩) (its.length + 1) cc, ⟨?_, ?_, ?_, ?_, hJ.ns, ?_, ?_, hJ.gb⟩, HK'.out, ?_⟩
      · have e1 : F.length + (flat (its ++ [(.slice A m c, bs)])).length = len + m := by rw [flat_snoc, List.length_append, HLEN.out, HM.out]; simp only; omega
        have e2 : lastB (F ++ flat (its ++ [(.slice A m c, bs)])) = L := by rw [flat_snoc, ← List.append_assoc, HL.out]
        rw [e1, e2]
        exact HB'.out.set_ 2 _
      · refine own_kep hJ.rs HK'.out (fun i hi q => ?_)
        rcases q with q | q
        · have := (own_lt hJ.rs hi).1; omega
        · exact hJ.ne i hi q
      · rw [bysC_snoc, List.length_append, List.length_singleton, ← HLEN.out]
        exact ownsRow_setCell_below HO'.out (by simp only; omega) _
      · intro x hx
        rcases List.mem_append.1 hx with hx | hx
        · exact hrdx _ _ (hJ.rd x hx)
        · rw [List.mem_singleton] at hx
          subst hx
          exact hrdx _ _ ⟨A, c, by rw [HM.out], HRD.out⟩
      · intro i hi q
        rw [hkb] at hi
        injection hi with hi
        subst hi
        rcases HKN.out with e | e
        · exact hJ.nb k e q
        · have := HN.out k q; omega
      · intro i hi q
        rw [hkb] at q
        injection q with q
        exact hfresh i (own_lt hJ.rs hi).2 (hJ.ne i hi) q
      · rcases HKN.out with e | e
        · exact .inl e.symm
        · exact .inr ⟨k, e, rfl⟩

theorem lastByte_any (g : Nat) (vs vb : Value) (len L : Int) (w : World) (h : Blk w g 100 #[vs, vb, .int .u32 len, .int .u8 L]) :
    Calls Tryd.prog 54 #[.pointer (some ⟨g, 0, none⟩)] w fun e w' => e = .returned (.int .u8 L) ∧ w = w' := by
  have c3 : w.cell? ⟨g, 3, none⟩ = some (.int .u8 L) := h.cell 3
  clear h
  go_enter Tryd.func54, Tryd.ntmps54
  go_wp2_with fail
  go_ret
  exact ⟨rfl, rfl⟩
end Go.Proofs.YtnokiikgnplpmaaDoor

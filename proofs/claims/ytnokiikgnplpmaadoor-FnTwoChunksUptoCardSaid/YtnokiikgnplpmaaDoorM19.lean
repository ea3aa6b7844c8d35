/-
  The contract of (*Joiner).Done: all pieces, one behind the other. Conditions: at most 4000000000 bytes.
  The contract of bytes.Repeat at one semicolon, and of strings.IndexByte at a comma and a semicolon. Conditions: the count is 1, 2 or 3.
  What AppendSourceMapChunk has in memory; DecodeVLQ and strings.IndexByte at bytes. Conditions: as each lemma says.
-/
import Derived.Test.YtnokiikgnplpmaaDoorM18
import Derived.Laws.CopyOwn
import Derived.Lib.BufferWrite
import Derived.Deep.OwnRows
import Derived.StillTailTactics
import Derived.Lib.MakeNoZero
import Derived.Test.YtnokiikgnplpmaaDoorM2
import Derived.Test.YtnokiikgnplpmaaDoorM14
import Derived.Lib.Bytealg
namespace Go.Proofs.YtnokiikgnplpmaaDoor
open Go.RowKit

/-- copy from a string that fits, at the operation. -/
theorem wpList_copy_string {P : Program} {w : World} {ops : Array Oper} {rest : List Oper} {o : Oper} {a : Act} {Q : Exit → Act → World → Prop} (hgd : o.guard = none) (d s : Operand) (dT sT : TypeId)
    (ho : o.op = .call { callee := .builtin .copy, args := #[d, s], argTypes := #[dT, sT] }) (elem : TypeId) (hu : P.underlying dT = some (.slice elem)) (hsz : (P.info? elem).map (·.size) = some 1)
    (g off dLen dCap : Nat) (s' : List UInt8) (hd : a.eval d = .slice (some ⟨g, off, none⟩) dLen dCap) (hs : a.eval s = .string (strB s'))
    (cur : List Value) (t : TypeId) (hg : w.heap[g]? = some (.cells cur.toArray t (0, 0))) (hle : s'.length ≤ dLen) (hfit : off + s'.length ≤ cur.length) (B : Nat) (w0 : World) (hb : Below B w0 w) (hBg : B ≤ g)
    (h : ∀ w', Hid (w'.heap[g]? = some (.cells (splice cur off (bc s')).toArray t (0, 0))) → Below B w0 w' → wpList P ops Q rest (a.put o.dst (goInt s'.length)) w') :
    wpList P ops Q (o :: rest) a w := by
  refine wpList_plain hgd fun K hK => ?_
  have hrun := Lib.run_copy_row_string (P := P) w dT sT o.type elem g off dLen dCap (strB s') cur.toArray t hu hsz hg (by rw [strB_size]; exact hle) (by rw [strB_size]; simpa using hfit)
  have e1 : Lib.byteCells (strB s').data.toList = bc s' := rfl
  rw [e1, strB_size] at hrun
  unfold Oper.wp
  simp [execOp, ho, resolve, invoke, builtin, hd, hs, hrun, Result.andThen]
  refine hK _ _ (h _ (Lib.hid ?_) ?_)
  · have := setRow_heap w g _ (cur.take off ++ bc s' ++ cur.drop (off + s'.length)).toArray t _ hg
    simpa [splice, bc_len] using this
  · have := below_setRow hb hBg (cur.take off ++ bc s' ++ cur.drop (off + s'.length)).toArray
    simpa using this

/-- The row behind some bytes. -/
def rowB (n : Nat) (pre : List UInt8) : List Value := bc pre ++ List.replicate (n - pre.length) (.int .u8 0)
theorem rowB_len (n : Nat) (pre : List UInt8) (h : pre.length ≤ n) : (rowB n pre).length = n := by
  unfold rowB
  rw [List.length_append, bc_len, List.length_replicate]
  omega
theorem rowB_splice (n : Nat) (pre bs : List UInt8) : splice (rowB n pre) pre.length (bc bs) = rowB n (pre ++ bs) := by
  unfold splice rowB
  rw [List.take_left' (bc_len pre), bc_len]
  have e : (bc pre ++ List.replicate (n - pre.length) (Value.int .u8 0)).drop (pre.length + bs.length) = List.replicate (n - (pre ++ bs).length) (.int .u8 0) := by
    rw [← List.drop_drop, List.drop_left' (bc_len pre), List.drop_replicate, List.length_append]
    congr 1
    omega
  rw [e, bc_app, List.append_assoc]
theorem rowB_one (pre : List UInt8) : ∀ v ∈ bc pre, v.oneCell' = true := by
  intro v hv
  obtain ⟨b, _, rfl⟩ := List.mem_map.1 hv
  rfl
theorem bysC_at (o : Nat) (its : List (Value × List UInt8)) (j : Nat) (h : j < its.length) : (bysC o its)[j * 2]? = some (its[j]'h).1 ∧ (bysC o its)[j * 2 + 1]? = some (.int .u32 ((o + (flat (its.take j)).length : Nat) : Int)) := by
  induction its generalizing o j with
  | nil => simp at h
  | cons x r ih =>
    cases j with
    | zero => simp [bysC, flat]
    | succ j =>
      have := ih (o + x.2.length) j (by simpa using h)
      have e1 : (j + 1) * 2 = j * 2 + 1 + 1 := by omega
      have e2 : (j + 1) * 2 + 1 = j * 2 + 1 + 1 + 1 := by omega
      rw [e1]
      simp only [bysC, List.cons_append, List.nil_append, List.getElem?_cons_succ, List.getElem_cons_succ, List.take_succ_cons]
      refine ⟨this.1, ?_⟩
      rw [this.2]
      simp [flat, Nat.add_assoc]
theorem flat_take (its : List (Value × List UInt8)) (j : Nat) (h : j < its.length) : flat (its.take (j + 1)) = flat (its.take j) ++ (its[j]'h).2 := by
  rw [take_snoc' its j h, flat_snoc]
theorem flat_le (its : List (Value × List UInt8)) (j : Nat) : (flat (its.take j)).length ≤ (flat its).length := by
  have : flat its = flat (its.take j) ++ flat (its.drop j) := by unfold flat; rw [← List.flatMap_append, List.take_append_drop]
  rw [this, List.length_append]
  omega
theorem size_u8 : (Tryd.prog.info? 5).map (·.size) = some 1 := by kernel_rfl
theorem made_zero (n : Nat) : (madeCells #[Value.int .u8 0] n) = (rowB n []).toArray := by
  unfold madeCells rowB bc
  apply Array.ext
  · simp
  · intro i h1 h2
    simp [Nat.mod_one]

set_option maxHeartbeats 4000000 in
set_option maxRecDepth 100000 in
theorem done_any (N : Nat → Prop) (Bs g : Nat) (F : List UInt8) (its : List (Value × List UInt8)) (vs vb : Value) (w : World) (hJ : Jn N Bs g F its vs vb w) (hsz : F.length + (flat its).length ≤ 4000000000) (hil : its.length ≤ 1000) :
    Calls Tryd.prog 40 #[.pointer (some ⟨g, 0, none⟩)] w fun e w' => e = .returned (.slice (some ⟨w.heap.size, 0, none⟩) (F ++ flat its).length (F ++ flat its).length) ∧ Blk w' w.heap.size 5 (bc (F ++ flat its)).toArray ∧ Below w.heap.size w w' := by
  obtain ⟨i0, hi0, hz0, hz1, hz2⟩ := info_parts info_u8
  obtain ⟨As, cs, rfl, hAs⟩ := own_form hJ.rs
  obtain ⟨ks, rfl, hcs⟩ := hAs (by omega)
  obtain ⟨Ab, cb, rfl, hAb⟩ := own_form hJ.rb
  have hks := (own_lt hJ.rs rfl).2
  have s0 : w.cell? ⟨ks, 0, none⟩ = some (.string (strB F)) := hcs 0 _ rfl
  have s1 : w.cell? ⟨ks, 1, none⟩ = some (.int .u32 0) := hcs 1 _ rfl
  have hgw := hJ.blk.lt
  obtain ⟨n, hn⟩ : ∃ n, n = F.length + (flat its).length := ⟨_, rfl⟩
  have hn2 : (F ++ flat its).length = n := by rw [hn, List.length_append]
  have hbl := hJ.blk
  rw [← hn] at hbl hsz
  rw [hn2]
  have c0 : w.cell? ⟨g, 0, none⟩ = some (.slice (some ⟨ks, 0, none⟩) 1 cs) := hbl.cell 0
  have c1 : w.cell? ⟨g, 1, none⟩ = some (.slice Ab its.length cb) := hbl.cell 1
  have c2 : w.cell? ⟨g, 2, none⟩ = some (.int .u32 (n : Int)) := hbl.cell 2
  have HAB := Lib.hid hAb
  have HN := Lib.hid hn
  have HRD := Lib.hid hJ.rd
  have HRB := Lib.hid hJ.rb
  have hFn : F.length ≤ n := by omega
  have B1 := Lib.hid (balloc (Below.refl w.heap.size w) (.cells (madeCells #[.int .u8 0] n) 5))
  have Y1 := Lib.hid (Blk.new w 5 (madeCells #[.int .u8 0] n))
  have HBY : Hid (i0.bytes * n ≤ 281474976710656) := Lib.hid (by rw [hz2]; omega)
  clear hAs hcs hAb hn hn2 hbl hJ
  go_enter Tryd.func40, Tryd.ntmps40
  go_upto_region 4 with (at_make; refine wpList_make_row _ rfl _ _ _ rfl 5 i0 _ Tryd.underlying72 hi0 hz0 hz1 rfl _ _ n rfl rfl HBY.out (by omega) ?_)
  generalize w.alloc (.cells (madeCells #[.int .u8 0] n) 5) = W1 at *
  have hz1' : w.heap.size < W1.heap.size := Y1.out.lt
  have Y2 : Hid (Blk W1 w.heap.size 5 (rowB n []).toArray) := Lib.hid (by rw [← made_zero]; exact Y1.out)
  clear c2 Y1
  have d0 : W1.cell? ⟨g, 0, none⟩ = some (.slice (some ⟨ks, 0, none⟩) 1 cs) := (B1.out.cell (p := ⟨g, 0, none⟩) hgw).trans c0
  have d1 : W1.cell? ⟨g, 1, none⟩ = some (.slice Ab its.length cb) := (B1.out.cell (p := ⟨g, 1, none⟩) hgw).trans c1
  have e0 : W1.cell? ⟨ks, 0, none⟩ = some (.string (strB F)) := (B1.out.cell (p := ⟨ks, 0, none⟩) hks).trans s0
  have e1 : W1.cell? ⟨ks, 1, none⟩ = some (.int .u32 0) := (B1.out.cell (p := ⟨ks, 1, none⟩) hks).trans s1
  clear c0 s0 s1
  go_upto_block 0 with fail
  go_cut [] (fun wx => Blk wx w.heap.size 5 (rowB n F).toArray ∧ Below w.heap.size w wx)
  case first =>
    go_wp2_with fail
    go_loopg [49] 1 (fun f s49 wr => ∃ j : Nat, j + f = 1 ∧ s49 = .int .i64 (j : Int) ∧ Blk wr w.heap.size 5 (rowB n (if j = 0 then [] else F)).toArray ∧ (j = 0 → W1 = wr) ∧ Below w.heap.size w wr)
    case atStart => exact ⟨0, rfl, rfl, Y2.out, fun _ => rfl, B1.out⟩
    case round =>
      obtain ⟨j, hj, rfl, hb, hw1, hbw⟩ := hrel
      rcases (show j = 0 ∨ j = 1 by omega) with rfl | rfl
      · obtain ⟨f, rfl⟩ : ∃ f, gk = f + 1 := ⟨gk - 1, by omega⟩
        obtain rfl := hw1 rfl
        have X1 := Lib.hid (Blk.new W1 120 #[.string (strB F), .int .u32 0])
        have Y3 := Lib.hid (Y2.out.alloc (.cells #[.string (strB F), .int .u32 0] 120))
        have B3 := Lib.hid (balloc B1.out (.cells #[.string (strB F), .int .u32 0] 120))
        clear hb hbw
        have SPL : Hid (splice (rowB n []) 0 (bc F) = rowB n F) := Lib.hid (rowB_splice n [] F)
        have RL : Hid (0 + F.length ≤ (rowB n []).length) := Lib.hid (by rw [rowB_len n [] (by simp)]; omega)
        go_upto_region 7 with fail
        generalize W1.alloc (.cells #[.string (strB F), .int .u32 0] 120) = V at *
        have x0 : V.cell? ⟨W1.heap.size, 0, none⟩ = some (.string (strB F)) := X1.out.cell 0
        have x1 : V.cell? ⟨W1.heap.size, 1, none⟩ = some (.int .u32 0) := X1.out.cell 1
        obtain ⟨rw0, hrw⟩ : ∃ r, r = rowB n [] := ⟨_, rfl⟩
        rw [← hrw] at SPL RL Y3
        clear hrw
        refine wp_region_still_tail 6 (by kernel_rfl) (by kernel_rfl) ?_
        simp only [List.take_succ_cons, List.take_zero, List.drop_succ_cons, List.drop_zero]
        repeat still_step
        refine wpStill_nil ?_
        change wpList _ _ _ _ _ V.drew
        go_wp2_with (refine wpList_copy_string rfl (.tmp 56) (.tmp 58) 72 9 rfl 5 Tryd.underlying72 size_u8 w.heap.size 0 n n F rfl rfl rw0 5 Y3.out.drew (by omega) RL.out w.heap.size w B3.out.drew (Nat.le_refl _) ?_; intro w5 hb5 hbw5; have HB5 := Lib.hid hbw5; clear hbw5)
        go_roundg f
        case measure => omega
        case rel => exact ⟨1, by omega, by go_num, by rw [if_neg (by omega), ← SPL.out]; exact hb5.out, fun q => by omega, HB5.out⟩
      · go_wp2_with fail
        go_meet
        exact ⟨hb, hbw⟩
  case rest =>
    obtain ⟨hb, hbw⟩ := hcut
    have d1' : wc.cell? ⟨g, 1, none⟩ = some (.slice Ab its.length cb) := (hbw.cell (p := ⟨g, 1, none⟩) hgw).trans c1
    have HB := Lib.hid hb
    have HBW := Lib.hid hbw
    clear hb hbw d0 d1 e0 e1 Y2 B1 hz1'
    go_wp2_with fail
    go_loopg [66] its.length (fun f s66 wr => ∃ j : Nat, j + f = its.length ∧ s66 = .int .i64 (j : Int) ∧ Blk wr w.heap.size 5 (rowB n (F ++ flat (its.take j))).toArray ∧ Below w.heap.size w wr)
    case atStart => exact ⟨0, by omega, rfl, by simpa [flat] using HB.out, HBW.out⟩
    case round =>
      obtain ⟨j, hj, rfl, hb, hbw⟩ := hrel
      by_cases hlt : j < its.length
      · obtain ⟨f, rfl⟩ : ∃ f, gk = f + 1 := ⟨gk - 1, by omega⟩
        obtain ⟨kb, rfl, hcb⟩ := HAB.out (by omega)
        have hkb := (own_lt HRB.out rfl).2
        obtain ⟨i1, i2⟩ := bysC_at F.length its j hlt
        obtain ⟨A, c, hv, hrd⟩ := HRD.out (its[j]'hlt) (List.getElem_mem hlt)
        have hft := flat_take its j hlt
        have hfl := flat_le its (j + 1)
        have hfl2 := hfl
        rw [hft, List.length_append] at hfl2
        rw [hv] at i1
        have b0 : wr.cell? ⟨kb, j * 2, none⟩ = some (.slice A (its[j]'hlt).2.length c) := (hbw.cell (p := ⟨kb, j * 2, none⟩) hkb).trans (hcb _ _ i1)
        have b1 : wr.cell? ⟨kb, j * 2 + 1, none⟩ = some (.int .u32 ((F.length + (flat (its.take j)).length : Nat) : Int)) := (hbw.cell (p := ⟨kb, j * 2 + 1, none⟩) hkb).trans (hcb _ _ i2)
        obtain ⟨bs, hbs⟩ : ∃ bs, bs = (its[j]'hlt).2 := ⟨_, rfl⟩
        rw [← hbs] at b0 hrd hft hfl2
        have hnn := HN.out
        obtain ⟨off, hoff⟩ : ∃ off, off = F.length + (flat (its.take j)).length := ⟨_, rfl⟩
        rw [← hoff] at b1
        have hon : off + bs.length ≤ n := by omega
        have hol : (F ++ flat (its.take j)).length = off := by rw [hoff, List.length_append]
        have SPL : Hid (splice (rowB n (F ++ flat (its.take j))) off (bc bs) = rowB n (F ++ flat (its.take (j + 1)))) := Lib.hid (by
          rw [hft, ← hol, rowB_splice, List.append_assoc])
        have RL : Hid (off + (bc bs).length ≤ (rowB n (F ++ flat (its.take j))).length) := Lib.hid (by rw [rowB_len _ _ (by omega), bc_len]; exact hon)
        obtain ⟨rw0, hrw⟩ : ∃ r, r = rowB n (F ++ flat (its.take j)) := ⟨_, rfl⟩
        rw [← hrw] at SPL RL hb
        have hrd' : 0 < (bc bs).length → ∃ ad, A = some ad ∧ ∀ (i : Nat) (u : Value), (bc bs)[i]? = some u → (wr.alloc (.cells #[.slice A bs.length c, .int .u32 (off : Int)] 129)).drew.cell? (ad.add i) = some u := fun h0 => by
          rw [bc_len] at h0
          obtain ⟨R, o, r1, _, r3, r4⟩ := hrd h0
          refine ⟨_, r1, fun i u hi => ?_⟩
          rw [Addr.add_lit]
          have hbw2 := (balloc hbw (.cells #[.slice A bs.length c, .int .u32 (off : Int)] 129)).drew
          exact (hbw2.cell (p := ⟨R, o + i, none⟩) r3).trans (r4 i u hi)
        have HRD' := Lib.hid hrd'
        have X1 := Lib.hid (Blk.new wr 129 #[.slice A bs.length c, .int .u32 (off : Int)])
        have Y3 := Lib.hid (hb.alloc (.cells #[.slice A bs.length c, .int .u32 (off : Int)] 129))
        have B3 := Lib.hid (balloc hbw (.cells #[.slice A bs.length c, .int .u32 (off : Int)] 129))
        have hbl2 : (bc bs).length = Nat.min bs.length (n - off) := by rw [bc_len]; exact (Nat.min_eq_left (by omega)).symm
        have HBL2 := Lib.hid hbl2
        clear hrw hol hft hfl hfl2 hrd hrd' i1 i2 hv hb hbw hcb hoff hbs hnn hbl2
        go_upto_region 12 with fail
        generalize wr.alloc (.cells #[.slice A bs.length c, .int .u32 (off : Int)] 129) = V at *
        have x0 : V.cell? ⟨wr.heap.size, 0, none⟩ = some (.slice A bs.length c) := X1.out.cell 0
        have x1 : V.cell? ⟨wr.heap.size, 1, none⟩ = some (.int .u32 (off : Int)) := X1.out.cell 1
        have o1 : (0 : Int) ≤ (off : Int) := by omega
        have o2 : (off : Int) ≤ (n : Int) := by omega
        rcases Nat.lt_or_ge off n with hcap | hcap
        · have HNE : Hid (¬ n = off) := Lib.hid (by omega)
          refine wp_region_still_tail 6 (by kernel_rfl) (by kernel_rfl) ?_
          simp only [List.take_succ_cons, List.take_zero, List.drop_succ_cons, List.drop_zero]
          repeat still_step
          refine wpStill_nil ?_
          change wpList _ _ _ _ _ V.drew
          go_wp2_with (refine wpList_copy_splice rfl (.tmp 73) (.tmp 75) 72 72 rfl 5 Tryd.underlying72 size_u8 _ A (n - off) _ bs.length c rfl rfl w.heap.size off rw0 5 Y3.out.drew (bc bs) HBL2.out (fun h0 => ⟨if_neg HNE.out, HRD'.out h0⟩) RL.out (rowB_one bs) w.heap.size w B3.out.drew (Nat.le_refl _) ?_; intro w5 hb5 hbw5; have HB5 := Lib.hid hbw5; clear hbw5)
          go_roundg f
          case measure => omega
          case rel => exact ⟨j + 1, by omega, by go_num, by rw [← SPL.out]; exact hb5.out, HB5.out⟩
        · obtain rfl : off = n := by omega
          obtain rfl : bs = [] := List.eq_nil_of_length_eq_zero (by omega)
          refine wp_region_still_tail 6 (by kernel_rfl) (by kernel_rfl) ?_
          simp only [List.take_succ_cons, List.take_zero, List.drop_succ_cons, List.drop_zero]
          repeat still_step
          refine wpStill_nil ?_
          change wpList _ _ _ _ _ V.drew
          go_wp2_with (refine wpList_copy_splice rfl (.tmp 73) (.tmp 75) 72 72 rfl 5 Tryd.underlying72 size_u8 _ A _ _ 0 c rfl rfl w.heap.size off rw0 5 Y3.out.drew (bc []) (by simp [bc]) (fun h => absurd h (by simp [bc])) RL.out (rowB_one []) w.heap.size w B3.out.drew (Nat.le_refl _) ?_; intro w5 hb5 hbw5; have HB5 := Lib.hid hbw5; clear hbw5)
          go_roundg f
          case measure => omega
          case rel => exact ⟨j + 1, by omega, by go_num, by rw [← SPL.out]; exact hb5.out, HB5.out⟩
      · obtain rfl : j = its.length := by omega
        rw [List.take_length] at hb
        have E : Hid (rowB n (F ++ flat its) = bc (F ++ flat its)) := Lib.hid (by
          unfold rowB
          have : n - (F ++ flat its).length = 0 := by rw [List.length_append, HN.out]; omega
          rw [this]
          simp)
        rw [E.out] at hb
        have HB1 := Lib.hid hb
        have HBW1 := Lib.hid hbw
        clear hb hbw
        go_wp2_with fail
        go_ret
        exact ⟨rfl, HB1.out, HBW1.out⟩
end Go.Proofs.YtnokiikgnplpmaaDoor
namespace Go.Proofs.YtnokiikgnplpmaaDoor
open Go.RowKit

set_option maxHeartbeats 1000000 in
set_option maxRecDepth 100000 in
theorem mul1_any (c : Nat) (hc : c = 1 ∨ c = 2 ∨ c = 3) (w : World) :
    Calls Tryd.prog 59 #[.int .u64 1, .int .u64 (c : Int)] w fun e w' => e = .returned (.tuple #[.int .u64 0, .int .u64 (c : Int)]) ∧ w = w' := by
  rcases hc with rfl | rfl | rfl
  all_goals
    go_enter Tryd.func59, Tryd.ntmps59
    go_wp2
    go_ret2
    exact ⟨rfl, rfl⟩

/-- A row that begins with semicolons. -/
def repC (cs : List Value) (b : Nat) : List Value := List.replicate b (.int .u8 59) ++ cs.drop b
theorem repC_len (cs : List Value) (b : Nat) (h : b ≤ cs.length) : (repC cs b).length = cs.length := by
  unfold repC
  rw [List.length_append, List.length_replicate, List.length_drop]
  omega
theorem repC_splice (cs : List Value) (b m : Nat) : splice (repC cs b) b (List.replicate m (.int .u8 59)) = repC cs (b + m) := by
  unfold splice repC
  rw [List.take_left' List.length_replicate, List.length_replicate]
  have e : (List.replicate b (Value.int .u8 59) ++ cs.drop b).drop (b + m) = cs.drop (b + m) := by
    rw [← List.drop_drop, List.drop_left' List.length_replicate, List.drop_drop]
  rw [e, ← List.append_assoc, List.replicate_append_replicate]
theorem repC_at (cs : List Value) (b j : Nat) (h : j < b) : (repC cs b)[j]? = some (.int .u8 59) := by
  unfold repC
  rw [List.getElem?_append_left (by simpa using h)]
  simp [h]
theorem rep_one (m : Nat) : ∀ v ∈ List.replicate m (Value.int .u8 59), v.oneCell' = true := by
  intro v hv
  rw [(List.mem_replicate.1 hv).2]
  rfl

set_option maxHeartbeats 2000000 in
set_option maxRecDepth 100000 in
theorem repeat_any (c : Nat) (hc : c = 1 ∨ c = 2 ∨ c = 3) (R : Nat) (w : World) (hR : w.cell? ⟨R, 0, none⟩ = some (.int .u8 59)) :
    Calls Tryd.prog 50 #[.slice (some ⟨R, 0, none⟩) 1 1, .int .i64 (c : Int)] w fun e w' => (∃ k cap, e = .returned (.slice (some ⟨k, 0, none⟩) c cap) ∧ w.heap.size ≤ k ∧ k < w'.heap.size ∧ ∀ j, j < c → w'.cell? ⟨k, j, none⟩ = some (.int .u8 59)) ∧ Below w.heap.size w w' := by
  have hc3 : 1 ≤ c ∧ c ≤ 3 := by omega
  obtain ⟨cs, hrun, hle, _⟩ := Lib.run_makeNoZero (P := Tryd.prog) w #[3] 72 5 Tryd.underlying72 c (by omega)
  have hcall : (callFunc 60 #[.int .i64 (c : Int)]).run Tryd.prog w = .ok (.value (.slice (some ⟨w.heap.size, 0, none⟩) c cs.size)) (w.drew.drew.alloc (.cells cs 5)) := by
    rw [run_callFunc_extern Tryd.func60 (by kernel_rfl) (by kernel_rfl) (by kernel_rfl) (e := Extern.BytealgMakeNoZero.makeNoZero #[3] #[72]) (by kernel_rfl), hrun]
    rfl
  clear hrun
  have hRw : R < w.heap.size := cell_lt' (p := ⟨R, 0, none⟩) hR
  have hle2 : c ≤ cs.toList.length := by simpa using hle
  have Y1 : Hid (Blk ((w.alloc (.cells cs 5)).drew.drew) w.heap.size 5 (repC cs.toList 0).toArray) := Lib.hid (by
    have e : (repC cs.toList 0).toArray = cs := by simp [repC]
    rw [e]
    exact (Blk.new w _ _).drew.drew)
  have B1 := Lib.hid (((balloc (Below.refl w.heap.size w) (.cells cs 5)).drew).drew)
  have hp1 : ∀ (j : Nat) (v : Value), (List.replicate 1 (Value.int .u8 59))[j]? = some v → ((w.alloc (.cells cs 5)).drew.drew).cell? ((⟨R, 0, none⟩ : Addr).add j) = some v := fun j v hv => by
    have hj : j = 0 := by
      have := (List.getElem?_eq_some_iff.1 hv).1
      simp at this
      omega
    subst hj
    simp at hv
    subst hv
    rw [Addr.add_lit]
    exact (B1.out.cell (p := ⟨R, 0, none⟩) hRw).trans hR
  have HP1 := Lib.hid hp1
  have SP0 : Hid (splice (repC cs.toList 0) 0 (List.replicate 1 (.int .u8 59)) = repC cs.toList 1) := Lib.hid (repC_splice cs.toList 0 1)
  have RL0 : Hid (0 + (List.replicate 1 (Value.int .u8 59)).length ≤ (repC cs.toList 0).length) := Lib.hid (by rw [repC_len _ _ (by omega)]; simp; omega)
  have MN0 : Hid ((List.replicate 1 (Value.int .u8 59)).length = Nat.min 1 c) := Lib.hid (by rw [List.length_replicate]; exact (Nat.min_eq_left (by omega)).symm)
  clear hp1 hR
  go_enter Tryd.func50, Tryd.ntmps50
  go_wp2_with (first
    | (go_at_call 59; refine (mul1_any c hc _).mono ?_; rintro e w' ⟨rfl, rfl⟩)
    | (refine wpList_copy_splice rfl (.tmp 58) (.tmp 59) 72 72 rfl 5 Tryd.underlying72 size_u8 _ _ c c 1 1 rfl rfl w.heap.size 0 (repC cs.toList 0) 5 Y1.out (List.replicate 1 (.int .u8 59)) MN0.out (fun _ => ⟨rfl, _, rfl, HP1.out⟩) RL0.out (rep_one 1) w.heap.size w B1.out (Nat.le_refl _) ?_; intro w5 hb5 hbw5; rw [SP0.out] at hb5; have HB5 := Lib.hid hbw5; clear hbw5))
  have HM := Lib.hid hb5
  clear hb5
  go_loopg [10] c (fun f s10 wr => ∃ bp : Nat, s10 = .int .i64 (bp : Int) ∧ 1 ≤ bp ∧ bp ≤ c ∧ c ≤ bp + f ∧ Blk wr w.heap.size 5 (repC cs.toList bp).toArray ∧ Below w.heap.size w wr)
  case atStart => exact ⟨1, rfl, by omega, by omega, by omega, HM.out.out, HB5.out⟩
  case round =>
    obtain ⟨bp, rfl, h1, h2, h3, hb, hbw⟩ := hrel
    rcases Nat.lt_or_ge bp c with hlt | hge
    · obtain ⟨f, rfl⟩ : ∃ f, gk = f + 1 := ⟨gk - 1, by omega⟩
      obtain ⟨m, hm⟩ : ∃ m, m = Nat.min bp (c - bp) := ⟨_, rfl⟩
      have hm1 : 1 ≤ m ∧ bp + m ≤ c := by
        rw [hm]
        exact ⟨Nat.le_min.2 ⟨h1, by omega⟩, by have : Nat.min bp (c - bp) ≤ c - bp := Nat.min_le_right _ _; omega⟩
      have SP : Hid (splice (repC cs.toList bp) bp (List.replicate m (.int .u8 59)) = repC cs.toList (bp + m)) := Lib.hid (repC_splice cs.toList bp m)
      have RL : Hid (bp + (List.replicate m (Value.int .u8 59)).length ≤ (repC cs.toList bp).length) := Lib.hid (by rw [repC_len _ _ (by omega)]; simp; omega)
      have MN : Hid ((List.replicate m (Value.int .u8 59)).length = Nat.min bp (c - bp)) := Lib.hid (by rw [List.length_replicate]; exact hm)
      have HPc : Hid (∀ (j : Nat) (v : Value), (List.replicate m (Value.int .u8 59))[j]? = some v → wr.drew.cell? ((⟨w.heap.size, 0, none⟩ : Addr).add j) = some v) := Lib.hid (fun j v hv => by
        have hj : j < m := by
          have := (List.getElem?_eq_some_iff.1 hv).1
          simpa using this
        have hbm : m ≤ bp := by rw [hm]; exact Nat.min_le_left _ _
        rw [List.getElem?_replicate, if_pos hj] at hv
        injection hv with hv
        subst hv
        rw [Addr.add_lit, Nat.zero_add, (hb.drew).cell]
        simpa using repC_at cs.toList bp j (by omega))
      have hcp : ∃ w6, (Builtin.copy_ #[72, 72] 3 #[.slice (if c = bp then some ⟨w.heap.size, 0, none⟩ else some ⟨w.heap.size, bp, none⟩) (c - bp) (c - bp), .slice (some ⟨w.heap.size, 0, none⟩) bp c]).run Tryd.prog wr.drew = .ok (.int .i64 (m : Int)) w6 ∧ Blk w6 w.heap.size 5 (repC cs.toList (bp + m)).toArray ∧ Below w.heap.size w w6 := by
        rw [if_neg (by omega)]
        have h := run_copy_row (P := Tryd.prog) wr.drew 72 72 3 5 w.heap.size bp (c - bp) (c - bp) ⟨w.heap.size, 0, none⟩ bp c (repC cs.toList bp).toArray 5 (List.replicate m (.int .u8 59)) Tryd.underlying72 size_u8 hb.drew MN.out HPc.out (by simpa using RL.out) (rep_one m)
        have e : (repC cs.toList bp).toArray.toList.take bp ++ List.replicate m (Value.int .u8 59) ++ (repC cs.toList bp).toArray.toList.drop (bp + (List.replicate m (Value.int .u8 59)).length) = repC cs.toList (bp + m) := by
          rw [List.append_assoc]
          exact SP.out
        rw [e, List.length_replicate] at h
        exact ⟨_, h, setRow_heap wr.drew w.heap.size _ (repC cs.toList (bp + m)).toArray 5 _ hb.drew, below_setRow hbw.drew (Nat.le_refl _) _⟩
      obtain ⟨w6, hcp, hb6, hbw6⟩ := hcp
      have HB6 := Lib.hid hb6
      have HBW6 := Lib.hid hbw6
      clear hb hbw hm hb6 hbw6 SP RL MN HPc
      have hwr : IntKind.i64.wrap ((bp : Int) + (m : Int)) = (bp : Int) + (m : Int) := IntWalk.i64_in _ (by omega)
      go_upto_region 20 with fail
      rw [show (min (bp : Int) (c : Int)) = (bp : Int) from Int.min_eq_left (by omega)]
      go_region_law (fail)
      all_goals go_wp2_with fail
      go_roundg f
      case measure => omega
      case rel => exact ⟨bp + m, by go_num, by omega, by omega, by omega, HB6.out, HBW6.out⟩
    · obtain rfl : bp = c := by omega
      have HB := Lib.hid hb
      have HBW := Lib.hid hbw
      have hk := hb.lt
      clear hb hbw
      go_wp2_with fail
      go_ret
      exact ⟨⟨_, _, rfl, Nat.le_refl _, hk, fun j hj => by rw [HB.out.cell]; simpa using repC_at cs.toList bp j hj⟩, HBW.out⟩
end Go.Proofs.YtnokiikgnplpmaaDoor
namespace Go.Proofs.YtnokiikgnplpmaaDoor
open Go.RowKit

theorem idx_any (b : Nat) (w : World) (h1 : b ≠ 44) (h2 : b ≠ 59) (h3 : b < 256) :
    Calls Tryd.prog 52 #[.string ⟨#[44, 59]⟩, .int .u8 (b : Int)] w fun e w' => e = .returned (.int .i64 (-1)) ∧ w = w' := by
  have hx : Lib.indexByte [44, 59] ((b : Int).toNat.toUInt8) = -1 := by
    have key : ∀ c : Fin 256, c.val ≠ 44 → c.val ≠ 59 → Lib.indexByte [44, 59] ((c.val : Int).toNat.toUInt8) = -1 := by decide +kernel
    exact key ⟨b, h3⟩ h1 h2
  go_enter Tryd.func52, Tryd.ntmps52
  go_wp2
  rw [run_callFunc_extern Tryd.func67 (by kernel_rfl) (by kernel_rfl) (by kernel_rfl) (e := Extern.BytealgIndexByte.indexByte) (by kernel_rfl), Lib.run_indexByteString]
  have e : (⟨#[44, 59]⟩ : ByteArray).data.toList = [44, 59] := rfl
  rw [e, hx]
  simp only [Result.andThen]
  rw [Oper.upon_value]
  go_wp2
  go_ret
  exact ⟨rfl, rfl⟩

/-- A number is decoded, in the midst of bytes. -/
theorem decodeN_any (R cp B : Nat) (pre post : List UInt8) (x : Int) (w : World) (hT : B64 B w) (hx : -17179869184 < x ∧ x < 17179869184) (hl : (pre ++ nb x ++ post).length ≤ 4000000000)
    (hc : ∀ (j : Nat) (u : Value), (bc (pre ++ nb x ++ post))[j]? = some u → w.cell? ⟨R, j, none⟩ = some u) (n i : Nat) (hn : n = (pre ++ nb x ++ post).length) (hi : i = pre.length) :
    Calls Tryd.prog 51 #[.slice (some ⟨R, 0, none⟩) n cp, .int .i64 (i : Int)] w fun e w' => e = .returned (.tuple #[.int .i64 x, .int .i64 ((i + (nb x).length : Nat) : Int)]) ∧ Below w.heap.size w w' := by
  subst hn
  subst hi
  obtain ⟨l, d, e, hd, hl2, hl7, hv⟩ := nd_small x hx.1 hx.2
  have hlen : (nb x).length = l.length + 1 := by rw [nb_len, e]; simp
  have h := decode_any R 0 (pre ++ nb x ++ post).length cp pre.length B l d w hT (by omega) (by simp only [List.length_append]; omega) (fun j hj => ?_) hl2 hd (by omega)
  · refine h.mono ?_
    rintro e' w' ⟨h1, m, rfl⟩
    rw [hv] at h1
    refine ⟨?_, below_drewN (Below.refl _ _) m⟩
    rw [h1, hlen]
    rfl
  · rw [Nat.zero_add]
    refine hc _ _ ?_
    have hj' : j < (nb x).length := by rw [hlen]; simpa using hj
    have hg : (nb x)[j]? = some (UInt8.ofNat (sg ((l ++ [d])[j]'hj))) := by
      have e2 : nb x = (l ++ [d]).map (fun d => UInt8.ofNat (sg d)) := by unfold nb; rw [e]
      rw [e2, List.getElem?_map, List.getElem?_eq_getElem hj]
      rfl
    have hlt : (l ++ [d])[j]'hj < 64 := nd_lt x _ (by rw [e]; exact List.getElem_mem hj)
    have hs := sg_lt _ hlt
    unfold bc
    rw [List.getElem?_map, List.append_assoc, List.getElem?_append_right (by omega), Nat.add_sub_cancel_left, List.getElem?_append_left (by omega), hg]
    simp
    omega

/-- What AppendSourceMapChunk has in memory: a joiner, three variables of its own, the bytes that it reads. -/
def AS (g Bs H M B : Nat) (F : List UInt8) (vs : Value) (Rd : Nat) (D : List UInt8) (pc sc bx : Array Value) (w0 : World) (out : List UInt8) (n : Nat) (w : World) : Prop :=
  ∃ its vb, Jn (fun k => H ≤ k ∧ k ≤ H + 2) Bs g F its vs vb w ∧ flat its = out ∧ its.length ≤ n ∧ Blk w H 77 pc ∧ Blk w (H + 1) 77 sc ∧ Blk w (H + 2) 89 bx ∧
    (∀ (j : Nat) (u : Value), (bc D)[j]? = some u → w.cell? ⟨Rd, j, none⟩ = some u) ∧ B64 B w ∧ Kep (fun k => k = g) w0 w ∧ (∀ k, vb.ownBlock = some k → H + 3 ≤ k ∧ k < M) ∧ M ≤ w.heap.size ∧ H + 3 ≤ w.heap.size ∧ (∀ x ∈ its, RdB (fun i => JX g vs vb i ∨ (H ≤ i ∧ i ≤ H + 2)) w x.1 x.2)
/-- What does not change. -/
structure AC (g Bs H B Rd : Nat) (vs : Value) (w0 : World) : Prop where
  hH : H = w0.heap.size
  gB : g < Bs
  BsH : Bs ≤ H
  BBs : B ≤ g
  RdH : Rd < H
  Rdg : Rd ≠ g
  Rdv : vs.ownBlock ≠ some Rd
  vsH : ∀ k, vs.ownBlock = some k → k < H
section
variable {g Bs H M B Rd n : Nat} {F D out : List UInt8} {vs : Value} {pc sc bx : Array Value} {w0 w : World}
theorem AS.below (c : AC g Bs H B Rd vs w0) (h : AS g Bs H M B F vs Rd D pc sc bx w0 out n w) {w' : World} (hb : Below w.heap.size w w') : AS g Bs H M B F vs Rd D pc sc bx w0 out n w' := by
  obtain ⟨its, vb, a1, a2, a3, a4, a5, a6, a7, a8, a9, a10, a11, a12, a13⟩ := h
  have hz := hb.size
  have hRH := c.RdH
  have hBs := c.BBs
  have hgB := c.gB
  have hBsH := c.BsH
  refine ⟨its, vb, a1.below hb, a2, a3, a4.below hb, a5.below hb, a6.below hb, fun j u hj => (hb.cell (p := ⟨Rd, j, none⟩) (by simp only; omega)).trans (a7 j u hj), a8.below (hb.mono (by omega)), a9.trans (Kep.of_below hb), a10, by omega, by omega, fun x hx => (a13 x hx).kep (Kep.of_below (X := fun _ => False) hb) (fun _ q => q.elim)⟩
theorem AS.setBox (c : AC g Bs H B Rd vs w0) (h : AS g Bs H M B F vs Rd D pc sc bx w0 out n w) {X : Nat} (hX : H ≤ X ∧ X ≤ H + 2) {w' : World} (hk : Kep (fun k => k = X) w w') {pc' sc' : Array Value} (hp : Blk w' H 77 pc') (hs : Blk w' (H + 1) 77 sc') (hb : Blk w' (H + 2) 89 bx) : AS g Bs H M B F vs Rd D pc' sc' bx w0 out n w' := by
  obtain ⟨its, vb, a1, a2, a3, a4, a5, a6, a7, a8, a9, a10, a11, a12, a13⟩ := h
  have hz := hk.size
  have hRH := c.RdH
  have hBs := c.BBs
  have hgB := c.gB
  have hBsH := c.BsH
  have hH := c.hH
  refine ⟨its, vb, a1.kep hk (fun i hi => by subst hi; exact hX) (by omega) a13, a2, a3, hp, hs, hb, fun j u hj => (hk.cell (p := ⟨Rd, j, none⟩) (by simp only; omega) (by simp only; omega)).trans (a7 j u hj), a8.below (hk.below (by omega) (fun k hk e => by omega)), a9.then hk (fun i hi => .inr (by omega)), a10, by omega, by omega, fun x hx => (a13 x hx).kep hk (fun i hi => .inl (.inr (by subst hi; exact hX)))⟩
theorem AS.setP (c : AC g Bs H B Rd vs w0) (h : AS g Bs H M B F vs Rd D pc sc bx w0 out n w) (i : Nat) (u : Value) (pc' : Array Value) (e : pc.setIfInBounds i u = pc') : AS g Bs H M B F vs Rd D pc' sc bx w0 out n (w.setCell ⟨H, i, none⟩ u) := by
  obtain ⟨_, _, _, _, _, a4, a5, a6, _⟩ := id h
  exact h.setBox c ⟨Nat.le_refl _, by omega⟩ ((Kep.refl (fun k => k = H) w).setCell (.inl rfl) u) (e ▸ a4.set_ i u) (a5.far (by simp only; omega) u) (a6.far (by simp only; omega) u)
theorem AS.setS (c : AC g Bs H B Rd vs w0) (h : AS g Bs H M B F vs Rd D pc sc bx w0 out n w) (i : Nat) (u : Value) (sc' : Array Value) (e : sc.setIfInBounds i u = sc') : AS g Bs H M B F vs Rd D pc sc' bx w0 out n (w.setCell ⟨H + 1, i, none⟩ u) := by
  obtain ⟨_, _, _, _, _, a4, a5, a6, _⟩ := id h
  exact h.setBox c ⟨Nat.le_succ _, by omega⟩ ((Kep.refl (fun k => k = H + 1) w).setCell (.inl rfl) u) (a4.far (by simp only; omega) u) (e ▸ a5.set_ i u) (a6.far (by simp only; omega) u)
theorem AS.more (h : AS g Bs H M B F vs Rd D pc sc bx w0 out n w) {n' : Nat} (hn : n ≤ n') : AS g Bs H M B F vs Rd D pc sc bx w0 out n' w := by
  obtain ⟨its, vb, a1, a2, a3, r⟩ := h
  exact ⟨its, vb, a1, a2, Nat.le_trans a3 hn, r⟩
/-- A slice of bytes: of those that are read, or new. -/
def RdV (g H M : Nat) (vs : Value) (w : World) (v : Value) (bs : List UInt8) : Prop :=
  ∃ A c, v = .slice A bs.length c ∧ (0 < bs.length → ∃ R o, A = some ⟨R, o, none⟩ ∧ (R < H ∧ R ≠ g ∧ vs.ownBlock ≠ some R ∨ M ≤ R ∧ H + 3 ≤ R) ∧ R < w.heap.size ∧ ∀ (j : Nat) (u : Value), (bc bs)[j]? = some u → w.cell? ⟨R, o + j, none⟩ = some u)
theorem AS.addBytes (c : AC g Bs H B Rd vs w0) (h : AS g Bs H M B F vs Rd D pc sc bx w0 out n w) {v : Value} {bs : List UInt8} (hv : RdV g H M vs w v bs) (hsz : F.length + out.length + bs.length ≤ 4000000000) (hn : n ≤ 1000) :
    Calls Tryd.prog 49 #[.pointer (some ⟨g, 0, none⟩), v] w fun e w' => e = .returned (.tuple #[]) ∧ AS g Bs H w'.heap.size B F vs Rd D pc sc bx w0 (out ++ bs) (n + 1) w' := by
  obtain ⟨its, vb, a1, a2, a3, a4, a5, a6, a7, a8, a9, a10, a11, a12, a13⟩ := h
  have hRH := c.RdH
  have hBs := c.BBs
  have hgB := c.gB
  have hBsH := c.BsH
  have hH := c.hH
  obtain ⟨A, cp, rfl, hr⟩ := hv
  have hjx : ∀ R, (R < H ∧ R ≠ g ∧ vs.ownBlock ≠ some R ∨ M ≤ R ∧ H + 3 ≤ R) → ¬ (JX g vs vb R ∨ (H ≤ R ∧ R ≤ H + 2)) := by
    intro R hR q
    rcases q with (q | q | q) | q
    · omega
    · rcases hR with ⟨_, _, e⟩ | e
      · exact e q
      · have := c.vsH R q; omega
    · have := a10 R q; omega
    · omega
  have hrd : RdB (fun i => JX g vs vb i ∨ (H ≤ i ∧ i ≤ H + 2)) w (.slice A bs.length cp) bs := ⟨A, cp, rfl, fun h0 => by
    obtain ⟨R, o, r1, r2, r3, r4⟩ := hr h0
    exact ⟨R, o, r1, hjx R r2, r3, r4⟩⟩
  refine (addBytes_any _ Bs g F its vs vb (.slice A bs.length cp) bs w a1 (fun k hk => by omega) (by omega) ⟨A, cp, rfl, fun h0 => by
    obtain ⟨R, o, r1, r2, r3, r4⟩ := hr h0
    exact ⟨R, o, r1, fun q => hjx R r2 (.inl q), r3, r4⟩⟩ (by rw [a2]; exact hsz) (by omega)).mono ?_
  rintro e w' ⟨rfl, vb', b1, b2, b3⟩
  have hz := b2.size
  have hvb : ∀ k, vb.ownBlock = some k → H + 3 ≤ k := fun k hk => (a10 k hk).1
  have hbox : ∀ X, H ≤ X ∧ X ≤ H + 2 → ¬ (X = g ∨ vb.ownBlock = some X) := fun X hX q => by
    rcases q with q | q
    · omega
    · have := hvb X q; omega
  refine ⟨rfl, its ++ [(.slice A bs.length cp, bs)], vb', b1, by rw [flat_snoc, a2], by simp; omega, a4.kep b2 (hbox _ ⟨by omega, by omega⟩), a5.kep b2 (hbox _ ⟨by omega, by omega⟩), a6.kep b2 (hbox _ ⟨by omega, by omega⟩), fun j u hj => ?_, ?_, ?_, ?_, Nat.le_refl _, by omega, ?_⟩
  · refine (b2.cell (p := ⟨Rd, j, none⟩) (by simp only; omega) (fun q => ?_)).trans (a7 j u hj)
    simp only at q
    rcases q with q | q
    · exact c.Rdg q
    · have := hvb Rd q; omega
  · exact a8.below (b2.below (by omega) (fun k hk q => by
      rcases q with q | q
      · omega
      · have := hvb k q; omega))
  · exact a9.then b2 (fun i hi => by
      rcases hi with q | q
      · exact .inl q
      · have := hvb i q; exact .inr (by omega))
  · intro k hk
    rcases b3 with e | ⟨j, hj, e⟩
    · rw [e] at hk; have := a10 k hk; omega
    · have hlt := (own_lt b1.rb hk).2
      rw [e] at hk
      injection hk with hk
      omega
  · intro x hx
    obtain ⟨A1, c1, e1, e2⟩ := b1.rd x hx
    refine ⟨A1, c1, e1, fun h0 => ?_⟩
    obtain ⟨R, o, r1, r2, r3, r4⟩ := e2 h0
    refine ⟨R, o, r1, fun q => ?_, r3, r4⟩
    rcases q with q | q
    · exact r2 q
    · rcases List.mem_append.1 hx with hx | hx
      · obtain ⟨A2, c2, f1, f2⟩ := a13 x hx
        obtain ⟨R2, o2, g1, g2, _, _⟩ := f2 h0
        rw [f1] at e1
        injection e1 with e1 _ _
        rw [g1] at e1
        rw [r1] at e1
        injection e1 with e1
        injection e1 with e1 _ _
        subst e1
        exact g2 (.inr q)
      · rw [List.mem_singleton] at hx
        subst hx
        obtain ⟨A2, c2, f1, f2⟩ := hrd
        obtain ⟨R2, o2, g1, g2, _, _⟩ := f2 h0
        rw [f1] at e1
        injection e1 with e1 _ _
        rw [g1] at e1
        rw [r1] at e1
        injection e1 with e1
        injection e1 with e1 _ _
        subst e1
        exact g2 (.inr q)
theorem AS.decode (c : AC g Bs H B Rd vs w0) (h : AS g Bs H M B F vs Rd D pc sc bx w0 out n w) {pre post : List UInt8} {x : Int} (hD : D = pre ++ nb x ++ post) (hx : -17179869184 < x ∧ x < 17179869184) {cp dl i : Nat} (hdl : dl = D.length) (hd3 : dl ≤ 4000000000) (hi : i = pre.length) :
    Calls Tryd.prog 51 #[.slice (some ⟨Rd, 0, none⟩) dl cp, .int .i64 (i : Int)] w fun e w' => e = .returned (.tuple #[.int .i64 x, .int .i64 ((i + (nb x).length : Nat) : Int)]) ∧ AS g Bs H M B F vs Rd D pc sc bx w0 out n w' := by
  obtain ⟨_, _, _, _, _, _, _, _, a7, a8, _⟩ := id h
  exact (decodeN_any Rd cp B pre post x w a8 hx (by rw [← hD]; omega) (by rw [← hD]; exact a7) dl i (by rw [hdl, hD]) hi).mono fun e w' ⟨h1, h2⟩ => ⟨h1, h.below c h2⟩
theorem AS.data (h : AS g Bs H M B F vs Rd D pc sc bx w0 out n w) (j : Nat) (b : UInt8) (hj : D[j]? = some b) : w.cell? ⟨Rd, j, none⟩ = some (.int .u8 (b.toNat : Int)) := by
  obtain ⟨_, _, _, _, _, _, _, _, a7, _⟩ := h
  refine a7 j _ ?_
  unfold bc
  rw [List.getElem?_map, hj]
  rfl
theorem AS.box2 (h : AS g Bs H M B F vs Rd D pc sc bx w0 out n w) (j : Nat) : w.cell? ⟨H + 2, j, none⟩ = bx[j]? := by
  obtain ⟨_, _, _, _, _, _, _, a6, _⟩ := h
  exact a6.cell j
theorem AS.box1 (h : AS g Bs H M B F vs Rd D pc sc bx w0 out n w) (j : Nat) : w.cell? ⟨H + 1, j, none⟩ = sc[j]? ∧ w.frozen? ⟨H + 1, j, none⟩ = false := by
  obtain ⟨_, _, _, _, _, _, a5, _⟩ := h
  exact ⟨a5.cell j, a5.frozen j⟩
theorem AS.box0 (h : AS g Bs H M B F vs Rd D pc sc bx w0 out n w) (j : Nat) : w.cell? ⟨H, j, none⟩ = pc[j]? ∧ w.frozen? ⟨H, j, none⟩ = false := by
  obtain ⟨_, _, _, _, _, a4, _⟩ := h
  exact ⟨a4.cell j, a4.frozen j⟩
theorem AS.sizes (h : AS g Bs H M B F vs Rd D pc sc bx w0 out n w) : H + 3 ≤ w.heap.size ∧ M ≤ w.heap.size := by
  obtain ⟨_, _, _, _, _, _, _, _, _, _, _, _, h1, h2, _⟩ := h
  exact ⟨h2, h1⟩
/-- A piece of what is read. -/
theorem AS.piece (c : AC g Bs H B Rd vs w0) (h : AS g Bs H M B F vs Rd D pc sc bx w0 out n w) (o : Nat) (bs : List UInt8) (A : Option Addr) (cp : Nat) (hA : 0 < bs.length → A = some ⟨Rd, o, none⟩) (hb : ∀ j, j < bs.length → D[o + j]? = bs[j]?) : RdV g H M vs w (.slice A bs.length cp) bs :=
  ⟨A, cp, rfl, fun h0 => ⟨Rd, o, hA h0, .inl ⟨c.RdH, c.Rdg, c.Rdv⟩, by have := h.sizes.1; have := c.RdH; omega, fun j u hj => by
    have hj' : j < bs.length := by
      have := (List.getElem?_eq_some_iff.1 hj).1
      rwa [bc_len] at this
    have h2 := hb j hj'
    rw [List.getElem?_eq_getElem hj'] at h2
    rw [h.data (o + j) _ h2, ← hj]
    unfold bc
    rw [List.getElem?_map, List.getElem?_eq_getElem hj']
    rfl⟩⟩
end
end Go.Proofs.YtnokiikgnplpmaaDoor

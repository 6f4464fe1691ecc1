/- ServerHello: read by the reference (printed by gen_shr.py). -/
import Derived.Test.YtcikeghdlolkaaaShX
import Derived.Test.YtcikeghdlolkaaaRet
import Derived.Deep.LoopGhost
import Derived.Deep.DeepCutAuto
import Derived.StillTailTactics
namespace Go.Proofs.Ytcikeghdlolkaaa
open Go.RowKit
set_option maxRecDepth 100000

theorem shr_within_len (s : R) (b : List UInt8) : (s.within b).bs.length ≤ b.length := by
  unfold R.within
  simp only
  split <;> simp
theorem shr_extsGo_data (f : Nat) (x : R) (out : List Ex) (h : ∀ e ∈ out, e.2.length < 65536) : ∀ e ∈ (R.extsGo f x out).1, e.2.length < 65536 := by
  induction f generalizing x out with
  | zero => exact h
  | succ f ih =>
    rw [R.extsGo_succ]
    by_cases h0 : x.bs = []
    · rw [if_pos h0]; exact h
    · rw [if_neg h0]
      refine ih _ _ fun e he => ?_
      rcases List.mem_append.1 he with he | he
      · exact h e he
      · simp at he
        rw [he]
        exact shx_vec_len _ _ _ _ (by omega)
theorem shr_exts_data (s : R) : ∀ e ∈ s.exts.1, e.2.length < 65536 := shr_extsGo_data _ _ _ (by simp)
theorem wpStill_loadv {w : World} {ops : Array Oper} {Q : Act → Prop} {a : Act} {o : Oper} {rest : List Oper} {g : Nat} {cs : Array Value} {d : TypeDesc} (T : TypeId) (p : Operand) (ho : o.op = .load T p) (hw : Region.wanted o (yielded ops a.tmps) = true)
    (hx : a.eval p = .pointer (some ⟨g, 0, none⟩)) (hb : Blk w g T cs) (hu : Try.prog.underlying T = some d) (hd : d.isRow = true) (hi : (Try.prog.info? T).map (·.size) = some cs.size) (h : wpStill Try.prog ops w Q rest (a.put o.dst (.agg cs))) : wpStill Try.prog ops w Q (o :: rest) a := by
  refine wpStill_step (fun K hK => ?_)
  rw [if_pos hw]
  unfold Oper.still execOp
  simp only [ho, hx, Instr.loadAt, Instr.sureAddr, Sem.run_bind, Sem.run_pure, Result.andThen_ok, blk_loadVar hb hu hd hi]
  exact ⟨rfl, hK _ h⟩
theorem num1_lt (x : R) : (x.num 1).1 < 256 := by
  have := beNat_lt (x.take 1).1
  rw [take_len] at this
  exact this
theorem sh_fail_code (r : R) : (r.fail 3).code ≠ 0 := by
  unfold R.fail
  split
  · simp
  · assumption
theorem sh_num_code (r : R) (n : Nat) (h : r.code ≠ 0) : (r.num n).2.code = r.code := R.num_code h n
theorem sh_vec_code (r : R) (n lo hi : Nat) (h : r.code ≠ 0) : (r.vec n lo hi).2.code = r.code := R.vec_code h n lo hi
section
variable {w w' : World} {B N m lo hi r : Nat} {v : Value} {data : List UInt8} {cs : Array Value} {M : Sh} {f1 : Fld} {s : R} {xs : List UInt8}
theorem Cpy.less3 {lo' : Nat} (h : Cpy w lo v xs) (hl : lo' ≤ lo) : Cpy w lo' v xs := by
  obtain ⟨g, c, e, h1, h2⟩ := h
  exact ⟨g, c, e, Nat.le_trans hl h1, h2⟩
theorem Cpy.own (h : Cpy w lo v xs) {g : Nat} (hg : v.ownBlock = some g) : lo ≤ g ∧ g < w.heap.size := by
  obtain ⟨g', c, e, h1, h2, h3, h4⟩ := h
  rw [e] at hg
  cases hg
  exact ⟨h1, (Array.getElem?_eq_some_iff.1 h4).1⟩
/-- 'take' of more than there is -/
theorem take_bad (hr : Rd w N r s) (k : Nat) (hk : k ≤ 4294967296) (h : s.bs.length < k) :
    Calls Try.prog 49 #[.pointer (some ⟨r, 0, none⟩), .int .i64 k] w (fun e w' => ∃ A c, e = .returned (.slice A k c) ∧ Upd [r] w w' ∧ Rd w' N r (s.fail 3) ∧ Cpy w' w.heap.size (.slice A k c) (List.replicate k 0)) := by
  have hr0 := hr
  obtain ⟨hN, v, hb, hv⟩ := hr
  obtain ⟨A, c, rfl⟩ := Row.form hv
  have hl := hv.lenCap
  rw [List.length_map] at hv hb hl
  have hm := hl.2
  have hlc := hl.1
  unfold maxLen at hm
  have c0 : w.cell? ⟨r, 0, none⟩ = some (.slice A s.bs.length c) := by rw [hb.cell]; rfl
  have f0 : w.frozen? ⟨r, 0, none⟩ = false := hb.frozen 0
  have hmk : ∀ u : World, (Instr.makeSlice 23 (.int .i64 (k : Int)) (.int .i64 (k : Int))).run Try.prog u =
      .ok (.slice (some ⟨u.heap.size, 0, none⟩) k k) (u.alloc (.cells (madeCells #[.int .u8 0] k) 5)) := fun u => by
    obtain ⟨i0, hi, hz0, hz1, hz2⟩ := info_parts info_u8
    have h := run_make (P := Try.prog) u 23 5 i0 (.int .u8 0) Try.underlying23 hi hz0 .i64 .i64 (k : Int) (k : Int) (by omega) (Int.le_refl _) (by rw [hz2]; omega) (by omega)
    rw [Int.toNat_natCast] at h
    simpa [hz1, Value.cells] using h
  clear hl
  go_enter Try.func49, Try.ntmps49
  go_wp2_with (go_at_call 51; refine (fail_any hr0 3).mono ?_; rintro e w1 ⟨rfl, hu1, hr1⟩)
  go_ret
  refine ⟨some ⟨w1.heap.size, 0, none⟩, k, rfl, hu1.alloc _, hr1.upd (S := []) ((Upd.refl _ _).alloc _) (by simp) (by simp), w1.heap.size, k, by simp, hu1.size, by simp, by unfold maxLen; omega, ?_⟩
  have hbk := Blk.new w1 5 (madeCells #[.int .u8 0] k)
  have e : (madeCells #[Value.int .u8 0] k) = ((List.replicate k (0 : UInt8)).map bv).toArray := by
    apply Array.toList_inj.1
    rw [toList_madeCells_one, List.map_replicate]
    rfl
  rw [← e]
  exact hbk
/-- the reference's message, its random one any field -/
def shFR1 (M : Sh) (f1 : Fld) : List Fld := (shFR M).set 1 f1
theorem shr_more {u : World} (h : FOk u B lo v (.byt M.random)) : Byt u u.heap.size v M.random := Row.shrink (show Byt _ _ _ _ from h)
set_option maxHeartbeats 1000000 in
theorem ShMR.val (h : MSt w B lo hi m 26 cs (shFR1 M f1)) (hf : ∀ v : Value, FOk w B lo v f1 → Byt w w.heap.size v M.random) (hB : B ≤ w.heap.size) : ShV w w.heap.size (.agg cs) M := by
  obtain ⟨l⟩ := cs
  have hl : l.length = 22 := by have := h.len; simpa [shFR1, shFR] using this
  match l, hl with
  | [a0, a1, a2, a3, a4, a5, a6, a7, a8, a9, a10, a11, a12, a13, a14, a15, a16, a17, a18, a19, a20, a21], _ =>
    have y0 := h.ok 0 a0 _ rfl rfl
    have y1 := h.ok 1 a1 _ rfl rfl
    have y2 := h.ok 2 a2 _ rfl rfl
    have y3 := h.ok 3 a3 _ rfl rfl
    have y4 := h.ok 4 a4 _ rfl rfl
    have y5 := h.ok 5 a5 _ rfl rfl
    have y6 := h.ok 6 a6 _ rfl rfl
    have y7 := h.ok 7 a7 _ rfl rfl
    have y8 := h.ok 8 a8 _ rfl rfl
    have y9 := h.ok 9 a9 _ rfl rfl
    have y10 := h.ok 10 a10 _ rfl rfl
    have y11 := h.ok 11 a11 _ rfl rfl
    have y12 := h.ok 12 a12 _ rfl rfl
    have y13 := h.ok 13 a13 _ rfl rfl
    have y14 := h.ok 14 a14 _ rfl rfl
    have y15 := h.ok 15 a15 _ rfl rfl
    have y16 := h.ok 16 a16 _ rfl rfl
    have y17 := h.ok 17 a17 _ rfl rfl
    have y18 := h.ok 18 a18 _ rfl rfl
    have y19 := h.ok 19 a19 _ rfl rfl
    have y20 := h.ok 20 a20 _ rfl rfl
    have y21 := h.ok 21 a21 _ rfl rfl
    obtain rfl : a0 = _ := y0
    replace y1 := hf _ y1
    obtain ⟨A1, c1, rfl, y1, -, -⟩ := Byt.form y1 rfl
    replace y2 := Row.more (show Byt _ _ _ _ from y2) hB
    obtain ⟨A2, c2, rfl, y2, -, -⟩ := Byt.form y2 rfl
    obtain rfl : a3 = _ := y3
    obtain rfl : a4 = _ := y4
    obtain rfl : a5 = _ := y5
    obtain rfl : a6 = _ := y6
    obtain rfl : a7 = _ := y7
    replace y8 := Row.more (show Byt _ _ _ _ from y8) hB
    obtain ⟨A8, c8, rfl, y8, -, -⟩ := Byt.form y8 rfl
    obtain rfl : a9 = _ := y9
    obtain rfl : a10 = _ := y10
    obtain ⟨us11, k1, k2⟩ := show Vecs _ _ _ _ _ from y11
    have y11 : Lst w w.heap.size a11 M.scts := ⟨us11, k1.row, k2.imp fun _ _ hb => hb.more hB⟩
    obtain ⟨A11, c11, rfl⟩ := k1.formN (n := M.scts.length) k2.length
    obtain rfl : a12 = _ := y12
    obtain rfl : a13 = _ := y13
    replace y14 := Row.more (show Byt _ _ _ _ from y14) hB
    obtain ⟨A14, c14, rfl, y14, -, -⟩ := Byt.form y14 rfl
    obtain rfl : a15 = _ := y15
    obtain rfl : a16 = _ := y16
    replace y17 := Row.more (show Byt _ _ _ _ from y17) hB
    obtain ⟨A17, c17, rfl, y17, -, -⟩ := Byt.form y17 rfl
    replace y18 := Row.more (show Byt _ _ _ _ from y18) hB
    obtain ⟨A18, c18, rfl, y18, -, -⟩ := Byt.form y18 rfl
    obtain rfl : a19 = _ := y19
    replace y20 := Row.more (show Byt _ _ _ _ from y20) hB
    obtain ⟨A20, c20, rfl, y20, -, -⟩ := Byt.form y20 rfl
    obtain rfl : a21 = _ := y21
    exact ⟨A1, c1, A2, c2, A8, c8, A11, c11, A14, c14, A17, c17, A18, c18, A20, c20, rfl, y1, y2, y8, y11, y14, y17, y18, y20⟩
/-- the loop over extensions -/
def ShSRel (w : World) (N s base : Nat) (v : Value) (L : List Ex) (M0 : Sh) (r0 : R) (gk : Nat) (i : Value) (wr : World) : Prop :=
  ∃ (j : Nat) (M : Sh) (r : R) (cs : Array Value), j + gk = L.length ∧ i = .int .i64 (j : Int) ∧ MSt wr N (s + 3) wr.heap.size (s + 1) 26 cs (shFR M) ∧ Rd wr N (s + 2) r ∧ EOwn wr base N v L ∧ Upd [s + 2, s + 1] w wr ∧
    specE shRd L (M0, r0) = specE shRd (L.drop j) (M, r)
theorem sh_spec_short {n1 n4 n5 : Nat} {r1 r2 r3 r5 r6 : R} {sid : List UInt8} (a1 : ((bodyR 2 data).num 2).1 = n1) (a2 : ((bodyR 2 data).num 2).2 = r1) (a3 : r1.take 32 = (List.replicate 32 0, r1.fail 3)) (a4 : r1.fail 3 = r2) (a5 : (r2.vec 1 0 255).1 = sid) (a6 : (r2.vec 1 0 255).2 = r3) (a7 : (r3.num 2).1 = n4) (a8 : (r3.num 2).2 = r5) (a9 : (r5.num 1).1 = n5) (a10 : (r5.num 1).2 = r6) (h3 : r3.code ≠ 0) (h6 : r6.code ≠ 0) :
    shSpec data = (shHead (UInt16.ofNat n1) (List.replicate 32 0) sid (UInt16.ofNat n4) (UInt8.ofNat n5), r6) := by
  have e1 : shS1 data = r1 := a2
  have e2 : shS2 data = r2 := by unfold shS2; rw [e1, a3, ← a4]
  have e3 : shS3 data = r3 := by unfold shS3; rw [e2, a6]
  have e4 : shS4 data = r3 := by unfold shS4; rw [e3, if_neg (fun h => h3 h.1)]
  have e5 : shS5 data = r5 := by unfold shS5; rw [e4, a8]
  have e6 : shS6 data = r6 := by unfold shS6; rw [e5, a10]
  have en : shSN data = sid := by unfold shSN; rw [e2, a5]
  unfold shSpec
  rw [e6, if_pos (.inl h6)]
  unfold shM0
  rw [a1, e1, a3, en, e4, a7, e5, a9]
theorem sh_spec_long {n1 n4 n5 : Nat} {r1 r2 r3 r4 r5 r6 : R} {sid xs1 : List UInt8} (a1 : ((bodyR 2 data).num 2).1 = n1) (a2 : ((bodyR 2 data).num 2).2 = r1) (a3 : (r1.take 32).1 = xs1) (a4 : (r1.take 32).2 = r2) (a5 : (r2.vec 1 0 255).1 = sid) (a6 : (r2.vec 1 0 255).2 = r3) (a61 : (if r3.code = 0 ∧ 32 < sid.length then r3.fail 1 else r3) = r4) (a7 : (r4.num 2).1 = n4) (a8 : (r4.num 2).2 = r5) (a9 : (r5.num 1).1 = n5) (a10 : (r5.num 1).2 = r6) :
    shSpec data = if r6.code ≠ 0 ∨ r6.bs.length = 0 then (shHead (UInt16.ofNat n1) xs1 sid (UInt16.ofNat n4) (UInt8.ofNat n5), r6) else specE shRd r6.exts.1 (shHead (UInt16.ofNat n1) xs1 sid (UInt16.ofNat n4) (UInt8.ofNat n5), r6.exts.2.fin) := by
  have e1 : shS1 data = r1 := a2
  have e2 : shS2 data = r2 := by unfold shS2; rw [e1, a4]
  have e3 : shS3 data = r3 := by unfold shS3; rw [e2, a6]
  have en : shSN data = sid := by unfold shSN; rw [e2, a5]
  have e4 : shS4 data = r4 := by unfold shS4; rw [e3, en, a61]
  have e5 : shS5 data = r5 := by unfold shS5; rw [e4, a8]
  have e6 : shS6 data = r6 := by unfold shS6; rw [e5, a10]
  have em : shM0 data = shHead (UInt16.ofNat n1) xs1 sid (UInt16.ofNat n4) (UInt8.ofNat n5) := by unfold shM0; rw [a1, e1, a3, en, e4, a7, e5, a9]
  unfold shSpec
  rw [e6, em]
set_option maxHeartbeats 16000000 in
theorem rf_Sh (hv0 : Byt w w.heap.size v data) : Calls Try.prog 18 #[v] w (RefG ShV w (shSpec data).1 (shSpec data).2.code) := by
  obtain ⟨B, hBe⟩ : ∃ B, w.heap.size = B := ⟨_, rfl⟩
  have hv : Byt w B v data := by rw [← hBe]; exact hv0
  have hB : B ≤ w.heap.size := by omega
  clear hBe hv0
  obtain ⟨A, c, rfl, hv, hl, hc⟩ := Byt.form hv rfl
  obtain ⟨w1, hw1⟩ : ∃ w1, (w.alloc (.cells #[.int .u16 0, .slice none 0 0, .slice none 0 0, .int .u16 0, .int .u8 0, .bool false, .bool false, .bool false, .slice none 0 0, .bool false, strv [], .slice none 0 0, .int .u16 0, .int .u16 0, .slice none 0 0, .bool false, .int .u16 0, .slice none 0 0, .slice none 0 0, .bool false, .slice none 0 0, .int .u16 0] 26)).alloc (.cells #[.int .u16 0, .slice none 0 0, .slice none 0 0, .int .u16 0, .int .u8 0, .bool false, .bool false, .bool false, .slice none 0 0, .bool false, strv [], .slice none 0 0, .int .u16 0, .int .u16 0, .slice none 0 0, .bool false, .int .u16 0, .slice none 0 0, .slice none 0 0, .bool false, .slice none 0 0, .int .u16 0] 26) = w1 := ⟨_, rfl⟩
  obtain ⟨s, hs⟩ : ∃ s, w.heap.size = s := ⟨_, rfl⟩
  have hu1 : Upd [] w w1 := by rw [← hw1]; exact ((Upd.refl _ _).alloc _).alloc _
  have hb1 : Blk w1 s 26 #[.int .u16 0, .slice none 0 0, .slice none 0 0, .int .u16 0, .int .u8 0, .bool false, .bool false, .bool false, .slice none 0 0, .bool false, strv [], .slice none 0 0, .int .u16 0, .int .u16 0, .slice none 0 0, .bool false, .int .u16 0, .slice none 0 0, .slice none 0 0, .bool false, .slice none 0 0, .int .u16 0] := by rw [← hw1, ← hs]; exact (Blk.new _ _ _).alloc _
  have hm1 : Blk w1 (s + 1) 26 #[.int .u16 0, .slice none 0 0, .slice none 0 0, .int .u16 0, .int .u8 0, .bool false, .bool false, .bool false, .slice none 0 0, .bool false, strv [], .slice none 0 0, .int .u16 0, .int .u16 0, .slice none 0 0, .bool false, .int .u16 0, .slice none 0 0, .slice none 0 0, .bool false, .slice none 0 0, .int .u16 0] := by
    rw [← hw1, ← hs]
    have := Blk.new (w.alloc (.cells #[.int .u16 0, .slice none 0 0, .slice none 0 0, .int .u16 0, .int .u8 0, .bool false, .bool false, .bool false, .slice none 0 0, .bool false, strv [], .slice none 0 0, .int .u16 0, .int .u16 0, .slice none 0 0, .bool false, .int .u16 0, .slice none 0 0, .slice none 0 0, .bool false, .slice none 0 0, .int .u16 0] 26)) 26 #[.int .u16 0, .slice none 0 0, .slice none 0 0, .int .u16 0, .int .u8 0, .bool false, .bool false, .bool false, .slice none 0 0, .bool false, strv [], .slice none 0 0, .int .u16 0, .int .u16 0, .slice none 0 0, .bool false, .int .u16 0, .slice none 0 0, .slice none 0 0, .bool false, .slice none 0 0, .int .u16 0]
    rwa [show (w.alloc (.cells #[.int .u16 0, .slice none 0 0, .slice none 0 0, .int .u16 0, .int .u8 0, .bool false, .bool false, .bool false, .slice none 0 0, .bool false, strv [], .slice none 0 0, .int .u16 0, .int .u16 0, .slice none 0 0, .bool false, .int .u16 0, .slice none 0 0, .slice none 0 0, .bool false, .slice none 0 0, .int .u16 0] 26)).heap.size = w.heap.size + 1 by simp] at this
  have hs1 : w1.heap.size = s + 2 := by rw [← hw1, ← hs]; simp
  have hM1 : MSt w1 B (s + 3) (s + 3) (s + 1) 26 #[.int .u16 0, .slice none 0 0, .slice none 0 0, .int .u16 0, .int .u8 0, .bool false, .bool false, .bool false, .slice none 0 0, .bool false, strv [], .slice none 0 0, .int .u16 0, .int .u16 0, .slice none 0 0, .bool false, .int .u16 0, .slice none 0 0, .slice none 0 0, .bool false, .slice none 0 0, .int .u16 0] (shFR Sh.zero) := by
    refine MSt.start (vs := [.int .u16 0, .slice none 0 0, .slice none 0 0, .int .u16 0, .int .u8 0, .bool false, .bool false, .bool false, .slice none 0 0, .bool false, strv [], .slice none 0 0, .int .u16 0, .int .u16 0, .slice none 0 0, .bool false, .int .u16 0, .slice none 0 0, .slice none 0 0, .bool false, .slice none 0 0, .int .u16 0]) hm1 ?_
    exact ⟨⟨rfl, fun e => (by cases e)⟩, ⟨Row.nil_ _ _, fun e => (by cases e)⟩, ⟨Row.nil_ _ _, fun e => (by cases e)⟩, ⟨rfl, fun e => (by cases e)⟩, ⟨rfl, fun e => (by cases e)⟩, ⟨rfl, fun e => (by cases e)⟩, ⟨rfl, fun e => (by cases e)⟩, ⟨rfl, fun e => (by cases e)⟩, ⟨Row.nil_ _ _, fun e => (by cases e)⟩, ⟨rfl, fun e => (by cases e)⟩, ⟨rfl, fun e => (by cases e)⟩, ⟨⟨[], Own.nil_ _ _ _, trivial⟩, fun _ => rfl⟩, ⟨rfl, fun e => (by cases e)⟩, ⟨rfl, fun e => (by cases e)⟩, ⟨Row.nil_ _ _, fun e => (by cases e)⟩, ⟨rfl, fun e => (by cases e)⟩, ⟨rfl, fun e => (by cases e)⟩, ⟨Row.nil_ _ _, fun e => (by cases e)⟩, ⟨Row.nil_ _ _, fun e => (by cases e)⟩, ⟨rfl, fun e => (by cases e)⟩, ⟨Row.nil_ _ _, fun e => (by cases e)⟩, ⟨rfl, fun e => (by cases e)⟩, trivial⟩
  have HBS := hid hb1
  generalize (#[.int .u16 0, .slice none 0 0, .slice none 0 0, .int .u16 0, .int .u8 0, .bool false, .bool false, .bool false, .slice none 0 0, .bool false, strv [], .slice none 0 0, .int .u16 0, .int .u16 0, .slice none 0 0, .bool false, .int .u16 0, .slice none 0 0, .slice none 0 0, .bool false, .slice none 0 0, .int .u16 0] : Array Value) = cs0 at hM1
  have H1 := hid (body_any (w := w1) (N := B) (by have := hu1.size; omega) (Row.upd hv hu1 (by simp)) 2)
  have HW := hid hw1
  have HS1 := hid hs1
  have hBs : B ≤ s := by omega
  have hi22 : (Try.prog.info? 26).map (·.size) = some 22 := by kernel_rfl
  have HI := hid hi22
  obtain ⟨dd, hd1, hd2⟩ := ShV.ok.str
  have HD1 := hid hd1
  clear hw1 hs1 hm1 hb1 hi22 hd1
  go_enter Try.func18, Try.ntmps18
  go_wp2_with fail
  rw [HW.out]
  refine (H1.out).mono ?_
  rintro e w2 ⟨rfl, hu2, hr2⟩
  rw [HS1.out] at hr2
  rw [HS1.out]
  have hU2 := hu1.trans hu2 (by simp)
  have hM2 := hM1.upd hu2 (by simp)
  have HB2 := hid (HBS.out.upd hu2 (by simp))
  have hsz2 : s + 2 < w2.heap.size := hr2.lt
  have hws : w.heap.size ≤ s := by omega
  clear hu2 H1 hM1 HBS
  -- how it ends: the message, the code
  have hend : ∀ (wz : World) (f1 : Fld) (cs : Array Value) (M : Sh) (r : R) (lo hi : Nat), s + 1 < lo → MSt wz B lo hi (s + 1) 26 cs (shFR1 M f1) → (∀ (u : World) (v : Value), FOk u B lo v f1 → Byt u u.heap.size v M.random) → Upd [s + 2, s + 1] w2 wz →
      Hid (VB 26 ShV wz (s + 1) M cs ∧ cs.size = 22 ∧ Blk wz s 26 #[.int .u16 0, .slice none 0 0, .slice none 0 0, .int .u16 0, .int .u8 0, .bool false, .bool false, .bool false, .slice none 0 0, .bool false, strv [], .slice none 0 0, .int .u16 0, .int .u16 0, .slice none 0 0, .bool false, .int .u16 0, .slice none 0 0, .slice none 0 0, .bool false, .slice none 0 0, .int .u16 0] ∧ ∀ w3, Upd [s] wz w3 → ShV w3 w3.heap.size (.agg cs) M ∧ Upd [] w w3) := by
    intro wz f1 cs M r lo hi hlo hM hf hU
    have hz := hU.size
    refine hid ⟨⟨hM.blk, ShMR.val hM (hf _) (by omega)⟩, hM.len, HB2.out.upd hU (by simp), fun w3 hu3 => ⟨?_, (hU2.trans hU (by simp <;> omega)).trans hu3 (by simp <;> omega)⟩⟩
    have := hu3.size
    exact ShMR.val (hM.upd hu3 (by simp <;> omega)) (hf _) (by omega)
  have HEND := hid hend
  clear hend
  have hU2 : Upd [s + 2, s + 1] w2 w2 := Upd.refl _ _
  obtain ⟨n1, hn1⟩ : ∃ n, ((bodyR 2 data).num 2).1 = n := ⟨_, rfl⟩
  obtain ⟨r1, hr1⟩ : ∃ r, ((bodyR 2 data).num 2).2 = r := ⟨_, rfl⟩
  have hltn1 : n1 < 65536 := by rw [← hn1]; exact num2_lt _
  have en1 : Value.int .u16 (n1 : Int) = wv (UInt16.ofNat n1) := by
    show _ = Value.int .u16 ((UInt16.ofNat n1).toNat : Int)
    rw [UInt16.toNat_ofNat_of_lt' (by simpa [UInt16.size] using hltn1)]
  have hmodn1 : ((n1 : Int) % 65536) = (n1 : Int) := by omega
  have H := hid (num_any hr2 2 (by omega))
  rw [hn1, hr1] at H
  go_wp2_with fail
  refine H.out.mono ?_
  rintro e w11 ⟨rfl, hu11, hr11⟩
  have hM11 := hM2.upd hu11 (by simp <;> omega)
  have hU11 := hU2.trans hu11 (by simp <;> omega)
  clear H
  have HNn1 := hid hn1
  have HRr1 := hid hr1
  clear hn1 hr1
  obtain ⟨vc0, hcv0, -⟩ := hM11.get (i := 0) rfl
  have cc0 := hM11.cell hcv0
  have ff0 := hM11.blk.frozen 0
  clear hcv0
  obtain ⟨wA, hwA⟩ : ∃ wA, w11.setCell ⟨s + 1, 0, none⟩ (wv (UInt16.ofNat n1)) = wA := ⟨_, rfl⟩
  have hus12 : Upd [s + 1] w11 wA := by rw [← hwA]; exact (Upd.refl _ _).setCell (by simp) _
  have hbs12 := hM11.blk.set_ 0 (wv (UInt16.ofNat n1))
  rw [hwA] at hbs12
  have hM12 := hM11.putV (i := 0) (f := .val (wv (UInt16.ofNat n1))) (by omega) hus12 (by simp <;> omega) hbs12 rfl rfl
  have hr12 := hr11.upd hus12 (by simp <;> omega) (by simp)
  have hU12 := hU11.trans hus12 (by simp <;> omega)
  have HwA := hid hwA
  clear hwA
  by_cases hsh : r1.bs.length < 32
  · have HT := hid (show r1.take 32 = (List.replicate 32 0, r1.fail 3) by simp [R.take, hsh])
    have H0 := hid hsh
    have H := hid (take_bad hr12 32 (by omega) hsh)
    go_wp2_with fail
    try rw [HwA.out]
    refine H.out.mono ?_
    rintro e w13 ⟨A0, c0, rfl, hu13, hr13, hcp⟩
    have hM13 := hM12.upd hu13 (by simp <;> omega)
    have hU13 := hU12.trans hu13 (by simp <;> omega)
    clear H
    have hzA := hU12.size
    have hzB := hu13.size
    clear hsh
    obtain ⟨r2, hr2e⟩ : ∃ r, r1.fail 3 = r := ⟨_, rfl⟩
    rw [hr2e] at hr13
    have hcode2 : r2.code ≠ 0 := by rw [← hr2e]; exact sh_fail_code r1
    have HR2 := hid hr2e
    clear hr2e
    obtain ⟨vc1, hcv1, -⟩ := hM13.get (i := 1) rfl
    have cc1 := hM13.cell hcv1
    have ff1 := hM13.blk.frozen 1
    clear hcv1
    obtain ⟨wB, hwB⟩ : ∃ wB, w13.setCell ⟨s + 1, 1, none⟩ (.slice A0 32 c0) = wB := ⟨_, rfl⟩
    have hus : Upd [s + 1] w13 wB := by rw [← hwB]; exact (Upd.refl _ _).setCell (by simp) _
    have hbs := hM13.blk.set_ 1 (.slice A0 32 c0)
    rw [hwB] at hbs
    have hM14 := hM13.put (i := 1) (x := .slice A0 32 c0) (f := .cpy true (List.replicate 32 0)) (hi' := w13.heap.size) (by omega) hus (by simp <;> omega) hbs (.inl ⟨rfl, (hcp.upd hus (by simp <;> omega)).less3 (by omega)⟩) (fun _ g hg => .inl (by have := hcp.own hg; omega)) (by omega)
    have hr14 := hr13.upd hus (by simp <;> omega) (by simp)
    have hU14 := hU13.trans hus (by simp <;> omega)
    have HwB := hid hwB
    clear hwB
    have hwBs : w13.heap.size ≤ wB.heap.size := hus.size
    obtain ⟨sid, hsid⟩ : ∃ x, (r2.vec 1 0 255).1 = x := ⟨_, rfl⟩
    obtain ⟨r3, hr3e⟩ : ∃ r, (r2.vec 1 0 255).2 = r := ⟨_, rfl⟩
    have H := hid (vec_any hr14 1 0 255 (by omega))
    go_wp2_with fail
    try rw [HwB.out]
    refine H.out.mono ?_
    rintro e w15 ⟨v1, rfl, hu15, hr15, hyr⟩
    have hM15 := hM14.upd hu15 (by simp <;> omega)
    have hU15 := hU14.trans hu15 (by simp <;> omega)
    clear H
    rw [hsid] at hyr
    rw [hr3e] at hr15
    obtain ⟨A1, c1, rfl, hyr, -, -⟩ := Byt.form hyr rfl
    have HSID := hid hsid
    have HR3 := hid hr3e
    clear hsid hr3e
    obtain ⟨vc2, hcv2, -⟩ := hM15.get (i := 2) rfl
    have cc2 := hM15.cell hcv2
    have ff2 := hM15.blk.frozen 2
    clear hcv2
    obtain ⟨wC, hwC⟩ : ∃ wC, w15.setCell ⟨s + 1, 2, none⟩ (.slice A1 sid.length c1) = wC := ⟨_, rfl⟩
    have hus16 : Upd [s + 1] w15 wC := by rw [← hwC]; exact (Upd.refl _ _).setCell (by simp) _
    have hbs16 := hM15.blk.set_ 2 (.slice A1 sid.length c1)
    rw [hwC] at hbs16
    have hM16 := hM15.putV (i := 2) (f := .byt sid) (by omega) hus16 (by simp <;> omega) hbs16 (Row.upd hyr hus16 (by simp <;> omega)) rfl
    have hr16 := hr15.upd hus16 (by simp <;> omega) (by simp)
    have hU16 := hU15.trans hus16 (by simp <;> omega)
    have HwC := hid hwC
    clear hwC
    have hwC := HwC.out
    have hcode3 : r3.code ≠ 0 := by rw [← HR3.out, sh_vec_code r2 1 0 255 hcode2]; exact hcode2
    have t3 : ((r3.code : Int) == 0) = false := by rw [beq_eq_false_iff_ne]; omega
    obtain ⟨Ar3, cr3, q30, q31, qf30, qf31, -, -⟩ := hr16.open_
    obtain ⟨n4, hn4⟩ : ∃ n, (r3.num 2).1 = n := ⟨_, rfl⟩
    obtain ⟨r5, hr5⟩ : ∃ r, (r3.num 2).2 = r := ⟨_, rfl⟩
    have hltn4 : n4 < 65536 := by rw [← hn4]; exact num2_lt _
    have en4 : Value.int .u16 (n4 : Int) = wv (UInt16.ofNat n4) := by
      show _ = Value.int .u16 ((UInt16.ofNat n4).toNat : Int)
      rw [UInt16.toNat_ofNat_of_lt' (by simpa [UInt16.size] using hltn4)]
    have hmodn4 : ((n4 : Int) % 65536) = (n4 : Int) := by omega
    have H := hid (num_any hr16 2 (by omega))
    rw [hn4, hr5] at H
    go_wp2_with fail
    try rw [HwC.out]
    refine H.out.mono ?_
    rintro e w17 ⟨rfl, hu17, hr17⟩
    have hM17 := hM16.upd hu17 (by simp <;> omega)
    have hU17 := hU16.trans hu17 (by simp <;> omega)
    clear H
    have HNn4 := hid hn4
    have HRr5 := hid hr5
    clear hn4 hr5
    obtain ⟨vc3, hcv3, -⟩ := hM17.get (i := 3) rfl
    have cc3 := hM17.cell hcv3
    have ff3 := hM17.blk.frozen 3
    clear hcv3
    obtain ⟨wD, hwD⟩ : ∃ wD, w17.setCell ⟨s + 1, 3, none⟩ (wv (UInt16.ofNat n4)) = wD := ⟨_, rfl⟩
    have hus18 : Upd [s + 1] w17 wD := by rw [← hwD]; exact (Upd.refl _ _).setCell (by simp) _
    have hbs18 := hM17.blk.set_ 3 (wv (UInt16.ofNat n4))
    rw [hwD] at hbs18
    have hM18 := hM17.putV (i := 3) (f := .val (wv (UInt16.ofNat n4))) (by omega) hus18 (by simp <;> omega) hbs18 rfl rfl
    have hr18 := hr17.upd hus18 (by simp <;> omega) (by simp)
    have hU18 := hU17.trans hus18 (by simp <;> omega)
    have HwD := hid hwD
    clear hwD
    obtain ⟨n5, hn5⟩ : ∃ n, (r5.num 1).1 = n := ⟨_, rfl⟩
    obtain ⟨r6, hr6⟩ : ∃ r, (r5.num 1).2 = r := ⟨_, rfl⟩
    have hltn5 : n5 < 256 := by rw [← hn5]; exact num1_lt _
    have en5 : Value.int .u8 (n5 : Int) = bv (UInt8.ofNat n5) := by
      show _ = Value.int .u8 ((UInt8.ofNat n5).toNat : Int)
      rw [UInt8.toNat_ofNat_of_lt' (by simpa [UInt8.size] using hltn5)]
    have hmodn5 : ((n5 : Int) % 256) = (n5 : Int) := by omega
    have H := hid (num_any hr18 1 (by omega))
    rw [hn5, hr6] at H
    go_wp2_with fail
    try rw [HwD.out]
    refine H.out.mono ?_
    rintro e w19 ⟨rfl, hu19, hr19⟩
    have hM19 := hM18.upd hu19 (by simp <;> omega)
    have hU19 := hU18.trans hu19 (by simp <;> omega)
    clear H
    have HNn5 := hid hn5
    have HRr6 := hid hr6
    clear hn5 hr6
    obtain ⟨vc4, hcv4, -⟩ := hM19.get (i := 4) rfl
    have cc4 := hM19.cell hcv4
    have ff4 := hM19.blk.frozen 4
    clear hcv4
    obtain ⟨wE, hwE⟩ : ∃ wE, w19.setCell ⟨s + 1, 4, none⟩ (bv (UInt8.ofNat n5)) = wE := ⟨_, rfl⟩
    have hus20 : Upd [s + 1] w19 wE := by rw [← hwE]; exact (Upd.refl _ _).setCell (by simp) _
    have hbs20 := hM19.blk.set_ 4 (bv (UInt8.ofNat n5))
    rw [hwE] at hbs20
    have hM20 := hM19.putV (i := 4) (f := .val (bv (UInt8.ofNat n5))) (by omega) hus20 (by simp <;> omega) hbs20 rfl rfl
    have hr20 := hr19.upd hus20 (by simp <;> omega) (by simp)
    have hU20 := hU19.trans hus20 (by simp <;> omega)
    have HwE := hid hwE
    clear hwE
    have hcode6 : r6.code ≠ 0 := by rw [← HRr6.out, sh_num_code r5 1 (by rw [← HRr5.out, sh_num_code r3 2 hcode3]; exact hcode3), ← HRr5.out, sh_num_code r3 2 hcode3]; exact hcode3
    have t6 : ((r6.code : Int) != 0) = true := by rw [bne_iff_ne]; omega
    have hwE := HwE.out
    obtain ⟨hvb, hcz, hbz, hfz⟩ := (HEND.out _ (.cpy true (List.replicate 32 0)) _ (shHead (UInt16.ofNat n1) (List.replicate 32 0) sid (UInt16.ofNat n4) (UInt8.ofNat n5)) r6 (s + 3) w13.heap.size (by omega) (MSt.cast hM20 rfl) (fun u v h => CpN.byt (show CpN _ _ _ _ _ from h)) hU20).out
    have hsp : shSpec data = ((shHead (UInt16.ofNat n1) (List.replicate 32 0) sid (UInt16.ofNat n4) (UInt8.ofNat n5)), r6) := sh_spec_short HNn1.out HRr1.out HT.out HR2.out HSID.out HR3.out HNn4.out HRr5.out HNn5.out HRr6.out hcode3 hcode6
    have HSPF := hid hsp
    obtain ⟨csz, hce, hci, hca⟩ := ShV.ok.agg hvb.2
    injection hce with hce
    rw [hce] at hvb hcz hfz
    clear hce
    have HFZ := hid hfz
    have HCA := hid hca
    have HCZ := hid hcz
    obtain ⟨Ar, cr, q0, q1, qf0, qf1, -, -⟩ := hr20.open_
    clear hca hcz hci hfz hsp
    go_wp2_with fail
    have hci : (Try.prog.info? 26).map (·.size) = some csz.size := by rw [HCZ.out]; exact HI.out
    have hzz : (#[.int .u16 0, .slice none 0 0, .slice none 0 0, .int .u16 0, .int .u8 0, .bool false, .bool false, .bool false, .slice none 0 0, .bool false, strv [], .slice none 0 0, .int .u16 0, .int .u16 0, .slice none 0 0, .bool false, .int .u16 0, .slice none 0 0, .slice none 0 0, .bool false, .slice none 0 0, .int .u16 0] : Array Value).size = csz.size := by rw [HCZ.out]; rfl
    have hld := blk_loadVar (Blk.drew hvb.1) HD1.out hd2 hci
    have hcd : (World.drew _).cell? ⟨s + 2, 1, none⟩ = some _ := q1
    have HCI := hid hci
    have HZZ := hid hzz
    clear hci hzz
    refine wp_region_held (S := fun u => (loadVar 26 ⟨s + 1, 0, none⟩).run Try.prog u = .ok (.agg csz) u ∧ u.cell? ⟨s + 2, 1, none⟩ = some (.int .i64 (r6.code : Int))) (by kernel_rfl) ?_
    change wpAnyH _ _ _ _ _ _ _ _ (World.drew _)
    have HS := And.intro hld hcd
    try simp only [Act.put, List.getElem_toArray, List.getElem_cons_zero, List.getElem_cons_succ, List.setIfInBounds_toArray, List.set_cons_zero, List.set_cons_succ]
    refine wpAnyH_take (i := 0) (v := .agg csz) rfl (by kernel_rfl) (by kernel_rfl) (by kernel_rfl) (fun _ _ _ h => h) (yieldsIf_loadvar _ rfl rfl rfl (fun _ h => h.1)) HS ?_
    try simp only [Act.put, List.getElem_toArray, List.getElem_cons_zero, List.getElem_cons_succ, List.setIfInBounds_toArray, List.set_cons_zero, List.set_cons_succ]
    refine wpAnyH_take (i := 1) (v := ?vQ1_1) rfl (by kernel_rfl) (by kernel_rfl) (by kernel_rfl) (fun _ _ _ h => h) (Or.inl ⟨by rfl, ?hy1_1⟩) HS ?rest1_1
    case hy1_1 =>
      rintro u ⟨-, hu⟩
      go_simp
      try with_reducible rfl
    try simp only [Act.put, List.getElem_toArray, List.getElem_cons_zero, List.getElem_cons_succ, List.setIfInBounds_toArray, List.set_cons_zero, List.set_cons_succ]
    refine wpAnyH_take (i := 2) (v := ?vQ2_1) rfl (by kernel_rfl) (by kernel_rfl) (by kernel_rfl) (fun _ _ _ h => h) (Or.inl ⟨by rfl, ?hy2_1⟩) HS ?rest2_1
    case hy2_1 =>
      rintro u ⟨-, hu⟩
      go_simp
      try with_reducible rfl
    try simp only [Act.put, List.getElem_toArray, List.getElem_cons_zero, List.getElem_cons_succ, List.setIfInBounds_toArray, List.set_cons_zero, List.set_cons_succ]
    refine wpAnyH_take (i := 3) (v := ?vQ3_1) rfl (by kernel_rfl) (by kernel_rfl) (by kernel_rfl) (fun _ _ _ h => h) (Or.inl ⟨by rfl, ?hy3_1⟩) HS ?rest3_1
    case hy3_1 =>
      rintro u ⟨-, hu⟩
      go_simp
      try with_reducible rfl
    try simp only [Act.put, List.getElem_toArray, List.getElem_cons_zero, List.getElem_cons_succ, List.setIfInBounds_toArray, List.set_cons_zero, List.set_cons_succ]
    refine wpAnyH_take (i := 4) (v := ?vQ4_1) rfl (by kernel_rfl) (by kernel_rfl) (by kernel_rfl) (fun _ _ _ h => h) (Or.inl ⟨by rfl, ?hy4_1⟩) HS ?rest4_1
    case hy4_1 =>
      rintro u ⟨-, hu⟩
      go_simp
      try with_reducible rfl
    try simp only [Act.put, List.getElem_toArray, List.getElem_cons_zero, List.getElem_cons_succ, List.setIfInBounds_toArray, List.set_cons_zero, List.set_cons_succ]
    refine wpAnyH_all (rs := [5]) (by kernel_rfl) (by simp) (fun i hi => ?_)
    obtain rfl : i = 5 := by simpa using hi
    clear hi
    refine wpOp_store_any (cs := csz) rfl (Blk.drew hbz) HCI.out HCA.out HZZ.out rfl _ _ rfl rfl rfl ?_
    intro wf hbf huf hsf
    try simp only [Act.put, List.getElem_toArray, List.getElem_cons_zero, List.getElem_cons_succ, List.setIfInBounds_toArray, List.set_cons_zero, List.set_cons_succ]
    refine ⟨⟨blk_loadVar ((Blk.drew hvb.1).upd huf (by simp <;> omega)) HD1.out hd2 HCI.out, huf.cell hcd (by simp <;> omega)⟩, ?_⟩
    have HS := And.intro (blk_loadVar ((Blk.drew hvb.1).upd huf (by simp <;> omega)) HD1.out hd2 HCI.out) (huf.cell hcd (by simp <;> omega))
    refine wpAnyH_take (i := 6) (v := ?vQ6_1) rfl (by kernel_rfl) (by kernel_rfl) (by kernel_rfl) (fun _ _ _ h => h) (Or.inl ⟨by rfl, ?hy6_1⟩) HS ?rest6_1
    case hy6_1 =>
      rintro u ⟨-, hu⟩
      go_simp
      try with_reducible rfl
    try simp only [Act.put, List.getElem_toArray, List.getElem_cons_zero, List.getElem_cons_succ, List.setIfInBounds_toArray, List.set_cons_zero, List.set_cons_succ]
    refine wpAnyH_done (by kernel_rfl) ?_ _
    go_wp2_with fail
    refine bodyPost_ret (v := .tuple #[.agg _, .int .i64 (r6.code : Int)]) (results_cell2 (T := 26) (p := 2) (q := 3) (g := s) rfl _ _ rfl rfl (blk_loadVar hbf HD1.out hd2 HCI.out)) rfl ?_
    rw [HSPF.out]
    have hug : Upd [s] _ wf := ((Upd.refl [s] _).drew).trans huf (by simp)
    exact ⟨_, rfl, (HFZ.out _ hug).1, (HFZ.out _ hug).2⟩
  have htk := take_len r1 32
  obtain ⟨xs1, hxs1⟩ : ∃ x, (r1.take 32).1 = x := ⟨_, rfl⟩
  obtain ⟨r2, hr2e⟩ : ∃ r, (r1.take 32).2 = r := ⟨_, rfl⟩
  rw [hxs1] at htk
  have H := hid (take_any hr12 32 (by omega))
  go_wp2_with fail
  try rw [HwA.out]
  refine H.out.mono ?_
  rintro e w13 ⟨v0, rfl, hu13, hr13, -, hyr⟩
  have hM13 := hM12.upd hu13 (by simp <;> omega)
  have hU13 := hU12.trans hu13 (by simp <;> omega)
  clear H
  replace hyr := hyr.resolve_left hsh
  rw [hxs1] at hyr
  rw [hr2e] at hr13
  obtain ⟨A0, c0, rfl, hyr, -, -⟩ := Byt.form hyr htk
  have HX1 := hid hxs1
  have HR2 := hid hr2e
  clear hxs1 hr2e
  obtain ⟨vc1, hcv1, -⟩ := hM13.get (i := 1) rfl
  have cc1 := hM13.cell hcv1
  have ff1 := hM13.blk.frozen 1
  clear hcv1
  obtain ⟨wB, hwB⟩ : ∃ wB, w13.setCell ⟨s + 1, 1, none⟩ (.slice A0 32 c0) = wB := ⟨_, rfl⟩
  have hus14 : Upd [s + 1] w13 wB := by rw [← hwB]; exact (Upd.refl _ _).setCell (by simp) _
  have hbs14 := hM13.blk.set_ 1 (.slice A0 32 c0)
  rw [hwB] at hbs14
  have hM14 := hM13.putV (i := 1) (f := .byt xs1) (by omega) hus14 (by simp <;> omega) hbs14 (Row.upd hyr hus14 (by simp <;> omega)) rfl
  have hr14 := hr13.upd hus14 (by simp <;> omega) (by simp)
  have hU14 := hU13.trans hus14 (by simp <;> omega)
  have HwB := hid hwB
  clear hwB
  obtain ⟨sid, hsid⟩ : ∃ x, (r2.vec 1 0 255).1 = x := ⟨_, rfl⟩
  obtain ⟨r3, hr3e⟩ : ∃ r, (r2.vec 1 0 255).2 = r := ⟨_, rfl⟩
  have H := hid (vec_any hr14 1 0 255 (by omega))
  go_wp2_with fail
  try rw [HwB.out]
  refine H.out.mono ?_
  rintro e w15 ⟨v1, rfl, hu15, hr15, hyr⟩
  have hM15 := hM14.upd hu15 (by simp <;> omega)
  have hU15 := hU14.trans hu15 (by simp <;> omega)
  clear H
  rw [hsid] at hyr
  rw [hr3e] at hr15
  obtain ⟨A1, c1, rfl, hyr, -, -⟩ := Byt.form hyr rfl
  have HSID := hid hsid
  have HR3 := hid hr3e
  clear hsid hr3e
  obtain ⟨vc2, hcv2, -⟩ := hM15.get (i := 2) rfl
  have cc2 := hM15.cell hcv2
  have ff2 := hM15.blk.frozen 2
  clear hcv2
  obtain ⟨wC, hwC⟩ : ∃ wC, w15.setCell ⟨s + 1, 2, none⟩ (.slice A1 sid.length c1) = wC := ⟨_, rfl⟩
  have hus16 : Upd [s + 1] w15 wC := by rw [← hwC]; exact (Upd.refl _ _).setCell (by simp) _
  have hbs16 := hM15.blk.set_ 2 (.slice A1 sid.length c1)
  rw [hwC] at hbs16
  have hM16 := hM15.putV (i := 2) (f := .byt sid) (by omega) hus16 (by simp <;> omega) hbs16 (Row.upd hyr hus16 (by simp <;> omega)) rfl
  have hr16 := hr15.upd hus16 (by simp <;> omega) (by simp)
  have hU16 := hU15.trans hus16 (by simp <;> omega)
  have HwC := hid hwC
  clear hwC
  obtain ⟨r4, hr4e⟩ : ∃ r, (if r3.code = 0 ∧ 32 < sid.length then r3.fail 1 else r3) = r := ⟨_, rfl⟩
  have HR4 := hid hr4e
  have hcs : r3.code = 0 ∧ 32 < sid.length ∨ r3.code = 0 ∧ ¬ 32 < sid.length ∨ r3.code ≠ 0 := by omega
  have hwCs := hU16.size
  obtain ⟨Ar3, cr3, q30, q31, qf30, qf31, -, -⟩ := hr16.open_
  obtain ⟨vc, hcv, hkv⟩ := hM16.get (i := 2) rfl
  obtain ⟨A2, c2, rfl, -⟩ := Byt.form (show Byt _ _ _ _ from hkv) rfl
  have cc2 := hM16.cell hcv
  clear hcv hkv hr4e
  have hwC := HwC.out
  go_upto_region 6 with fail
  go_cut [32] (fun s32 wx => s32 = .bool (decide (r3.code = 0 ∧ 32 < sid.length)) ∧ wC = wx)
  case first =>
    rcases hcs with ⟨h0, h1⟩ | ⟨h0, h1⟩ | h0
    · have t0 : ((r3.code : Int) == 0) = true := by rw [h0]; rfl
      have t1 : decide ((32 : Int) < (sid.length : Int)) = true := decide_eq_true (by omega)
      have he : decide (r3.code = 0 ∧ 32 < sid.length) = true := decide_eq_true ⟨h0, h1⟩
      clear h0 h1
      go_wp2_with fail
      go_meet
      exact ⟨by rw [he], rfl⟩
    · have t0 : ((r3.code : Int) == 0) = true := by rw [h0]; rfl
      have t1 : decide ((32 : Int) < (sid.length : Int)) = false := decide_eq_false (by omega)
      have he : decide (r3.code = 0 ∧ 32 < sid.length) = false := decide_eq_false (fun h => h1 h.2)
      clear h0 h1
      go_wp2_with fail
      go_meet
      exact ⟨by rw [he], rfl⟩
    · have t0 : ((r3.code : Int) == 0) = false := by rw [beq_eq_false_iff_ne]; omega
      have he : decide (r3.code = 0 ∧ 32 < sid.length) = false := decide_eq_false (fun h => h0 h.1)
      clear h0
      go_wp2_with fail
      go_meet
      exact ⟨by rw [he], rfl⟩
  obtain ⟨rfl, rfl⟩ := hcut
  go_upto_if 32 with fail
  go_cut [] (fun wx => Rd wx B (s + 2) r4 ∧ Upd [s + 2] wC wx)
  case first =>
    by_cases hb : r3.code = 0 ∧ 32 < sid.length
    · have t0 : decide (r3.code = 0 ∧ 32 < sid.length) = true := decide_eq_true hb
      have H := hid (fail_any hr16 1)
      have he : r3.fail 1 = r4 := by rw [← HR4.out, if_pos hb]
      rw [he] at H
      rw [t0]
      clear he hb t0
      go_wp2_with fail
      refine H.out.mono ?_
      rintro e wz ⟨rfl, huz, hrz⟩
      go_wp2_with fail
      go_meet
      exact ⟨hrz, huz⟩
    · have t0 : decide (r3.code = 0 ∧ 32 < sid.length) = false := decide_eq_false hb
      have he : r3 = r4 := by rw [← HR4.out, if_neg hb]
      rw [t0]
      clear hb t0
      go_wp2_with fail
      go_meet
      exact ⟨by rw [← he]; exact hr16, Upd.refl _ _⟩
  obtain ⟨hr50, huC⟩ := hcut
  have hM50 := hM16.upd huC (by simp <;> omega)
  have hU50 := hU16.trans huC (by simp <;> omega)
  clear q30 q31 qf30 qf31 cc2 hcs
  obtain ⟨n4, hn4⟩ : ∃ n, (r4.num 2).1 = n := ⟨_, rfl⟩
  obtain ⟨r5, hr5⟩ : ∃ r, (r4.num 2).2 = r := ⟨_, rfl⟩
  have hltn4 : n4 < 65536 := by rw [← hn4]; exact num2_lt _
  have en4 : Value.int .u16 (n4 : Int) = wv (UInt16.ofNat n4) := by
    show _ = Value.int .u16 ((UInt16.ofNat n4).toNat : Int)
    rw [UInt16.toNat_ofNat_of_lt' (by simpa [UInt16.size] using hltn4)]
  have hmodn4 : ((n4 : Int) % 65536) = (n4 : Int) := by omega
  have H := hid (num_any hr50 2 (by omega))
  rw [hn4, hr5] at H
  go_wp2_with fail
  refine H.out.mono ?_
  rintro e w51 ⟨rfl, hu51, hr51⟩
  have hM51 := hM50.upd hu51 (by simp <;> omega)
  have hU51 := hU50.trans hu51 (by simp <;> omega)
  clear H
  have HNn4 := hid hn4
  have HRr5 := hid hr5
  clear hn4 hr5
  obtain ⟨vc3, hcv3, -⟩ := hM51.get (i := 3) rfl
  have cc3 := hM51.cell hcv3
  have ff3 := hM51.blk.frozen 3
  clear hcv3
  obtain ⟨wD, hwD⟩ : ∃ wD, w51.setCell ⟨s + 1, 3, none⟩ (wv (UInt16.ofNat n4)) = wD := ⟨_, rfl⟩
  have hus52 : Upd [s + 1] w51 wD := by rw [← hwD]; exact (Upd.refl _ _).setCell (by simp) _
  have hbs52 := hM51.blk.set_ 3 (wv (UInt16.ofNat n4))
  rw [hwD] at hbs52
  have hM52 := hM51.putV (i := 3) (f := .val (wv (UInt16.ofNat n4))) (by omega) hus52 (by simp <;> omega) hbs52 rfl rfl
  have hr52 := hr51.upd hus52 (by simp <;> omega) (by simp)
  have hU52 := hU51.trans hus52 (by simp <;> omega)
  have HwD := hid hwD
  clear hwD
  obtain ⟨n5, hn5⟩ : ∃ n, (r5.num 1).1 = n := ⟨_, rfl⟩
  obtain ⟨r6, hr6⟩ : ∃ r, (r5.num 1).2 = r := ⟨_, rfl⟩
  have hltn5 : n5 < 256 := by rw [← hn5]; exact num1_lt _
  have en5 : Value.int .u8 (n5 : Int) = bv (UInt8.ofNat n5) := by
    show _ = Value.int .u8 ((UInt8.ofNat n5).toNat : Int)
    rw [UInt8.toNat_ofNat_of_lt' (by simpa [UInt8.size] using hltn5)]
  have hmodn5 : ((n5 : Int) % 256) = (n5 : Int) := by omega
  have H := hid (num_any hr52 1 (by omega))
  rw [hn5, hr6] at H
  go_wp2_with fail
  try rw [HwD.out]
  refine H.out.mono ?_
  rintro e w53 ⟨rfl, hu53, hr53⟩
  have hM53 := hM52.upd hu53 (by simp <;> omega)
  have hU53 := hU52.trans hu53 (by simp <;> omega)
  clear H
  have HNn5 := hid hn5
  have HRr6 := hid hr6
  clear hn5 hr6
  obtain ⟨vc4, hcv4, -⟩ := hM53.get (i := 4) rfl
  have cc4 := hM53.cell hcv4
  have ff4 := hM53.blk.frozen 4
  clear hcv4
  obtain ⟨wE, hwE⟩ : ∃ wE, w53.setCell ⟨s + 1, 4, none⟩ (bv (UInt8.ofNat n5)) = wE := ⟨_, rfl⟩
  have hus54 : Upd [s + 1] w53 wE := by rw [← hwE]; exact (Upd.refl _ _).setCell (by simp) _
  have hbs54 := hM53.blk.set_ 4 (bv (UInt8.ofNat n5))
  rw [hwE] at hbs54
  have hM54 := hM53.putV (i := 4) (f := .val (bv (UInt8.ofNat n5))) (by omega) hus54 (by simp <;> omega) hbs54 rfl rfl
  have hr54 := hr53.upd hus54 (by simp <;> omega) (by simp)
  have hU54 := hU53.trans hus54 (by simp <;> omega)
  have HwE := hid hwE
  clear hwE
  have hMS := MSt.cast hM54 (show _ = shFR (shHead (UInt16.ofNat n1) xs1 sid (UInt16.ofNat n4) (UInt8.ofNat n5)) from rfl)
  obtain ⟨M0, hM0⟩ : ∃ M0, shHead (UInt16.ofNat n1) xs1 sid (UInt16.ofNat n4) (UInt8.ofNat n5) = M0 := ⟨_, rfl⟩
  have hsp0 : shSpec data = if r6.code ≠ 0 ∨ r6.bs.length = 0 then (M0, r6) else specE shRd r6.exts.1 (M0, r6.exts.2.fin) := by
    rw [← hM0]
    exact sh_spec_long HNn1.out HRr1.out HX1.out HR2.out HSID.out HR3.out HR4.out HNn4.out HRr5.out HNn5.out HRr6.out
  rw [hM0] at hMS
  have HSP0 := hid hsp0
  clear hM0 hsp0
  by_cases hr6 : r6.code ≠ 0 ∨ r6.bs.length = 0
  · have hsp1 : shSpec data = (M0, r6) := by rw [HSP0.out, if_pos hr6]
    have HSP1 := hid hsp1
    clear hsp1
    by_cases h0 : r6.code = 0
    · have t6 : ((r6.code : Int) != 0) = false := by rw [bne_eq_false_iff_eq]; omega
      have t7 : ((r6.bs.length : Int) == 0) = true := by rw [beq_iff_eq]; omega
      clear hr6 h0
      have hwE := HwE.out
      obtain ⟨hvb, hcz, hbz, hfz⟩ := (HEND.out _ (.byt M0.random) _ M0 r6 (s + 3) (s + 3) (by omega) (MSt.cast hMS rfl) (fun u v h => shr_more h) hU54).out
      have hsp : shSpec data = (M0, r6) := HSP1.out
      have HSPF := hid hsp
      obtain ⟨csz, hce, hci, hca⟩ := ShV.ok.agg hvb.2
      injection hce with hce
      rw [hce] at hvb hcz hfz
      clear hce
      have HFZ := hid hfz
      have HCA := hid hca
      have HCZ := hid hcz
      obtain ⟨Ar, cr, q0, q1, qf0, qf1, -, -⟩ := hr54.open_
      clear hca hcz hci hfz hsp
      go_wp2_with fail
      have hci : (Try.prog.info? 26).map (·.size) = some csz.size := by rw [HCZ.out]; exact HI.out
      have hzz : (#[.int .u16 0, .slice none 0 0, .slice none 0 0, .int .u16 0, .int .u8 0, .bool false, .bool false, .bool false, .slice none 0 0, .bool false, strv [], .slice none 0 0, .int .u16 0, .int .u16 0, .slice none 0 0, .bool false, .int .u16 0, .slice none 0 0, .slice none 0 0, .bool false, .slice none 0 0, .int .u16 0] : Array Value).size = csz.size := by rw [HCZ.out]; rfl
      have hld := blk_loadVar (Blk.drew hvb.1) HD1.out hd2 hci
      have hcd : (World.drew _).cell? ⟨s + 2, 1, none⟩ = some _ := q1
      have HCI := hid hci
      have HZZ := hid hzz
      clear hci hzz
      refine wp_region_held (S := fun u => (loadVar 26 ⟨s + 1, 0, none⟩).run Try.prog u = .ok (.agg csz) u ∧ u.cell? ⟨s + 2, 1, none⟩ = some (.int .i64 (r6.code : Int))) (by kernel_rfl) ?_
      change wpAnyH _ _ _ _ _ _ _ _ (World.drew _)
      have HS := And.intro hld hcd
      try simp only [Act.put, List.getElem_toArray, List.getElem_cons_zero, List.getElem_cons_succ, List.setIfInBounds_toArray, List.set_cons_zero, List.set_cons_succ]
      refine wpAnyH_take (i := 0) (v := .agg csz) rfl (by kernel_rfl) (by kernel_rfl) (by kernel_rfl) (fun _ _ _ h => h) (yieldsIf_loadvar _ rfl rfl rfl (fun _ h => h.1)) HS ?_
      try simp only [Act.put, List.getElem_toArray, List.getElem_cons_zero, List.getElem_cons_succ, List.setIfInBounds_toArray, List.set_cons_zero, List.set_cons_succ]
      refine wpAnyH_take (i := 1) (v := ?vQ1_2) rfl (by kernel_rfl) (by kernel_rfl) (by kernel_rfl) (fun _ _ _ h => h) (Or.inl ⟨by rfl, ?hy1_2⟩) HS ?rest1_2
      case hy1_2 =>
        rintro u ⟨-, hu⟩
        go_simp
        try with_reducible rfl
      try simp only [Act.put, List.getElem_toArray, List.getElem_cons_zero, List.getElem_cons_succ, List.setIfInBounds_toArray, List.set_cons_zero, List.set_cons_succ]
      refine wpAnyH_take (i := 2) (v := ?vQ2_2) rfl (by kernel_rfl) (by kernel_rfl) (by kernel_rfl) (fun _ _ _ h => h) (Or.inl ⟨by rfl, ?hy2_2⟩) HS ?rest2_2
      case hy2_2 =>
        rintro u ⟨-, hu⟩
        go_simp
        try with_reducible rfl
      try simp only [Act.put, List.getElem_toArray, List.getElem_cons_zero, List.getElem_cons_succ, List.setIfInBounds_toArray, List.set_cons_zero, List.set_cons_succ]
      refine wpAnyH_take (i := 3) (v := ?vQ3_2) rfl (by kernel_rfl) (by kernel_rfl) (by kernel_rfl) (fun _ _ _ h => h) (Or.inl ⟨by rfl, ?hy3_2⟩) HS ?rest3_2
      case hy3_2 =>
        rintro u ⟨-, hu⟩
        go_simp
        try with_reducible rfl
      try simp only [Act.put, List.getElem_toArray, List.getElem_cons_zero, List.getElem_cons_succ, List.setIfInBounds_toArray, List.set_cons_zero, List.set_cons_succ]
      refine wpAnyH_take (i := 4) (v := ?vQ4_2) rfl (by kernel_rfl) (by kernel_rfl) (by kernel_rfl) (fun _ _ _ h => h) (Or.inl ⟨by rfl, ?hy4_2⟩) HS ?rest4_2
      case hy4_2 =>
        rintro u ⟨-, hu⟩
        go_simp
        try with_reducible rfl
      try simp only [Act.put, List.getElem_toArray, List.getElem_cons_zero, List.getElem_cons_succ, List.setIfInBounds_toArray, List.set_cons_zero, List.set_cons_succ]
      refine wpAnyH_all (rs := [5]) (by kernel_rfl) (by simp) (fun i hi => ?_)
      obtain rfl : i = 5 := by simpa using hi
      clear hi
      refine wpOp_store_any (cs := csz) rfl (Blk.drew hbz) HCI.out HCA.out HZZ.out rfl _ _ rfl rfl rfl ?_
      intro wf hbf huf hsf
      try simp only [Act.put, List.getElem_toArray, List.getElem_cons_zero, List.getElem_cons_succ, List.setIfInBounds_toArray, List.set_cons_zero, List.set_cons_succ]
      refine ⟨⟨blk_loadVar ((Blk.drew hvb.1).upd huf (by simp <;> omega)) HD1.out hd2 HCI.out, huf.cell hcd (by simp <;> omega)⟩, ?_⟩
      have HS := And.intro (blk_loadVar ((Blk.drew hvb.1).upd huf (by simp <;> omega)) HD1.out hd2 HCI.out) (huf.cell hcd (by simp <;> omega))
      refine wpAnyH_take (i := 6) (v := ?vQ6_2) rfl (by kernel_rfl) (by kernel_rfl) (by kernel_rfl) (fun _ _ _ h => h) (Or.inl ⟨by rfl, ?hy6_2⟩) HS ?rest6_2
      case hy6_2 =>
        rintro u ⟨-, hu⟩
        go_simp
        try with_reducible rfl
      try simp only [Act.put, List.getElem_toArray, List.getElem_cons_zero, List.getElem_cons_succ, List.setIfInBounds_toArray, List.set_cons_zero, List.set_cons_succ]
      refine wpAnyH_done (by kernel_rfl) ?_ _
      go_wp2_with fail
      refine bodyPost_ret (v := .tuple #[.agg _, .int .i64 (r6.code : Int)]) (results_cell2 (T := 26) (p := 2) (q := 3) (g := s) rfl _ _ rfl rfl (blk_loadVar hbf HD1.out hd2 HCI.out)) rfl ?_
      rw [HSPF.out]
      have hug : Upd [s] _ wf := ((Upd.refl [s] _).drew).trans huf (by simp)
      exact ⟨_, rfl, (HFZ.out _ hug).1, (HFZ.out _ hug).2⟩
    · have t6 : ((r6.code : Int) != 0) = true := by rw [bne_iff_ne]; omega
      clear hr6 h0
      have hwE := HwE.out
      obtain ⟨hvb, hcz, hbz, hfz⟩ := (HEND.out _ (.byt M0.random) _ M0 r6 (s + 3) (s + 3) (by omega) (MSt.cast hMS rfl) (fun u v h => shr_more h) hU54).out
      have hsp : shSpec data = (M0, r6) := HSP1.out
      have HSPF := hid hsp
      obtain ⟨csz, hce, hci, hca⟩ := ShV.ok.agg hvb.2
      injection hce with hce
      rw [hce] at hvb hcz hfz
      clear hce
      have HFZ := hid hfz
      have HCA := hid hca
      have HCZ := hid hcz
      obtain ⟨Ar, cr, q0, q1, qf0, qf1, -, -⟩ := hr54.open_
      clear hca hcz hci hfz hsp
      go_wp2_with fail
      have hci : (Try.prog.info? 26).map (·.size) = some csz.size := by rw [HCZ.out]; exact HI.out
      have hzz : (#[.int .u16 0, .slice none 0 0, .slice none 0 0, .int .u16 0, .int .u8 0, .bool false, .bool false, .bool false, .slice none 0 0, .bool false, strv [], .slice none 0 0, .int .u16 0, .int .u16 0, .slice none 0 0, .bool false, .int .u16 0, .slice none 0 0, .slice none 0 0, .bool false, .slice none 0 0, .int .u16 0] : Array Value).size = csz.size := by rw [HCZ.out]; rfl
      have hld := blk_loadVar (Blk.drew hvb.1) HD1.out hd2 hci
      have hcd : (World.drew _).cell? ⟨s + 2, 1, none⟩ = some _ := q1
      have HCI := hid hci
      have HZZ := hid hzz
      clear hci hzz
      refine wp_region_held (S := fun u => (loadVar 26 ⟨s + 1, 0, none⟩).run Try.prog u = .ok (.agg csz) u ∧ u.cell? ⟨s + 2, 1, none⟩ = some (.int .i64 (r6.code : Int))) (by kernel_rfl) ?_
      change wpAnyH _ _ _ _ _ _ _ _ (World.drew _)
      have HS := And.intro hld hcd
      try simp only [Act.put, List.getElem_toArray, List.getElem_cons_zero, List.getElem_cons_succ, List.setIfInBounds_toArray, List.set_cons_zero, List.set_cons_succ]
      refine wpAnyH_take (i := 0) (v := .agg csz) rfl (by kernel_rfl) (by kernel_rfl) (by kernel_rfl) (fun _ _ _ h => h) (yieldsIf_loadvar _ rfl rfl rfl (fun _ h => h.1)) HS ?_
      try simp only [Act.put, List.getElem_toArray, List.getElem_cons_zero, List.getElem_cons_succ, List.setIfInBounds_toArray, List.set_cons_zero, List.set_cons_succ]
      refine wpAnyH_take (i := 1) (v := ?vQ1_3) rfl (by kernel_rfl) (by kernel_rfl) (by kernel_rfl) (fun _ _ _ h => h) (Or.inl ⟨by rfl, ?hy1_3⟩) HS ?rest1_3
      case hy1_3 =>
        rintro u ⟨-, hu⟩
        go_simp
        try with_reducible rfl
      try simp only [Act.put, List.getElem_toArray, List.getElem_cons_zero, List.getElem_cons_succ, List.setIfInBounds_toArray, List.set_cons_zero, List.set_cons_succ]
      refine wpAnyH_take (i := 2) (v := ?vQ2_3) rfl (by kernel_rfl) (by kernel_rfl) (by kernel_rfl) (fun _ _ _ h => h) (Or.inl ⟨by rfl, ?hy2_3⟩) HS ?rest2_3
      case hy2_3 =>
        rintro u ⟨-, hu⟩
        go_simp
        try with_reducible rfl
      try simp only [Act.put, List.getElem_toArray, List.getElem_cons_zero, List.getElem_cons_succ, List.setIfInBounds_toArray, List.set_cons_zero, List.set_cons_succ]
      refine wpAnyH_take (i := 3) (v := ?vQ3_3) rfl (by kernel_rfl) (by kernel_rfl) (by kernel_rfl) (fun _ _ _ h => h) (Or.inl ⟨by rfl, ?hy3_3⟩) HS ?rest3_3
      case hy3_3 =>
        rintro u ⟨-, hu⟩
        go_simp
        try with_reducible rfl
      try simp only [Act.put, List.getElem_toArray, List.getElem_cons_zero, List.getElem_cons_succ, List.setIfInBounds_toArray, List.set_cons_zero, List.set_cons_succ]
      refine wpAnyH_take (i := 4) (v := ?vQ4_3) rfl (by kernel_rfl) (by kernel_rfl) (by kernel_rfl) (fun _ _ _ h => h) (Or.inl ⟨by rfl, ?hy4_3⟩) HS ?rest4_3
      case hy4_3 =>
        rintro u ⟨-, hu⟩
        go_simp
        try with_reducible rfl
      try simp only [Act.put, List.getElem_toArray, List.getElem_cons_zero, List.getElem_cons_succ, List.setIfInBounds_toArray, List.set_cons_zero, List.set_cons_succ]
      refine wpAnyH_all (rs := [5]) (by kernel_rfl) (by simp) (fun i hi => ?_)
      obtain rfl : i = 5 := by simpa using hi
      clear hi
      refine wpOp_store_any (cs := csz) rfl (Blk.drew hbz) HCI.out HCA.out HZZ.out rfl _ _ rfl rfl rfl ?_
      intro wf hbf huf hsf
      try simp only [Act.put, List.getElem_toArray, List.getElem_cons_zero, List.getElem_cons_succ, List.setIfInBounds_toArray, List.set_cons_zero, List.set_cons_succ]
      refine ⟨⟨blk_loadVar ((Blk.drew hvb.1).upd huf (by simp <;> omega)) HD1.out hd2 HCI.out, huf.cell hcd (by simp <;> omega)⟩, ?_⟩
      have HS := And.intro (blk_loadVar ((Blk.drew hvb.1).upd huf (by simp <;> omega)) HD1.out hd2 HCI.out) (huf.cell hcd (by simp <;> omega))
      refine wpAnyH_take (i := 6) (v := ?vQ6_3) rfl (by kernel_rfl) (by kernel_rfl) (by kernel_rfl) (fun _ _ _ h => h) (Or.inl ⟨by rfl, ?hy6_3⟩) HS ?rest6_3
      case hy6_3 =>
        rintro u ⟨-, hu⟩
        go_simp
        try with_reducible rfl
      try simp only [Act.put, List.getElem_toArray, List.getElem_cons_zero, List.getElem_cons_succ, List.setIfInBounds_toArray, List.set_cons_zero, List.set_cons_succ]
      refine wpAnyH_done (by kernel_rfl) ?_ _
      go_wp2_with fail
      refine bodyPost_ret (v := .tuple #[.agg _, .int .i64 (r6.code : Int)]) (results_cell2 (T := 26) (p := 2) (q := 3) (g := s) rfl _ _ rfl rfl (blk_loadVar hbf HD1.out hd2 HCI.out)) rfl ?_
      rw [HSPF.out]
      have hug : Upd [s] _ wf := ((Upd.refl [s] _).drew).trans huf (by simp)
      exact ⟨_, rfl, (HFZ.out _ hug).1, (HFZ.out _ hug).2⟩
  have t6 : ((r6.code : Int) != 0) = false := by rw [bne_eq_false_iff_eq]; omega
  have t7 : ((r6.bs.length : Int) == 0) = false := by rw [beq_eq_false_iff_ne]; omega
  have hsp2 : shSpec data = specE shRd r6.exts.1 (M0, r6.exts.2.fin) := by rw [HSP0.out, if_neg hr6]
  have HSP2 := hid hsp2
  clear hr6 hsp2
  obtain ⟨Ar, cr, q0, q1, qf0, qf1, -, -⟩ := hr54.open_
  have H := hid (extensions_any hr54)
  have hwE := HwE.out
  go_wp2_with fail
  try rw [HwE.out]
  refine H.out.mono ?_
  rintro e w71 ⟨v71, rfl, ho71, hu71, hr71⟩
  obtain ⟨A5, c5, rfl, hl5, hc5⟩ := ho71.form
  obtain ⟨L, hL⟩ : ∃ L, r6.exts.1 = L := ⟨_, rfl⟩
  obtain ⟨r7, hr7⟩ : ∃ r, r6.exts.2 = r := ⟨_, rfl⟩
  have hLd : ∀ e ∈ L, e.2.length < 65536 := by rw [← hL]; exact shr_exts_data _
  rw [hL, hr7] at HSP2
  rw [hr7] at hr71
  rw [hL] at ho71 hl5
  rw [hL]
  have HLD := hid hLd
  clear hL hr7 hLd
  have hsE : s + 2 < wE.heap.size := by have := hr54.lt; omega
  have hMS71 := hMS.upd hu71 (by simp <;> omega)
  have hU71 := hU54.trans hu71 (by simp <;> omega)
  generalize wE.heap.size = base at ho71 hsE
  have hne : ∀ g, (Value.slice A5 L.length c5).ownBlock = some g → s + 2 < g := fun g hg => by have := (ho71.ge hg).1; omega
  clear q0 q1 qf0 qf1 H
  have H := hid (end_any hr71)
  go_wp2_with fail
  refine H.out.mono ?_
  rintro e w72 ⟨rfl, hu72, hr72⟩
  have hU72 := hU71.trans hu72 (by simp <;> omega)
  have hM72 := hMS71.upd hu72 (by simp <;> omega)
  have ho72 := ho71.upd hu72 (fun g hg hm => by have := hne g hg; simp at hm; omega) (by simp <;> omega)
  have hM72' := hM72.wide (hi' := w72.heap.size) (by have := hr72.lt; omega)
  clear hMS71 hU71 hu72 H hr71 ho71 hM72 hMS HwE hwE
  go_wp2_with fail
  go_loopg [67] L.length (fun gk i wr => ShSRel w2 B s base (.slice A5 L.length c5) L M0 r7.fin gk i wr)
  case atStart => exact ⟨0, M0, r7.fin, _, by omega, rfl, hM72', hr72, ho72, hU72, rfl⟩
  case round =>
    obtain ⟨j, M, r, csj, hj0, rfl, hMr, hrr, how, hur, hE⟩ := hrel
    have HJ := hid hj0
    have HE := hid hE
    have hus := hur.size
    clear hM72' hr72 ho72 hU72 hj0 hE
    by_cases hlt : j < L.length
    · obtain ⟨b, o, rfl, hb', hj', A', c', e0, e1, hy, hy1, hy2⟩ := how.exr.at_ hlt
      have hxm := HLD.out _ (List.getElem_mem hlt)
      have hdrop := List.drop_eq_getElem_cons hlt
      generalize L[j] = x at e0 e1 hy hy1 hy2 hxm hdrop
      obtain ⟨xk, xd⟩ := x
      have hstep : specE shRd (L.drop j) (M, r) = specE shRd (L.drop (j + 1)) ((shRd M xk (r.within xd)).1, r.done (shRd M xk (r.within xd)).2) := by
        rw [hdrop]; rfl
      have HST := hid hstep
      have hxm : xd.length < 65536 := hxm
      clear hstep hdrop
      obtain ⟨wX, hwX⟩ : ∃ wX, wr.alloc (.cells #[wv xk, .slice A' xd.length c'] 78) = wX := ⟨_, rfl⟩
      obtain ⟨g, hg⟩ : ∃ g, wr.heap.size = g := ⟨_, rfl⟩
      have huX : Upd [] wr wX := by rw [← hwX]; exact (Upd.refl _ _).alloc _
      have hbg : Blk wX g 78 #[wv xk, .slice A' xd.length c'] := by rw [← hwX, ← hg]; exact Blk.new _ _ _
      have hsg : s + 2 < g := by have := hrr.lt; omega
      have hwg : w2.heap.size ≤ g := by omega
      have hob : ∀ g', (Value.slice (some ⟨b, o, none⟩) L.length c5).ownBlock = some g' → g' < g := fun g' hg' => by have := (how.ge hg').2; omega
      rw [hg] at hMr
      have hMA := hMr.upd huX (by simp)
      have hrA := hrr.upd huX (by simp) (by simp)
      have hoA := how.upd huX (by simp) (by simp)
      have hurA := hur.trans huX (by simp)
      have hyA : Byt wX B (.slice A' xd.length c') xd := Row.upd hy huX (by simp)
      have hgl := hbg.lt
      have HH := hid (within_any hrA (N' := B) (by omega) hyA)
      have d0 := hbg.cell 0
      have d1 := hbg.cell 1
      simp at d0 d1
      have HWX := hid hwX
      have Hg := hid hg
      clear hwX hg hMr hrr how hur huX hy
      go_wp2_with fail
      rw [HWX.out, Hg.out]
      go_wp2_with fail
      refine HH.out.mono ?_
      rintro e w73 ⟨rfl, hu73, hq73⟩
      have hgq : g < wX.heap.size := hgl
      generalize wX.heap.size = q at hq73 hgq
      have hM73 := hMA.upd hu73 (by simp)
      have hr73 := hrA.upd hu73 (by simp) (by simp)
      have ho73 := hoA.upd hu73 (by simp) (by simp)
      have hur73 := hurA.trans hu73 (by simp)
      have hbg73 := hbg.upd hu73 (by simp)
      have d0 := hbg73.cell 0
      simp at d0
      have hwl := shr_within_len r xd
      have hql := hq73.lt
      have hoq : ∀ g', (Value.slice (some ⟨b, o, none⟩) L.length c5).ownBlock = some g' → g' < g ∧ s + 2 < g' := fun g' hg' => ⟨hob g' hg', hne g' hg'⟩
      have HX := hid (ext_Sh xk hq73 hM73 (by omega) (by omega) (by omega) (by omega) (by omega) (by omega))
      clear hMA hrA hoA hurA hyA hu73 hbg HH d1 hob HWX Hg
      go_wp2_with fail
      refine HX.out.mono ?_
      rintro e w74 ⟨rfl, hu74, hq74, cs74, hM74, hno74⟩
      have hr74 := hr73.upd hu74 (by simp <;> omega) (by simp <;> omega)
      have ho74 := ho73.upd hu74 (fun g' hg' hm => by have := hoq g' hg'; simp at hm; omega) (by simp <;> omega)
      have hur74 := hur73.trans hu74 (by simp <;> omega)
      have HD := hid (done_any hr74 hq74 (by omega) (by omega))
      clear HX hM73 hr73 ho73 hur73 hu74 hq73
      go_wp2_with fail
      refine HD.out.mono ?_
      rintro e w75 ⟨rfl, hu75, hr75⟩
      have hql2 := hq74.lt
      have hM75 := hM74.updx hu75 (by omega) hno74
      have ho75 := ho74.upd hu75 (fun g' hg' hm => by have := hoq g' hg'; simp at hm; omega) (by simp <;> omega)
      have hur75 := hur74.trans hu75 (by simp <;> omega)
      have hM75' := hM75.wide (hi' := w75.heap.size) (by have := hu75.size; omega)
      clear hM74 hr74 ho74 hur74 hu75 hq74 HD hM75
      go_wp2
      go_roundg (L.length - (j + 1))
      case measure => have := HJ.out; omega
      case rel => exact ⟨j + 1, _, _, _, by have := HJ.out; omega, by go_num, hM75', hr75, ho75, hur75, by rw [HE.out, HST.out]⟩
    · have hj0 := HJ.out
      obtain rfl : j = L.length := by omega
      have hfin : shSpec data = (M, r) := by rw [HSP2.out, HE.out, List.drop_length]; rfl
      have HFIN := hid hfin
      clear hfin
      obtain ⟨hvb, hcz, hbz, hfz⟩ := (HEND.out _ (.byt M.random) _ M r (s + 3) wr.heap.size (by omega) (MSt.cast hMr rfl) (fun u v h => shr_more h) hur).out
      have hsp : shSpec data = (M, r) := HFIN.out
      have HSPF := hid hsp
      obtain ⟨csz, hce, hci, hca⟩ := ShV.ok.agg hvb.2
      injection hce with hce
      rw [hce] at hvb hcz hfz
      clear hce
      have HFZ := hid hfz
      have HCA := hid hca
      have HCZ := hid hcz
      obtain ⟨Ar, cr, q0, q1, qf0, qf1, -, -⟩ := hrr.open_
      clear hca hcz hci hfz hsp
      go_wp2_with fail
      have hci : (Try.prog.info? 26).map (·.size) = some csz.size := by rw [HCZ.out]; exact HI.out
      have hzz : (#[.int .u16 0, .slice none 0 0, .slice none 0 0, .int .u16 0, .int .u8 0, .bool false, .bool false, .bool false, .slice none 0 0, .bool false, strv [], .slice none 0 0, .int .u16 0, .int .u16 0, .slice none 0 0, .bool false, .int .u16 0, .slice none 0 0, .slice none 0 0, .bool false, .slice none 0 0, .int .u16 0] : Array Value).size = csz.size := by rw [HCZ.out]; rfl
      have hld := blk_loadVar (Blk.drew hvb.1) HD1.out hd2 hci
      have hcd : (World.drew _).cell? ⟨s + 2, 1, none⟩ = some _ := q1
      have HCI := hid hci
      have HZZ := hid hzz
      clear hci hzz
      refine wp_region_held (S := fun u => (loadVar 26 ⟨s + 1, 0, none⟩).run Try.prog u = .ok (.agg csz) u ∧ u.cell? ⟨s + 2, 1, none⟩ = some (.int .i64 (r.code : Int))) (by kernel_rfl) ?_
      change wpAnyH _ _ _ _ _ _ _ _ (World.drew _)
      have HS := And.intro hld hcd
      try simp only [Act.put, List.getElem_toArray, List.getElem_cons_zero, List.getElem_cons_succ, List.setIfInBounds_toArray, List.set_cons_zero, List.set_cons_succ]
      refine wpAnyH_take (i := 0) (v := .agg csz) rfl (by kernel_rfl) (by kernel_rfl) (by kernel_rfl) (fun _ _ _ h => h) (yieldsIf_loadvar _ rfl rfl rfl (fun _ h => h.1)) HS ?_
      try simp only [Act.put, List.getElem_toArray, List.getElem_cons_zero, List.getElem_cons_succ, List.setIfInBounds_toArray, List.set_cons_zero, List.set_cons_succ]
      refine wpAnyH_take (i := 1) (v := ?vQ1_4) rfl (by kernel_rfl) (by kernel_rfl) (by kernel_rfl) (fun _ _ _ h => h) (Or.inl ⟨by rfl, ?hy1_4⟩) HS ?rest1_4
      case hy1_4 =>
        rintro u ⟨-, hu⟩
        go_simp
        try with_reducible rfl
      try simp only [Act.put, List.getElem_toArray, List.getElem_cons_zero, List.getElem_cons_succ, List.setIfInBounds_toArray, List.set_cons_zero, List.set_cons_succ]
      refine wpAnyH_take (i := 2) (v := ?vQ2_4) rfl (by kernel_rfl) (by kernel_rfl) (by kernel_rfl) (fun _ _ _ h => h) (Or.inl ⟨by rfl, ?hy2_4⟩) HS ?rest2_4
      case hy2_4 =>
        rintro u ⟨-, hu⟩
        go_simp
        try with_reducible rfl
      try simp only [Act.put, List.getElem_toArray, List.getElem_cons_zero, List.getElem_cons_succ, List.setIfInBounds_toArray, List.set_cons_zero, List.set_cons_succ]
      refine wpAnyH_take (i := 3) (v := ?vQ3_4) rfl (by kernel_rfl) (by kernel_rfl) (by kernel_rfl) (fun _ _ _ h => h) (Or.inl ⟨by rfl, ?hy3_4⟩) HS ?rest3_4
      case hy3_4 =>
        rintro u ⟨-, hu⟩
        go_simp
        try with_reducible rfl
      try simp only [Act.put, List.getElem_toArray, List.getElem_cons_zero, List.getElem_cons_succ, List.setIfInBounds_toArray, List.set_cons_zero, List.set_cons_succ]
      refine wpAnyH_take (i := 4) (v := ?vQ4_4) rfl (by kernel_rfl) (by kernel_rfl) (by kernel_rfl) (fun _ _ _ h => h) (Or.inl ⟨by rfl, ?hy4_4⟩) HS ?rest4_4
      case hy4_4 =>
        rintro u ⟨-, hu⟩
        go_simp
        try with_reducible rfl
      try simp only [Act.put, List.getElem_toArray, List.getElem_cons_zero, List.getElem_cons_succ, List.setIfInBounds_toArray, List.set_cons_zero, List.set_cons_succ]
      refine wpAnyH_all (rs := [5]) (by kernel_rfl) (by simp) (fun i hi => ?_)
      obtain rfl : i = 5 := by simpa using hi
      clear hi
      refine wpOp_store_any (cs := csz) rfl (Blk.drew hbz) HCI.out HCA.out HZZ.out rfl _ _ rfl rfl rfl ?_
      intro wf hbf huf hsf
      try simp only [Act.put, List.getElem_toArray, List.getElem_cons_zero, List.getElem_cons_succ, List.setIfInBounds_toArray, List.set_cons_zero, List.set_cons_succ]
      refine ⟨⟨blk_loadVar ((Blk.drew hvb.1).upd huf (by simp <;> omega)) HD1.out hd2 HCI.out, huf.cell hcd (by simp <;> omega)⟩, ?_⟩
      have HS := And.intro (blk_loadVar ((Blk.drew hvb.1).upd huf (by simp <;> omega)) HD1.out hd2 HCI.out) (huf.cell hcd (by simp <;> omega))
      refine wpAnyH_take (i := 6) (v := ?vQ6_4) rfl (by kernel_rfl) (by kernel_rfl) (by kernel_rfl) (fun _ _ _ h => h) (Or.inl ⟨by rfl, ?hy6_4⟩) HS ?rest6_4
      case hy6_4 =>
        rintro u ⟨-, hu⟩
        go_simp
        try with_reducible rfl
      try simp only [Act.put, List.getElem_toArray, List.getElem_cons_zero, List.getElem_cons_succ, List.setIfInBounds_toArray, List.set_cons_zero, List.set_cons_succ]
      refine wpAnyH_done (by kernel_rfl) ?_ _
      go_wp2_with fail
      refine bodyPost_ret (v := .tuple #[.agg _, .int .i64 (r.code : Int)]) (results_cell2 (T := 26) (p := 2) (q := 3) (g := s) rfl _ _ rfl rfl (blk_loadVar hbf HD1.out hd2 HCI.out)) rfl ?_
      rw [HSPF.out]
      have hug : Upd [s] _ wf := ((Upd.refl [s] _).drew).trans huf (by simp)
      exact ⟨_, rfl, (HFZ.out _ hug).1, (HFZ.out _ hug).2⟩
end
end Go.Proofs.Ytcikeghdlolkaaa

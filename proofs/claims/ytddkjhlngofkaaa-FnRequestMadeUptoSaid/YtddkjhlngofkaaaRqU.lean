/- CertificateRequest up to TLS 1.2: read by the package (printed by gen_rqu.py). -/
import Derived.Test.YtddkjhlngofkaaaRqPlain
import Derived.Test.YtddkjhlngofkaaaCut
import Derived.Test.YtddkjhlngofkaaaLoops
import Derived.Deep.LoopGhost
import Derived.Deep.DeepCutAuto
namespace Go.Proofs.Ytddkjhlngofkaaa
open Go.RowKit
set_option maxRecDepth 100000

/-- v is a slice of block g, or of none, that reads as the bytes l -/
def InB (w : World) (g : Nat) (v : Value) (l : List UInt8) : Prop := Byt w (g + 1) v l ∧ ∀ k, v.ownBlock = some k → k = g
/-- a row of such slices -/
def CasL (w : World) (lo g : Nat) (v : Value) (ls : List (List UInt8)) : Prop := ∃ vs, Own w lo 22 v vs ∧ All2 (fun u l => InB w g u l) vs ls
/-- a row in memory newer than w -/
def NewR (w wx : World) (v : Value) (xs : List Value) : Prop := Row wx wx.heap.size v xs ∧ ∀ k, v.ownBlock = some k → w.heap.size ≤ k
/-- what the fields read as -/
def RqRows (w : World) (v1 v2 v3 : Value) (x : Rq) : Prop := Byt w w.heap.size v1 x.types ∧ Row w w.heap.size v2 (x.sig.map wv) ∧ Lst w w.heap.size v3 x.cas
def RqUP (w : World) (m : Nat) (has : Bool) (o : Option Rq) (e : Ending) (w' : World) : Prop :=
  e = .returned (.bool o.isSome) ∧ Upd [m] w w' ∧ ∀ x, o = some x → x.has = has ∧ ∃ v1 v2 v3, Blk w' m 121 #[.bool has, v1, v2, v3] ∧ ∀ w2 S, Upd S w' w2 → (∀ k ∈ S, k < w.heap.size) → RqRows w2 v1 v2 v3 x
/-- the middle: types and numbers are read -/
def RqMid (w : World) (B m : Nat) (has : Bool) (data ts : List UInt8) (v : Value) (wx : World) : Prop :=
  ∃ (d : List UInt8) (A : Option Addr) (c : Nat) (v1 v2 : Value) (sig : List UInt16), v = .slice A d.length c ∧ Byt wx B (.slice A d.length c) d ∧ d.length ≤ 2147483647 ∧ rqRead has data = (rqCas (lp 2 d)).map (fun l => ⟨has, ts, sig, l⟩) ∧ Upd [m] w wx ∧
    Blk wx m 121 #[.bool has, v1, v2, .slice none 0 0] ∧ NewR w wx v1 (ts.map bv) ∧ NewR w wx v2 (sig.map wv)
/-- the loop that fills the row of numbers -/
def RqRel1 (w0 : World) (B gs : Nat) (x r : List UInt8) (gk : Nat) (v i : Value) (wr : World) : Prop :=
  ∃ (xr : List UInt8) (done : List UInt16) (A : Option Addr) (c : Nat), v = .slice A (xr ++ r).length c ∧ Byt wr B (.slice A (xr ++ r).length c) (xr ++ r) ∧ i = .int .i64 (done.length : Int) ∧ xr.length = 2 * gk ∧ wordsOf x = done ++ wordsOf xr ∧
    Blk wr gs 85 (done.map wv ++ List.replicate gk (Value.int .u16 0)).toArray ∧ Upd [gs] w0 wr ∧ done.length + gk ≤ 65536 ∧ (xr ++ r).length ≤ 2147483647
/-- the loop over the authorities -/
def RqRel2 (w0 : World) (m g lo : Nat) (has : Bool) (v1 v2 : Value) (c0 : List UInt8) (gk : Nat) (v : Value) (wr : World) : Prop :=
  ∃ (d : List UInt8) (A : Option Addr) (c : Nat) (v3 : Value) (ls : List (List UInt8)), gk = d.length ∧ v = .slice A d.length c ∧ InB wr g (.slice A d.length c) d ∧ Blk wr m 121 #[.bool has, v1, v2, v3] ∧ CasL wr lo g v3 ls ∧
    casP c0 = (casP d).map (ls ++ ·) ∧ Upd [m] w0 wr ∧ ls.length + d.length ≤ 65536
section
variable {w w' w0 : World} {B m g lo : Nat} {v : Value} {data l : List UInt8} {e : Ending} {S : List Nat} {xs : List Value} {ls : List (List UInt8)}
theorem InB.upd (h : InB w g v l) (hu : Upd S w w') (hg : g ∉ S) : InB w' g v l := ⟨Row.apart h.1 hu fun k hk => by rw [h.2 k hk]; exact hg, h.2⟩
theorem CasL.upd (h : CasL w lo g v ls) (hu : Upd S w w') (hg : g ∉ S) (hv : ∀ k, v.ownBlock = some k → k ∉ S) : CasL w' lo g v ls := by
  obtain ⟨vs, h1, h2⟩ := h
  exact ⟨vs, h1.upd hu hv, h2.imp fun _ _ hi => hi.upd hu hg⟩
theorem CasL.lst (h : CasL w lo g v ls) (hg : g < w.heap.size) : Lst w w.heap.size v ls := by
  obtain ⟨vs, h1, h2⟩ := h
  exact ⟨vs, h1.row, h2.imp fun _ _ hi => hi.1.more (by omega)⟩
theorem NewR.upd {wx : World} (h : NewR w wx v xs) (hu : Upd S wx w') (hS : ∀ k ∈ S, k < w.heap.size) : NewR w w' v xs :=
  ⟨(Row.apart h.1 hu fun k hk hm => by have := h.2 k hk; have := hS k hm; omega).shrink, h.2⟩
theorem NewR.old {wx : World} (h : NewR w wx v xs) (hu : Upd S wx w') (hS : ∀ k ∈ S, v.ownBlock ≠ some k) : NewR w w' v xs :=
  ⟨(Row.apart h.1 hu fun k hk hm => hS k hm hk).shrink, h.2⟩
theorem NewR.blk {wx : World} {T : TypeId} {l : List Value} (hb : Blk wx g T l.toArray) (hg : w.heap.size ≤ g) (hl : l.length ≤ 4294967296) : NewR w wx (.slice (some ⟨g, 0, none⟩) l.length l.length) l := by
  refine ⟨⟨some ⟨g, 0, none⟩, l.length, rfl, Nat.le_refl _, by unfold maxLen; omega, fun e => (by cases e), fun _ => ⟨g, 0, rfl, hb.lt, fun j u hu => ?_⟩⟩, fun k hk => ?_⟩
  · rw [Nat.zero_add, hb.cell]
    simpa using hu
  · have : g = k := by simpa [Value.ownBlock] using hk
    omega
theorem Upd.belowNew {w6 : World} {C : Nat} (hu : Upd S w w6) (hb : Below C w6 w') (hC : w.heap.size ≤ C) : Upd S w w' :=
  ⟨hb.os.trans hu.os, hb.tape.trans hu.tape, hb.output.trans hu.output, Nat.le_trans hu.size hb.size, fun k hk hn => (hb.block k (by omega)).trans (hu.block k hk hn)⟩
theorem Byt.cells {A : Option Addr} {n c : Nat} (h : Byt w B (.slice A n c) l) (hn : 0 < n) : ∃ b o, A = some ⟨b, o, none⟩ ∧ b < B ∧ ∀ j (hj : j < l.length), w.cell? ⟨b, o + j, none⟩ = some (bv l[j]) := by
  obtain ⟨b, o, e, hb, _⟩ := Byt.at_ h (k := 0) hn
  refine ⟨b, o, e, hb, fun j hj => ?_⟩
  have hl := Byt.len h
  obtain ⟨b', o', e', _, _, hcell⟩ := Byt.at_ h (k := j) (by omega)
  rw [e] at e'
  cases e'
  exact hcell
theorem Row.belowMore {C : Nat} (h : Row w B v xs) (hb : Below C w w') (hC : B ≤ C) : Row w' B v xs := h.keep fun p u hp hc => (hb.cell (Nat.lt_of_lt_of_le hp hC)).trans hc
theorem InB.blk (hb : Blk w g 5 (l.map bv).toArray) (hl : l.length ≤ 4294967296) : InB w g (.slice (some ⟨g, 0, none⟩) l.length l.length) l := by
  refine ⟨⟨some ⟨g, 0, none⟩, l.length, by rw [List.length_map], by rw [List.length_map]; exact Nat.le_refl _, by unfold maxLen; omega, fun e => (by cases e), fun _ => ⟨g, 0, rfl, by omega, fun j u hu => ?_⟩⟩, fun k hk => by simpa [Value.ownBlock] using hk.symm⟩
  rw [Nat.zero_add, hb.cell]
  simpa using hu
theorem run_cutAny {A : Option Addr} {n c k : Nat} (hk : k ≤ n) (kk : IntKind) (u : World) : (Instr.sliceAt 22 (.slice A n c) (some (.int kk (k : Int))) none none).run Try.prog u = .ok (.slice (if c = k then A else A.map (·.add k)) (n - k) (c - k)) u := by
  have hu : Try.prog.underlying 22 = some (.slice (Try.prog.elem 22)) := by kernel_rfl
  have hsz : (sizeOf (Try.prog.elem 22)).run Try.prog u = .ok 1 u := by
    obtain ⟨i, hi, _, hs, _⟩ := info_parts info_u8
    have he : Try.prog.elem 22 = 5 := by kernel_rfl
    rw [he]
    simp [sizeOf, typeInfo, hi, hs]
  rw [run_sliceAt_slice u _ _ _ _ _ hu, run_slice_l u 22 A n c hu kk (k : Int) (by omega) (by omega), hsz]
  simp [Result.andThen, sliced]
/-- a cut, whatever the memory: it is spoken of afterwards -/
theorem wpList_cutAny {ops : Array Oper} {rest : List Oper} {o : Oper} {a : Act} {Q : Exit → Act → World → Prop} {A : Option Addr} {n c k : Nat} {d d' : List UInt8} (hn : d.length = n) (hk : k ≤ n) (hd : d.drop k = d') (p lo : Operand) (kk : IntKind) (ho : o.op = .slice 22 p (some lo) none none)
    (hp : a.eval p = .slice A n c) (hlo : a.eval lo = .int kk (k : Int)) (hw : Region.wanted o (yielded ops a.tmps) = true)
    (hK : ∀ A' c', (∀ u C, Byt u C (.slice A n c) d → Byt u C (.slice A' d'.length c') d') → (∀ g, (Value.slice A' d'.length c').ownBlock = some g → (Value.slice A n c).ownBlock = some g) → wpList Try.prog ops Q rest (a.put o.dst (.slice A' d'.length c')) w) : wpList Try.prog ops Q (o :: rest) a w := by
  have hrun := run_cutAny (A := A) (n := n) (c := c) hk kk w
  have hl : n - k = d'.length := by rw [← hd, List.length_drop, hn]
  rw [hl] at hrun
  refine BigFrame.wpList_want hw fun K' hK' => ?_
  unfold Oper.wp execOp
  simp only [ho, hp, hlo, Option.map_some, Option.map_none, Sem.run_bind, Sem.run_pure, hrun, Result.andThen_ok]
  refine hK' _ _ (hK _ _ (fun u C hy => ?_) ?_)
  · have h := Row.cut hy hk
    rw [hl, ← List.map_drop, hd] at h
    exact h
  · have h := cut_own A n c d'.length (c - k) k (decide (c = k))
    simpa using h
theorem own_len (A : Option Addr) (n c n' c' : Nat) : (Value.slice A n c).ownBlock = (Value.slice A n' c').ownBlock := by cases A <;> rfl
theorem and1_u16 (n : Nat) (hn : n < 65536) : bits .and .u16 (n : Int) 1 = ((n % 2 : Nat) : Int) := by
  have e1 : (BitVec.ofInt 16 (n : Int)).toNat = n := by rw [BitVec.ofInt_natCast, BitVec.toNat_ofNat]; exact Nat.mod_eq_of_lt (by omega)
  have e2 : (BitVec.ofInt 16 (1 : Int)).toNat = 1 := by decide
  show IntKind.u16.wrap ((BitVec.ofInt 16 (n : Int) &&& BitVec.ofInt 16 (1 : Int)).toNat : Int) = _
  rw [BitVec.toNat_and, e1, e2, Nat.and_one_is_mod]
  simp only [IntKind.wrap, IntKind.signed, IntKind.bits]
  have : n % 2 < 2 := Nat.mod_lt _ (by decide)
  have h2 : ((n % 2 : Nat) : Int) % 2 ^ 16 = ((n % 2 : Nat) : Int) := by omega
  simpa using h2
theorem run_makeWords (n : Nat) (hn : n ≤ 4294967296) (u : World) (kk : IntKind) : (Instr.makeSlice 23 (.int kk (n : Int)) (.int kk (n : Int))).run Try.prog u =
    .ok (.slice (some ⟨u.heap.size, 0, none⟩) n n) (u.alloc (.cells (List.replicate n (Value.int .u16 0)).toArray 85)) := by
  obtain ⟨i0, hi, hz0, hz1, hz2⟩ := info_parts info_u16
  have h := run_make (P := Try.prog) u 23 85 i0 (.int .u16 0) Try.underlying23 hi hz0 kk kk (n : Int) (n : Int) (by omega) (Int.le_refl _) (by rw [hz2]; omega) (by omega)
  rw [Int.toNat_natCast] at h
  have e : madeCells #[Value.int .u16 0] n = (List.replicate n (Value.int .u16 0)).toArray := by
    rw [← toList_madeCells_one, Array.toArray_toList]
  rw [← e]
  simpa [hz1, Value.cells] using h
theorem NewR.one {wx : World} (h : NewR w wx v xs) : NewR w (wx.drewN 0) v xs := h
theorem run_cutTo_all {A : Option Addr} {n c k : Nat} (hk : k ≤ n) (hn : n ≤ c) (kk : IntKind) (u : World) : (Instr.sliceAt 22 (.slice A n c) none (some (.int kk (k : Int))) none).run Try.prog u = .ok (.slice A k c) u := by
  have hu : Try.prog.underlying 22 = some (.slice (Try.prog.elem 22)) := by kernel_rfl
  have hsz : (sizeOf (Try.prog.elem 22)).run Try.prog u = .ok 1 u := by
    obtain ⟨i, hi, _, hs, _⟩ := info_parts info_u8
    have he : Try.prog.elem 22 = 5 := by kernel_rfl
    rw [he]
    simp [sizeOf, typeInfo, hi, hs]
  have h0 : ∀ a : Addr, a.add 0 = a := by intro a; unfold Addr.add; split <;> (cases a; simp_all)
  have hA : (A.map (·.add 0)) = A := by cases A <;> simp [h0]
  rw [run_sliceAt_slice u _ _ _ _ _ hu, run_slice_h u 22 A n c hu kk (k : Int) (by omega) (by omega), hsz]
  simp [Result.andThen, sliced, hA]
theorem be2_u16w (x y : UInt8) : bits .or .u16 (IntKind.u16.wrap (IntKind.u16.wrap (x.toNat : Int) * 256)) (IntKind.u16.wrap (y.toNat : Int)) = ((x.toNat * 256 + y.toNat : Nat) : Int) := by
  have hx := x.toNat_lt
  have hy := y.toNat_lt
  have h := be2_u16 x y
  have e1 : IntKind.u16.wrap (x.toNat : Int) = (x.toNat : Int) % 65536 := by simp [IntKind.wrap, IntKind.signed, IntKind.bits]
  have e2 : IntKind.u16.wrap ((x.toNat : Int) % 65536 * 256) = (x.toNat : Int) % 65536 * 256 % 65536 := by simp [IntKind.wrap, IntKind.signed, IntKind.bits]
  have e3 : IntKind.u16.wrap (y.toNat : Int) = (y.toNat : Int) % 65536 := by simp [IntKind.wrap, IntKind.signed, IntKind.bits]
  rw [e1, e2, e3, h]
theorem wordsOf_half : ∀ x : List UInt8, x.length % 2 = 0 → 2 * (wordsOf x).length = x.length := by
  intro x
  induction x using wordsOf.induct with
  | case1 a b t ih => intro h; simp only [wordsOf, List.length_cons] at h ⊢; have := ih (by omega); omega
  | case2 a => intro h; simp at h
  | case3 => intro _; rfl
set_option maxHeartbeats 8000000 in
theorem unmarshal_Rq (has : Bool) (hm : Blk w m 121 #[.bool has, .slice none 0 0, .slice none 0 0, .slice none 0 0]) (hv : Byt w B v data) (hB : B ≤ m) (hx : data.length ≤ 2147483647) :
    Calls Try.prog 76 #[.pointer (some ⟨m, 0, none⟩), v] w (RqUP w m has (rqRead has data)) := by
  obtain ⟨A, c, rfl, hv, hl, hc⟩ := Byt.form hv rfl
  have hml := hm.lt
  have m0 := hm.cell 0
  have m1 := hm.cell 1
  have f1 := hm.frozen 1
  simp at m0 m1
  have hno : ∀ w2 : World, Upd [m] w w2 → rqRead has data = none → RqUP w m has (rqRead has data) (.returned (.bool false)) w2 := by
    intro w2 hu hk
    rw [hk]
    exact ⟨rfl, hu, fun x h => (by cases h)⟩
  have HNO := hid hno
  clear hno
  by_cases h5 : data.length < 5
  · have Hk := hid (show rqRead has data = none by unfold rqRead; rw [if_pos h5])
    go_enter Try.func76, Try.ntmps76
    go_wp2
    go_ret
    exact HNO.out _ (Upd.refl _ _) Hk.out
  obtain ⟨b, q, rfl, hb, hj⟩ := Byt.cells hv (by omega)
  have c1 := hj 1 (by omega)
  have c2 := hj 2 (by omega)
  have c3 := hj 3 (by omega)
  have c4 := hj 4 (by omega)
  have t3 := take3 data 1 (by omega)
  have b3 := be3_u32 data[1] data[2] data[3]
  rw [← t3] at b3
  have hd4 : data.drop 4 = data[4] :: data.drop 5 := List.drop_eq_getElem_cons (by omega)
  have HK := hid (show rqRead has data = if beNat ((data.drop 1).take 3) = data.length - 4 then rqBody has (lp 1 (data[4] :: data.drop 5)) else none by unfold rqRead; rw [if_neg h5, hd4])
  generalize data[1] = x1 at c1 b3 t3
  generalize data[2] = x2 at c2 b3 t3
  generalize data[3] = x3 at c3 b3 t3
  generalize data[4] = x4 at c4 HK hd4
  have hx4 := x4.toNat_lt
  by_cases k1 : beNat ((data.drop 1).take 3) = data.length - 4
  rotate_left
  · have n1 : ((data.length : Int) - 4 != bits .or .u32 (bits .or .u32 ((x1.toNat : Int) % 4294967296 * 65536 % 4294967296) ((x2.toNat : Int) % 4294967296 * 256 % 4294967296)) ((x3.toNat : Int) % 4294967296)) = true := by
      rw [b3, bne_iff_ne]; omega
    rw [if_neg k1] at HK
    clear b3 k1 t3 hd4
    go_enter Try.func76, Try.ntmps76
    go_wp2_with fail
    go_quiet (fail)
    go_wp2
    go_ret
    exact HNO.out _ ((Upd.refl _ _).drewN _) HK.out
  have n1 : ((data.length : Int) - 4 != bits .or .u32 (bits .or .u32 ((x1.toNat : Int) % 4294967296 * 65536 % 4294967296) ((x2.toNat : Int) % 4294967296 * 256 % 4294967296)) ((x3.toNat : Int) % 4294967296)) = false := by
    rw [b3, bne_eq_false_iff_eq]; omega
  rw [if_pos k1, lp1_one] at HK
  obtain ⟨d1, hd1⟩ : ∃ d1, data.drop 5 = d1 := ⟨_, rfl⟩
  have hl1 : d1.length = data.length - 5 := by rw [← hd1]; simp
  rw [hd1] at HK
  obtain ⟨N, hN⟩ : ∃ N, x4.toNat = N := ⟨_, rfl⟩
  replace c4 : w.cell? ⟨b, q + 4, none⟩ = some (.int .u8 (N : Int)) := by rw [← hN]; exact c4
  rw [hN] at HK hx4
  clear hN
  have w4 : wrap64 (N : Int) = (N : Int) := by unfold wrap64; omega
  have HD1 := hid hd1
  have HL1 := hid hl1
  have hd1x : d1.length ≤ 2147483647 := by omega
  clear b3 k1 t3 hd4 hd1 hl1 hj hl hc
  by_cases h0 : N = 0
  · subst h0
    rw [if_pos (Nat.zero_le _)] at HK
    go_enter Try.func76, Try.ntmps76
    go_wp2_with fail
    go_quiet (fail)
    go_wp2_with (refine wpList_cutFrom (k := 5) hv (by omega) HD1.out _ _ _ rfl rfl rfl rfl ?_; intro A1 cc1 hy1 ho1)
    go_ret
    exact HNO.out _ ((Upd.refl _ _).drewN _) HK.out
  have z0 : ((N : Int) == 0) = false := by rw [beq_eq_false_iff_ne]; omega
  by_cases hle : d1.length ≤ N
  · have z1 : decide (d1.length ≤ N) = true := decide_eq_true (by omega)
    have Hn : Hid (rqRead has data = none) := by
      refine hid (HK.out.trans ?_)
      by_cases he : N ≤ d1.length
      · rw [if_pos he]
        have h1 : d1.drop N = [] := List.drop_eq_nil_of_le hle
        rw [h1]
        cases hts : d1.take N with
        | nil => rfl
        | cons y ts => cases has <;> rfl
      · rw [if_neg he]; rfl
    clear hle h0
    go_enter Try.func76, Try.ntmps76
    go_wp2_with fail
    go_quiet (fail)
    go_wp2_with (refine wpList_cutFrom (k := 5) hv (by omega) HD1.out _ _ _ rfl rfl rfl rfl ?_; intro A1 cc1 hy1 ho1)
    go_ret
    exact HNO.out _ ((Upd.refl _ _).drewN _) Hn.out
  have z1 : decide (d1.length ≤ N) = false := decide_eq_false (by omega)
  rw [if_pos (show N ≤ d1.length by omega)] at HK
  obtain ⟨ts, hts⟩ : ∃ ts, d1.take N = ts := ⟨_, rfl⟩
  obtain ⟨d2, hd2⟩ : ∃ d2, d1.drop N = d2 := ⟨_, rfl⟩
  have htl : ts.length = N := by rw [← hts]; simp; omega
  have hl2 : d2.length = d1.length - N := by rw [← hd2]; simp
  replace HK : Hid (rqRead has data = rqRest has ts d2) := by
    refine hid (HK.out.trans ?_)
    rw [hts, hd2]
    cases ts with
    | nil => exact absurd htl.symm h0
    | cons y ts => rfl
  have HTS := hid hts
  have HD2 := hid hd2
  have HTL := hid htl
  have HL2 := hid hl2
  have hd2x : d2.length ≤ 2147483647 := by omega
  have hN1 : N ≤ d1.length := by omega
  have HNL := hid hN1
  clear hts hd2 htl hl2 hle h0
  go_enter Try.func76, Try.ntmps76
  go_wp2_with fail
  go_quiet (fail)
  go_wp2_with (refine wpList_cutFrom (k := 5) hv (by omega) HD1.out _ _ _ rfl rfl rfl rfl ?_; intro A1 cc1 hy1 ho1)
  rw [run_makeBytes N (by omega)]
  generalize hwd : World.drewN _ _ = wd at hy1 ⊢
  have hu0 : Upd [] w wd := by rw [← hwd]; exact (Upd.refl _ _).drewN _
  obtain ⟨w1, hw1⟩ : ∃ w1, wd.alloc (.cells (List.replicate N (Value.int .u8 0)).toArray 5) = w1 := ⟨_, rfl⟩
  obtain ⟨gt, hgt⟩ : ∃ gt, wd.heap.size = gt := ⟨_, rfl⟩
  rw [hw1, hgt]
  have hgw : w.heap.size ≤ gt := by have := hu0.size; omega
  have hb1 : Blk w1 gt 5 (List.replicate N (Value.int .u8 0)).toArray := by rw [← hw1, ← hgt]; exact Blk.new _ _ _
  have hu01 : Upd [] wd w1 := by rw [← hw1]; exact (Upd.refl _ _).alloc _
  have hu1 : Upd [] w w1 := hu0.trans hu01 (by simp)
  have hm1 := hm.upd hu1 (by simp)
  have hy1 := Row.upd hy1 hu01 (by simp)
  have e1 := hm1.cell 1
  have g1 := hm1.frozen 1
  simp at e1
  clear hwd hw1 hgt hu0 hu01 c1 c2 c3 c4 w4 z0 z1 n1 m0 m1 f1 hv ho1 hN1
  go_upto_region 11 with fail
  obtain ⟨w2, hw2⟩ : ∃ w2, w1.setCell ⟨m, 1, none⟩ (.slice (some ⟨gt, 0, none⟩) N N) = w2 := ⟨_, rfl⟩
  rw [hw2]
  have hu2 : Upd [m] w w2 := by rw [← hw2]; exact (hu1.mono (by simp)).setCell (by simp) _
  have hm2 : Blk w2 m 121 #[.bool has, .slice (some ⟨gt, 0, none⟩) N N, .slice none 0 0, .slice none 0 0] := by rw [← hw2]; exact hm1.set_ 1 _
  have hb2 : Blk w2 gt 5 (List.replicate N (Value.int .u8 0)).toArray := by rw [← hw2]; exact hb1.far (by show gt ≠ m; omega) _
  have hy2 : Byt w2 B (.slice A1 d1.length cc1) d1 := by rw [← hw2]; exact Row.setCell (p := ⟨m, 1, none⟩) hy1 hB _
  have HB2 := hid hb2
  clear hw2 hm1 hb1 hy1 hu1 e1 g1
  have e1 := hm2.cell 1
  simp at e1
  have hsrc : 0 < ((d1.take N).map bv).length → ∃ ad, A1 = some ad ∧ ∀ j v, ((d1.take N).map bv)[j]? = some v → w2.cell? (ad.add j) = some v := by
    intro h0
    simp at h0
    obtain ⟨b', o', e, -, hj⟩ := Byt.cells hy2 (by omega)
    refine ⟨_, e, fun j v hv => ?_⟩
    rw [add_lit]
    rw [List.getElem?_map] at hv
    obtain ⟨y, h1, rfl⟩ := Option.map_eq_some_iff.1 hv
    rw [List.getElem?_take] at h1
    split at h1
    · obtain ⟨h2, h3⟩ := List.getElem?_eq_some_iff.1 h1
      rw [hj j h2, h3]
    · cases h1
  have HSRC := hid hsrc
  have hlen : ((d1.take N).map bv).length = N := by rw [HTS.out, List.length_map, HTL.out]
  have HLEN := hid hlen
  clear hsrc hlen
  go_upto_region 13 with (refine wpList_copy_splice rfl _ _ 22 22 rfl 5 Try.underlying22 (by kernel_rfl) _ _ _ _ _ _ rfl rfl gt 0 (List.replicate N (Value.int .u8 0)) 5 HB2.out ((d1.take N).map bv) (by rw [HLEN.out]; have := HNL.out; show N = min d1.length N; omega) (fun h0 => ⟨rfl, HSRC.out h0⟩) (by rw [HLEN.out]; simp) (byt_oneCell _) gt w2 (Below.refl _ _) (Nat.le_refl _) ?_; intro w3 hg3 hb3; rw [HLEN.out])
  have hu3 : Upd [m] w w3 := hu2.belowNew hb3 hgw
  have hm3 : Blk w3 m 121 #[.bool has, .slice (some ⟨gt, 0, none⟩) N N, .slice none 0 0, .slice none 0 0] := hm2.below hb3 (by omega)
  have hg3' : Blk w3 gt 5 (ts.map bv).toArray := by
    have h := hg3.out
    rw [HTS.out] at h
    have e : splice (List.replicate N (Value.int .u8 0)) 0 (ts.map bv) = ts.map bv := by
      unfold splice
      simp [HTL.out]
    rw [e] at h
    exact h
  have hy3 : Byt w3 B (.slice A1 d1.length cc1) d1 := Row.below (Row.more hy2 (show B ≤ gt by omega)) hb3 |>.upd (Upd.refl [] _) (by simp) |> fun h => by
    obtain ⟨A0, c0, e0, k1, k2, k3, k4⟩ := hy2
    obtain ⟨A9, c9, e9, r1, r2, r3, r4⟩ := h
    exact ⟨A0, c0, e0, k1, k2, k3, fun hne => by obtain ⟨b0, o0, q1, q2, q3⟩ := k4 hne; exact ⟨b0, o0, q1, q2, fun j u hu => (hb3.cell (p := ⟨b0, o0 + j, none⟩) (by show b0 < gt; omega)).trans (q3 j u hu)⟩⟩
  have hgt3 : gt < w3.heap.size := hg3'.lt
  have hN1 : NewR w w3 (.slice (some ⟨gt, 0, none⟩) N N) (ts.map bv) := by
    have h := NewR.blk (w := w) hg3' hgw (by rw [List.length_map, HTL.out]; omega)
    rwa [List.length_map, HTL.out] at h
  clear hg3 hg3' hb3 hy2 HSRC HLEN e1 hm2 HB2 hu2
  go_upto_region 14 with (refine wpList_cutFrom (k := N) hy3 HNL.out HD2.out _ _ _ rfl rfl rfl rfl ?_; intro A2 cc2 hy4 ho2)
  clear hy3 ho2
  have e0 := hm3.cell 0
  simp at e0
  go_upto_if 71 with fail
  go_cut [1] (fun v1 wx => RqMid w B m has data ts v1 wx)
  case first =>
    cases has
    case false =>
      go_wp2_with fail
      go_meet
      exact ⟨d2, A2, cc2, _, _, [], rfl, hy4, hd2x, HK.out.trans rfl, hu3, hm3, hN1, ⟨Row.nil_ _ _, fun k hk => (by cases hk)⟩⟩
    case true =>
      by_cases hl2 : d2.length < 2
      · have Hk := hid (show rqRead true data = none by rw [HK.out]; show rqSig ts (lp 2 d2) = none; rw [lp2_short hl2]; rfl)
        go_wp2_with fail
        go_ret
        exact HNO.out _ hu3 Hk.out

      obtain ⟨y1, y2, d3, hd⟩ := two_of (show 2 ≤ d2.length by omega)
      have hl3 : d2.length = d3.length + 2 := by rw [hd]; rfl
      have hl2x : 2 ≤ d2.length := by omega
      have hdr : d2.drop 2 = d3 := by rw [hd]; rfl
      obtain ⟨b', q', rfl, hb', hj'⟩ := Byt.cells hy4 (by omega)
      have c0 := hj' 0 (by omega)
      have c1 := hj' 1 (by omega)
      have e0 : d2[0]'(by omega) = y1 := by simp only [hd, List.getElem_cons_zero]
      have e1 : d2[1]'(by omega) = y2 := by simp only [hd, List.getElem_cons_succ, List.getElem_cons_zero]
      rw [e0, Nat.add_zero] at c0
      rw [e1] at c1
      have b2 := be2_u16w y1 y2
      have hlp : lp 2 d2 = _ := (congrArg (lp 2) hd).trans (lp2_two y1 y2 d3)
      have hL : y1.toNat * 256 + y2.toNat < 65536 := by have := y1.toNat_lt; have := y2.toNat_lt; omega
      generalize y1.toNat * 256 + y2.toNat = L at b2 hlp hL
      have WL := hid (show wrap64 (L : Int) = (L : Int) by unfold wrap64; omega)
      have HLP := hid hlp
      have HDR := hid hdr
      have B2 := hid b2
      have HL3 := hid hl3
      have hd3x : d3.length ≤ 2147483647 := by omega
      clear hlp b2 hj' e0 e1 hd hdr hl3

      have hno2 : L % 2 = 1 ∨ L = 0 ∨ d3.length < L → rqRead true data = none := fun h => by
        rw [HK.out]
        show rqSig ts (lp 2 d2) = none
        rw [HLP.out]
        by_cases hle : L ≤ d3.length
        · have hl : (d3.take L).length = L := by simp; omega
          rw [if_pos hle, rqSig_some, if_pos]
          rcases h with h | h | h
          · exact .inr (by rw [hl]; exact h)
          · exact .inl (List.eq_nil_of_length_eq_zero (by rw [hl]; exact h))
          · omega
        · rw [if_neg hle]; rfl
      have HN2 := hid hno2
      clear hno2
      by_cases ho : L % 2 = 1
      · have Hk := hid (HN2.out (.inl ho))
        have t1 : (bits .and .u16 (L : Int) 1 != 0) = true := by rw [and1_u16 _ hL, bne_iff_ne]; omega
        clear ho
        go_wp2_with fail
        go_quiet (fail)
        rw [B2.out]
        go_wp2_with (refine wpList_cutAny (d := d2) rfl hl2x HDR.out _ _ _ rfl rfl rfl rfl ?_; intro A5 c5 hf5 ho5)
        go_ret
        exact HNO.out _ (hu3.drewN _) Hk.out
      have t1 : (bits .and .u16 (L : Int) 1 != 0) = false := by rw [and1_u16 _ hL, bne_eq_false_iff_eq]; omega
      by_cases hz : L = 0
      · have Hk := hid (HN2.out (.inr (.inl hz)))
        have t2 : ((L : Int) == 0) = true := by rw [beq_iff_eq]; omega
        clear hz ho
        go_wp2_with fail
        go_quiet (fail)
        rw [B2.out]
        go_wp2_with (refine wpList_cutAny (d := d2) rfl hl2x HDR.out _ _ _ rfl rfl rfl rfl ?_; intro A5 c5 hf5 ho5)
        go_ret
        exact HNO.out _ (hu3.drewN _) Hk.out
      have t2 : ((L : Int) == 0) = false := by rw [beq_eq_false_iff_ne]; omega
      by_cases hle : d3.length < L
      · have Hk := hid (HN2.out (.inr (.inr hle)))
        have wL := congrArg (Value.int IntKind.i64) WL.out
        clear hz ho
        go_wp2_with fail
        go_quiet (fail)
        rw [B2.out]
        go_wp2_with (refine wpList_cutAny (d := d2) rfl hl2x HDR.out _ _ _ rfl rfl rfl rfl ?_; intro A5 c5 hf5 ho5)
        go_ret
        exact HNO.out _ (hu3.drewN _) Hk.out
      obtain ⟨x, hx⟩ : ∃ x, d3.take L = x := ⟨_, rfl⟩
      obtain ⟨r, hr⟩ : ∃ r, d3.drop L = r := ⟨_, rfl⟩
      obtain ⟨n, hn⟩ : ∃ n, L / 2 = n := ⟨_, rfl⟩
      have hxl : x.length = 2 * n := by rw [← hx]; simp; omega
      have hx0 : x ≠ [] := fun e => by rw [e] at hxl; simp at hxl; omega
      have HK3 := hid (show rqRead true data = (rqCas (lp 2 r)).map fun l => ⟨true, ts, wordsOf x, l⟩ by
        rw [HK.out]
        show rqSig ts (lp 2 d2) = _
        rw [HLP.out, if_pos (by omega), hx, hr, rqSig_some, if_neg (by intro h; rcases h with h | h; exact hx0 h; omega)])
      have hxr : x ++ r = d3 := by rw [← hx, ← hr]; exact List.take_append_drop _ _
      have hLn : L = 2 * n := by omega
      have hn16 : n ≤ 32767 := by omega
      have hln2 : 2 * n ≤ d3.length := by omega
      have HXR := hid hxr
      have HXL := hid hxl
      have HN16 := hid hn16
      have HLN := hid hLn
      have HNM := hid (show n ≤ 4294967296 by omega)
      have hmk : ∀ u, (Instr.makeSlice 23 (.int .u16 ((L : Int) / 2)) (.int .u16 ((L : Int) / 2))).run Try.prog u = .ok (.slice (some ⟨u.heap.size, 0, none⟩) n n) (u.alloc (.cells (List.replicate n (Value.int .u16 0)).toArray 85)) := fun u => by
        have : (L : Int) / 2 = (n : Int) := by omega
        rw [this]
        exact run_makeWords n (by omega) u .u16
      have HMK := hid hmk
      clear hmk
      clear hx hr hn hxl hx0 hxr HN2 HLP HK hz ho hl2 hLn
      have wL := congrArg (Value.int IntKind.i64) WL.out
      go_wp2_with fail
      go_quiet (fail)
      rw [B2.out]
      go_wp2_with (refine wpList_cutAny (d := d2) rfl hl2x HDR.out _ _ _ rfl rfl rfl rfl ?_; intro A5 c5 hf5 ho5)
      rw [HMK.out]
      clear wL t1 t2
      generalize hwd : World.drewN _ _ = we
      have hue : Upd [] w3 we := by rw [← hwd]; exact (Upd.refl _ _).drewN _
      have hUe : Upd [m] w we := hu3.trans hue (by simp)
      have hme := hm3.upd hue (by simp)
      have hye := Row.upd (hf5 _ _ hy4) hue (by simp)
      have n1e := hN1.upd hue (by simp)
      obtain ⟨wa, hwa⟩ : ∃ wa, we.alloc (.cells (List.replicate n (Value.int .u16 0)).toArray 85) = wa := ⟨_, rfl⟩
      obtain ⟨gs, hgs⟩ : ∃ gs, we.heap.size = gs := ⟨_, rfl⟩
      rw [hwa, hgs]
      have hba : Blk wa gs 85 (List.replicate n (Value.int .u16 0)).toArray := by rw [← hwa, ← hgs]; exact Blk.new _ _ _
      have hua : Upd [] we wa := by rw [← hwa]; exact (Upd.refl _ _).alloc _
      have hUa : Upd [m] w wa := hUe.trans hua (by simp)
      have hma := hme.upd hua (by simp)
      have hya := Row.upd hye hua (by simp)
      have n1a := n1e.upd hua (by simp)
      have hgsw : w.heap.size ≤ gs := by have := hUe.size; omega
      have HGT := hid (show gt ≠ gs by have := hue.size; omega)
      have hmg : m < gs := by omega
      have f2 := hma.frozen 2
      have p2 := hma.cell 2
      simp at p2
      clear hwd hwa hgs hue hUe hme hye n1e hua hf5 hy4 hN1 hm3 hu3 ho5 c0 c1
      go_upto_region 25 with fail
      obtain ⟨wb, hwb⟩ : ∃ wb, wa.setCell ⟨m, 2, none⟩ (.slice (some ⟨gs, 0, none⟩) n n) = wb := ⟨_, rfl⟩
      rw [hwb]
      have hub : Upd [m] wa wb := by rw [← hwb]; exact (Upd.refl _ _).setCell (by simp) _
      have hUb : Upd [m] w wb := hUa.trans hub (by simp)
      have hmb : Blk wb m 121 #[.bool true, .slice (some ⟨gt, 0, none⟩) N N, .slice (some ⟨gs, 0, none⟩) n n, .slice none 0 0] := by rw [← hwb]; exact hma.set_ 2 _
      have hbb : Blk wb gs 85 (List.replicate n (Value.int .u16 0)).toArray := by rw [← hwb]; exact hba.far (by show gs ≠ m; omega) _
      have hyb : Byt wb B (.slice A5 d3.length c5) d3 := by rw [← hwb]; exact Row.setCell (p := ⟨m, 2, none⟩) hya hB _
      have n1b := n1a.upd hub (by simpa using hml)
      have p2 := hmb.cell 2
      simp at p2
      clear hwb hub hUa hma hya n1a f2 hba
      go_wp2_with fail
      go_loopg [1, 9, 111] n (fun gk v v9 i wr => RqRel1 wb B gs x r gk v i wr)
      case atStart => exact ⟨x, [], A5, c5, by rw [HXR.out], by rw [HXR.out]; exact hyb, rfl, HXL.out, rfl, by simpa using hbb, Upd.refl _ _, by have := HN16.out; simp; omega, by rw [HXR.out]; exact hd3x⟩
      case round =>
        obtain ⟨xr, done, A, c, rfl, hy, rfl, hxl, hwo, hbg, hur, hbn, hln⟩ := hrel
        have hlen : done.length + gk = n := by
          have h1 := wordsOf_half x (by rw [HXL.out]; omega)
          have h2 := wordsOf_half xr (by omega)
          have h3 := congrArg List.length hwo
          rw [List.length_append] at h3
          have := HXL.out
          omega
        have HLEN := hid hlen
        have HWO := hid hwo
        have HXRL := hid hxl
        have HLNX := hid hln
        have hUr : Upd [m] w wr := hUb.trans hur (fun k hk => .inr (by simp at hk; omega))
        have hmr := hmb.upd hur (by simp; omega)
        have n1r : NewR w wr (.slice (some ⟨gt, 0, none⟩) N N) (ts.map bv) := n1b.old hur (by simp [Value.ownBlock]; intro h; exact HGT.out h)
        by_cases h0 : gk = 0
        · have hx0 : xr = [] := List.eq_nil_of_length_eq_zero (by omega)
          have hdn : done.length = n := by omega
          have hwd : wordsOf x = done := by rw [hwo, hx0]; simp [wordsOf_nil]
          have HDN := hid hdn
          have HWD := hid hwd
          have t3 : decide (done.length < n) = false := decide_eq_false (by omega)
          have hrr : xr ++ r = r := by rw [hx0]; rfl
          rw [hrr] at hy hln ⊢
          have hbg' : Blk wr gs 85 (done.map wv).toArray := by
            have h := hbg
            rw [h0] at h
            simpa using h
          clear h0 hx0 hdn hwd hlen hwo hxl hbn hrr
          go_wp2_with fail
          go_meet
          have hn2 := NewR.blk (w := w) (l := done.map wv) hbg' hgsw (by rw [List.length_map, HDN.out]; have := HN16.out; omega)
          rw [List.length_map, HDN.out] at hn2
          exact ⟨r, A, c, _, _, done, rfl, hy, hln, by rw [HK3.out, HWD.out], hUr, hmr, n1r, hn2⟩
        obtain ⟨z1, z2, xs, rfl⟩ := two_of (show 2 ≤ xr.length by omega)
        obtain ⟨b', q', rfl, hb', hj'⟩ := Byt.cells hy (by simp)
        have c0 := hj' 0 (by simp)
        have c1 := hj' 1 (by simp)
        simp at c0 c1
        have hlx : ((z1 :: z2 :: xs) ++ r).length = (xs ++ r).length + 2 := rfl
        have hl2y : 2 ≤ ((z1 :: z2 :: xs) ++ r).length := by rw [hlx]; omega
        have hcell := (hbg.cell done.length).trans (show ((done.map wv ++ List.replicate gk (Value.int .u16 0)).toArray)[done.length]? = some (.int .u16 0) by
          have hg : 0 < gk := by omega
          simp [hg])
        have hfr := hbg.frozen done.length
        have p2 := hmr.cell 2
        simp at p2
        have b2 : Value.int .u16 (bits .or .u16 (IntKind.u16.wrap (IntKind.u16.wrap (z1.toNat : Int) * 256)) (IntKind.u16.wrap (z2.toNat : Int))) = wv (UInt16.ofNat (z1.toNat * 256 + z2.toNat)) := by
          rw [be2_u16w]
          exact wv_ofNat _ (by have := z1.toNat_lt; have := z2.toNat_lt; omega)
        have hw2 := wordsOf_two z1 z2 xs
        generalize UInt16.ofNat (z1.toNat * 256 + z2.toNat) = uw at b2 hw2
        have HW2 := hid hw2
        have hlt : done.length < n := by omega
        have HGK := hid (show 0 < gk by omega)
        generalize hLL : ((z1 :: z2 :: xs) ++ r).length = LL at hy hl2y
        have hdrop : ((z1 :: z2 :: xs) ++ r).drop 2 = xs ++ r := rfl
        have hl0y : 0 < LL := by omega
        have hl1y : (1 : Int) < (LL : Int) := by omega
        have HDROP := hid hdrop
        have HLL := hid hLL
        have HBG := hid hbg
        have HBN := hid hbn
        clear hj' hw2 hLL hdrop h0 hlen hwo hxl hbg hlx hbn hln
        go_wp2_with fail
        go_still_tail 15, (by kernel_rfl)
        go_wp2_with (refine wpList_cutAny (d := (z1 :: z2 :: xs) ++ r) HLL.out hl2y HDROP.out _ _ _ rfl rfl rfl rfl ?_; intro A8 c8 hf8 ho8)
        go_roundg (gk - 1)
        case measure => have := HGK.out; omega
        case rel =>
          have hg' : Blk ((wr.setCell ⟨gs, done.length, none⟩ (wv uw)).drew) gs 85 ((done ++ [uw]).map wv ++ List.replicate (gk - 1) (Value.int .u16 0)).toArray := by
            have h := HBG.out.set_ done.length (wv uw)
            have e : gk = (gk - 1) + 1 := by have := HGK.out; omega
            rw [e, List.replicate_succ] at h
            have h2 := set_next (done.map wv) (Value.int .u16 0) (wv uw) (List.replicate (gk - 1) (Value.int .u16 0))
            rw [List.length_map] at h2
            rw [h2] at h
            have e3 : (done ++ [uw]).map wv ++ List.replicate (gk - 1) (Value.int .u16 0) = done.map wv ++ wv uw :: List.replicate (gk - 1) (Value.int .u16 0) := by simp
            rw [e3]
            exact h
          have hus : Upd [gs] wr ((wr.setCell ⟨gs, done.length, none⟩ (wv uw)).drew) := ((Upd.refl [gs] _).setCell (by simp) _).drew
          refine ⟨xs, done ++ [uw], A8, c8, by rw [List.length_append], hf8 _ _ (Row.upd hy hus (by simp; omega)), by simp, ?_, ?_, hg', hur.trans hus (by simp), ?_, ?_⟩
          · have := HXRL.out; simp at this; omega
          · rw [HWO.out, HW2.out]; simp
          · have := HBN.out; have := HGK.out; simp; omega
          · have := HLNX.out; simp at this ⊢; omega
  obtain ⟨d, Ad, cd, v1, v2, sig, rfl, hy, hdx, hk, hu, hmd, nw1, nw2⟩ := hcut
  have HK2 := hid hk
  clear hk HK HTS HD2 HTL HL2 hd2x HNL hy1 hb2 hu3 hm3 hN1 hy4 hd1x HD1 HL1 hv hm
  by_cases hl2 : d.length < 2
  · have Hk := hid (show rqRead has data = none by rw [HK2.out, lp2_short hl2]; rfl)
    go_wp2_with fail
    go_ret
    exact HNO.out _ hu Hk.out

  obtain ⟨y1, y2, d3, hd⟩ := two_of (show 2 ≤ d.length by omega)
  have hl3 : d.length = d3.length + 2 := by rw [hd]; rfl
  have hl2x : 2 ≤ d.length := by omega
  have hdr : d.drop 2 = d3 := by rw [hd]; rfl
  obtain ⟨b', q', rfl, hb', hj'⟩ := Byt.cells hy (by omega)
  have c0 := hj' 0 (by omega)
  have c1 := hj' 1 (by omega)
  have e0 : d[0]'(by omega) = y1 := by simp only [hd, List.getElem_cons_zero]
  have e1 : d[1]'(by omega) = y2 := by simp only [hd, List.getElem_cons_succ, List.getElem_cons_zero]
  rw [e0, Nat.add_zero] at c0
  rw [e1] at c1
  have b2 := be2_u16w y1 y2
  have hlp : lp 2 d = _ := (congrArg (lp 2) hd).trans (lp2_two y1 y2 d3)
  have hL : y1.toNat * 256 + y2.toNat < 65536 := by have := y1.toNat_lt; have := y2.toNat_lt; omega
  generalize y1.toNat * 256 + y2.toNat = L at b2 hlp hL
  have WL := hid (show wrap64 (L : Int) = (L : Int) by unfold wrap64; omega)
  have HLP := hid hlp
  have HDR := hid hdr
  have B2 := hid b2
  have HL3 := hid hl3
  have hd3x : d3.length ≤ 2147483647 := by omega
  clear hlp b2 hj' e0 e1 hd hdr hl3

  by_cases hle : d3.length < L
  · have Hk := hid (show rqRead has data = none by rw [HK2.out, HLP.out, if_neg (by omega)]; rfl)
    go_wp2_with fail
    go_quiet (fail)
    rw [B2.out]
    go_wp2_with (refine wpList_cutFrom (k := 2) hy hl2x HDR.out _ _ _ rfl rfl rfl rfl ?_; intro A3 c3 hy3 ho3)
    go_ret
    exact HNO.out _ (hu.drewN _) Hk.out
  obtain ⟨ca, hca⟩ : ∃ ca, d3.take L = ca := ⟨_, rfl⟩
  obtain ⟨rest, hrest⟩ : ∃ rest, d3.drop L = rest := ⟨_, rfl⟩
  have hcal : ca.length = L := by rw [← hca]; simp; omega
  have Hk := hid (show rqRead has data = (rqCas (some (ca, rest))).map (fun l => ⟨has, ts, sig, l⟩) by rw [HK2.out, HLP.out, if_pos (by omega), hca, hrest])
  have HCA := hid hca
  have HCAL := hid hcal
  have HRS := hid hrest
  have HLE := hid (show L ≤ d3.length by omega)
  have HLM := hid (show L ≤ 4294967296 by omega)
  clear hca hrest hcal HK2 HLP hl2
  have wL := congrArg (Value.int IntKind.i64) WL.out
  go_wp2_with fail
  go_quiet (fail)
  rw [B2.out]
  go_wp2_with (refine wpList_cutFrom (k := 2) hy hl2x HDR.out _ _ _ rfl rfl rfl rfl ?_; intro A3 c3 hy3 ho3)
  rw [run_makeBytes L HLM.out]
  clear wL
  generalize hwd : World.drewN _ _ = we at hy3 ⊢
  have hu0 : Upd [m] w we := by rw [← hwd]; exact hu.drewN _
  have hmd0 : Blk we m 121 #[.bool has, v1, v2, .slice none 0 0] := by rw [← hwd]; exact hmd
  have n10 : NewR w we v1 (ts.map bv) := by rw [← hwd]; exact nw1
  have n20 : NewR w we v2 (sig.map wv) := by rw [← hwd]; exact nw2
  obtain ⟨wa, hwa⟩ : ∃ wa, we.alloc (.cells (List.replicate L (Value.int .u8 0)).toArray 5) = wa := ⟨_, rfl⟩
  obtain ⟨gc, hgc⟩ : ∃ gc, we.heap.size = gc := ⟨_, rfl⟩
  rw [hwa, hgc]
  have hba : Blk wa gc 5 (List.replicate L (Value.int .u8 0)).toArray := by rw [← hwa, ← hgc]; exact Blk.new _ _ _
  have hua : Upd [] we wa := by rw [← hwa]; exact (Upd.refl _ _).alloc _
  have hUa : Upd [m] w wa := hu0.trans hua (by simp)
  have hma := hmd0.upd hua (by simp)
  have hya := Row.upd hy3 hua (by simp)
  have hgcw : w.heap.size ≤ gc := by have := hu0.size; omega
  have hmc : m < gc := by omega
  have hr1 : Row wa gc v1 (ts.map bv) := by rw [← hgc]; exact Row.upd n10.1 hua (by simp)
  have hr2 : Row wa gc v2 (sig.map wv) := by rw [← hgc]; exact Row.upd n20.1 hua (by simp)
  have hn1 := n10.2
  have hn2 := n20.2
  have HBA := hid hba
  clear hwd hwa hgc hy3 hmd0 n10 n20 hba hua hu0 hmd nw1 nw2 hy hu c0 c1 ho3
  have hsrc : 0 < ((d3.take L).map bv).length → ∃ ad, A3 = some ad ∧ ∀ j v, ((d3.take L).map bv)[j]? = some v → wa.cell? (ad.add j) = some v := by
    intro h0
    simp at h0
    obtain ⟨b', o', e, -, hj⟩ := Byt.cells hya (by omega)
    refine ⟨_, e, fun j v hv => ?_⟩
    rw [add_lit]
    rw [List.getElem?_map] at hv
    obtain ⟨y, h1, rfl⟩ := Option.map_eq_some_iff.1 hv
    rw [List.getElem?_take] at h1
    split at h1
    · obtain ⟨h2, h3⟩ := List.getElem?_eq_some_iff.1 h1
      rw [hj j h2, h3]
    · cases h1
  have HSRC := hid hsrc
  have hlen : ((d3.take L).map bv).length = L := by rw [HCA.out, List.length_map, HCAL.out]
  have HLEN := hid hlen
  clear hsrc hlen
  go_upto_region 39 with (refine wpList_copy_splice rfl _ _ 22 22 rfl 5 Try.underlying22 (by kernel_rfl) _ _ _ _ _ _ rfl rfl gc 0 (List.replicate L (Value.int .u8 0)) 5 HBA.out ((d3.take L).map bv) (by rw [HLEN.out]; have := HLE.out; show L = min d3.length L; omega) (fun h0 => ⟨rfl, HSRC.out h0⟩) (by rw [HLEN.out]; simp) (byt_oneCell _) gc wa (Below.refl _ _) (Nat.le_refl _) ?_; intro wb hgb hbb; rw [HLEN.out])
  have hUb : Upd [m] w wb := hUa.belowNew hbb hgcw
  have hmb := hma.below hbb hmc
  have hgb' : Blk wb gc 5 (ca.map bv).toArray := by
    have h := hgb.out
    rw [HCA.out] at h
    have e : splice (List.replicate L (Value.int .u8 0)) 0 (ca.map bv) = ca.map bv := by
      unfold splice
      simp [HCAL.out]
    rw [e] at h
    exact h
  have hyb := Row.belowMore hya hbb (by omega)
  have hgs : gc < wb.heap.size := hgb'.lt
  have hr1b := (Row.belowMore hr1 hbb (Nat.le_refl _)).more (Nat.le_of_lt hgs)
  have hr2b := (Row.belowMore hr2 hbb (Nat.le_refl _)).more (Nat.le_of_lt hgs)
  have hib := InB.blk hgb' (by rw [HCAL.out]; omega)
  rw [HCAL.out] at hib
  have f3 := hmb.frozen 3
  have p3 := hmb.cell 3
  simp at p3
  clear hgb hgb' hbb hya hr1 hr2 hma hUa HSRC HLEN HBA
  go_upto_region 41 with (refine wpList_cutFrom (k := L) hyb HLE.out HRS.out _ _ _ rfl rfl rfl rfl ?_; intro A4 c4 hy4 ho4)
  obtain ⟨wl, hwl⟩ : ∃ wl, wb.setCell ⟨m, 3, none⟩ (.slice none 0 0) = wl := ⟨_, rfl⟩
  rw [hwl]
  have hul : Upd [m] wb wl := by rw [← hwl]; exact (Upd.refl _ _).setCell (by simp) _
  have hUl : Upd [m] w wl := hUb.trans hul (by simp)
  have hmll : Blk wl m 121 #[.bool has, v1, v2, .slice none 0 0] := by rw [← hwl]; exact hmb.set_ 3 _
  have hil : InB wl gc (.slice (some ⟨gc, 0, none⟩) L L) ca := hib.upd hul (by simp; omega)
  have nl1 : NewR w wl v1 (ts.map bv) := NewR.upd ⟨hr1b, hn1⟩ hul (by simp; omega)
  have nl2 : NewR w wl v2 (sig.map wv) := NewR.upd ⟨hr2b, hn2⟩ hul (by simp; omega)
  have hgl : gc < wl.heap.size := Nat.lt_of_lt_of_le hgs hul.size
  clear hwl hul hUb hmb hib hr1b hr2b f3 p3 hyb hy4 ho4 hgs
  go_loopg [11, 12] ca.length (fun gk v v12 wr => RqRel2 wl m gc wl.heap.size has v1 v2 ca gk v wr)
  case atStart => exact ⟨ca, some ⟨gc, 0, none⟩, L, .slice none 0 0, [], rfl, by rw [HCAL.out], by rw [HCAL.out]; exact hil, hmll, ⟨[], Own.nil_ _ _ _, trivial⟩, by cases casP ca <;> rfl, Upd.refl _ _, by rw [HCAL.out]; simp; omega⟩
  case round =>
    obtain ⟨d, A, c, v3, ls, rfl, rfl, hin, hmr, hcl, hcp, hur, hbnd⟩ := hrel
    have HCP := hid hcp
    have hgw2 : gc < wr.heap.size := Nat.lt_of_lt_of_le hgl hur.size
    have hUr : Upd [m] w wr := hUl.trans hur (by simp)
    have hmw : ∀ k ∈ [m], k < w.heap.size := by simpa using hml
    have hwls : w.heap.size ≤ wl.heap.size := hUl.size
    clear hcp
    by_cases h0 : d = []
    · subst h0
      have hres : rqRead has data = if rest = [] then some ⟨has, ts, sig, ls⟩ else none := by
        have hc : casP ca = some ls := by rw [HCP.out, casP_nil]; simp
        rw [Hk.out]
        cases rest with
        | nil => rw [rqCas_some, hc]; rfl
        | cons y t => rw [rqCas_more]; rfl
      have HRES := hid hres
      have m1 := NewR.upd nl1 hur hmw
      have m2 := NewR.upd nl2 hur hmw
      clear hres hin hil hmll nl1 nl2
      by_cases hr0 : rest = []
      · rw [if_pos hr0] at HRES
        have hz : ((rest.length : Int) == 0) = true := by rw [hr0]; rfl
        clear hr0
        go_wp2
        go_ret
        rw [HRES.out]
        refine ⟨rfl, hUr, fun x hx => ?_⟩
        cases hx
        refine ⟨rfl, v1, v2, v3, hmr, fun w2 S hu2 hS => ⟨(NewR.upd m1 hu2 hS).1, (NewR.upd m2 hu2 hS).1, ?_⟩⟩
        exact (hcl.upd hu2 (fun hm => by have := hS _ hm; omega) (fun k hk hm => by obtain ⟨us, ho, -⟩ := hcl; have := hS _ hm; have := (ho.ge hk).1; omega)).lst (by have := hu2.size; omega)
      · rw [if_neg hr0] at HRES
        have hz : ((rest.length : Int) == 0) = false := by have := List.length_pos_iff.2 hr0; rw [beq_eq_false_iff_ne]; omega
        clear hr0
        go_wp2
        go_ret
        exact HNO.out _ hUr HRES.out
    have hp0 : 0 < d.length := List.length_pos_iff.2 h0
    have HST := hid (show casP d = none → rqRead has data = none from fun hn => by rw [Hk.out, rqCas_bad _ _ (by rw [HCP.out, hn]; rfl)]; rfl)
    by_cases hl2 : d.length < 2
    · have Hn := hid (HST.out (casP_none (lp2_short hl2) h0))
      clear h0
      go_wp2_with fail
      go_ret
      exact HNO.out _ hUr Hn.out
    obtain ⟨z1, z2, d5, hd⟩ := two_of (show 2 ≤ d.length by omega)
    have hl3 : d.length = d5.length + 2 := by rw [hd]; rfl
    have hl2x : 2 ≤ d.length := by omega
    have hdr : d.drop 2 = d5 := by rw [hd]; rfl
    obtain ⟨bb, qq, rfl, hbb, hj'⟩ := Byt.cells hin.1 (by omega)
    have c0 := hj' 0 (by omega)
    have c1 := hj' 1 (by omega)
    have e0 : d[0]'(by omega) = z1 := by simp only [hd, List.getElem_cons_zero]
    have e1 : d[1]'(by omega) = z2 := by simp only [hd, List.getElem_cons_succ, List.getElem_cons_zero]
    rw [e0, Nat.add_zero] at c0
    rw [e1] at c1
    have b2 := be2_u16w z1 z2
    have hlp : lp 2 d = _ := (congrArg (lp 2) hd).trans (lp2_two z1 z2 d5)
    have hL : z1.toNat * 256 + z2.toNat < 65536 := by have := z1.toNat_lt; have := z2.toNat_lt; omega
    generalize z1.toNat * 256 + z2.toNat = L at b2 hlp hL
    have WL := hid (show wrap64 (L : Int) = (L : Int) by unfold wrap64; omega)
    have HLP := hid hlp
    have HDR := hid hdr
    have B2 := hid b2
    have HL3 := hid hl3
    have hd5x : d5.length ≤ 2147483647 := by omega
    clear hlp b2 hj' e0 e1 hd hdr hl3
    clear h0
    by_cases hle2 : d5.length < L
    · have Hn := hid (HST.out (casP_none (by rw [HLP.out, if_neg (by omega)]) (fun e => by rw [e] at hp0; simp at hp0)))
      have wL := congrArg (Value.int IntKind.i64) WL.out
      go_wp2_with fail
      go_quiet (fail)
      rw [B2.out]
      go_wp2_with (refine wpList_cutAny (d := d) rfl hl2x HDR.out _ _ _ rfl rfl rfl rfl ?_; intro A5 c5 hf5 ho5)
      go_ret
      exact HNO.out _ (hUr.drewN _) Hn.out
    obtain ⟨x, hx⟩ : ∃ x, d5.take L = x := ⟨_, rfl⟩
    obtain ⟨r5, hr5⟩ : ∃ r, d5.drop L = r := ⟨_, rfl⟩
    have hxl : x.length = L := by rw [← hx]; simp; omega
    have HS := hid (casP_step (show lp 2 d = some (x, r5) by rw [HLP.out, if_pos (by omega), hx, hr5]))
    have hrl : r5.length + L + 2 = d.length := by rw [← hr5, List.length_drop, HL3.out]; omega
    have HX := hid hx
    have HXL := hid hxl
    have HR5 := hid hr5
    have HRL := hid hrl
    have HLE5 := hid (show L ≤ d5.length by omega)
    have HBND := hid hbnd
    clear hx hr5 hxl hrl HST HLP hl2
    have wL := congrArg (Value.int IntKind.i64) WL.out
    go_wp2_with fail
    go_quiet (fail)
    rw [B2.out]
    go_wp2_with (refine wpList_cutAny (d := d) rfl hl2x HDR.out _ _ _ rfl rfl rfl rfl ?_; intro A5 c5 hf5 ho5)
    have hlc5 : d5.length ≤ c5 ∧ c5 ≤ 9223372036854775807 := by
      have h := Row.lenCap (hf5 _ _ hin.1)
      exact h
    have hsl := fun u => run_cutTo_all (A := A5) (n := d5.length) (c := c5) HLE5.out hlc5.1 .u16 u
    generalize hwf : World.drewN _ _ = wf
    have huf : Upd [] wr wf := by rw [← hwf]; exact (Upd.refl _ _).drewN _
    have hyf : InB wf gc (.slice A5 d5.length c5) d5 := ⟨Row.upd (hf5 _ _ hin.1) huf (by simp), fun k hk => hin.2 k (ho5 k hk)⟩
    have hmf := hmr.upd huf (by simp)
    obtain ⟨us, hown, hall⟩ := hcl.upd huf (by simp) (by simp)
    have hul := hall.length
    have HUL := hid hul
    obtain ⟨Av, cv, rfl⟩ := hown.formN (n := us.length) rfl
    have hur2 := hur.trans huf (by simp)
    have hnm : m ∉ (Value.slice Av us.length cv).ownBlock.toList := fun hm' => by have := hown.ne hmf (by decide) m (Option.mem_toList.1 hm'); exact this rfl
    have hown2 := hown.upd (((Upd.refl [] wf).alloc (.cells #[.slice A5 L c5] 22)).drew) (by simp)
    have hone := Row.drew (Row.one wf 22 (.slice A5 L c5))
    have hw1 : wl.heap.size ≤ wf.heap.size + 1 := by have := hur2.size; omega
    have hsz2 : wl.heap.size ≤ ((wf.alloc (.cells #[.slice A5 L c5] 22)).drew).heap.size := by simp [hw1]
    have hb1 : us.length + 1 ≤ 65536 := by have := HBND.out; omega
    clear hul
    have c3' := hmf.cell 3
    have c3f := hmf.frozen 3
    have a0 := (hmf.alloc (.cells #[.slice A5 L c5] 22)).cell 3
    have a0f := (hmf.alloc (.cells #[.slice A5 L c5] 22)).frozen 3
    simp at c3' a0
    have HHF := hid hf5
    clear hf5 hwf hcl hur hmr wL hin c0 c1 ho5 hil nl1 nl2 hmll hUl huf
    go_region_law (first | (refine step_append_row (v := .slice Av us.length cv) _ rfl _ _ 24 rfl wl.heap.size 22 (.slice none 0 0) 24 Try.underlying24 info_bytes rfl rfl hown2 rfl hone (by intro u hu; simp at hu; subst hu; rfl) (by simp; omega) (by simp; omega) hsz2 ?_; intro v3' w3' hap; obtain ⟨A6, c6, hv6⟩ := Own.formN (n := us.length + 1) hap.1 (by simp); subst hv6; have hm6 := ((hmf.alloc (.cells #[.slice A5 L c5] 22)).drew).upd hap.2.1 hnm; have e0 := hm6.cell 3; simp at e0; have g0 := hm6.frozen 3))
    all_goals
      go_wp2_with (refine wpList_cutAny (d := d5) rfl HLE5.out HR5.out _ _ _ rfl rfl rfl rfl ?_; intro A8 c8 hf8 ho8)
      go_roundg r5.length
      case measure => have := HRL.out; omega
      case rel =>
        have hE : Upd (m :: (Value.slice Av us.length cv).ownBlock.toList) wf (w3'.setCell ⟨m, 3, none⟩ (.slice A6 (us.length + 1) c6)) :=
          (((((Upd.refl [] wf).alloc (.cells #[.slice A5 L c5] 22)).drew).mono (by simp)).trans hap.2.1 (fun k hk => .inl (List.mem_cons_of_mem _ hk))).setCell (.inl (by simp)) _
        have hgS : gc ∉ m :: (Value.slice Av us.length cv).ownBlock.toList := fun hk => by
          rcases List.mem_cons.1 hk with hk | hk
          · omega
          · have := (hown.ge (Option.mem_toList.1 hk)).1; omega
        have hyE := hyf.upd hE hgS
        have hxE : InB (w3'.setCell ⟨m, 3, none⟩ (.slice A6 (us.length + 1) c6)) gc (.slice A5 L c5) x := by
          refine ⟨?_, fun k hk => hyE.2 k ((own_len A5 d5.length c5 L c5).trans hk)⟩
          have h := Byt.takeTo hyE.1 (k := L) (m := c5) HLE5.out (Nat.le_trans HLE5.out hlc5.1) (Nat.le_refl _) (Row.capNone hyE.1)
          rw [HX.out] at h
          exact h
        refine ⟨r5, A8, c8, .slice A6 (us.length + 1) c6, ls ++ [x], rfl, rfl, ⟨hf8 _ _ hyE.1, fun k hk => hyE.2 k (ho8 k hk)⟩, hm6.set_ 3 _, ⟨us ++ [.slice A5 L c5], hap.1.upd ((Upd.refl [m] _).setCell (by simp) _) ?_, All2.snoc (hall.imp fun u l hi => hi.upd hE hgS) hxE⟩, ?_, hur2.trans hE ?_, ?_⟩
        · intro k hk hm'
          have := hap.1.ne hm6 (by decide) k hk
          simp at hm'
          exact this hm'
        · rw [HCP.out, HS.out]; cases casP r5 <;> simp
        · intro k hk
          rcases List.mem_cons.1 hk with hk | hk
          · exact .inl (by simp [hk])
          · exact .inr ((hown.ge (Option.mem_toList.1 hk)).1)
        · have := HBND.out
          have := HRL.out
          simp
          omega
end
end Go.Proofs.Ytddkjhlngofkaaa

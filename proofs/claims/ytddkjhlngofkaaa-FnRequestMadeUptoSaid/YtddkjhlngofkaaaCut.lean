/- Slices cut in a walk without parting on their capacity; numbers put together out of bytes; rows made and filled. -/
import Derived.Test.YtddkjhlngofkaaaBody
import Derived.Test.YtddkjhlngofkaaaBase
import Derived.Laws.CopyOwn
namespace Go.Proofs.Ytddkjhlngofkaaa
open Go.RowKit
set_option maxRecDepth 100000

theorem or_u32' (a u : Nat) (k : Nat) (ha : a * 2 ^ k + 2 ^ k ≤ 4294967296) (hu : u < 2 ^ k) : bits .or .u32 ((a * 2 ^ k : Nat) : Int) (u : Int) = ((a * 2 ^ k + u : Nat) : Int) := by
  have h1 : a * 2 ^ k < 4294967296 := by have := Nat.two_pow_pos k; omega
  have h2 : u < 4294967296 := by omega
  have hn := Nat.or_lt_two_pow (n := 32) (x := a * 2 ^ k) (y := u) (by omega) (by omega)
  have e1 : (BitVec.ofInt 32 ((a * 2 ^ k : Nat) : Int)).toNat = a * 2 ^ k := by
    rw [BitVec.ofInt_natCast, BitVec.toNat_ofNat]
    exact Nat.mod_eq_of_lt (by omega)
  have e2 : (BitVec.ofInt 32 (u : Int)).toNat = u := by
    rw [BitVec.ofInt_natCast, BitVec.toNat_ofNat]
    exact Nat.mod_eq_of_lt (by omega)
  show IntKind.u32.wrap ((BitVec.ofInt 32 ((a * 2 ^ k : Nat) : Int) ||| BitVec.ofInt 32 (u : Int)).toNat : Int) = _
  rw [BitVec.toNat_or, e1, e2]
  have := Nat.shiftLeft_add_eq_or_of_lt (i := k) (b := u) hu a
  rw [Nat.shiftLeft_eq] at this
  rw [← this]
  simp only [IntKind.wrap, IntKind.signed, IntKind.bits]
  have h3 : a * 2 ^ k + u < 4294967296 := by omega
  have : ((a * 2 ^ k + u : Nat) : Int) % 2 ^ 32 = ((a * 2 ^ k + u : Nat) : Int) := by omega
  simpa using this
theorem be3_u32 (x y z : UInt8) : bits .or .u32 (bits .or .u32 ((x.toNat : Int) % 4294967296 * 65536 % 4294967296) ((y.toNat : Int) % 4294967296 * 256 % 4294967296)) ((z.toNat : Int) % 4294967296) = ((beNat [x, y, z] : Nat) : Int) := by
  have hx := x.toNat_lt
  have hy := y.toNat_lt
  have hz := z.toNat_lt
  have e1 : (x.toNat : Int) % 4294967296 * 65536 % 4294967296 = ((x.toNat * 2 ^ 16 : Nat) : Int) := by omega
  have e2 : (y.toNat : Int) % 4294967296 * 256 % 4294967296 = ((y.toNat * 256 : Nat) : Int) := by omega
  have e3 : (z.toNat : Int) % 4294967296 = (z.toNat : Int) := by omega
  rw [e1, e2, e3, or_u32' _ _ 16 (by omega) (by omega)]
  have e4 : ((x.toNat * 2 ^ 16 + y.toNat * 256 : Nat) : Int) = (((x.toNat * 256 + y.toNat) * 2 ^ 8 : Nat) : Int) := by omega
  rw [e4, or_u32' _ _ 8 (by omega) (by omega)]
  simp [beNat]
theorem or_u16' (a u : Nat) (ha : a < 256) (hu : u < 256) : bits .or .u16 ((a * 256 : Nat) : Int) (u : Int) = ((a * 256 + u : Nat) : Int) := by
  have hn := Nat.or_lt_two_pow (n := 16) (x := a * 256) (y := u) (by omega) (by omega)
  have e1 : (BitVec.ofInt 16 ((a * 256 : Nat) : Int)).toNat = a * 256 := by
    rw [BitVec.ofInt_natCast, BitVec.toNat_ofNat]
    exact Nat.mod_eq_of_lt (by omega)
  have e2 : (BitVec.ofInt 16 (u : Int)).toNat = u := by
    rw [BitVec.ofInt_natCast, BitVec.toNat_ofNat]
    exact Nat.mod_eq_of_lt (by omega)
  show IntKind.u16.wrap ((BitVec.ofInt 16 ((a * 256 : Nat) : Int) ||| BitVec.ofInt 16 (u : Int)).toNat : Int) = _
  rw [BitVec.toNat_or, e1, e2]
  have := Nat.shiftLeft_add_eq_or_of_lt (i := 8) (b := u) (by omega) a
  rw [Nat.shiftLeft_eq] at this
  rw [← this]
  simp only [IntKind.wrap, IntKind.signed, IntKind.bits]
  have h3 : a * 2 ^ 8 + u < 65536 := by omega
  have : ((a * 2 ^ 8 + u : Nat) : Int) % 2 ^ 16 = ((a * 2 ^ 8 + u : Nat) : Int) := by omega
  simpa using this
theorem be2_u16 (x y : UInt8) : bits .or .u16 ((x.toNat : Int) % 65536 * 256 % 65536) ((y.toNat : Int) % 65536) = ((x.toNat * 256 + y.toNat : Nat) : Int) := by
  have hx := x.toNat_lt
  have hy := y.toNat_lt
  have e1 : (x.toNat : Int) % 65536 * 256 % 65536 = ((x.toNat * 256 : Nat) : Int) := by omega
  have e3 : (y.toNat : Int) % 65536 = (y.toNat : Int) := by omega
  rw [e1, e3, or_u16' _ _ (by omega) (by omega)]
theorem take3 (data : List UInt8) (k : Nat) (h : k + 3 ≤ data.length) : (data.drop k).take 3 = [data[k]'(by omega), data[k + 1]'(by omega), data[k + 2]'(by omega)] := by
  apply List.ext_getElem
  · simp; omega
  · intro i h1 h2
    simp at h1 h2
    have : i = 0 ∨ i = 1 ∨ i = 2 := by omega
    rcases this with rfl | rfl | rfl <;> simp
/-- a length of two bytes, and what is behind it -/
theorem lp2_two (a b : UInt8) (t : List UInt8) : lp 2 (a :: b :: t) = if a.toNat * 256 + b.toNat ≤ t.length then some (t.take (a.toNat * 256 + b.toNat), t.drop (a.toNat * 256 + b.toNat)) else none := by
  unfold lp
  rw [if_pos (by simp)]
  have e : beNat ((a :: b :: t).take 2) = a.toNat * 256 + b.toNat := by simp [beNat]
  rw [e]
  rfl
theorem lp2_short {d : List UInt8} (h : d.length < 2) : lp 2 d = none := by
  unfold lp
  rw [if_neg (by omega)]
theorem lp1_one (a : UInt8) (t : List UInt8) : lp 1 (a :: t) = if a.toNat ≤ t.length then some (t.take a.toNat, t.drop a.toNat) else none := by
  unfold lp
  rw [if_pos (by simp)]
  have e : beNat ((a :: t).take 1) = a.toNat := by simp [beNat]
  rw [e]
  rfl
theorem two_of {d : List UInt8} (h : 2 ≤ d.length) : ∃ a b t, d = a :: b :: t := by
  match d, h with
  | a :: b :: t, _ => exact ⟨a, b, t, rfl⟩
section
variable {w w' : World} {B : Nat} {d : List UInt8}
/-- what a cut leaves: a slice of the same block -/
theorem cut_own (A : Option Addr) (n c n' c' k : Nat) (b : Bool) : ∀ g, (Value.slice (if b = true then A else A.map (·.add k)) n' c').ownBlock = some g → (Value.slice A n c).ownBlock = some g := by
  intro g h
  cases A with
  | none => cases b <;> simp [Value.ownBlock] at h
  | some a =>
    cases b
    · simp only [Bool.false_eq_true, if_false, Option.map_some, Value.ownBlock] at h
      unfold Addr.add at h
      split at h <;> simpa [Value.ownBlock] using h
    · simpa [Value.ownBlock] using h
theorem run_cutFrom {A : Option Addr} {n c k : Nat} (w : World) (hy : Byt w B (.slice A n c) d) (hk : k ≤ n) (kk : IntKind) : ∃ A' c',
    (Instr.sliceAt 22 (.slice A n c) (some (.int kk (k : Int))) none none).run Try.prog w = .ok (.slice A' (n - k) c') w ∧ Byt w B (.slice A' (n - k) c') (d.drop k) ∧
    ∀ g, (Value.slice A' (n - k) c').ownBlock = some g → (Value.slice A n c).ownBlock = some g := by
  have hu : Try.prog.underlying 22 = some (.slice (Try.prog.elem 22)) := by kernel_rfl
  have hsz : (sizeOf (Try.prog.elem 22)).run Try.prog w = .ok 1 w := by
    obtain ⟨i, hi, _, hs, _⟩ := info_parts info_u8
    have he : Try.prog.elem 22 = 5 := by kernel_rfl
    rw [he]
    simp [sizeOf, typeInfo, hi, hs]
  refine ⟨if c = k then A else A.map (·.add k), c - k, ?_, ?_, ?_⟩
  · rw [run_sliceAt_slice w _ _ _ _ _ hu, run_slice_l w 22 A n c hu kk (k : Int) (by omega) (by omega), hsz]
    simp [Result.andThen, sliced]
  · have := Row.cut hy hk
    rwa [← List.map_drop] at this
  · have := cut_own A n c (n - k) (c - k) k (decide (c = k))
    simpa using this
theorem run_cutTo {A : Option Addr} {n c k : Nat} (w : World) (hy : Byt w B (.slice A n c) d) (hk : k ≤ n) (kk : IntKind) : ∃ A',
    (Instr.sliceAt 22 (.slice A n c) none (some (.int kk (k : Int))) none).run Try.prog w = .ok (.slice A' k c) w ∧ Byt w B (.slice A' k c) (d.take k) ∧
    ∀ g, (Value.slice A' k c).ownBlock = some g → (Value.slice A n c).ownBlock = some g := by
  have hu : Try.prog.underlying 22 = some (.slice (Try.prog.elem 22)) := by kernel_rfl
  have hsz : (sizeOf (Try.prog.elem 22)).run Try.prog w = .ok 1 w := by
    obtain ⟨i, hi, _, hs, _⟩ := info_parts info_u8
    have he : Try.prog.elem 22 = 5 := by kernel_rfl
    rw [he]
    simp [sizeOf, typeInfo, hi, hs]
  have hlc := Row.lenCap hy
  have h0 : ∀ a : Addr, a.add 0 = a := by intro a; unfold Addr.add; split <;> (cases a; simp_all)
  have hA : (A.map (·.add 0)) = A := by cases A <;> simp [h0]
  refine ⟨A, ?_, ?_, ?_⟩
  · rw [run_sliceAt_slice w _ _ _ _ _ hu, run_slice_h w 22 A n c hu kk (k : Int) (by omega) (by omega), hsz]
    simp [Result.andThen, sliced, hA]
  · exact Byt.takeTo hy hk (Nat.le_trans hk hlc.1) (Nat.le_refl _) (Row.capNone hy)
  · intro g h
    cases A with
    | none => simp [Value.ownBlock] at h
    | some a => simpa [Value.ownBlock] using h
theorem wpList_cutFrom {ops : Array Oper} {rest : List Oper} {o : Oper} {a : Act} {Q : Exit → Act → World → Prop} {A : Option Addr} {n c k : Nat} {d' : List UInt8} (hy : Byt w B (.slice A n c) d) (hk : k ≤ n) (hd : d.drop k = d') (p lo : Operand) (kk : IntKind) (ho : o.op = .slice 22 p (some lo) none none)
    (hp : a.eval p = .slice A n c) (hlo : a.eval lo = .int kk (k : Int)) (hw : Region.wanted o (yielded ops a.tmps) = true)
    (hK : ∀ A' c', Byt w B (.slice A' d'.length c') d' → (∀ g, (Value.slice A' d'.length c').ownBlock = some g → (Value.slice A n c).ownBlock = some g) → wpList Try.prog ops Q rest (a.put o.dst (.slice A' d'.length c')) w) : wpList Try.prog ops Q (o :: rest) a w := by
  obtain ⟨A', c', hrun, h1, h2⟩ := run_cutFrom w hy hk kk
  have hn : n - k = d'.length := by rw [← hd, List.length_drop, Byt.len hy]
  rw [hd] at h1
  rw [hn] at hrun h1 h2
  refine BigFrame.wpList_want hw fun K' hK' => ?_
  unfold Oper.wp execOp
  simp only [ho, hp, hlo, Option.map_some, Option.map_none, Sem.run_bind, Sem.run_pure, hrun, Result.andThen_ok]
  exact hK' _ _ (hK A' c' h1 h2)
theorem step_cutTo {ops : Array Oper} {o : Oper} {a : Act} {K : Act → World → Prop} {Q : Exit → Act → World → Prop} {E : Prop} {A : Option Addr} {n c k : Nat} (hy : Byt w B (.slice A n c) d) (hgd : o.guard = none) (p hi : Operand) (kk : IntKind) (ho : o.op = .slice 22 p none (some hi) none)
    (hp : a.eval p = .slice A n c) (hhi : a.eval hi = .int kk (k : Int)) (hk : k ≤ n)
    (hK : ∀ A', Byt w B (.slice A' k c) (d.take k) → (∀ g, (Value.slice A' k c).ownBlock = some g → (Value.slice A n c).ownBlock = some g) → K (a.put o.dst (.slice A' k c)) w) :
    if Region.wanted o (yielded ops a.tmps) = true then Oper.wp Try.prog o a w K Q else E := by
  have hw : Region.wanted o (yielded ops a.tmps) = true := by simp [Region.wanted, hgd]
  rw [if_pos hw]
  obtain ⟨A', hrun, h1, h2⟩ := run_cutTo w hy hk kk
  unfold Oper.wp execOp
  simp only [ho, hp, hhi, Option.map_some, Option.map_none, Sem.run_bind, Sem.run_pure, hrun, Result.andThen_ok]
  exact hK A' h1 h2
/-- bytes made, all 0 -/
theorem run_makeBytes (n : Nat) (hn : n ≤ 4294967296) (u : World) (kk : IntKind) : (Instr.makeSlice 22 (.int kk (n : Int)) (.int kk (n : Int))).run Try.prog u =
    .ok (.slice (some ⟨u.heap.size, 0, none⟩) n n) (u.alloc (.cells (List.replicate n (Value.int .u8 0)).toArray 5)) := by
  obtain ⟨i0, hi, hz0, hz1, hz2⟩ := info_parts info_u8
  have h := run_make (P := Try.prog) u 22 5 i0 (.int .u8 0) Try.underlying22 hi hz0 kk kk (n : Int) (n : Int) (by omega) (Int.le_refl _) (by rw [hz2]; omega) (by omega)
  rw [Int.toNat_natCast] at h
  have e : madeCells #[Value.int .u8 0] n = (List.replicate n (Value.int .u8 0)).toArray := by
    rw [← toList_madeCells_one, Array.toArray_toList]
  rw [← e]
  simpa [hz1, Value.cells] using h
end
/-- a filled row's next cell -/
theorem set_next (l : List Value) (x u : Value) (r : List Value) : (l ++ x :: r).toArray.setIfInBounds l.length u = (l ++ u :: r).toArray := by
  apply Array.ext'
  rw [Array.toList_setIfInBounds]
  simp
end Go.Proofs.Ytddkjhlngofkaaa

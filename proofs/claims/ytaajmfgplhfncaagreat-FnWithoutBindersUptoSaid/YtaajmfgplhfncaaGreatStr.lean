/- Texts joined: String, String2. -/
import Derived.Test.YtaajmfgplhfncaaGreatWriter
import Derived.WalkSpells
import Derived.StillTailTactics

/- Contracts of cryptobyte's String: read, Skip, ReadUint8 and their kin. -/
namespace Go.Proofs.YtaajmfgplhfncaaGreat
open Go.RowKit
set_option maxRecDepth 20000

/-- a slice that is not nil -/
def NN (v : Value) : Prop := ∃ a n c, v = .slice (some a) n c
/-- the String variable in block b: what is left to read -/
def Sv (w : World) (N b : Nat) (bs : List UInt8) (nn : Prop) : Prop := N ≤ b ∧ ∃ v, Blk w b 116 #[v] ∧ Byt w N v bs ∧ (nn → NN v)

section
variable {w w' : World} {N b : Nat} {bs : List UInt8} {nn : Prop} {S : List Nat}
theorem Sv.upd (h : Sv w N b bs nn) (hu : Upd S w w') (hs : ∀ x ∈ S, N ≤ x) (hb : b ∉ S) : Sv w' N b bs nn := by
  obtain ⟨h1, v, h2, h3, h4⟩ := h
  exact ⟨h1, v, h2.upd hu hb, h3.upd hu hs, h4⟩
theorem Sv.weak {mm : Prop} (h : Sv w N b bs nn) (hm : mm → nn) : Sv w N b bs mm := by
  obtain ⟨h1, v, h2, h3, h4⟩ := h
  exact ⟨h1, v, h2, h3, fun x => h4 (hm x)⟩
theorem Sv.open_ (h : Sv w N b bs nn) : ∃ A c, w.cell? ⟨b, 0, none⟩ = some (.slice A bs.length c) ∧ w.frozen? ⟨b, 0, none⟩ = false ∧ Byt w N (.slice A bs.length c) bs ∧ bs.length ≤ c ∧ c ≤ 9223372036854775807 ∧ (nn → ∃ a, A = some a) := by
  obtain ⟨h1, v, h2, h3, h4⟩ := h
  obtain ⟨A, c, rfl, hv', hl, hc⟩ := Byt.form h3 rfl
  refine ⟨A, c, by rw [h2.cell]; rfl, h2.frozen 0, hv', hl, hc, fun hn => ?_⟩
  obtain ⟨a, n, c', e⟩ := h4 hn
  injection e with e
  exact ⟨a, e⟩
/-- a String variable that has been stored anew -/
theorem Sv.stored {v v' : Value} {bs' : List UInt8} {mm : Prop} (hb : Blk w b 116 #[v]) (hN : N ≤ b) (hv : Byt w N v' bs') (hm : mm → NN v') : Sv (w.setCell ⟨b, 0, none⟩ v') N b bs' mm := by
  refine ⟨hN, v', ?_, Row.setCell (p := ⟨b, 0, none⟩) hv hN _, hm⟩
  have := hb.set_ 0 v'
  simpa using this

/-- what 'read' hands back where there are enough bytes -/
def ReadP (w : World) (N b : Nat) (bs : List UInt8) (n : Nat) (e : Ending) (w' : World) : Prop :=
  ∃ u, e = .returned u ∧ NN u ∧ Byt w' N u (bs.take n) ∧ Upd [b] w w' ∧ Sv w' N b (bs.drop n) True

set_option maxHeartbeats 1000000 in
theorem read_ok (h : Sv w N b bs nn) (n : Nat) (hn : n ≤ bs.length) (hnn : 0 < n ∨ nn) :
    Calls Tryz.prog 134 #[.pointer (some ⟨b, 0, none⟩), .int .i64 n] w (ReadP w N b bs n) := by
  obtain ⟨A, c, c0, f0, hv, hl, hc, hA⟩ := h.open_
  have hAs : ∃ a, A = some a := by
    rcases hnn with hp | hp
    · obtain ⟨b', o, e, _⟩ := Byt.at_ hv (k := 0) (by omega)
      exact ⟨_, e⟩
    · exact hA hp
  obtain ⟨a, rfl⟩ := hAs
  have hN := h.1
  obtain ⟨-, v0, hb, -⟩ := h
  have hbl := hb.lt
  have h1 := Byt.takeTo (k := n) (m := c) hv hn (by omega) (Nat.le_refl _) (by intro e; cases e)
  have hu : ∀ u : Value, Upd [b] w (w.setCell ⟨b, 0, none⟩ u) := fun u => (Upd.refl _ _).setCell (by simp) u
  have hcn := hv.capNone
  clear hnn hA hcn
  go_enter Tryz.func134, Tryz.ntmps134
  go_wp2
  all_goals go_ret
  · have hck : c = n := by assumption
    have h2 := Byt.cutEnd (k := n) hv hn hck
    rw [hck] at h1
    exact ⟨.slice (some a) n n, rfl, ⟨_, _, _, rfl⟩, h1.upd (hu _) (by simpa using hN), hu _, Sv.stored hb hN h2 fun _ => ⟨_, _, _, rfl⟩⟩
  · have hck : ¬ c = n := by assumption
    have h2 := Byt.cutOff (k := n) hv hn hck
    exact ⟨.slice (some a) n c, rfl, ⟨_, _, _, rfl⟩, h1.upd (hu _) (by simpa using hN), hu _, Sv.stored hb hN h2 fun _ => ⟨_, _, _, rfl⟩⟩

theorem read_bad (h : Sv w N b bs nn) (n : Nat) (hn : bs.length < n) :
    Calls Tryz.prog 134 #[.pointer (some ⟨b, 0, none⟩), .int .i64 n] w fun e w' => e = .returned (.slice none 0 0) ∧ w = w' := by
  obtain ⟨A, c, c0, f0, hv, hl, hc, hA⟩ := h.open_
  clear hA
  go_enter Tryz.func134, Tryz.ntmps134
  go_wp2
  go_ret
  exact ⟨rfl, rfl⟩

/-- true, and the String has moved on -/
def OkP (w : World) (N b : Nat) (rest : List UInt8) (e : Ending) (w' : World) : Prop := e = .returned (.bool true) ∧ Upd [b] w w' ∧ Sv w' N b rest True
/-- false, and nothing that matters has turned -/
def NoP (w : World) (b : Nat) (e : Ending) (w' : World) : Prop := e = .returned (.bool false) ∧ Upd [b] w w'

theorem Skip_ok (h : Sv w N b bs nn) (n : Nat) (hn : n ≤ bs.length) (hp : 0 < n) :
    Calls Tryz.prog 68 #[.pointer (some ⟨b, 0, none⟩), .int .i64 n] w (OkP w N b (bs.drop n)) := by
  have q : ∀ (w : World) (a : Option Addr) (n c n' c' : Nat), (binOp .neq 23 (.slice a n c) (.slice none n' c')).run Tryz.prog w = .ok (.bool (!a.isNone)) w := fun w a n c n' c' => run_neq_slice_nil_any w _ _ a n c n' c' Tryz.underlying23
  go_enter Tryz.func68, Tryz.ntmps68
  go_wp2_with fail
  refine (read_ok h n hn (.inl hp)).mono ?_
  rintro e w1 ⟨u, rfl, ⟨a, k, c, rfl⟩, hy, hu, hs⟩
  go_wp2
  go_ret
  exact ⟨rfl, hu, hs⟩
theorem Skip_bad (h : Sv w N b bs nn) (n : Nat) (hn : bs.length < n) :
    Calls Tryz.prog 68 #[.pointer (some ⟨b, 0, none⟩), .int .i64 n] w (NoP w b) := by
  have q : ∀ (w : World) (a : Option Addr) (n c n' c' : Nat), (binOp .neq 23 (.slice a n c) (.slice none n' c')).run Tryz.prog w = .ok (.bool (!a.isNone)) w := fun w a n c n' c' => run_neq_slice_nil_any w _ _ a n c n' c' Tryz.underlying23
  go_enter Tryz.func68, Tryz.ntmps68
  go_wp2_with fail
  refine (read_bad h n hn).mono ?_
  rintro e w1 ⟨rfl, rfl⟩
  go_wp2
  go_ret
  exact ⟨rfl, Upd.refl _ _⟩

theorem Empty_any {v : Value} {B : Nat} (h : Byt w B v bs) :
    Calls Tryz.prog 73 #[v] w fun e w' => e = .returned (.bool (decide (bs = []))) ∧ w = w' := by
  obtain ⟨A, c, rfl, -⟩ := Byt.form h rfl
  have H := hid (show ((bs.length : Int) == 0) = decide (bs = []) by
    cases bs with
    | nil => rfl
    | cons x t => rw [decide_eq_false (by simp), beq_eq_false_iff_ne]; simp; omega)
  go_enter Tryz.func73, Tryz.ntmps73
  go_wp2
  go_ret
  exact ⟨by rw [← H.out]; rfl, rfl⟩

/-- true; the String has moved on, and cell k of block ob holds x -/
def OkOut (w : World) (N b : Nat) (rest : List UInt8) (ob : Nat) (T : TypeId) (cs : Array Value) (k : Nat) (x : Value) (e : Ending) (w' : World) : Prop :=
  e = .returned (.bool true) ∧ Upd [b, ob] w w' ∧ Sv w' N b rest True ∧ Blk w' ob T (cs.setIfInBounds k x)

theorem okOut_store {w1 w2 : World} {ob k : Nat} {T : TypeId} {cs : Array Value} {rest : List UInt8} {x : Value} (hu : Upd [b] w w1) (hs : Sv w1 N b rest True) (ho : Blk w ob T cs) (hne : ob ≠ b) (hN : N ≤ ob)
    (he : ∃ n, w2 = (w1.drewN n).setCell ⟨ob, k, none⟩ x) : OkOut w N b rest ob T cs k x (.returned (.bool true)) w2 := by
  obtain ⟨n, rfl⟩ := he
  have hu2 : Upd [ob] w1 ((w1.drewN n).setCell ⟨ob, k, none⟩ x) := ((Upd.refl _ _).drewN n).setCell (by simp) _
  refine ⟨rfl, (hu.mono (by simp)).trans hu2 (by simp), hs.upd hu2 (by simpa using hN) (by simpa using Ne.symm hne), ?_⟩
  exact ((ho.upd hu (by simpa using hne)).drewN n).set_ k x

set_option maxHeartbeats 1000000 in
theorem ReadUint8_ok {ob k : Nat} {T : TypeId} {cs : Array Value} {x : UInt8} (h : Sv w N b (x :: bs) nn) (ho : Blk w ob T cs) (hk : k < cs.size) (hne : ob ≠ b) (hN : N ≤ ob) :
    Calls Tryz.prog 74 #[.pointer (some ⟨b, 0, none⟩), .pointer (some ⟨ob, k, none⟩)] w (OkOut w N b bs ob T cs k (bv x)) := by
  have q : ∀ (w : World) (a : Option Addr) (n c n' c' : Nat), (binOp .eql 23 (.slice a n c) (.slice none n' c')).run Tryz.prog w = .ok (.bool a.isNone) w := fun w a n c n' c' => Lib.run_eql_slice_nil w _ _ a n c n' c' Tryz.underlying23
  go_enter Tryz.func74, Tryz.ntmps74
  go_wp2_with fail
  refine (read_ok h 1 (by simp) (.inl (by omega))).mono ?_
  rintro e w1 ⟨u, rfl, ⟨a, n, c, rfl⟩, hy, hu, hs⟩
  have hn1 := Byt.len hy
  simp at hn1
  subst hn1
  obtain ⟨b', o, e, hb', hj, hcell⟩ := Byt.at_ hy (k := 0) (by omega)
  injection e with e
  subst e
  have ho1 := ho.upd hu (by simpa using hne)
  obtain ⟨y, hy1⟩ : ∃ y, cs[k]? = some y := ⟨_, Array.getElem?_eq_getElem hk⟩
  have d0 := (ho1.cell k).trans hy1
  have d1 := ho1.frozen k
  simp at hcell
  go_wp2
  go_ret
  exact okOut_store hu hs ho hne hN ⟨0, rfl⟩
theorem ReadUint8_bad {ob k : Nat} (h : Sv w N b [] nn) :
    Calls Tryz.prog 74 #[.pointer (some ⟨b, 0, none⟩), .pointer (some ⟨ob, k, none⟩)] w (NoP w b) := by
  have q : ∀ (w : World) (a : Option Addr) (n c n' c' : Nat), (binOp .eql 23 (.slice a n c) (.slice none n' c')).run Tryz.prog w = .ok (.bool a.isNone) w := fun w a n c n' c' => Lib.run_eql_slice_nil w _ _ a n c n' c' Tryz.underlying23
  go_enter Tryz.func74, Tryz.ntmps74
  go_wp2_with fail
  refine (read_bad h 1 (by simp)).mono ?_
  rintro e w1 ⟨rfl, rfl⟩
  go_wp2
  go_ret
  exact ⟨rfl, Upd.refl _ _⟩

theorem or_u16 (x y : Nat) (hx : x < 256) (hy : y < 256) : bits .or .u16 ((x : Int) * 256) (y : Int) = (((UInt16.ofNat (x * 256 + y)).toNat : Nat) : Int) := by
  have hn := Nat.or_lt_two_pow (n := 16) (x := x * 256) (y := y) (by omega) (by omega)
  have e1 : (BitVec.ofInt 16 ((x : Int) * 256)).toNat = x * 256 := by
    rw [show ((x : Int) * 256) = ((x * 256 : Nat) : Int) by omega, BitVec.ofInt_natCast, BitVec.toNat_ofNat]
    exact Nat.mod_eq_of_lt (by omega)
  have e2 : (BitVec.ofInt 16 (y : Int)).toNat = y := by
    rw [BitVec.ofInt_natCast, BitVec.toNat_ofNat]
    exact Nat.mod_eq_of_lt (by omega)
  show IntKind.u16.wrap ((BitVec.ofInt 16 ((x : Int) * 256) ||| BitVec.ofInt 16 (y : Int)).toNat : Int) = _
  rw [BitVec.toNat_or, e1, e2, UInt16.toNat_ofNat']
  have := Nat.shiftLeft_add_eq_or_of_lt (i := 8) (b := y) (by omega) x
  rw [Nat.shiftLeft_eq] at this
  rw [← this]
  simp only [IntKind.wrap, IntKind.signed, IntKind.bits]
  rfl
set_option maxHeartbeats 1000000 in
theorem ReadUint16_ok {ob k : Nat} {T : TypeId} {cs : Array Value} {x y : UInt8} (h : Sv w N b (x :: y :: bs) nn) (ho : Blk w ob T cs) (hk : k < cs.size) (hne : ob ≠ b) (hN : N ≤ ob) :
    Calls Tryz.prog 69 #[.pointer (some ⟨b, 0, none⟩), .pointer (some ⟨ob, k, none⟩)] w (OkOut w N b bs ob T cs k (wv (UInt16.ofNat (x.toNat * 256 + y.toNat)))) := by
  have q : ∀ (w : World) (a : Option Addr) (n c n' c' : Nat), (binOp .eql 23 (.slice a n c) (.slice none n' c')).run Tryz.prog w = .ok (.bool a.isNone) w := fun w a n c n' c' => Lib.run_eql_slice_nil w _ _ a n c n' c' Tryz.underlying23
  go_enter Tryz.func69, Tryz.ntmps69
  go_wp2_with fail
  refine (read_ok h 2 (by simp) (.inl (by omega))).mono ?_
  rintro e w1 ⟨u, rfl, ⟨a, n, c, rfl⟩, hy, hu, hs⟩
  have hn1 := Byt.len hy
  simp at hn1
  subst hn1
  obtain ⟨b', o, e, hb', hj, hcell⟩ := Byt.at_ hy (k := 0) (by omega)
  obtain ⟨b'', o', e', hb'', hj', hcell'⟩ := Byt.at_ hy (k := 1) (by omega)
  rw [e] at e'
  injection e with e
  subst e
  injection e' with e'
  injection e' with e1 e2
  subst e1 e2
  have ho1 := ho.upd hu (by simpa using hne)
  obtain ⟨z, hz1⟩ : ∃ z, cs[k]? = some z := ⟨_, Array.getElem?_eq_getElem hk⟩
  have d0 := (ho1.cell k).trans hz1
  have d1 := ho1.frozen k
  simp at hcell hcell'
  have hx := x.toNat_lt
  have hy' := y.toNat_lt
  go_wp2
  go_still_tail 11, (by kernel_rfl)
  go_wp2
  go_ret
  have ho := or_u16 x.toNat y.toNat hx hy'
  rw [ho]
  exact okOut_store hu hs ‹Blk w ob T cs› hne hN ⟨1, rfl⟩
theorem ReadUint16_bad {ob k : Nat} (h : Sv w N b bs nn) (hl : bs.length < 2) :
    Calls Tryz.prog 69 #[.pointer (some ⟨b, 0, none⟩), .pointer (some ⟨ob, k, none⟩)] w (NoP w b) := by
  have q : ∀ (w : World) (a : Option Addr) (n c n' c' : Nat), (binOp .eql 23 (.slice a n c) (.slice none n' c')).run Tryz.prog w = .ok (.bool a.isNone) w := fun w a n c n' c' => Lib.run_eql_slice_nil w _ _ a n c n' c' Tryz.underlying23
  go_enter Tryz.func69, Tryz.ntmps69
  go_wp2_with fail
  refine (read_bad h 2 hl).mono ?_
  rintro e w1 ⟨rfl, rfl⟩
  go_wp2
  go_ret
  exact ⟨rfl, Upd.refl _ _⟩
end
end Go.Proofs.YtaajmfgplhfncaaGreat

/- Contracts of cryptobyte's String: length-prefixed reads. -/
namespace Go.Proofs.YtaajmfgplhfncaaGreat
open Go.RowKit
set_option maxRecDepth 20000

/-- a vector whose length is n bytes: its content and what is left -/
def lp (n : Nat) (bs : List UInt8) : Option (List UInt8 × List UInt8) :=
  if n ≤ bs.length then
    if beNat (bs.take n) ≤ (bs.drop n).length then some ((bs.drop n).take (beNat (bs.take n)), (bs.drop n).drop (beNat (bs.take n))) else none
  else none

theorem or_u32 (a u : Nat) (ha : a < 16777216) (hu : u < 256) : bits .or .u32 ((a : Int) * 256) (u : Int) = ((a * 256 + u : Nat) : Int) := by
  have hn := Nat.or_lt_two_pow (n := 32) (x := a * 256) (y := u) (by omega) (by omega)
  have e1 : (BitVec.ofInt 32 ((a : Int) * 256)).toNat = a * 256 := by
    rw [show ((a : Int) * 256) = ((a * 256 : Nat) : Int) by omega, BitVec.ofInt_natCast, BitVec.toNat_ofNat]
    exact Nat.mod_eq_of_lt (by omega)
  have e2 : (BitVec.ofInt 32 (u : Int)).toNat = u := by
    rw [BitVec.ofInt_natCast, BitVec.toNat_ofNat]
    exact Nat.mod_eq_of_lt (by omega)
  show IntKind.u32.wrap ((BitVec.ofInt 32 ((a : Int) * 256) ||| BitVec.ofInt 32 (u : Int)).toNat : Int) = _
  rw [BitVec.toNat_or, e1, e2]
  have := Nat.shiftLeft_add_eq_or_of_lt (i := 8) (b := u) (by omega) a
  rw [Nat.shiftLeft_eq] at this
  rw [← this]
  simp only [IntKind.wrap, IntKind.signed, IntKind.bits]
  have : ((a * 2 ^ 8 + u : Nat) : Int) % 2 ^ 32 = ((a * 2 ^ 8 + u : Nat) : Int) := by omega
  simpa using this

section
variable {w w' : World} {N b : Nat} {bs : List UInt8} {nn : Prop} {S : List Nat}

/-- true; the String has moved on to rest, and cell k of block ob holds a slice that reads as x -/
def LpP (w : World) (N b : Nat) (x rest : List UInt8) (ob : Nat) (T : TypeId) (cs : Array Value) (k : Nat) (e : Ending) (w' : World) : Prop :=
  ∃ u, e = .returned (.bool true) ∧ Upd [b, ob] w w' ∧ Sv w' N b rest True ∧ Blk w' ob T (cs.setIfInBounds k u) ∧ Byt w' N u x ∧ NN u

/-- what a length-prefixed read leaves -/
def LpPost (w : World) (N b n : Nat) (bs : List UInt8) (ob : Nat) (T : TypeId) (cs : Array Value) (k : Nat) (e : Ending) (w' : World) : Prop :=
  match lp n bs with
  | some (x, rest) => LpP w N b x rest ob T cs k e w'
  | none => NoP w b e w'
theorem LpPost.ret {n ob k : Nat} {T : TypeId} {cs : Array Value} {e : Ending} (h : LpPost w N b n bs ob T cs k e w') : ∃ r, e = .returned (.bool r) := by
  unfold LpPost at h
  split at h
  · obtain ⟨_, he, _⟩ := h
    exact ⟨true, he⟩
  · exact ⟨false, h.1⟩
theorem LpPost.yes {n ob k : Nat} {T : TypeId} {cs : Array Value} {e : Ending} {x rest : List UInt8} (h : LpPost w N b n bs ob T cs k e w') (hl : lp n bs = some (x, rest)) : LpP w N b x rest ob T cs k e w' := by
  unfold LpPost at h
  rw [hl] at h
  exact h
theorem LpPost.no {n ob k : Nat} {T : TypeId} {cs : Array Value} {e : Ending} (h : LpPost w N b n bs ob T cs k e w') (hl : lp n bs = none) : NoP w b e w' := by
  unfold LpPost at h
  rw [hl] at h
  exact h

def RLRel (n : Nat) (l : List UInt8) (gk : Nat) (x i : Value) (w w' : World) : Prop :=
  ∃ j : Nat, j + gk = n ∧ i = .int .i64 j ∧ x = .int .u32 (beNat (l.take j) : Int) ∧ w = w'

theorem beNat_take_lt (l : List UInt8) (j n : Nat) (hj : j ≤ n) (hn : n ≤ 3) : beNat (l.take j) < 16777216 := by
  have h1 := beNat_lt (l.take j)
  have h2 : 256 ^ (l.take j).length ≤ 256 ^ 3 := Nat.pow_le_pow_right (by omega) (by rw [List.length_take]; omega)
  omega

set_option maxHeartbeats 2000000 in
theorem readLP_any (h : Sv w N b bs nn) (n : Nat) (hn : 1 ≤ n) (hn3 : n ≤ 3) {ob k : Nat} {T : TypeId} {cs : Array Value} (ho : Blk w ob T cs) (hk : k < cs.size) (hne : ob ≠ b) (hNo : N ≤ ob) :
    Calls Tryz.prog 135 #[.pointer (some ⟨b, 0, none⟩), .int .i64 n, .pointer (some ⟨ob, k, none⟩)] w (LpPost w N b n bs ob T cs k) := by
  have q : ∀ (w : World) (a : Option Addr) (n c n' c' : Nat), (binOp .eql 23 (.slice a n c) (.slice none n' c')).run Tryz.prog w = .ok (.bool a.isNone) w := fun w a n c n' c' => Lib.run_eql_slice_nil w _ _ a n c n' c' Tryz.underlying23
  obtain ⟨R, hR⟩ : ∃ R : Ending → World → Prop, R = LpPost w N b n bs ob T cs k := ⟨_, rfl⟩
  rw [← hR]
  have HR := hid hR
  clear hR
  by_cases h1 : n ≤ bs.length
  · go_enter Tryz.func135, Tryz.ntmps135
    go_wp2_with fail
    refine (read_ok h n h1 (.inl (by omega))).mono ?_
    rintro e w1 ⟨u, rfl, ⟨a, n', c, rfl⟩, hy, hu, hs⟩
    have hn1 := Byt.len hy
    rw [List.length_take, Nat.min_eq_left h1] at hn1
    subst hn1
    have hlc := hy.lenCap
    have hlc1 := hlc.1
    have hlc2 := hlc.2
    unfold maxLen at hlc2
    clear hlc
    obtain ⟨l, hl⟩ : ∃ l, bs.take n = l := ⟨_, rfl⟩
    have hll : l.length = n := by rw [← hl, List.length_take]; omega
    rw [hl] at hy
    have Hl := hid hl
    have Hll := hid hll
    clear hl hll
    go_wp2_with fail
    go_loopg [8, 10, 19] n (fun gk x _ i wr => RLRel n l gk x i w1 wr)
    case atStart => exact ⟨0, by omega, rfl, rfl, rfl⟩
    case round =>
      obtain ⟨j, hjg, rfl, rfl, rfl⟩ := hrel
      have HJ := hid hjg
      have hj : j ≤ n := by omega
      clear hjg
      have hbn := beNat_take_lt l j n hj hn3
      by_cases hlt : j < n
      · obtain ⟨b', o, e, hb', hj', hcell⟩ := Byt.at_ hy hlt
        injection e with e
        subst e
        have hx := (l[j]).toNat_lt
        have HS := hid (show beNat (l.take (j + 1)) = beNat (l.take j) * 256 + (l[j]).toNat by
          rw [List.take_succ_eq_append_getElem hj', beNat_snoc])
        go_wp2
        have hj0 := HJ.out
        go_roundg (n - (j + 1))
        case measure => omega
        case rel => exact ⟨j + 1, by omega, by go_num, by rw [HS.out, or_u32 _ _ hbn hx], rfl⟩
      · obtain rfl : j = n := by omega
        rw [List.take_of_length_le (by rw [Hll.out]; omega)] at hbn ⊢
        obtain ⟨L, hL⟩ : ∃ L, beNat l = L := ⟨_, rfl⟩
        rw [hL] at hbn ⊢
        have HLL := hid hL
        clear hL
        by_cases h2 : L ≤ (bs.drop j).length
        · go_wp2_with fail
          refine (read_ok hs L h2 (.inr trivial)).mono ?_
          rintro e w2 ⟨u2, rfl, ⟨a2, n2, c2, rfl⟩, hy2, hu2, hs2⟩
          have hu12 : Upd [b] w w2 := hu.two hu2
          have ho2 := ho.upd hu12 (by simpa using hne)
          obtain ⟨z, hz1⟩ : ∃ z, cs[k]? = some z := ⟨_, Array.getElem?_eq_getElem hk⟩
          have d0 := (ho2.cell k).trans hz1
          have d1 := ho2.frozen k
          go_wp2
          rw [HR.out]
          unfold LpPost
          have hlp : lp j bs = some ((bs.drop j).take L, (bs.drop j).drop L) := by
            unfold lp
            rw [if_pos h1, Hl.out, HLL.out, if_pos h2]
          simp only [hlp]
          have hu3 : Upd [ob] w2 (w2.setCell ⟨ob, k, none⟩ (.slice (some a2) n2 c2)) := (Upd.refl _ _).setCell (by simp) _
          exact ⟨_, rfl, (hu12.mono (by simp)).trans hu3 (by simp), hs2.upd hu3 (by simpa using hNo) (by simpa using Ne.symm hne), ho2.set_ k _, hy2.upd hu3 (by simpa using hNo), ⟨_, _, _, rfl⟩⟩
        · go_wp2_with fail
          refine (read_bad hs L (by omega)).mono ?_
          rintro e w2 ⟨rfl, rfl⟩
          go_wp2
          rw [HR.out]
          unfold LpPost
          have hlp : lp j bs = none := by
            unfold lp
            rw [if_pos h1, Hl.out, HLL.out, if_neg h2]
          simp only [hlp]
          exact ⟨rfl, hu⟩
  · go_enter Tryz.func135, Tryz.ntmps135
    go_wp2_with fail
    refine (read_bad h n (by omega)).mono ?_
    rintro e w1 ⟨rfl, rfl⟩
    go_wp2
    rw [HR.out]
    unfold LpPost
    have hlp : lp n bs = none := by
      unfold lp
      rw [if_neg h1]
    simp only [hlp]
    exact ⟨rfl, Upd.refl _ _⟩

theorem ReadLP8_any (h : Sv w N b bs nn) {ob k : Nat} {T : TypeId} {cs : Array Value} (ho : Blk w ob T cs) (hk : k < cs.size) (hne : ob ≠ b) (hNo : N ≤ ob) :
    Calls Tryz.prog 76 #[.pointer (some ⟨b, 0, none⟩), .pointer (some ⟨ob, k, none⟩)] w (LpPost w N b 1 bs ob T cs k) := by
  have H := hid (readLP_any h 1 (by omega) (by omega) ho hk hne hNo)
  go_enter Tryz.func76, Tryz.ntmps76
  go_wp2_with fail
  refine H.out.mono ?_
  intro e w1 hp
  obtain ⟨r, rfl⟩ := hp.ret
  go_wp2
  go_ret
  exact hp
theorem tlsLP8_any (h : Sv w N b bs nn) {ob k : Nat} {T : TypeId} {cs : Array Value} (ho : Blk w ob T cs) (hk : k < cs.size) (hne : ob ≠ b) (hNo : N ≤ ob) :
    Calls Tryz.prog 71 #[.pointer (some ⟨b, 0, none⟩), .pointer (some ⟨ob, k, none⟩)] w (LpPost w N b 1 bs ob T cs k) := by
  have H := hid (ReadLP8_any h ho hk hne hNo)
  go_enter Tryz.func71, Tryz.ntmps71
  go_wp2_with fail
  refine H.out.mono ?_
  intro e w1 hp
  obtain ⟨r, rfl⟩ := hp.ret
  go_wp2
  go_ret
  exact hp

theorem ReadLP16_any (h : Sv w N b bs nn) {ob k : Nat} {T : TypeId} {cs : Array Value} (ho : Blk w ob T cs) (hk : k < cs.size) (hne : ob ≠ b) (hNo : N ≤ ob) :
    Calls Tryz.prog 72 #[.pointer (some ⟨b, 0, none⟩), .pointer (some ⟨ob, k, none⟩)] w (LpPost w N b 2 bs ob T cs k) := by
  have H := hid (readLP_any h 2 (by omega) (by omega) ho hk hne hNo)
  go_enter Tryz.func72, Tryz.ntmps72
  go_wp2_with fail
  refine H.out.mono ?_
  intro e w1 hp
  obtain ⟨r, rfl⟩ := hp.ret
  go_wp2
  go_ret
  exact hp
theorem tlsLP16_any (h : Sv w N b bs nn) {ob k : Nat} {T : TypeId} {cs : Array Value} (ho : Blk w ob T cs) (hk : k < cs.size) (hne : ob ≠ b) (hNo : N ≤ ob) :
    Calls Tryz.prog 77 #[.pointer (some ⟨b, 0, none⟩), .pointer (some ⟨ob, k, none⟩)] w (LpPost w N b 2 bs ob T cs k) := by
  have H := hid (ReadLP16_any h ho hk hne hNo)
  go_enter Tryz.func77, Tryz.ntmps77
  go_wp2_with fail
  refine H.out.mono ?_
  intro e w1 hp
  obtain ⟨r, rfl⟩ := hp.ret
  go_wp2
  go_ret
  exact hp

end
end Go.Proofs.YtaajmfgplhfncaaGreat

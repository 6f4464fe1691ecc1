/- Numbers of 32 bits: read from a String, added to a Builder. -/
import Derived.Test.YtcdjbciifnoajaaEm
import Derived.StillTailTactics
namespace Go.Proofs.Ytcdjbciifnoajaa
open Go.RowKit
set_option maxRecDepth 100000

/-- a number of 32 bits as a value -/
abbrev uv (u : UInt32) : Value := .int .u32 (u.toNat : Int)
theorem or32 (a u : Nat) (k : Nat) (ha : a * 2 ^ k + 2 ^ k ≤ 4294967296) (hu : u < 2 ^ k) : bits .or .u32 ((a * 2 ^ k : Nat) : Int) (u : Int) = ((a * 2 ^ k + u : Nat) : Int) := by
  have h1 : a * 2 ^ k < 4294967296 := by have := Nat.two_pow_pos k; omega
  have h2 : u < 4294967296 := by omega
  have hn := Nat.or_lt_two_pow (n := 32) (x := a * 2 ^ k) (y := u) (by omega) (by omega)
  have e1 : (BitVec.ofInt 32 ((a * 2 ^ k : Nat) : Int)).toNat = a * 2 ^ k := by
    rw [BitVec.ofInt_natCast, BitVec.toNat_ofNat]
    exact Nat.mod_eq_of_lt (by omega)
  have e2 : (BitVec.ofInt 32 (u : Int)).toNat = u := by
    rw [BitVec.ofInt_natCast, BitVec.toNat_ofNat]
    exact Nat.mod_eq_of_lt (by omega)
  show IntKind.u32.wrap ((BitVec.ofInt 32 ((a * 2 ^ k : Nat) : Int) ||| BitVec.ofInt 32 (u : Int)).toNat : Int) = _
  rw [BitVec.toNat_or, e1, e2]
  have := Nat.shiftLeft_add_eq_or_of_lt (i := k) (b := u) hu a
  rw [Nat.shiftLeft_eq] at this
  rw [← this]
  simp only [IntKind.wrap, IntKind.signed, IntKind.bits]
  have h3 : a * 2 ^ k + u < 4294967296 := by omega
  have : ((a * 2 ^ k + u : Nat) : Int) % 2 ^ 32 = ((a * 2 ^ k + u : Nat) : Int) := by omega
  simpa using this
theorem be4_u32 (x y z t : UInt8) : bits .or .u32 (bits .or .u32 (bits .or .u32 ((x.toNat : Int) * 16777216) ((y.toNat : Int) * 65536)) ((z.toNat : Int) * 256)) (t.toNat : Int) = (((UInt32.ofNat (beNat [x, y, z, t])).toNat : Nat) : Int) := by
  have hx := x.toNat_lt
  have hy := y.toNat_lt
  have hz := z.toNat_lt
  have ht := t.toNat_lt
  have e1 : (x.toNat : Int) * 16777216 = ((x.toNat * 2 ^ 24 : Nat) : Int) := by omega
  have e2 : (y.toNat : Int) * 65536 = ((y.toNat * 65536 : Nat) : Int) := by omega
  have e3 : (z.toNat : Int) * 256 = ((z.toNat * 256 : Nat) : Int) := by omega
  rw [e1, e2, e3, or32 _ _ 24 (by omega) (by omega)]
  have e4 : ((x.toNat * 2 ^ 24 + y.toNat * 65536 : Nat) : Int) = (((x.toNat * 256 + y.toNat) * 2 ^ 16 : Nat) : Int) := by omega
  rw [e4, or32 _ _ 16 (by omega) (by omega)]
  have hA : ∀ A Z : Nat, A * 2 ^ 16 + Z * 256 = (A * 256 + Z) * 2 ^ 8 := by intro A Z; omega
  rw [hA, or32 _ _ 8 (by omega) (by omega)]
  have e6 : beNat [x, y, z, t] = ((x.toNat * 256 + y.toNat) * 256 + z.toNat) * 256 + t.toNat := by simp only [beNat, List.foldl_cons, List.foldl_nil]; omega
  have e7 : ((x.toNat * 256 + y.toNat) * 256 + z.toNat) * 256 + t.toNat < 4294967296 := by omega
  rw [e6, UInt32.toNat_ofNat_of_lt' (by simpa [UInt32.size] using e7)]

section
variable {w w' w1 w2 : World} {base q p off pl N b : Nat} {v content ic : Value} {xs bs : List UInt8} {st out : Option (List UInt8)} {S : List Nat} {B R R' : Nat} {F : World → Prop} {e : Ending} {nn : Prop}

set_option maxHeartbeats 2000000 in
theorem ReadUint32_ok {ob k : Nat} {T : TypeId} {cs : Array Value} {x y z t : UInt8} (h : Sv w N b (x :: y :: z :: t :: bs) nn) (ho : Blk w ob T cs) (hk : k < cs.size) (hne : ob ≠ b) (hN : N ≤ ob) :
    Calls Try.prog 71 #[.pointer (some ⟨b, 0, none⟩), .pointer (some ⟨ob, k, none⟩)] w (OkOut w N b bs ob T cs k (uv (UInt32.ofNat (beNat [x, y, z, t])))) := by
  have q : ∀ (w : World) (a : Option Addr) (n c n' c' : Nat), (binOp .eql 23 (.slice a n c) (.slice none n' c')).run Try.prog w = .ok (.bool a.isNone) w := fun w a n c n' c' => Lib.run_eql_slice_nil w _ _ a n c n' c' Try.underlying23
  go_enter Try.func71, Try.ntmps71
  go_wp2_with fail
  refine (read_ok h 4 (by simp) (.inl (by omega))).mono ?_
  rintro e w1 ⟨u, rfl, ⟨a, n, c, rfl⟩, hy, hu, hs⟩
  have hn1 := Byt.len hy
  simp at hn1
  subst hn1
  obtain ⟨b', o, e, hb', hj, hcell⟩ := Byt.at_ hy (k := 0) (by omega)
  obtain ⟨b1, o1, e1, _, _, hcell1⟩ := Byt.at_ hy (k := 1) (by omega)
  obtain ⟨b2, o2, e2, _, _, hcell2⟩ := Byt.at_ hy (k := 2) (by omega)
  obtain ⟨b3, o3, e3, _, _, hcell3⟩ := Byt.at_ hy (k := 3) (by omega)
  rw [e] at e1 e2 e3
  injection e with e
  subst e
  cases e1
  cases e2
  cases e3
  have ho1 := ho.upd hu (by simpa using hne)
  obtain ⟨zz, hz1⟩ : ∃ z, cs[k]? = some z := ⟨_, Array.getElem?_eq_getElem hk⟩
  have d0 := (ho1.cell k).trans hz1
  have d1 := ho1.frozen k
  simp at hcell hcell1 hcell2 hcell3
  have hx := x.toNat_lt
  have hy' := y.toNat_lt
  have hz' := z.toNat_lt
  have ht' := t.toNat_lt
  go_wp2
  go_still_tail 23, (by kernel_rfl)
  go_wp2
  go_ret
  rw [be4_u32 x y z t]
  exact okOut_store hu hs ‹Blk w ob T cs› hne hN ⟨1, rfl⟩
theorem ReadUint32_bad {ob k : Nat} (h : Sv w N b bs nn) (hl : bs.length < 4) :
    Calls Try.prog 71 #[.pointer (some ⟨b, 0, none⟩), .pointer (some ⟨ob, k, none⟩)] w (NoP w b) := by
  have q : ∀ (w : World) (a : Option Addr) (n c n' c' : Nat), (binOp .eql 23 (.slice a n c) (.slice none n' c')).run Try.prog w = .ok (.bool a.isNone) w := fun w a n c n' c' => Lib.run_eql_slice_nil w _ _ a n c n' c' Try.underlying23
  go_enter Try.func71, Try.ntmps71
  go_wp2_with fail
  refine (read_bad h 4 hl).mono ?_
  rintro e w1 ⟨rfl, rfl⟩
  go_wp2
  go_ret
  exact ⟨rfl, Upd.refl _ _⟩
theorem AddUint32_any (hb : BS w base p v off pl ic st) (hl : olen st ≤ 17592186044416) (n : Nat) (hn : n < 4294967296) :
    Calls Try.prog 80 #[.pointer (some ⟨p, 0, none⟩), .int .u32 (n : Int)] w (BSP w base p v off pl ic (app st (some (be 4 n)))) := by
  have h := add_lit_any hb hl (be 4 n) (by simp [be_len]) 5
  rw [be_len] at h
  have e3 : bv (UInt8.ofNat (n / 256 ^ 3)) = .int .u8 ((n : Int) / 16777216) := bv_of (by omega)
  have e2 : bv (UInt8.ofNat (n / 256 ^ 2)) = .int .u8 ((n : Int) / 65536 % 256) := bv_of (by omega)
  have e1 : bv (UInt8.ofNat (n / 256 ^ 1)) = .int .u8 ((n : Int) / 256 % 256) := bv_of (by omega)
  have e0 : bv (UInt8.ofNat (n / 256 ^ 0)) = .int .u8 ((n : Int) % 256) := bv_of (by omega)
  simp only [be, List.map_cons, List.map_nil, e3, e2, e1, e0] at h
  have H := hid h
  clear h e0 e1 e2 e3
  go_enter Try.func80, Try.ntmps80
  go_wp2_with fail
  refine H.out.mono ?_
  intro e1 w1 hp
  have he := hp.1
  subst he
  go_wp2
  go_end0
  exact hp
theorem Em.u32 (h : Em w1 q v base off pl ic B F st R w2) (n : Nat) (hn : n < 4294967296) (hR : R' + 4 ≤ R) :
    Calls Try.prog 80 #[.pointer (some ⟨q, 0, none⟩), .int .u32 (n : Int)] w2 (EmP w1 q v base off pl ic B F (app st (some (be 4 n))) R') := by
  obtain ⟨v2, hb, hu, hv2⟩ := h.main
  have hr := h.room
  have ho := olen_app st (some (be 4 n))
  have h1 : olen (some (be 4 n)) = 4 := be_len 4 n
  exact (AddUint32_any hb (by omega) n hn).mono fun e w' hp => h.step hu hv2 hp (by omega)
end
end Go.Proofs.Ytcdjbciifnoajaa

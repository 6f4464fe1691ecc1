/- Texts joined: Reader, Reader2, Reader3, Reader4, Reader5. -/
import Derived.Test.YtaajmfgplhfncaaChecked
import Derived.Test.YtaajmfgplhfncaaBase
import Derived.BigQuiet
import Derived.Deep.QuietTactic
import Derived.Deep.LoopGhost
import Derived.Deep.DeepMust

/- Contracts of the reference's reader: each method computes its plain function. -/
namespace Go.Proofs.Ytaajmfgplhfncaa
open Go.RowKit

theorem info_u8 : (Try.prog.info? 5).map (fun i => (i.zero, i.size, i.bytes)) = some (some (.int .u8 0), 1, 1) := by kernel_rfl
theorem vec_eq (s : R) (size lo hi : Nat) {n : Nat} {s1 : R} (h : s.num size = (n, s1)) :
    s.vec size lo hi = if (s1.long n).code = 0 then (((s1.long n).take n).1, ((s1.long n).take n).2.rng n lo hi) else ([], s1.long n) := by
  simp [R.vec, h]
theorem num_lt (s : R) (size : Nat) (h : size ≤ 4) : (s.num size).1 < 4294967296 := by
  have h1 := beNat_lt (s.take size).1
  rw [take_len] at h1
  have h2 : 256 ^ size ≤ 256 ^ 4 := Nat.pow_le_pow_right (by omega) (by omega)
  show beNat (s.take size).1 < _
  omega
theorem Upd.two {S : List Nat} {a b c : World} (h : Upd S a b) (k : Upd S b c) : Upd S a c := h.trans k fun _ hx => .inl hx
end Go.Proofs.Ytaajmfgplhfncaa

/- Contracts of the reference's reader: end, within, done, words, vectors, body. -/
namespace Go.Proofs.Ytaajmfgplhfncaa
open Go.RowKit

end Go.Proofs.Ytaajmfgplhfncaa

/- Contracts of the reference's reader: words, vectors, body. -/
namespace Go.Proofs.Ytaajmfgplhfncaa
open Go.RowKit

abbrev wv (u : UInt16) : Value := .int .u16 (u.toNat : Int)
theorem info_u16 : (Try.prog.info? 22).map (fun i => (i.zero, i.size, i.bytes)) = some (some (.int .u16 0), 1, 2) := by kernel_rfl
theorem info_bytes : (Try.prog.info? 23).map (fun i => (i.zero, i.size, i.bytes)) = some (some (.slice none 0 0), 1, 24) := by kernel_rfl

section
variable {w w' : World} {N r : Nat} {s : R} {S : List Nat}

theorem words_step2 (a b : UInt8) (t : List UInt8) (c : Nat) :
    (R.mk (a :: b :: t) c).num 2 = (a.toNat * 256 + b.toNat, ⟨t, c⟩) := by
  have h : (R.mk (a :: b :: t) c).take 2 = ([a, b], ⟨t, c⟩) := by
    unfold R.take
    rw [if_neg (by simp)]
    rfl
  simp [R.num, h, beNat]
theorem words_step1 (a : UInt8) (c : Nat) : (R.mk [a] c).num 2 = (0, (R.mk [a] c).fail 3) := by
  simp [R.num, R.take, beNat]

theorem wv_ofNat (n : Nat) (h : n < 65536) : Value.int .u16 (n : Int) = wv (UInt16.ofNat n) := by
  show _ = Value.int .u16 (((UInt16.ofNat n).toNat : Nat) : Int)
  rw [UInt16.toNat_ofNat', Nat.mod_eq_of_lt h]

end
end Go.Proofs.Ytaajmfgplhfncaa

/- Contracts of the reference's reader: vectors, body. -/
namespace Go.Proofs.Ytaajmfgplhfncaa
open Go.RowKit

section
variable {w w' : World} {N r : Nat} {s : R} {S : List Nat}

/-- a slice of slices of bytes whose row is the call's own, and whose elements lie below N -/
def Vecs (w : World) (base N : Nat) (v : Value) (ls : List (List UInt8)) : Prop := ∃ vs, Own w base 23 v vs ∧ All2 (fun u l => Byt w N u l) vs ls

theorem Vecs.upd {base : Nat} {v : Value} {ls : List (List UInt8)} (h : Vecs w base N v ls) (hu : Upd S w w') (hs : ∀ g, v.ownBlock = some g → g ∉ S) (hN : ∀ x ∈ S, N ≤ x) : Vecs w' base N v ls := by
  obtain ⟨vs, h1, h2⟩ := h
  exact ⟨vs, h1.upd hu hs, h2.imp fun _ _ hb => hb.upd hu hN⟩

end
end Go.Proofs.Ytaajmfgplhfncaa

/- Contract of the reference's reader: body, the head of a message. -/
namespace Go.Proofs.Ytaajmfgplhfncaa
open Go.RowKit

section
variable {w w' : World} {N r : Nat} {s : R} {S : List Nat}

theorem neq_true {a b : Nat} (h : a ≠ b) : (((a : Int) != (b : Int)) = true) := by rw [bne_iff_ne]; omega
theorem neq_false {a b : Nat} (h : a = b) : (((a : Int) != (b : Int)) = false) := by subst h; simp

/-- what 'body' leaves behind its number -/
def bodyK (kind : Nat) (data : List UInt8) : R := if ((R.mk data 0).num 1).1 = kind then ((R.mk data 0).num 1).2 else ((R.mk data 0).num 1).2.fail 1
theorem bodyR_eq (kind : Nat) (data : List UInt8) (h : ¬ data.length < 4) :
    bodyR kind data = if ((bodyK kind data).num 3).1 = ((bodyK kind data).num 3).2.bs.length then ((bodyK kind data).num 3).2 else ((bodyK kind data).num 3).2.fail 1 := by
  unfold bodyR
  simp only [if_neg h]
  rfl

end
end Go.Proofs.Ytaajmfgplhfncaa

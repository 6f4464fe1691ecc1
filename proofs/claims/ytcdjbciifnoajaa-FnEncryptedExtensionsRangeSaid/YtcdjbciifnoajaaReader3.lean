/- Contracts of the reference's reader: words, vectors, body. -/
import Derived.Test.YtcdjbciifnoajaaReader2
import Derived.Deep.DeepMust
import Derived.Deep.LoopGhost
namespace Go.Proofs.Ytcdjbciifnoajaa
open Go.RowKit

abbrev wv (u : UInt16) : Value := .int .u16 (u.toNat : Int)
theorem info_u16 : (Try.prog.info? 64).map (fun i => (i.zero, i.size, i.bytes)) = some (some (.int .u16 0), 1, 2) := by kernel_rfl
theorem info_bytes : (Try.prog.info? 23).map (fun i => (i.zero, i.size, i.bytes)) = some (some (.slice none 0 0), 1, 24) := by kernel_rfl

section
variable {w w' : World} {N r : Nat} {s : R} {S : List Nat}

theorem words_step2 (a b : UInt8) (t : List UInt8) (c : Nat) :
    (R.mk (a :: b :: t) c).num 2 = (a.toNat * 256 + b.toNat, ⟨t, c⟩) := by
  have h : (R.mk (a :: b :: t) c).take 2 = ([a, b], ⟨t, c⟩) := by
    unfold R.take
    rw [if_neg (by simp)]
    rfl
  simp [R.num, h, beNat]
theorem words_step1 (a : UInt8) (c : Nat) : (R.mk [a] c).num 2 = (0, (R.mk [a] c).fail 3) := by
  simp [R.num, R.take, beNat]

theorem wv_ofNat (n : Nat) (h : n < 65536) : Value.int .u16 (n : Int) = wv (UInt16.ofNat n) := by
  show _ = Value.int .u16 (((UInt16.ofNat n).toNat : Nat) : Int)
  rw [UInt16.toNat_ofNat', Nat.mod_eq_of_lt h]

end
end Go.Proofs.Ytcdjbciifnoajaa

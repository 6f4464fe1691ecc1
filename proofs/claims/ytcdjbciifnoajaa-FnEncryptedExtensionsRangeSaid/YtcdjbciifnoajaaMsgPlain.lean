/- Plain laws of messages made and read. No program is named here. -/
import Derived.Test.YtcdjbciifnoajaaBody2
import Derived.Test.YtcdjbciifnoajaaModelW
namespace Go.Proofs.Ytcdjbciifnoajaa
set_option maxRecDepth 100000

theorem beNat_be3 (n : Nat) (h : n < 16777216) : beNat (be 3 n) = n := by
  simp [be, beNat]
  omega
theorem beNat_be2 (n : Nat) (h : n < 65536) : beNat (be 2 n) = n := by
  simp [be, beNat]
  omega
theorem lp_be (k : Nat) (x r : List UInt8) (hk : beNat (be k x.length) = x.length) : lp k (be k x.length ++ x ++ r) = some (x, r) := by
  have hl := be_len k x.length
  have e1 : (be k x.length ++ x ++ r).take k = be k x.length := by rw [List.append_assoc, List.take_append_of_le_length (by omega), List.take_of_length_le (by omega)]
  have e2 : (be k x.length ++ x ++ r).drop k = x ++ r := by
    rw [List.append_assoc]
    have := List.drop_left (l₁ := be k x.length) (l₂ := x ++ r)
    rwa [hl] at this
  unfold lp
  rw [e1, e2, hk, if_pos (by simp; omega), if_pos (by simp)]
  simp

/-- a message around a body -/
theorem message_eq (kind : Nat) (x : Wr) : messageW kind x = ⟨be 1 kind ++ be 3 x.b.length ++ x.b, x.bad || decide (256 ^ 3 ≤ x.b.length)⟩ := by
  simp [messageW, Wr.inner, Wr.vec, Wr.num, Wr.nil]

end Go.Proofs.Ytcdjbciifnoajaa

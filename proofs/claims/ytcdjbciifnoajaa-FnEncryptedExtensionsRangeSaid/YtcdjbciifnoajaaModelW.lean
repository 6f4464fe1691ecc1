/- What the reference's writer computes. No program is named here. -/
import Derived.Test.YtcdjbciifnoajaaModel
namespace Go.Proofs.Ytcdjbciifnoajaa

/-- what a writer has written, and whether a vector was too long -/
structure Wr where
  b : List UInt8
  bad : Bool
/-- n as so many bytes, the highest first -/
def be (size n : Nat) : List UInt8 := match size with
  | 0 => []
  | k + 1 => UInt8.ofNat (n / 256 ^ k) :: be k n
theorem be_len (size n : Nat) : (be size n).length = size := by
  induction size with
  | zero => rfl
  | succ k ih => simp [be, ih]
namespace Wr
def num (s : Wr) (size n : Nat) : Wr := ⟨s.b ++ be size n, s.bad⟩
def vec (s : Wr) (size : Nat) (c : List UInt8) : Wr := ⟨s.b ++ be size c.length ++ c, s.bad || decide (256 ^ size ≤ c.length)⟩
def inner (s : Wr) (size : Nat) (x : Wr) : Wr := Wr.vec ⟨s.b, s.bad || x.bad⟩ size x.b
def nil : Wr := ⟨[], false⟩
def vector (size : Nat) (x : Wr) : Wr := nil.inner size x
def plain (b : List UInt8) : Wr := ⟨b, false⟩
end Wr
/-- 'message': a handshake message with its head -/
def messageW (kind : Nat) (x : Wr) : Wr := (Wr.nil.num 1 kind).inner 3 x

end Go.Proofs.Ytcdjbciifnoajaa

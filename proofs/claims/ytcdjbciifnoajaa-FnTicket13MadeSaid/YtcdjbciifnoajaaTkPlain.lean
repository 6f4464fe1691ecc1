/- NewSessionTicket of TLS 1.3, plainly: what the package reads and makes, what the reference reads. No program is named here. -/
import Derived.Test.YtcdjbciifnoajaaExtW
namespace Go.Proofs.Ytcdjbciifnoajaa
set_option maxRecDepth 20000

/-- a NewSessionTicket of TLS 1.3 -/
structure Tk where
  life : UInt32
  age : UInt32
  nonce : List UInt8
  label : List UInt8
  early : UInt32
def Tk.zero : Tk := ⟨0, 0, [], [], 0⟩
/-- a number of 32 bits off the front -/
def rd4 (bs : List UInt8) : Option (UInt32 × List UInt8) := match bs with
  | x :: y :: z :: t :: r => some (UInt32.ofNat (beNat [x, y, z, t]), r)
  | _ => none
theorem rd4_bad {bs : List UInt8} (h : bs.length < 4) : rd4 bs = none := by
  match bs, h with
  | [], _ => rfl
  | [_], _ => rfl
  | [_, _], _ => rfl
  | [_, _, _], _ => rfl
  | _ :: _ :: _ :: _ :: _, h => simp at h; omega
theorem rd4_two (bs : List UInt8) : bs.length < 4 ∨ ∃ x y z t r, bs = x :: y :: z :: t :: r := by
  match bs with
  | [] => exact .inl (by simp)
  | [_] => exact .inl (by simp)
  | [_, _] => exact .inl (by simp)
  | [_, _, _] => exact .inl (by simp)
  | x :: y :: z :: t :: r => exact .inr ⟨x, y, z, t, r, rfl⟩
theorem rd4_some {bs r : List UInt8} {n : UInt32} (h : rd4 bs = some (n, r)) : ∃ x y z t, bs = x :: y :: z :: t :: r ∧ n = UInt32.ofNat (beNat [x, y, z, t]) := by
  rcases rd4_two bs with h' | ⟨x, y, z, t, r', rfl⟩
  · rw [rd4_bad h'] at h; cases h
  · injection h with h
    injection h with h1 h2
    subst h1 h2
    exact ⟨x, y, z, t, rfl, rfl⟩
theorem rd4_none {bs : List UInt8} (h : rd4 bs = none) : bs.length < 4 := by
  rcases rd4_two bs with h' | ⟨x, y, z, t, r', rfl⟩
  · exact h'
  · cases h
def tkEarly (m : Tk) : Option (UInt32 × List UInt8) → Option Tk
  | some (n, []) => some { m with early := n }
  | _ => none
/-- an extension -/
def tkStep (m : Tk) (e : Ex) : Option Tk := if e.1 = 42 then tkEarly m (rd4 e.2) else some m
def tkExt (m : Tk) (d : List UInt8) : Option Tk := match lp 2 d with
  | some (x, []) => blockE tkStep x m
  | _ => none
def tkLabel (l a : UInt32) (n : List UInt8) (d : List UInt8) : Option Tk := (lp 2 d).bind fun p => tkExt ⟨l, a, n, p.1, 0⟩ p.2
def tkNonce (l a : UInt32) (d : List UInt8) : Option Tk := (lp 1 d).bind fun p => tkLabel l a p.1 p.2
def tkAge (l : UInt32) (d : List UInt8) : Option Tk := (rd4 d).bind fun p => tkNonce l p.1 p.2
def tkBody (d : List UInt8) : Option Tk := (rd4 d).bind fun p => tkAge p.1 p.2
def tkRead (data : List UInt8) : Option Tk := if data.length < 4 then none else tkBody (data.drop 4)
end Go.Proofs.Ytcdjbciifnoajaa

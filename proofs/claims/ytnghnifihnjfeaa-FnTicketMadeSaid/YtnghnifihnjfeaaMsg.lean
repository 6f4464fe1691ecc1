/- Plain laws of messages made and read; WritePlain. -/
import Derived.Test.YtnghnifihnjfeaaEmit
import Derived.Test.YtnghnifihnjfeaaBody
import Derived.Test.YtnghnifihnjfeaaLift
namespace Go.Proofs.Ytnghnifihnjfeaa
open Go.ChangeShapes Go.WideShapes Go.ChangeAt Go.RowKit
set_option maxRecDepth 100000

theorem beNat_be3 (n : Nat) (h : n < 16777216) : beNat (be 3 n) = n := by
  simp [be, beNat]
  omega
theorem beNat_be2 (n : Nat) (h : n < 65536) : beNat (be 2 n) = n := by
  simp [be, beNat]
  omega
theorem lp_be (k : Nat) (x r : List UInt8) (hk : beNat (be k x.length) = x.length) : lp k (be k x.length ++ x ++ r) = some (x, r) := by
  have hl := be_len k x.length
  have e1 : (be k x.length ++ x ++ r).take k = be k x.length := by rw [List.append_assoc, List.take_append_of_le_length (by omega), List.take_of_length_le (by omega)]
  have e2 : (be k x.length ++ x ++ r).drop k = x ++ r := by
    rw [List.append_assoc]
    have := List.drop_left (l₁ := be k x.length) (l₂ := x ++ r)
    rwa [hl] at this
  unfold lp
  rw [e1, e2, hk, if_pos (by simp; omega), if_pos (by simp)]
  simp

/-- a message around a body -/
theorem message_eq (kind : Nat) (x : Wr) : messageW kind x = ⟨be 1 kind ++ be 3 x.b.length ++ x.b, x.bad || decide (256 ^ 3 ≤ x.b.length)⟩ := by
  simp [messageW, Wr.inner, Wr.vec, Wr.num, Wr.nil]

section
variable {w w' : World} {B : Nat} {v content : Value} {xs data : List UInt8} {e : Ending}

theorem WritePlain_any {B : Nat} (kind : Nat) (hc : Byt w B content xs) (hx : xs.length ≤ 1099511627776) :
    Calls Try.prog 21 #[.int .i64 kind, content] w (MsgP w (messageW kind ⟨xs, false⟩)) := by
  obtain ⟨A, c, rfl, hc, -⟩ := Byt.form hc rfl
  have H1 := hid (plain_any hc)
  have HX := hid hx
  clear hx
  go_enter Try.func21, Try.ntmps21
  go_wp2_with fail
  refine H1.out.mono ?_
  rintro e w1 ⟨rfl, hu1⟩
  have H2 := hid (message_any kind false (Row.upd (Row.shrink hc) hu1 (by simp)) HX.out)
  go_wp2_with fail
  refine H2.out.mono ?_
  rintro e w2 ⟨v2, rfl, hb2, hn2, ⟨A2, n2, c2, rfl⟩, hu2⟩
  go_wp2
  go_ret2
  exact ⟨_, rfl, hb2, fun k hk => Nat.le_trans hu1.size (hn2 k hk), ⟨_, _, _, rfl⟩, hu1.trans hu2 (by simp)⟩

/-- what the reference's readers of bytes hand back: bytes, and what is found -/
def RefP (w : World) (x : List UInt8) (code : Nat) (e : Ending) (w' : World) : Prop :=
  ∃ u C, isSlice u ∧ code = C ∧ e = .returned (.tuple #[u, .int .i64 (C : Int)]) ∧ Upd [] w w' ∧ Byt w' w'.heap.size u x
end
end Go.Proofs.Ytnghnifihnjfeaa

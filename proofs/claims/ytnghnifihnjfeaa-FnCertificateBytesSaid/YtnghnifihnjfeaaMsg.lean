/- Plain laws of messages made and read; WritePlain. -/
import Derived.Test.YtnghnifihnjfeaaEmit
import Derived.Test.YtnghnifihnjfeaaMsgPlain
import Derived.Test.YtnghnifihnjfeaaLift
namespace Go.Proofs.Ytnghnifihnjfeaa
open Go.ChangeShapes Go.WideShapes Go.ChangeAt Go.RowKit
set_option maxRecDepth 100000

section
variable {w w' : World} {B : Nat} {v content : Value} {xs data : List UInt8} {e : Ending}

theorem WritePlain_any {B : Nat} (kind : Nat) (hc : Byt w B content xs) (hx : xs.length ≤ 1099511627776) :
    Calls Try.prog 21 #[.int .i64 kind, content] w (MsgP w (messageW kind ⟨xs, false⟩)) := by
  obtain ⟨A, c, rfl, hc, -⟩ := Byt.form hc rfl
  have H1 := hid (plain_any hc)
  have HX := hid hx
  clear hx
  go_enter Try.func21, Try.ntmps21
  go_wp2_with fail
  refine H1.out.mono ?_
  rintro e w1 ⟨rfl, hu1⟩
  have H2 := hid (message_any kind false (Row.upd (Row.shrink hc) hu1 (by simp)) HX.out)
  go_wp2_with fail
  refine H2.out.mono ?_
  rintro e w2 ⟨v2, rfl, hb2, hn2, ⟨A2, n2, c2, rfl⟩, hu2⟩
  go_wp2
  go_ret2
  exact ⟨_, rfl, hb2, fun k hk => Nat.le_trans hu1.size (hn2 k hk), ⟨_, _, _, rfl⟩, hu1.trans hu2 (by simp)⟩

/-- what the reference's readers of bytes hand back: bytes, and what is found -/
def RefP (w : World) (x : List UInt8) (code : Nat) (e : Ending) (w' : World) : Prop :=
  ∃ u C, isSlice u ∧ code = C ∧ e = .returned (.tuple #[u, .int .i64 (C : Int)]) ∧ Upd [] w w' ∧ Byt w' w'.heap.size u x
end
end Go.Proofs.Ytnghnifihnjfeaa

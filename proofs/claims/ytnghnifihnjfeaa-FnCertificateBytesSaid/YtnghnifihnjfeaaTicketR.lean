/- The NewSessionTicket message up to TLS 1.2: read by the reference. -/
import Derived.Test.YtnghnifihnjfeaaMsg
namespace Go.Proofs.Ytnghnifihnjfeaa
open Go.ChangeShapes Go.WideShapes Go.ChangeAt Go.RowKit
set_option maxRecDepth 100000

section
variable {w w' : World} {B : Nat} {v content : Value} {xs data : List UInt8} {e : Ending}

def tickV (data : List UInt8) : List UInt8 × R := ((bodyR 4 data).num 4).2.vec 2 0 65535

theorem ReadTicket_any (hv : Byt w B v data) : Calls Try.prog 15 #[v] w (RefP w (tickV data).1 (tickV data).2.fin.code) := by
  obtain ⟨A, c, rfl, hv, hl, hc⟩ := Byt.form hv rfl
  have H1 := hid (body_any (Nat.le_refl _) (Row.shrink hv) 4)
  go_enter Try.func15, Try.ntmps15
  go_wp2_with fail
  refine H1.out.mono ?_
  rintro e w1 ⟨rfl, hu1, hr1⟩
  have H2 := hid (num_any hr1 4 (by omega))
  go_wp2_with fail
  refine H2.out.mono ?_
  rintro e w2 ⟨rfl, hu2, hr2⟩
  have H3 := hid (vec_any hr2 2 0 65535 (by omega))
  go_wp2_with fail
  refine H3.out.mono ?_
  rintro e w3 ⟨u, rfl, hu3, hr3, hb3⟩
  obtain ⟨A3, c3, rfl, hb3, -⟩ := Byt.form hb3 rfl
  have H4 := hid (end_any hr3)
  go_wp2_with fail
  refine H4.out.mono ?_
  rintro e w4 ⟨rfl, hu4, hr4⟩
  have hu : Upd [] w w4 := ((hu1.trans hu2 (by simp)).trans hu3 (by simp)).trans hu4 (by simp)
  have hb4 := Row.upd hb3 hu4 (by simp)
  obtain ⟨A2, c2, d0, d1, g0, g1, hl2, hc2⟩ := hr4.open_
  go_wp2_with fail
  go_quiet (fail)
  go_wp2
  go_ret2
  exact ⟨_, _, ⟨A3, _, c3, rfl⟩, rfl, rfl, hu.drewN _, Row.shrink (Row.drewN hb4 _)⟩
end
end Go.Proofs.Ytnghnifihnjfeaa

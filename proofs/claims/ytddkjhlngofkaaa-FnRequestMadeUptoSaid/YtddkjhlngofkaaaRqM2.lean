/- CertificateRequest up to TLS 1.2: the makers of tls and impl. -/
import Derived.Test.YtddkjhlngofkaaaRqM
import Derived.Test.YtddkjhlngofkaaaEmit
namespace Go.Proofs.Ytddkjhlngofkaaa
open Go.RowKit
set_option maxRecDepth 100000
section
variable {w w' : World} {B : Nat} {v : Value} {t : Rq}
theorem tls_MarshalRq (hv : RqV w B v t) (hs : RqSm t) : Calls Try.prog 73 #[v] w (fun e w' => ∃ v, e = .returned (.tuple #[v, .nilIface]) ∧ Byt w' w'.heap.size v (rqMsg t) ∧ Upd [] w w') := by
  obtain ⟨A1, c1, A2, c2, A3, c3, rfl, y1, y2, y3, z0⟩ := hv
  obtain ⟨w1, hw1⟩ : ∃ w1, (w.alloc (.cells #[.bool t.has, .slice A1 t.types.length c1, .slice A2 t.sig.length c2, .slice A3 t.cas.length c3] 74)).alloc (.cells #[.bool t.has, .slice A1 t.types.length c1, .slice A2 t.sig.length c2, .slice A3 t.cas.length c3] 121) = w1 := ⟨_, rfl⟩
  obtain ⟨s, hs0⟩ : ∃ s, w.heap.size = s := ⟨_, rfl⟩
  have hu1 : Upd [] w w1 := by rw [← hw1]; exact ((Upd.refl _ _).alloc _).alloc _
  have hm1 : Blk w1 (s + 1) 121 #[.bool t.has, .slice A1 t.types.length c1, .slice A2 t.sig.length c2, .slice A3 t.cas.length c3] := by
    rw [← hw1, ← hs0]
    have := Blk.new (w.alloc (.cells #[.bool t.has, .slice A1 t.types.length c1, .slice A2 t.sig.length c2, .slice A3 t.cas.length c3] 74)) 121 #[.bool t.has, .slice A1 t.types.length c1, .slice A2 t.sig.length c2, .slice A3 t.cas.length c3]
    rwa [show (w.alloc (.cells #[.bool t.has, .slice A1 t.types.length c1, .slice A2 t.sig.length c2, .slice A3 t.cas.length c3] 74)).heap.size = w.heap.size + 1 by simp] at this
  have hy1 := Row.upd y1.shrink hu1 (by simp)
  have hy2 := Row.upd y2.shrink hu1 (by simp)
  have hy3 := Lst.upd y3.shrink hu1 (by simp)
  have HW := hid hw1
  have HS := hid hs0
  have H1 := hid (marshal_Rq hm1 hy1 hy2 hy3 hs)
  clear hw1 y1 y2 y3 hy1 hy2 hy3 hs hm1 z0
  go_enter Try.func73, Try.ntmps73
  go_wp2_with fail
  rw [HW.out]
  refine H1.out.mono ?_
  rintro e w4 ⟨v4, rfl, hy4, hu4⟩
  obtain ⟨A4, c4, rfl, hy4, -, -⟩ := Byt.form hy4 rfl
  have HY := hid hy4
  clear hy4
  go_wp2
  go_ret2
  exact ⟨_, rfl, HY.out, hu1.trans hu4 (by simp)⟩
theorem impl_MarshalRq (hv : RqV w B v t) (hs : RqSm t) : Calls Try.prog 39 #[v] w (fun e w' => ∃ v, e = .returned (.tuple #[v, .bool true]) ∧ Byt w' w'.heap.size v (rqMsg t) ∧ Upd [] w w') := by
  obtain ⟨A1, c1, A2, c2, A3, c3, rfl, y1, y2, y3, z0⟩ := hv
  have hu0 : Upd [] w (w.alloc (.cells #[.bool t.has, .slice A1 t.types.length c1, .slice A2 t.sig.length c2, .slice A3 t.cas.length c3] 26)) := (Upd.refl _ _).alloc _
  have H1 := hid (tls_MarshalRq (w := w.alloc (.cells #[.bool t.has, .slice A1 t.types.length c1, .slice A2 t.sig.length c2, .slice A3 t.cas.length c3] 26)) (B := w.heap.size) (t := t) ⟨A1, c1, A2, c2, A3, c3, rfl, Row.upd y1.shrink hu0 (by simp), Row.upd y2.shrink hu0 (by simp), Lst.upd y3.shrink hu0 (by simp), z0⟩ hs)
  clear y1 y2 y3 z0 hs
  go_enter Try.func39, Try.ntmps39
  go_wp2_with fail
  refine (H1.out).mono ?_
  rintro e w1 ⟨v4, rfl, hy4, hu4⟩
  have q1 := eql_err_nil
  obtain ⟨A4, c4, rfl, hy4, -, -⟩ := Byt.form hy4 rfl
  have HY := hid hy4
  clear hy4 H1
  go_wp2_with fail
  go_quiet (fail)
  go_wp2
  go_ret2
  exact ⟨_, rfl, Row.upd HY.out ((Upd.refl [] _).drewN _) (by simp), (hu0.trans hu4 (by simp)).trans ((Upd.refl [] _).drewN _) (by simp)⟩
end
end Go.Proofs.Ytddkjhlngofkaaa

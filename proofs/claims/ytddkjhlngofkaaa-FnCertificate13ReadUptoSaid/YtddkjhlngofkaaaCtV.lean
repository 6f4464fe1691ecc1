/- Certificate of TLS 1.3 as a value (printed by gen_ctv.py). -/
import Derived.Test.YtddkjhlngofkaaaCtPlain
import Derived.Test.YtddkjhlngofkaaaGen
import Derived.Test.YtddkjhlngofkaaaWriter
namespace Go.Proofs.Ytddkjhlngofkaaa
open Go.RowKit
set_option maxRecDepth 100000

/-- the message as a value -/
def CtV (w : World) (B : Nat) (v : Value) (t : Ct) : Prop :=
  ∃ A0 c0 A3 c3 A4 c4, v = .agg #[.slice A0 t.certs.length c0, .bool t.ocsp, .bool t.scts, .slice A3 t.staple.length c3, .slice A4 t.stamps.length c4] ∧ Lst w B (.slice A0 t.certs.length c0) t.certs ∧ Byt w B (.slice A3 t.staple.length c3) t.staple ∧ Lst w B (.slice A4 t.stamps.length c4) t.stamps
section
variable {w w' : World} {B C : Nat} {v u : Value} {t : Ct}
theorem CtV.upd {S : List Nat} (h : CtV w B v t) (hu : Upd S w w') (hs : ∀ x ∈ S, B ≤ x) : CtV w' B v t := by
  obtain ⟨A0, c0, A3, c3, A4, c4, e, h0, h3, h4⟩ := h
  exact ⟨A0, c0, A3, c3, A4, c4, e, Lst.upd h0 hu hs, Row.upd h3 hu hs, Lst.upd h4 hu hs⟩
theorem CtV.shrink (h : CtV w B v t)  : CtV w w.heap.size v t := by
  obtain ⟨A0, c0, A3, c3, A4, c4, e, h0, h3, h4⟩ := h
  exact ⟨A0, c0, A3, c3, A4, c4, e, Lst.shrink h0, Row.shrink h3, Lst.shrink h4⟩
theorem CtV.ok : VOk 53 CtV where
  agg := by
    intro w B v x h
    obtain ⟨A0, c0, A3, c3, A4, c4, e, h0, h3, h4⟩ := h
    exact ⟨_, e, by kernel_rfl, by simp [Value.oneCell']⟩
  str := ⟨_, Try.underlying53, rfl⟩
  upd := fun h hu hs => CtV.upd h hu hs
  shrink := fun h => CtV.shrink h
theorem CtV.okT : VOk 109 CtV where
  agg := by
    intro w B v x h
    obtain ⟨A0, c0, A3, c3, A4, c4, e, h0, h3, h4⟩ := h
    exact ⟨_, e, by kernel_rfl, by simp [Value.oneCell']⟩
  str := ⟨_, Try.underlying109, rfl⟩
  upd := fun h hu hs => CtV.upd h hu hs
  shrink := fun h => CtV.shrink h
theorem CtV.size {cs : Array Value} (h : CtV w B (.agg cs) t) : 5 = cs.size := by
  obtain ⟨A0, c0, A3, c3, A4, c4, e, h0, h3, h4⟩ := h
  injection e with e
  rw [e]; rfl
theorem ct_cells {T : TypeId} {g : Nat} {a0 a1 a2 a3 a4 : Value} (h : Blk w g T #[a0, a1, a2, a3, a4]) :
    w.cell? ⟨g, 0, none⟩ = some a0 ∧ w.cell? ⟨g, 1, none⟩ = some a1 ∧ w.cell? ⟨g, 2, none⟩ = some a2 ∧ w.cell? ⟨g, 3, none⟩ = some a3 ∧ w.cell? ⟨g, 4, none⟩ = some a4 ∧ w.frozen? ⟨g, 0, none⟩ = false ∧ w.frozen? ⟨g, 1, none⟩ = false ∧ w.frozen? ⟨g, 2, none⟩ = false ∧ w.frozen? ⟨g, 3, none⟩ = false ∧ w.frozen? ⟨g, 4, none⟩ = false :=
  ⟨h.cell 0, h.cell 1, h.cell 2, h.cell 3, h.cell 4, h.frozen 0, h.frozen 1, h.frozen 2, h.frozen 3, h.frozen 4⟩
set_option maxHeartbeats 4000000 in
theorem SameCt_eq (hv : CtV w B v t) (hu : CtV w C u t) : Calls Try.prog 33 #[v, u] w (LawP w) := by
  obtain ⟨A0, c0, A3, c3, A4, c4, rfl, x0, x3, x4⟩ := hv
  obtain ⟨Ab0, cb0, Ab3, cb3, Ab4, cb4, rfl, y0, y3, y4⟩ := hu
  obtain ⟨w1, hw1⟩ : ∃ w1, (w.alloc (.cells #[.slice A0 t.certs.length c0, .bool t.ocsp, .bool t.scts, .slice A3 t.staple.length c3, .slice A4 t.stamps.length c4] 53)).alloc (.cells #[.slice Ab0 t.certs.length cb0, .bool t.ocsp, .bool t.scts, .slice Ab3 t.staple.length cb3, .slice Ab4 t.stamps.length cb4] 53) = w1 := ⟨_, rfl⟩
  obtain ⟨s, hs⟩ : ∃ s, w.heap.size = s := ⟨_, rfl⟩
  have hu1 : Upd [] w w1 := by rw [← hw1]; exact ((Upd.refl _ _).alloc _).alloc _
  have hb1 : Blk w1 s 53 #[.slice A0 t.certs.length c0, .bool t.ocsp, .bool t.scts, .slice A3 t.staple.length c3, .slice A4 t.stamps.length c4] := by rw [← hw1, ← hs]; exact (Blk.new _ _ _).alloc _
  have hm1 : Blk w1 (s + 1) 53 #[.slice Ab0 t.certs.length cb0, .bool t.ocsp, .bool t.scts, .slice Ab3 t.staple.length cb3, .slice Ab4 t.stamps.length cb4] := by
    rw [← hw1, ← hs]
    have := Blk.new (w.alloc (.cells #[.slice A0 t.certs.length c0, .bool t.ocsp, .bool t.scts, .slice A3 t.staple.length c3, .slice A4 t.stamps.length c4] 53)) 53 #[.slice Ab0 t.certs.length cb0, .bool t.ocsp, .bool t.scts, .slice Ab3 t.staple.length cb3, .slice Ab4 t.stamps.length cb4]
    rwa [show (w.alloc (.cells #[.slice A0 t.certs.length c0, .bool t.ocsp, .bool t.scts, .slice A3 t.staple.length c3, .slice A4 t.stamps.length c4] 53)).heap.size = w.heap.size + 1 by simp] at this
  replace x0 := Lst.upd x0.shrink hu1 (by simp)
  replace y0 := Lst.upd y0.shrink hu1 (by simp)
  replace x3 := Row.upd x3.shrink hu1 (by simp)
  replace y3 := Row.upd y3.shrink hu1 (by simp)
  replace x4 := Lst.upd x4.shrink hu1 (by simp)
  replace y4 := Lst.upd y4.shrink hu1 (by simp)
  have HW := hid hw1
  clear hw1
  obtain ⟨p0, p1, p2, p3, p4, -⟩ := ct_cells hb1
  obtain ⟨q0, q1, q2, q3, q4, -⟩ := ct_cells hm1
  go_enter Try.func33, Try.ntmps33
  go_upto_region 1 with fail
  rw [HW.out]
  have h0 := SameLists_any x0 y0
  rw [beq_self_eq_true] at h0
  have H0 := hid h0
  clear h0
  go_wp2_with fail
  refine H0.out.mono ?_
  rintro e wz ⟨rfl, rfl⟩
  have h1 := same_any x3 y3
  rw [beq_self_eq_true] at h1
  have H1 := hid h1
  clear h1
  go_wp2_with fail
  refine H1.out.mono ?_
  rintro e wz ⟨rfl, rfl⟩
  have h2 := SameLists_any x4 y4
  rw [beq_self_eq_true] at h2
  have H2 := hid h2
  clear h2
  go_wp2_with fail
  refine H2.out.mono ?_
  rintro e wz ⟨rfl, rfl⟩
  go_wp2
  go_ret
  exact ⟨rfl, hu1⟩
end
end Go.Proofs.Ytddkjhlngofkaaa

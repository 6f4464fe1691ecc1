/- CertificateRequest of TLS 1.3 as a value (printed by gen_cqv.py). -/
import Derived.Test.YtddkjhlngofkaaaCqPlain
import Derived.Test.YtddkjhlngofkaaaGen
import Derived.Test.YtddkjhlngofkaaaWriter
namespace Go.Proofs.Ytddkjhlngofkaaa
open Go.RowKit
set_option maxRecDepth 100000

/-- the message as a value -/
def CqV (w : World) (B : Nat) (v : Value) (t : Cq) : Prop :=
  ∃ A2 c2 A3 c3 A4 c4, v = .agg #[.bool t.ocsp, .bool t.scts, .slice A2 t.sig.length c2, .slice A3 t.sigc.length c3, .slice A4 t.cas.length c4] ∧ Row w B (.slice A2 t.sig.length c2) (t.sig.map wv) ∧ Row w B (.slice A3 t.sigc.length c3) (t.sigc.map wv) ∧ Lst w B (.slice A4 t.cas.length c4) t.cas ∧ t.sig.length ≤ 1099511627776 ∧ t.sigc.length ≤ 1099511627776
section
variable {w w' : World} {B C : Nat} {v u : Value} {t : Cq}
theorem CqV.upd {S : List Nat} (h : CqV w B v t) (hu : Upd S w w') (hs : ∀ x ∈ S, B ≤ x) : CqV w' B v t := by
  obtain ⟨A2, c2, A3, c3, A4, c4, e, h2, h3, h4, z0, z1⟩ := h
  exact ⟨A2, c2, A3, c3, A4, c4, e, Row.upd h2 hu hs, Row.upd h3 hu hs, Lst.upd h4 hu hs, z0, z1⟩
theorem CqV.shrink (h : CqV w B v t)  : CqV w w.heap.size v t := by
  obtain ⟨A2, c2, A3, c3, A4, c4, e, h2, h3, h4, z0, z1⟩ := h
  exact ⟨A2, c2, A3, c3, A4, c4, e, Row.shrink h2, Row.shrink h3, Lst.shrink h4, z0, z1⟩
theorem CqV.ok : VOk 35 CqV where
  agg := by
    intro w B v x h
    obtain ⟨A2, c2, A3, c3, A4, c4, e, h2, h3, h4, z0, z1⟩ := h
    exact ⟨_, e, by kernel_rfl, by simp [Value.oneCell']⟩
  str := ⟨_, Try.underlying35, rfl⟩
  upd := fun h hu hs => CqV.upd h hu hs
  shrink := fun h => CqV.shrink h
theorem CqV.okT : VOk 97 CqV where
  agg := by
    intro w B v x h
    obtain ⟨A2, c2, A3, c3, A4, c4, e, h2, h3, h4, z0, z1⟩ := h
    exact ⟨_, e, by kernel_rfl, by simp [Value.oneCell']⟩
  str := ⟨_, Try.underlying97, rfl⟩
  upd := fun h hu hs => CqV.upd h hu hs
  shrink := fun h => CqV.shrink h
theorem CqV.size {cs : Array Value} (h : CqV w B (.agg cs) t) : 5 = cs.size := by
  obtain ⟨A2, c2, A3, c3, A4, c4, e, h2, h3, h4, z0, z1⟩ := h
  injection e with e
  rw [e]; rfl
theorem cq_cells {T : TypeId} {g : Nat} {a0 a1 a2 a3 a4 : Value} (h : Blk w g T #[a0, a1, a2, a3, a4]) :
    w.cell? ⟨g, 0, none⟩ = some a0 ∧ w.cell? ⟨g, 1, none⟩ = some a1 ∧ w.cell? ⟨g, 2, none⟩ = some a2 ∧ w.cell? ⟨g, 3, none⟩ = some a3 ∧ w.cell? ⟨g, 4, none⟩ = some a4 ∧ w.frozen? ⟨g, 0, none⟩ = false ∧ w.frozen? ⟨g, 1, none⟩ = false ∧ w.frozen? ⟨g, 2, none⟩ = false ∧ w.frozen? ⟨g, 3, none⟩ = false ∧ w.frozen? ⟨g, 4, none⟩ = false :=
  ⟨h.cell 0, h.cell 1, h.cell 2, h.cell 3, h.cell 4, h.frozen 0, h.frozen 1, h.frozen 2, h.frozen 3, h.frozen 4⟩
set_option maxHeartbeats 4000000 in
theorem SameCq_eq (hv : CqV w B v t) (hu : CqV w C u t) : Calls Try.prog 25 #[v, u] w (LawP w) := by
  obtain ⟨A2, c2, A3, c3, A4, c4, rfl, x2, x3, x4, z0, z1⟩ := hv
  obtain ⟨Ab2, cb2, Ab3, cb3, Ab4, cb4, rfl, y2, y3, y4, -, -⟩ := hu
  obtain ⟨w1, hw1⟩ : ∃ w1, (w.alloc (.cells #[.bool t.ocsp, .bool t.scts, .slice A2 t.sig.length c2, .slice A3 t.sigc.length c3, .slice A4 t.cas.length c4] 35)).alloc (.cells #[.bool t.ocsp, .bool t.scts, .slice Ab2 t.sig.length cb2, .slice Ab3 t.sigc.length cb3, .slice Ab4 t.cas.length cb4] 35) = w1 := ⟨_, rfl⟩
  obtain ⟨s, hs⟩ : ∃ s, w.heap.size = s := ⟨_, rfl⟩
  have hu1 : Upd [] w w1 := by rw [← hw1]; exact ((Upd.refl _ _).alloc _).alloc _
  have hb1 : Blk w1 s 35 #[.bool t.ocsp, .bool t.scts, .slice A2 t.sig.length c2, .slice A3 t.sigc.length c3, .slice A4 t.cas.length c4] := by rw [← hw1, ← hs]; exact (Blk.new _ _ _).alloc _
  have hm1 : Blk w1 (s + 1) 35 #[.bool t.ocsp, .bool t.scts, .slice Ab2 t.sig.length cb2, .slice Ab3 t.sigc.length cb3, .slice Ab4 t.cas.length cb4] := by
    rw [← hw1, ← hs]
    have := Blk.new (w.alloc (.cells #[.bool t.ocsp, .bool t.scts, .slice A2 t.sig.length c2, .slice A3 t.sigc.length c3, .slice A4 t.cas.length c4] 35)) 35 #[.bool t.ocsp, .bool t.scts, .slice Ab2 t.sig.length cb2, .slice Ab3 t.sigc.length cb3, .slice Ab4 t.cas.length cb4]
    rwa [show (w.alloc (.cells #[.bool t.ocsp, .bool t.scts, .slice A2 t.sig.length c2, .slice A3 t.sigc.length c3, .slice A4 t.cas.length c4] 35)).heap.size = w.heap.size + 1 by simp] at this
  replace x2 := Row.upd x2.shrink hu1 (by simp)
  replace y2 := Row.upd y2.shrink hu1 (by simp)
  replace x3 := Row.upd x3.shrink hu1 (by simp)
  replace y3 := Row.upd y3.shrink hu1 (by simp)
  replace x4 := Lst.upd x4.shrink hu1 (by simp)
  replace y4 := Lst.upd y4.shrink hu1 (by simp)
  have HW := hid hw1
  clear hw1
  obtain ⟨p0, p1, p2, p3, p4, -⟩ := cq_cells hb1
  obtain ⟨q0, q1, q2, q3, q4, -⟩ := cq_cells hm1
  go_enter Try.func25, Try.ntmps25
  go_upto_region 1 with fail
  rw [HW.out]
  have h0 := sameWords_any x2 y2 (by omega) (by omega)
  rw [beq_self_eq_true] at h0
  have H0 := hid h0
  clear h0
  go_wp2_with fail
  refine H0.out.mono ?_
  rintro e w2 ⟨rfl, hu2⟩
  have hb2 := hb1.upd hu2 (by simp)
  have hm2 := hm1.upd hu2 (by simp)
  replace x2 := Row.upd x2 hu2 (by simp)
  replace y2 := Row.upd y2 hu2 (by simp)
  replace x3 := Row.upd x3 hu2 (by simp)
  replace y3 := Row.upd y3 hu2 (by simp)
  replace x4 := Lst.upd x4 hu2 (by simp)
  replace y4 := Lst.upd y4 hu2 (by simp)
  clear p0 p1 p2 p3 p4 q0 q1 q2 q3 q4
  obtain ⟨p0, p1, p2, p3, p4, -⟩ := cq_cells hb2
  obtain ⟨q0, q1, q2, q3, q4, -⟩ := cq_cells hm2
  have h1 := sameWords_any x3 y3 (by omega) (by omega)
  rw [beq_self_eq_true] at h1
  have H1 := hid h1
  clear h1
  go_wp2_with fail
  refine H1.out.mono ?_
  rintro e w3 ⟨rfl, hu3⟩
  have hb3 := hb2.upd hu3 (by simp)
  have hm3 := hm2.upd hu3 (by simp)
  replace x2 := Row.upd x2 hu3 (by simp)
  replace y2 := Row.upd y2 hu3 (by simp)
  replace x3 := Row.upd x3 hu3 (by simp)
  replace y3 := Row.upd y3 hu3 (by simp)
  replace x4 := Lst.upd x4 hu3 (by simp)
  replace y4 := Lst.upd y4 hu3 (by simp)
  clear p0 p1 p2 p3 p4 q0 q1 q2 q3 q4
  obtain ⟨p0, p1, p2, p3, p4, -⟩ := cq_cells hb3
  obtain ⟨q0, q1, q2, q3, q4, -⟩ := cq_cells hm3
  have h2 := SameLists_any x4 y4
  rw [beq_self_eq_true] at h2
  have H2 := hid h2
  clear h2
  go_wp2_with fail
  refine H2.out.mono ?_
  rintro e wz ⟨rfl, rfl⟩
  go_wp2
  go_ret
  exact ⟨rfl, ((hu1.trans hu2 (by simp)).trans hu3 (by simp))⟩
end
end Go.Proofs.Ytddkjhlngofkaaa

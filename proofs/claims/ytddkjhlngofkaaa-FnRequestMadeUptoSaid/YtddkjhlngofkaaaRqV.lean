/- CertificateRequest up to TLS 1.2 as a value (printed by gen_rqv.py). -/
import Derived.Test.YtddkjhlngofkaaaRqPlain
import Derived.Test.YtddkjhlngofkaaaGen
import Derived.Test.YtddkjhlngofkaaaWriter
namespace Go.Proofs.Ytddkjhlngofkaaa
open Go.RowKit
set_option maxRecDepth 100000

/-- the message as a value -/
def RqV (w : World) (B : Nat) (v : Value) (t : Rq) : Prop :=
  ∃ A1 c1 A2 c2 A3 c3, v = .agg #[.bool t.has, .slice A1 t.types.length c1, .slice A2 t.sig.length c2, .slice A3 t.cas.length c3] ∧ Byt w B (.slice A1 t.types.length c1) t.types ∧ Row w B (.slice A2 t.sig.length c2) (t.sig.map wv) ∧ Lst w B (.slice A3 t.cas.length c3) t.cas ∧ t.sig.length ≤ 1099511627776
section
variable {w w' : World} {B C : Nat} {v u : Value} {t : Rq}
theorem RqV.upd {S : List Nat} (h : RqV w B v t) (hu : Upd S w w') (hs : ∀ x ∈ S, B ≤ x) : RqV w' B v t := by
  obtain ⟨A1, c1, A2, c2, A3, c3, e, h1, h2, h3, z0⟩ := h
  exact ⟨A1, c1, A2, c2, A3, c3, e, Row.upd h1 hu hs, Row.upd h2 hu hs, Lst.upd h3 hu hs, z0⟩
theorem RqV.shrink (h : RqV w B v t)  : RqV w w.heap.size v t := by
  obtain ⟨A1, c1, A2, c2, A3, c3, e, h1, h2, h3, z0⟩ := h
  exact ⟨A1, c1, A2, c2, A3, c3, e, Row.shrink h1, Row.shrink h2, Lst.shrink h3, z0⟩
theorem RqV.ok : VOk 26 RqV where
  agg := by
    intro w B v x h
    obtain ⟨A1, c1, A2, c2, A3, c3, e, h1, h2, h3, z0⟩ := h
    exact ⟨_, e, by kernel_rfl, by simp [Value.oneCell']⟩
  str := ⟨_, Try.underlying26, rfl⟩
  upd := fun h hu hs => RqV.upd h hu hs
  shrink := fun h => RqV.shrink h
theorem RqV.okT : VOk 74 RqV where
  agg := by
    intro w B v x h
    obtain ⟨A1, c1, A2, c2, A3, c3, e, h1, h2, h3, z0⟩ := h
    exact ⟨_, e, by kernel_rfl, by simp [Value.oneCell']⟩
  str := ⟨_, Try.underlying74, rfl⟩
  upd := fun h hu hs => RqV.upd h hu hs
  shrink := fun h => RqV.shrink h
theorem RqV.size {cs : Array Value} (h : RqV w B (.agg cs) t) : 4 = cs.size := by
  obtain ⟨A1, c1, A2, c2, A3, c3, e, h1, h2, h3, z0⟩ := h
  injection e with e
  rw [e]; rfl
theorem rq_cells {T : TypeId} {g : Nat} {a0 a1 a2 a3 : Value} (h : Blk w g T #[a0, a1, a2, a3]) :
    w.cell? ⟨g, 0, none⟩ = some a0 ∧ w.cell? ⟨g, 1, none⟩ = some a1 ∧ w.cell? ⟨g, 2, none⟩ = some a2 ∧ w.cell? ⟨g, 3, none⟩ = some a3 ∧ w.frozen? ⟨g, 0, none⟩ = false ∧ w.frozen? ⟨g, 1, none⟩ = false ∧ w.frozen? ⟨g, 2, none⟩ = false ∧ w.frozen? ⟨g, 3, none⟩ = false :=
  ⟨h.cell 0, h.cell 1, h.cell 2, h.cell 3, h.frozen 0, h.frozen 1, h.frozen 2, h.frozen 3⟩
set_option maxHeartbeats 4000000 in
theorem SameRq_eq (hv : RqV w B v t) (hu : RqV w C u t) : Calls Try.prog 16 #[v, u] w (LawP w) := by
  obtain ⟨A1, c1, A2, c2, A3, c3, rfl, x1, x2, x3, z0⟩ := hv
  obtain ⟨Ab1, cb1, Ab2, cb2, Ab3, cb3, rfl, y1, y2, y3, -⟩ := hu
  obtain ⟨w1, hw1⟩ : ∃ w1, (w.alloc (.cells #[.bool t.has, .slice A1 t.types.length c1, .slice A2 t.sig.length c2, .slice A3 t.cas.length c3] 26)).alloc (.cells #[.bool t.has, .slice Ab1 t.types.length cb1, .slice Ab2 t.sig.length cb2, .slice Ab3 t.cas.length cb3] 26) = w1 := ⟨_, rfl⟩
  obtain ⟨s, hs⟩ : ∃ s, w.heap.size = s := ⟨_, rfl⟩
  have hu1 : Upd [] w w1 := by rw [← hw1]; exact ((Upd.refl _ _).alloc _).alloc _
  have hb1 : Blk w1 s 26 #[.bool t.has, .slice A1 t.types.length c1, .slice A2 t.sig.length c2, .slice A3 t.cas.length c3] := by rw [← hw1, ← hs]; exact (Blk.new _ _ _).alloc _
  have hm1 : Blk w1 (s + 1) 26 #[.bool t.has, .slice Ab1 t.types.length cb1, .slice Ab2 t.sig.length cb2, .slice Ab3 t.cas.length cb3] := by
    rw [← hw1, ← hs]
    have := Blk.new (w.alloc (.cells #[.bool t.has, .slice A1 t.types.length c1, .slice A2 t.sig.length c2, .slice A3 t.cas.length c3] 26)) 26 #[.bool t.has, .slice Ab1 t.types.length cb1, .slice Ab2 t.sig.length cb2, .slice Ab3 t.cas.length cb3]
    rwa [show (w.alloc (.cells #[.bool t.has, .slice A1 t.types.length c1, .slice A2 t.sig.length c2, .slice A3 t.cas.length c3] 26)).heap.size = w.heap.size + 1 by simp] at this
  replace x1 := Row.upd x1.shrink hu1 (by simp)
  replace y1 := Row.upd y1.shrink hu1 (by simp)
  replace x2 := Row.upd x2.shrink hu1 (by simp)
  replace y2 := Row.upd y2.shrink hu1 (by simp)
  replace x3 := Lst.upd x3.shrink hu1 (by simp)
  replace y3 := Lst.upd y3.shrink hu1 (by simp)
  have HW := hid hw1
  clear hw1
  obtain ⟨p0, p1, p2, p3, -⟩ := rq_cells hb1
  obtain ⟨q0, q1, q2, q3, -⟩ := rq_cells hm1
  go_enter Try.func16, Try.ntmps16
  go_upto_region 1 with fail
  rw [HW.out]
  have h0 := same_any x1 y1
  rw [beq_self_eq_true] at h0
  have H0 := hid h0
  clear h0
  go_wp2_with fail
  refine H0.out.mono ?_
  rintro e wz ⟨rfl, rfl⟩
  have h1 := sameWords_any x2 y2 (by omega) (by omega)
  rw [beq_self_eq_true] at h1
  have H1 := hid h1
  clear h1
  go_wp2_with fail
  refine H1.out.mono ?_
  rintro e w2 ⟨rfl, hu2⟩
  have hb2 := hb1.upd hu2 (by simp)
  have hm2 := hm1.upd hu2 (by simp)
  replace x1 := Row.upd x1 hu2 (by simp)
  replace y1 := Row.upd y1 hu2 (by simp)
  replace x2 := Row.upd x2 hu2 (by simp)
  replace y2 := Row.upd y2 hu2 (by simp)
  replace x3 := Lst.upd x3 hu2 (by simp)
  replace y3 := Lst.upd y3 hu2 (by simp)
  clear p0 p1 p2 p3 q0 q1 q2 q3
  obtain ⟨p0, p1, p2, p3, -⟩ := rq_cells hb2
  obtain ⟨q0, q1, q2, q3, -⟩ := rq_cells hm2
  have h2 := SameLists_any x3 y3
  rw [beq_self_eq_true] at h2
  have H2 := hid h2
  clear h2
  go_wp2_with fail
  refine H2.out.mono ?_
  rintro e wz ⟨rfl, rfl⟩
  go_wp2
  go_ret
  exact ⟨rfl, (hu1.trans hu2 (by simp))⟩
end
end Go.Proofs.Ytddkjhlngofkaaa

/- ServerHello as a value (printed by gen_shv.py). -/
import Derived.Test.YtcikeghdlolkaaaShPlain
import Derived.Test.YtcikeghdlolkaaaUGen
import Derived.Test.YtcikeghdlolkaaaGen
import Derived.Test.YtcikeghdlolkaaaWriter
namespace Go.Proofs.Ytcikeghdlolkaaa
open Go.RowKit
set_option maxRecDepth 100000

/-- the message as a value -/
def ShV (w : World) (B : Nat) (v : Value) (t : Sh) : Prop :=
  ∃ A1 c1 A2 c2 A8 c8 A11 c11 A14 c14 A17 c17 A18 c18 A20 c20, v = .agg #[wv t.vers, .slice A1 t.random.length c1, .slice A2 t.sid.length c2, wv t.suite, bv t.comp, .bool t.ocsp, .bool t.ticket, .bool t.rns, .slice A8 t.rn.length c8, .bool t.ems, strv t.alpn, .slice A11 t.scts.length c11, wv t.sv, wv t.sg, .slice A14 t.sd.length c14, .bool t.sip, wv t.si, .slice A17 t.pts.length c17, .slice A18 t.ech.length c18, .bool t.ack, .slice A20 t.cookie.length c20, wv t.selg] ∧ Byt w B (.slice A1 t.random.length c1) t.random ∧ Byt w B (.slice A2 t.sid.length c2) t.sid ∧ Byt w B (.slice A8 t.rn.length c8) t.rn ∧ Lst w B (.slice A11 t.scts.length c11) t.scts ∧ Byt w B (.slice A14 t.sd.length c14) t.sd ∧ Byt w B (.slice A17 t.pts.length c17) t.pts ∧ Byt w B (.slice A18 t.ech.length c18) t.ech ∧ Byt w B (.slice A20 t.cookie.length c20) t.cookie
section
variable {w w' : World} {B C : Nat} {v u : Value} {t : Sh}
theorem ShV.upd {S : List Nat} (h : ShV w B v t) (hu : Upd S w w') (hs : ∀ x ∈ S, B ≤ x) : ShV w' B v t := by
  obtain ⟨A1, c1, A2, c2, A8, c8, A11, c11, A14, c14, A17, c17, A18, c18, A20, c20, e, h1, h2, h8, h11, h14, h17, h18, h20⟩ := h
  exact ⟨A1, c1, A2, c2, A8, c8, A11, c11, A14, c14, A17, c17, A18, c18, A20, c20, e, Row.upd h1 hu hs, Row.upd h2 hu hs, Row.upd h8 hu hs, Lst.upd h11 hu hs, Row.upd h14 hu hs, Row.upd h17 hu hs, Row.upd h18 hu hs, Row.upd h20 hu hs⟩
theorem ShV.shrink (h : ShV w B v t)  : ShV w w.heap.size v t := by
  obtain ⟨A1, c1, A2, c2, A8, c8, A11, c11, A14, c14, A17, c17, A18, c18, A20, c20, e, h1, h2, h8, h11, h14, h17, h18, h20⟩ := h
  exact ⟨A1, c1, A2, c2, A8, c8, A11, c11, A14, c14, A17, c17, A18, c18, A20, c20, e, Row.shrink h1, Row.shrink h2, Row.shrink h8, Lst.shrink h11, Row.shrink h14, Row.shrink h17, Row.shrink h18, Row.shrink h20⟩
theorem ShV.ok : VOk 26 ShV where
  agg := by
    intro w B v x h
    obtain ⟨A1, c1, A2, c2, A8, c8, A11, c11, A14, c14, A17, c17, A18, c18, A20, c20, e, h1, h2, h8, h11, h14, h17, h18, h20⟩ := h
    exact ⟨_, e, by kernel_rfl, by simp [Value.oneCell']⟩
  str := ⟨_, Try.underlying26, rfl⟩
  upd := fun h hu hs => ShV.upd h hu hs
  shrink := fun h => ShV.shrink h
theorem ShV.okT : VOk 79 ShV where
  agg := by
    intro w B v x h
    obtain ⟨A1, c1, A2, c2, A8, c8, A11, c11, A14, c14, A17, c17, A18, c18, A20, c20, e, h1, h2, h8, h11, h14, h17, h18, h20⟩ := h
    exact ⟨_, e, by kernel_rfl, by simp [Value.oneCell']⟩
  str := ⟨_, Try.underlying79, rfl⟩
  upd := fun h hu hs => ShV.upd h hu hs
  shrink := fun h => ShV.shrink h
theorem ShV.size {cs : Array Value} (h : ShV w B (.agg cs) t) : 22 = cs.size := by
  obtain ⟨A1, c1, A2, c2, A8, c8, A11, c11, A14, c14, A17, c17, A18, c18, A20, c20, e, h1, h2, h8, h11, h14, h17, h18, h20⟩ := h
  injection e with e
  rw [e]; rfl
theorem sh_cells {T : TypeId} {g : Nat} {a0 a1 a2 a3 a4 a5 a6 a7 a8 a9 a10 a11 a12 a13 a14 a15 a16 a17 a18 a19 a20 a21 : Value} (h : Blk w g T #[a0, a1, a2, a3, a4, a5, a6, a7, a8, a9, a10, a11, a12, a13, a14, a15, a16, a17, a18, a19, a20, a21]) :
    w.cell? ⟨g, 0, none⟩ = some a0 ∧ w.cell? ⟨g, 1, none⟩ = some a1 ∧ w.cell? ⟨g, 2, none⟩ = some a2 ∧ w.cell? ⟨g, 3, none⟩ = some a3 ∧ w.cell? ⟨g, 4, none⟩ = some a4 ∧ w.cell? ⟨g, 5, none⟩ = some a5 ∧ w.cell? ⟨g, 6, none⟩ = some a6 ∧ w.cell? ⟨g, 7, none⟩ = some a7 ∧ w.cell? ⟨g, 8, none⟩ = some a8 ∧ w.cell? ⟨g, 9, none⟩ = some a9 ∧ w.cell? ⟨g, 10, none⟩ = some a10 ∧ w.cell? ⟨g, 11, none⟩ = some a11 ∧ w.cell? ⟨g, 12, none⟩ = some a12 ∧ w.cell? ⟨g, 13, none⟩ = some a13 ∧ w.cell? ⟨g, 14, none⟩ = some a14 ∧ w.cell? ⟨g, 15, none⟩ = some a15 ∧ w.cell? ⟨g, 16, none⟩ = some a16 ∧ w.cell? ⟨g, 17, none⟩ = some a17 ∧ w.cell? ⟨g, 18, none⟩ = some a18 ∧ w.cell? ⟨g, 19, none⟩ = some a19 ∧ w.cell? ⟨g, 20, none⟩ = some a20 ∧ w.cell? ⟨g, 21, none⟩ = some a21 ∧ w.frozen? ⟨g, 0, none⟩ = false ∧ w.frozen? ⟨g, 1, none⟩ = false ∧ w.frozen? ⟨g, 2, none⟩ = false ∧ w.frozen? ⟨g, 3, none⟩ = false ∧ w.frozen? ⟨g, 4, none⟩ = false ∧ w.frozen? ⟨g, 5, none⟩ = false ∧ w.frozen? ⟨g, 6, none⟩ = false ∧ w.frozen? ⟨g, 7, none⟩ = false ∧ w.frozen? ⟨g, 8, none⟩ = false ∧ w.frozen? ⟨g, 9, none⟩ = false ∧ w.frozen? ⟨g, 10, none⟩ = false ∧ w.frozen? ⟨g, 11, none⟩ = false ∧ w.frozen? ⟨g, 12, none⟩ = false ∧ w.frozen? ⟨g, 13, none⟩ = false ∧ w.frozen? ⟨g, 14, none⟩ = false ∧ w.frozen? ⟨g, 15, none⟩ = false ∧ w.frozen? ⟨g, 16, none⟩ = false ∧ w.frozen? ⟨g, 17, none⟩ = false ∧ w.frozen? ⟨g, 18, none⟩ = false ∧ w.frozen? ⟨g, 19, none⟩ = false ∧ w.frozen? ⟨g, 20, none⟩ = false ∧ w.frozen? ⟨g, 21, none⟩ = false :=
  ⟨h.cell 0, h.cell 1, h.cell 2, h.cell 3, h.cell 4, h.cell 5, h.cell 6, h.cell 7, h.cell 8, h.cell 9, h.cell 10, h.cell 11, h.cell 12, h.cell 13, h.cell 14, h.cell 15, h.cell 16, h.cell 17, h.cell 18, h.cell 19, h.cell 20, h.cell 21, h.frozen 0, h.frozen 1, h.frozen 2, h.frozen 3, h.frozen 4, h.frozen 5, h.frozen 6, h.frozen 7, h.frozen 8, h.frozen 9, h.frozen 10, h.frozen 11, h.frozen 12, h.frozen 13, h.frozen 14, h.frozen 15, h.frozen 16, h.frozen 17, h.frozen 18, h.frozen 19, h.frozen 20, h.frozen 21⟩
set_option maxHeartbeats 4000000 in
theorem SameSh_eq (hv : ShV w B v t) (hu : ShV w C u t) : Calls Try.prog 16 #[v, u] w (LawP w) := by
  obtain ⟨A1, c1, A2, c2, A8, c8, A11, c11, A14, c14, A17, c17, A18, c18, A20, c20, rfl, x1, x2, x8, x11, x14, x17, x18, x20⟩ := hv
  obtain ⟨Ab1, cb1, Ab2, cb2, Ab8, cb8, Ab11, cb11, Ab14, cb14, Ab17, cb17, Ab18, cb18, Ab20, cb20, rfl, y1, y2, y8, y11, y14, y17, y18, y20⟩ := hu
  obtain ⟨w1, hw1⟩ : ∃ w1, (w.alloc (.cells #[wv t.vers, .slice A1 t.random.length c1, .slice A2 t.sid.length c2, wv t.suite, bv t.comp, .bool t.ocsp, .bool t.ticket, .bool t.rns, .slice A8 t.rn.length c8, .bool t.ems, strv t.alpn, .slice A11 t.scts.length c11, wv t.sv, wv t.sg, .slice A14 t.sd.length c14, .bool t.sip, wv t.si, .slice A17 t.pts.length c17, .slice A18 t.ech.length c18, .bool t.ack, .slice A20 t.cookie.length c20, wv t.selg] 26)).alloc (.cells #[wv t.vers, .slice Ab1 t.random.length cb1, .slice Ab2 t.sid.length cb2, wv t.suite, bv t.comp, .bool t.ocsp, .bool t.ticket, .bool t.rns, .slice Ab8 t.rn.length cb8, .bool t.ems, strv t.alpn, .slice Ab11 t.scts.length cb11, wv t.sv, wv t.sg, .slice Ab14 t.sd.length cb14, .bool t.sip, wv t.si, .slice Ab17 t.pts.length cb17, .slice Ab18 t.ech.length cb18, .bool t.ack, .slice Ab20 t.cookie.length cb20, wv t.selg] 26) = w1 := ⟨_, rfl⟩
  obtain ⟨s, hs⟩ : ∃ s, w.heap.size = s := ⟨_, rfl⟩
  have hu1 : Upd [] w w1 := by rw [← hw1]; exact ((Upd.refl _ _).alloc _).alloc _
  have hb1 : Blk w1 s 26 #[wv t.vers, .slice A1 t.random.length c1, .slice A2 t.sid.length c2, wv t.suite, bv t.comp, .bool t.ocsp, .bool t.ticket, .bool t.rns, .slice A8 t.rn.length c8, .bool t.ems, strv t.alpn, .slice A11 t.scts.length c11, wv t.sv, wv t.sg, .slice A14 t.sd.length c14, .bool t.sip, wv t.si, .slice A17 t.pts.length c17, .slice A18 t.ech.length c18, .bool t.ack, .slice A20 t.cookie.length c20, wv t.selg] := by rw [← hw1, ← hs]; exact (Blk.new _ _ _).alloc _
  have hm1 : Blk w1 (s + 1) 26 #[wv t.vers, .slice Ab1 t.random.length cb1, .slice Ab2 t.sid.length cb2, wv t.suite, bv t.comp, .bool t.ocsp, .bool t.ticket, .bool t.rns, .slice Ab8 t.rn.length cb8, .bool t.ems, strv t.alpn, .slice Ab11 t.scts.length cb11, wv t.sv, wv t.sg, .slice Ab14 t.sd.length cb14, .bool t.sip, wv t.si, .slice Ab17 t.pts.length cb17, .slice Ab18 t.ech.length cb18, .bool t.ack, .slice Ab20 t.cookie.length cb20, wv t.selg] := by
    rw [← hw1, ← hs]
    have := Blk.new (w.alloc (.cells #[wv t.vers, .slice A1 t.random.length c1, .slice A2 t.sid.length c2, wv t.suite, bv t.comp, .bool t.ocsp, .bool t.ticket, .bool t.rns, .slice A8 t.rn.length c8, .bool t.ems, strv t.alpn, .slice A11 t.scts.length c11, wv t.sv, wv t.sg, .slice A14 t.sd.length c14, .bool t.sip, wv t.si, .slice A17 t.pts.length c17, .slice A18 t.ech.length c18, .bool t.ack, .slice A20 t.cookie.length c20, wv t.selg] 26)) 26 #[wv t.vers, .slice Ab1 t.random.length cb1, .slice Ab2 t.sid.length cb2, wv t.suite, bv t.comp, .bool t.ocsp, .bool t.ticket, .bool t.rns, .slice Ab8 t.rn.length cb8, .bool t.ems, strv t.alpn, .slice Ab11 t.scts.length cb11, wv t.sv, wv t.sg, .slice Ab14 t.sd.length cb14, .bool t.sip, wv t.si, .slice Ab17 t.pts.length cb17, .slice Ab18 t.ech.length cb18, .bool t.ack, .slice Ab20 t.cookie.length cb20, wv t.selg]
    rwa [show (w.alloc (.cells #[wv t.vers, .slice A1 t.random.length c1, .slice A2 t.sid.length c2, wv t.suite, bv t.comp, .bool t.ocsp, .bool t.ticket, .bool t.rns, .slice A8 t.rn.length c8, .bool t.ems, strv t.alpn, .slice A11 t.scts.length c11, wv t.sv, wv t.sg, .slice A14 t.sd.length c14, .bool t.sip, wv t.si, .slice A17 t.pts.length c17, .slice A18 t.ech.length c18, .bool t.ack, .slice A20 t.cookie.length c20, wv t.selg] 26)).heap.size = w.heap.size + 1 by simp] at this
  replace x1 := Row.upd x1.shrink hu1 (by simp)
  replace y1 := Row.upd y1.shrink hu1 (by simp)
  replace x2 := Row.upd x2.shrink hu1 (by simp)
  replace y2 := Row.upd y2.shrink hu1 (by simp)
  replace x8 := Row.upd x8.shrink hu1 (by simp)
  replace y8 := Row.upd y8.shrink hu1 (by simp)
  replace x11 := Lst.upd x11.shrink hu1 (by simp)
  replace y11 := Lst.upd y11.shrink hu1 (by simp)
  replace x14 := Row.upd x14.shrink hu1 (by simp)
  replace y14 := Row.upd y14.shrink hu1 (by simp)
  replace x17 := Row.upd x17.shrink hu1 (by simp)
  replace y17 := Row.upd y17.shrink hu1 (by simp)
  replace x18 := Row.upd x18.shrink hu1 (by simp)
  replace y18 := Row.upd y18.shrink hu1 (by simp)
  replace x20 := Row.upd x20.shrink hu1 (by simp)
  replace y20 := Row.upd y20.shrink hu1 (by simp)
  have HW := hid hw1
  clear hw1
  obtain ⟨p0, p1, p2, p3, p4, p5, p6, p7, p8, p9, p10, p11, p12, p13, p14, p15, p16, p17, p18, p19, p20, p21, -⟩ := sh_cells hb1
  obtain ⟨q0, q1, q2, q3, q4, q5, q6, q7, q8, q9, q10, q11, q12, q13, q14, q15, q16, q17, q18, q19, q20, q21, -⟩ := sh_cells hm1
  go_enter Try.func16, Try.ntmps16
  go_upto_region 1 with fail
  rw [HW.out]
  have h0 := same_any x1 y1
  rw [beq_self_eq_true] at h0
  have H0 := hid h0
  clear h0
  go_wp2_with fail
  refine H0.out.mono ?_
  rintro e wz ⟨rfl, rfl⟩
  have h1 := same_any x2 y2
  rw [beq_self_eq_true] at h1
  have H1 := hid h1
  clear h1
  go_wp2_with fail
  refine H1.out.mono ?_
  rintro e wz ⟨rfl, rfl⟩
  have h2 := same_any x8 y8
  rw [beq_self_eq_true] at h2
  have H2 := hid h2
  clear h2
  go_wp2_with fail
  refine H2.out.mono ?_
  rintro e wz ⟨rfl, rfl⟩
  have h3 := SameLists_any x11 y11
  rw [beq_self_eq_true] at h3
  have H3 := hid h3
  clear h3
  go_wp2_with fail
  refine H3.out.mono ?_
  rintro e wz ⟨rfl, rfl⟩
  have h4 := same_any x14 y14
  rw [beq_self_eq_true] at h4
  have H4 := hid h4
  clear h4
  go_wp2_with fail
  refine H4.out.mono ?_
  rintro e wz ⟨rfl, rfl⟩
  have h5 := same_any x17 y17
  rw [beq_self_eq_true] at h5
  have H5 := hid h5
  clear h5
  go_wp2_with fail
  refine H5.out.mono ?_
  rintro e wz ⟨rfl, rfl⟩
  have h6 := same_any x18 y18
  rw [beq_self_eq_true] at h6
  have H6 := hid h6
  clear h6
  go_wp2_with fail
  refine H6.out.mono ?_
  rintro e wz ⟨rfl, rfl⟩
  have h7 := same_any x20 y20
  rw [beq_self_eq_true] at h7
  have H7 := hid h7
  clear h7
  go_wp2_with fail
  refine H7.out.mono ?_
  rintro e wz ⟨rfl, rfl⟩
  go_wp2
  go_ret
  exact ⟨rfl, hu1⟩
end
end Go.Proofs.Ytcikeghdlolkaaa

/- CertificateRequest of TLS 1.3: 'marshal', and the package's maker (printed by gen_cqm2.py). -/
import Derived.Test.YtddkjhlngofkaaaCqM
namespace Go.Proofs.Ytddkjhlngofkaaa
open Go.RowKit
set_option maxRecDepth 100000

def cqMake (t : Cq) : Option (List UInt8) := app (some [UInt8.ofNat 13]) (lpOut 3 (app (some [UInt8.ofNat 0]) (lpOut 2 (cqOut t))))
section
variable {w w' : World} {B m k : Nat} {v : Value} {A2 A3 A4 : Option Addr} {c2 c3 c4 : Nat} {t : Cq}
set_option maxHeartbeats 2000000 in
theorem marshal_Cq (hm : Blk w m 129 #[.bool t.ocsp, .bool t.scts, .slice A2 t.sig.length c2, .slice A3 t.sigc.length c3, .slice A4 t.cas.length c4]) (h2 : Row w w.heap.size (.slice A2 t.sig.length c2) (t.sig.map wv)) (h3 : Row w w.heap.size (.slice A3 t.sigc.length c3) (t.sigc.map wv)) (h4 : Lst w w.heap.size (.slice A4 t.cas.length c4) t.cas)
    (hx2 : t.sig.length ≤ 1099511627776) (hx3 : t.sigc.length ≤ 1099511627776) (hx4 : (vecsB 2 t.cas).length ≤ 1099511627776) :
    Calls Try.prog 81 #[.pointer (some ⟨m, 0, none⟩)] w (BytesP w (cqMake t)) := by
  obtain ⟨w0, hw0⟩ : ∃ w0, w.alloc (.cells #[.pointer (some ⟨m, 0, none⟩)] 127) = w0 := ⟨_, rfl⟩
  have hs0 : w0.heap.size = w.heap.size + 1 := by rw [← hw0]; simp
  have hu0 : Upd [] w w0 := by rw [← hw0]; exact (Upd.refl _ _).alloc _
  have hF : CqE w0.heap.size m w.heap.size A2 A3 A4 c2 c3 c4 t w0 := by
    refine ⟨hm.upd hu0 (by simp), ?_, (Row.upd h2 hu0 (by simp)).shrink, (Row.upd h3 hu0 (by simp)).shrink, (Lst.upd h4 hu0 (by simp)).shrink⟩
    rw [← hw0]; exact Blk.new _ _ _
  have hml := hm.lt
  have hE := cq_1 (t := t) (A2 := A2) (A3 := A3) (A4 := A4) (c2 := c2) (c3 := c3) (c4 := c4) (B := w0.heap.size) (m := m) (k := w.heap.size) (by omega) (by omega) hx2 hx3 hx4
  have hmf : ∀ (fn : Fn) (first cap : Array Value) (w : World), (Instr.makeFunc fn first cap).run Try.prog w = .ok (.func fn first cap) w := fun _ _ _ _ => rfl
  have h1 := AddUint8_top (TopS.new w0) (by show 0 ≤ _; omega) 13 (by omega)
  rw [hs0, ← hw0] at h1
  have H1 := hid h1
  have HW := hid hw0
  have Hs := hid hs0
  have HL := hid (olen_cqOut hx2 hx3 hx4)
  have HE := hid hE
  clear h1 hw0 hs0 hE hx2 hx3 hx4 h2 h3 h4
  go_enter Try.func81, Try.ntmps81
  go_wp2_with fail
  refine H1.out.mono ?_
  intro e w2 hp
  rw [HW.out] at hp
  obtain ⟨he, h2⟩ := hp
  subst he
  have H2 := hid (AddLP24_topF h2 HE.out hF (Nat.le_refl _) (by show 1 + _ + 4 ≤ _; omega))
  go_wp2_with fail
  refine (H2.out).mono ?_
  intro e w3 hp
  obtain ⟨he, h3⟩ := hp
  subst he
  have H3 := hid (Bytes_top h3 (by
    have := HL.out
    have h := olen_app (app (some []) (some [UInt8.ofNat 13])) (lpOut 3 (app (some [UInt8.ofNat 0]) (lpOut 2 (cqOut t))))
    have h1 : olen (app (some []) (some [UInt8.ofNat 13])) = 1 := rfl
    have h2 := olen_lp 3 (by omega) (app (some [UInt8.ofNat 0]) (lpOut 2 (cqOut t)))
    have h4 := olen_app (some [UInt8.ofNat 0]) (lpOut 2 (cqOut t))
    have h5 : olen (some [UInt8.ofNat 0]) = 1 := rfl
    have h3 := olen_lp 2 (by omega) (cqOut t)
    omega))
  go_wp2_with fail
  refine (H3.out).mono ?_
  intro e w4 hp
  obtain ⟨A1, n1, c1, x1, rfl⟩ := hp.pair
  go_wp2
  go_ret2
  exact hp.up hu0
set_option maxHeartbeats 2000000 in
theorem tls_MarshalCq (hv : CqV w B v t) (hx4 : (vecsB 2 t.cas).length ≤ 1099511627776) : Calls Try.prog 62 #[v] w (BytesP w (cqMake t)) := by
  obtain ⟨A2, c2, A3, c3, A4, c4, rfl, y2, y3, y4, hx2, hx3⟩ := hv
  obtain ⟨w1, hw1⟩ : ∃ w1, (w.alloc (.cells #[.bool t.ocsp, .bool t.scts, .slice A2 t.sig.length c2, .slice A3 t.sigc.length c3, .slice A4 t.cas.length c4] 97)).alloc (.cells #[.bool t.ocsp, .bool t.scts, .slice A2 t.sig.length c2, .slice A3 t.sigc.length c3, .slice A4 t.cas.length c4] 129) = w1 := ⟨_, rfl⟩
  obtain ⟨s, hs⟩ : ∃ s, w.heap.size = s := ⟨_, rfl⟩
  have hu1 : Upd [] w w1 := by rw [← hw1]; exact ((Upd.refl _ _).alloc _).alloc _
  have hs1 : w1.heap.size = s + 2 := by rw [← hw1, ← hs]; simp
  have hm1 : Blk w1 (s + 1) 129 #[.bool t.ocsp, .bool t.scts, .slice A2 t.sig.length c2, .slice A3 t.sigc.length c3, .slice A4 t.cas.length c4] := by
    rw [← hw1, ← hs]
    have := Blk.new (w.alloc (.cells #[.bool t.ocsp, .bool t.scts, .slice A2 t.sig.length c2, .slice A3 t.sigc.length c3, .slice A4 t.cas.length c4] 97)) 129 #[.bool t.ocsp, .bool t.scts, .slice A2 t.sig.length c2, .slice A3 t.sigc.length c3, .slice A4 t.cas.length c4]
    rwa [show (w.alloc (.cells #[.bool t.ocsp, .bool t.scts, .slice A2 t.sig.length c2, .slice A3 t.sigc.length c3, .slice A4 t.cas.length c4] 97)).heap.size = w.heap.size + 1 by simp] at this
  have hy2 := Row.upd y2.shrink hu1 (by simp)
  have hy3 := Row.upd y3.shrink hu1 (by simp)
  have hy4 := Lst.upd y4.shrink hu1 (by simp)
  have HW := hid hw1
  have HS := hid hs
  have HS1 := hid hs1
  have H1 := hid (marshal_Cq hm1 hy2.shrink hy3.shrink hy4.shrink hx2 hx3 hx4)
  clear hw1 hs1 y2 y3 y4 hy2 hy3 hy4 hx2 hx3 hx4 hm1
  go_enter Try.func62, Try.ntmps62
  go_wp2_with fail
  rw [HW.out]
  refine H1.out.mono ?_
  intro e w4 hp
  obtain ⟨A1, n1, c1, x1, rfl⟩ := hp.pair
  go_wp2
  go_ret2
  exact hp.up hu1
theorem impl_MarshalCq (hv : CqV w B v t) (hx4 : (vecsB 2 t.cas).length ≤ 1099511627776) : Calls Try.prog 26 #[v] w (MadeP w (cqMake t)) := by
  obtain ⟨A2, c2, A3, c3, A4, c4, rfl, y2, y3, y4, hx2, hx3⟩ := hv
  have hu0 : Upd [] w (w.alloc (.cells #[.bool t.ocsp, .bool t.scts, .slice A2 t.sig.length c2, .slice A3 t.sigc.length c3, .slice A4 t.cas.length c4] 35)) := (Upd.refl _ _).alloc _
  have H1 := hid (tls_MarshalCq (w := w.alloc (.cells #[.bool t.ocsp, .bool t.scts, .slice A2 t.sig.length c2, .slice A3 t.sigc.length c3, .slice A4 t.cas.length c4] 35)) (B := w.heap.size) (t := t) ⟨A2, c2, A3, c3, A4, c4, rfl, Row.upd y2.shrink hu0 (by simp), Row.upd y3.shrink hu0 (by simp), Lst.upd y4.shrink hu0 (by simp), hx2, hx3⟩ hx4)
  clear hx2 hx3 hx4
  go_enter Try.func26, Try.ntmps26
  go_wp2_with fail
  refine (H1.out).mono ?_
  intro e w1 hp
  have q1 := eql_err_nil
  have q2 := eql_err_some
  obtain ⟨A, n, c, ⟨rfl, hr⟩ | ⟨t, x, rfl, hr⟩⟩ := hp.two
  all_goals
    have HR := hid hr
    clear hr
    go_wp2_with fail
    go_quiet (fail)
    go_wp2
    go_ret2
    exact (HR.out _).up hu0
end
end Go.Proofs.Ytddkjhlngofkaaa

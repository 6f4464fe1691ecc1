/- EncryptedExtensions: 'marshal', and the package's maker. -/
import Derived.Test.YtcdjbciifnoajaaEeM
namespace Go.Proofs.Ytcdjbciifnoajaa
open Go.RowKit
set_option maxRecDepth 100000

def eeMake (t : Ee) : Option (List UInt8) := app (some [UInt8.ofNat 8]) (lpOut 3 (lpOut 2 (eeOut t)))
section
variable {w w' : World} {B m k : Nat} {v : Value} {A1 A2 : Option Addr} {c1 c2 : Nat} {t : Ee}
theorem marshal_Ee (hm : Blk w m 114 #[strv t.alpn, .slice A1 t.quic.length c1, .bool t.early, .slice A2 t.ech.length c2, .bool t.ack]) (h1 : Byt w w.heap.size (.slice A1 t.quic.length c1) t.quic) (h2 : Byt w w.heap.size (.slice A2 t.ech.length c2) t.ech)
    (hx : t.alpn.length ≤ 2147483647) (hx2 : t.quic.length ≤ 2147483647) (hx3 : t.ech.length ≤ 2147483647) (hA : (t.has = true ∧ ∃ a, A1 = some a) ∨ (t.has = false ∧ A1 = none)) :
    Calls Try.prog 69 #[.pointer (some ⟨m, 0, none⟩)] w (BytesP w (eeMake t)) := by
  obtain ⟨w0, hw0⟩ : ∃ w0, w.alloc (.cells #[.pointer (some ⟨m, 0, none⟩)] 112) = w0 := ⟨_, rfl⟩
  have hs0 : w0.heap.size = w.heap.size + 1 := by rw [← hw0]; simp
  have hu0 : Upd [] w w0 := by rw [← hw0]; exact (Upd.refl _ _).alloc _
  have hF : EeF w0.heap.size m w.heap.size A1 A2 c1 c2 t w0 := by
    refine ⟨hm.upd hu0 (by simp), ?_, (Row.upd h1 hu0 (by simp)).shrink, (Row.upd h2 hu0 (by simp)).shrink⟩
    rw [← hw0]; exact Blk.new _ _ _
  have hml := hm.lt
  have hE := ee_1 (t := t) (A1 := A1) (A2 := A2) (c1 := c1) (c2 := c2) (B := w0.heap.size) (m := m) (k := w.heap.size) (by omega) (by omega) hx hx2 hx3 hA
  have hmf : ∀ (fn : Fn) (first cap : Array Value) (w : World), (Instr.makeFunc fn first cap).run Try.prog w = .ok (.func fn first cap) w := fun _ _ _ _ => rfl
  have h1 := AddUint8_top (TopS.new w0) (by show 0 ≤ _; omega) 8 (by omega)
  rw [hs0, ← hw0] at h1
  have H1 := hid h1
  have HW := hid hw0
  have Hs := hid hs0
  have HL := hid (olen_eeOut hx hx2 hx3)
  have HE := hid hE
  clear h1 hw0 hs0 hE hx hx2 hx3 hA
  go_enter Try.func69, Try.ntmps69
  go_wp2_with fail
  refine H1.out.mono ?_
  intro e w2 hp
  rw [HW.out] at hp
  obtain ⟨he, h2⟩ := hp
  subst he
  have H2 := hid (AddLP24_topF h2 HE.out hF (Nat.le_refl _) (by show 1 + _ + 4 ≤ _; omega))
  go_wp2_with fail
  refine (H2.out).mono ?_
  intro e w3 hp
  obtain ⟨he, h3⟩ := hp
  subst he
  have H3 := hid (Bytes_top h3 (by
    have := HL.out
    have h := olen_app (app (some []) (some [UInt8.ofNat 8])) (lpOut 3 (lpOut 2 (eeOut t)))
    have h1 : olen (app (some []) (some [UInt8.ofNat 8])) = 1 := rfl
    have h2 := olen_lp 3 (by omega) (lpOut 2 (eeOut t))
    have h3 := olen_lp 2 (by omega) (eeOut t)
    omega))
  go_wp2_with fail
  refine (H3.out).mono ?_
  intro e w4 hp
  obtain ⟨A1, n1, c1, x1, rfl⟩ := hp.pair
  go_wp2
  go_ret2
  exact hp.up hu0
set_option maxHeartbeats 2000000 in
theorem tls_MarshalEe (hv : EeV w B v t) (hr : t.has = true ∨ t.quic = []) (hx : t.alpn.length ≤ 2147483647) (hx2 : t.quic.length ≤ 2147483647) (hx3 : t.ech.length ≤ 2147483647) : Calls Try.prog 60 #[v] w (BytesP w (eeMake t)) := by
  obtain ⟨A1, c1, A2, c2, rfl, y1, y2⟩ := hv
  obtain ⟨b, hbz⟩ : ∃ b, t.has = b := ⟨_, rfl⟩
  rw [hbz] at hr
  simp only [hbz]
  have HBZ := hid hbz
  clear hbz
  obtain ⟨w1, hw1⟩ : ∃ w1, (w.alloc (.cells #[strv t.alpn, .bool b, .slice A1 t.quic.length c1, .bool t.early, .slice A2 t.ech.length c2, .bool t.ack] 96)).alloc (.cells #[strv t.alpn, .slice none 0 0, .bool t.early, .slice A2 t.ech.length c2, .bool t.ack] 114) = w1 := ⟨_, rfl⟩
  obtain ⟨s, hs⟩ : ∃ s, w.heap.size = s := ⟨_, rfl⟩
  have hu1 : Upd [] w w1 := by rw [← hw1]; exact ((Upd.refl _ _).alloc _).alloc _
  have hs1 : w1.heap.size = s + 2 := by rw [← hw1, ← hs]; simp
  have hb1 : Blk w1 s 96 #[strv t.alpn, .bool b, .slice A1 t.quic.length c1, .bool t.early, .slice A2 t.ech.length c2, .bool t.ack] := by rw [← hw1, ← hs]; exact (Blk.new _ _ _).alloc _
  have hm1 : Blk w1 (s + 1) 114 #[strv t.alpn, .slice none 0 0, .bool t.early, .slice A2 t.ech.length c2, .bool t.ack] := by
    rw [← hw1, ← hs]
    have := Blk.new (w.alloc (.cells #[strv t.alpn, .bool b, .slice A1 t.quic.length c1, .bool t.early, .slice A2 t.ech.length c2, .bool t.ack] 96)) 114 #[strv t.alpn, .slice none 0 0, .bool t.early, .slice A2 t.ech.length c2, .bool t.ack]
    rwa [show (w.alloc (.cells #[strv t.alpn, .bool b, .slice A1 t.quic.length c1, .bool t.early, .slice A2 t.ech.length c2, .bool t.ack] 96)).heap.size = w.heap.size + 1 by simp] at this
  have hy1 := Row.upd y1.shrink hu1 (by simp)
  have hy2 := Row.upd y2.shrink hu1 (by simp)
  have HW := hid hw1
  have HS := hid hs
  have HS1 := hid hs1
  obtain ⟨p0, p1, p2, p3, p4, p5, -⟩ := six_cells hb1
  obtain ⟨q0, q1, q2, q3, q4, g0, g1, g2, g3, g4⟩ := ee_cells hm1
  clear hw1 hs1 y1 y2
  cases b
  case true =>
    have hne : ¬ s = s + 1 := by omega
    clear hr
    go_enter Try.func60, Try.ntmps60
    go_upto_region 3 with fail
    rw [HW.out]
    have hb1a := hb1.alloc (.cells #[] 5)
    obtain ⟨p0, p1, p2, p3, p4, p5, -⟩ := six_cells hb1a
    go_wp2_with (at_builtin; go_must (refine wpList_append_row (v := .slice (some ⟨w1.heap.size, 0, none⟩) 0 0) _ rfl (Operand.tmp 18) (Operand.tmp 20) 23 rfl w1.heap.size 5 (.int .u8 0) 1 Try.underlying23 info_u8 rfl rfl (own_none w1 w1.heap.size 5 (Nat.le_refl _)) rfl (Row.alloc hy1 (.cells #[] 5)) (byt_oneCell _) (by simp; omega) (by simp; omega) (by simp) ?_; intro v3 w3 hap3; obtain ⟨A3, c3, hv3⟩ := Own.formN (n := t.quic.length) hap3.1 (by simp); subst hv3; have hm3 := (hm1.alloc (.cells #[] 5)).upd hap3.2.1 (by have := HS1.out; simp [Value.ownBlock]; omega); have hy23 := Row.upd (Row.alloc hy2 (.cells #[] 5)) hap3.2.1 (by simp [Value.ownBlock]; exact hu1.size); obtain ⟨q0, q1, q2, q3, q4, g0, g1, g2, g3, g4⟩ := ee_cells hm3))
    have hown := hap3.1
    rw [List.nil_append] at hown
    have hu3 : Upd [] w1 w3 := ((Upd.refl [] w1).alloc _).trans hap3.2.1 (by simp [Value.ownBlock])
    have huS : Upd [s + 1] w3 (w3.setCell ⟨s + 1, 1, none⟩ (.slice A3 t.quic.length c3)) := (Upd.refl _ _).setCell (by simp) _
    have hmS : Blk (w3.setCell ⟨s + 1, 1, none⟩ (.slice A3 t.quic.length c3)) (s + 1) 114 #[strv t.alpn, .slice A3 t.quic.length c3, .bool t.early, .slice A2 t.ech.length c2, .bool t.ack] := hm3.set_ 1 _
    have hgs : ∀ g, (Value.slice A3 t.quic.length c3).ownBlock = some g → s + 2 ≤ g := fun g hg => by have := (hown.ge hg).1; have := HS1.out; omega
    have hq3 : Byt w3 w3.heap.size (.slice A3 t.quic.length c3) t.quic := hown.row
    have hqS : Byt (w3.setCell ⟨s + 1, 1, none⟩ (.slice A3 t.quic.length c3)) w3.heap.size (.slice A3 t.quic.length c3) t.quic := Row.apart hq3 huS (fun g hg hm => by have := hgs g hg; simp at hm; omega)
    have hyS := Row.upd hy23 huS (by simp; omega)
    have hU : Upd [] w (w3.setCell ⟨s + 1, 1, none⟩ (.slice A3 t.quic.length c3)) := (hu1.trans hu3 (by simp)).trans huS (by simp; omega)
    have hA : (t.has = true ∧ ∃ a, A3 = some a) ∨ (t.has = false ∧ A3 = none) := by
      refine .inl ⟨HBZ.out, ?_⟩
      cases A3 with
      | some a => exact ⟨a, rfl⟩
      | none =>
        have := hap3.2.2
        simp [Value.ownBlock] at this
    refine (marshal_Ee hmS (Row.shrink hqS) (Row.shrink hyS) hx hx2 hx3 hA).mono ?_
    intro e w4 hp
    obtain ⟨A1, n1, c1, x1, rfl⟩ := hp.pair
    go_wp2
    go_ret2
    exact hp.up hU
  case false =>
    have hq0 : t.quic = [] := by
      rcases hr with h | h
      · cases h
      · exact h
    have hA : (t.has = true ∧ ∃ a, (none : Option Addr) = some a) ∨ (t.has = false ∧ (none : Option Addr) = none) := .inr ⟨HBZ.out, rfl⟩
    have hl0 : (0 : Nat) = t.quic.length := by rw [hq0]; rfl
    have hz : Byt w1 w1.heap.size (.slice none t.quic.length 0) t.quic := by rw [hq0]; exact Row.nil_ _ _
    rw [show (Value.slice none 0 0) = .slice none t.quic.length 0 by rw [← hl0]] at hm1
    have H1 := hid (marshal_Ee hm1 hz hy2.shrink hx hx2 hx3 hA)
    clear hm1 hz hy1 hy2 hx hx2 hx3 hA hl0 hq0 hr
    go_enter Try.func60, Try.ntmps60
    go_wp2_with fail
    rw [HW.out]
    refine H1.out.mono ?_
    intro e w4 hp
    obtain ⟨A1, n1, c1, x1, rfl⟩ := hp.pair
    go_wp2
    go_ret2
    exact hp.up hu1
theorem impl_MarshalEe (hv : EeV w B v t) (hr : t.has = true ∨ t.quic = []) (hx : t.alpn.length ≤ 2147483647) (hx2 : t.quic.length ≤ 2147483647) (hx3 : t.ech.length ≤ 2147483647) : Calls Try.prog 31 #[v] w (MadeP w (eeMake t)) := by
  obtain ⟨A1, c1, A2, c2, rfl, y1, y2⟩ := hv
  have hu0 : Upd [] w (w.alloc (.cells #[strv t.alpn, .bool t.has, .slice A1 t.quic.length c1, .bool t.early, .slice A2 t.ech.length c2, .bool t.ack] 44)) := (Upd.refl _ _).alloc _
  have H1 := hid (tls_MarshalEe (w := w.alloc (.cells #[strv t.alpn, .bool t.has, .slice A1 t.quic.length c1, .bool t.early, .slice A2 t.ech.length c2, .bool t.ack] 44)) (B := w.heap.size) (t := t) ⟨A1, c1, A2, c2, rfl, Row.upd y1.shrink hu0 (by simp), Row.upd y2.shrink hu0 (by simp)⟩ hr hx hx2 hx3)
  clear hx hx2 hx3 hr
  go_enter Try.func31, Try.ntmps31
  go_wp2_with fail
  refine (H1.out).mono ?_
  intro e w1 hp
  have q1 := eql_err_nil
  have q2 := eql_err_some
  obtain ⟨A, n, c, ⟨rfl, hr⟩ | ⟨t, x, rfl, hr⟩⟩ := hp.two
  all_goals
    have HR := hid hr
    clear hr
    go_wp2_with fail
    go_quiet (fail)
    go_wp2
    go_ret2
    exact (HR.out _).up hu0
end
end Go.Proofs.Ytcdjbciifnoajaa

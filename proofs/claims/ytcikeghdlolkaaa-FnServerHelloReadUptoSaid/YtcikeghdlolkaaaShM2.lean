/- ServerHello: 'marshal', and the package's maker (printed by gen_shm2.py). -/
import Derived.Test.YtcikeghdlolkaaaShM
namespace Go.Proofs.Ytcikeghdlolkaaa
open Go.RowKit
set_option maxRecDepth 100000

def shMakeM (t : Sh) : Option (List UInt8) := (shOutM t).bind fun xs => app (some [UInt8.ofNat 2]) (lpOut 3 (shBodyA t xs))
theorem app_lnil (o : Option (List UInt8)) : app (some []) o = o := by cases o <;> simp [app]
theorem TopS.cast {w0 w : World} {p : Nat} {st st' : Option (List UInt8)} (h : TopS w0 w p st) (e : st = st') : TopS w0 w p st' := e ▸ h
theorem TopS.up {w0 w : World} {p : Nat} {st : Option (List UInt8)} (h : TopS w0 w p st) : Upd [] w0 w := by
  obtain ⟨_, _, _, _, h, _⟩ := h
  exact h
section
variable {w w' : World} {B m k : Nat} {v : Value} {t : Sh} {A1 : Option Addr} {c1 : Nat} {A2 : Option Addr} {c2 : Nat} {A8 : Option Addr} {c8 : Nat} {A11 : Option Addr} {c11 : Nat} {A14 : Option Addr} {c14 : Nat} {A17 : Option Addr} {c17 : Nat} {A18 : Option Addr} {c18 : Nat} {A20 : Option Addr} {c20 : Nat}
set_option maxHeartbeats 8000000 in
theorem marshal_Sh (hm : Blk w m 121 #[.slice none 0 0, wv t.vers, .slice A1 t.random.length c1, .slice A2 t.sid.length c2, wv t.suite, bv t.comp, .bool t.ocsp, .bool t.ticket, .bool t.rns, .slice A8 t.rn.length c8, .bool t.ems, strv t.alpn, .slice A11 t.scts.length c11, wv t.sv, wv t.sg, .slice A14 t.sd.length c14, .bool t.sip, wv t.si, .slice A17 t.pts.length c17, .slice A18 t.ech.length c18, .bool t.ack, .slice A20 t.cookie.length c20, wv t.selg]) (h1 : Byt w w.heap.size (.slice A1 t.random.length c1) t.random) (h2 : Byt w w.heap.size (.slice A2 t.sid.length c2) t.sid) (h8 : Byt w w.heap.size (.slice A8 t.rn.length c8) t.rn) (h11 : Lst w w.heap.size (.slice A11 t.scts.length c11) t.scts) (h14 : Byt w w.heap.size (.slice A14 t.sd.length c14) t.sd) (h17 : Byt w w.heap.size (.slice A17 t.pts.length c17) t.pts) (h18 : Byt w w.heap.size (.slice A18 t.ech.length c18) t.ech) (h20 : Byt w w.heap.size (.slice A20 t.cookie.length c20) t.cookie) (hZ : ShSz t) :
    Calls Try.prog 73 #[.pointer (some ⟨m, 0, none⟩)] w (BytesP w (shMakeM t)) := by
  obtain ⟨w0, hw0⟩ : ∃ w0, w.alloc (.cells #[.pointer (some ⟨m, 0, none⟩)] 117) = w0 := ⟨_, rfl⟩
  obtain ⟨s, hs⟩ : ∃ s, w.heap.size = s := ⟨_, rfl⟩
  have hs0 : w0.heap.size = s + 1 := by rw [← hw0, ← hs]; simp
  have hu0 : Upd [] w w0 := by rw [← hw0]; exact (Upd.refl _ _).alloc _
  have hm0 := hm.upd hu0 (by simp)
  have hk0 : Blk w0 s 117 #[.pointer (some ⟨m, 0, none⟩)] := by rw [← hw0, ← hs]; exact Blk.new _ _ _
  have hml := hm.lt
  have hF : ShE w0.heap.size m s A1 c1 A2 c2 A8 c8 A11 c11 A14 c14 A17 c17 A18 c18 A20 c20 t w0 := ⟨hm0, hk0, (Row.upd h1 hu0 (by simp)).shrink, (Row.upd h2 hu0 (by simp)).shrink, (Row.upd h8 hu0 (by simp)).shrink, (Lst.upd h11 hu0 (by simp)).shrink, (Row.upd h14 hu0 (by simp)).shrink, (Row.upd h17 hu0 (by simp)).shrink, (Row.upd h18 hu0 (by simp)).shrink, (Row.upd h20 hu0 (by simp)).shrink⟩
  have hmB : m < w0.heap.size := by omega
  have hkB : s < w0.heap.size := by omega
  have hmf : ∀ (fn : Fn) (first cap : Array Value) (w : World), (Instr.makeFunc fn first cap).run Try.prog w = .ok (.func fn first cap) w := fun _ _ _ _ => rfl
  have HE0 := hid (sh_rn (B := w0.heap.size) (m := m) (k := s) (t := t) (A1 := A1) (c1 := c1) (A2 := A2) (c2 := c2) (A8 := A8) (c8 := c8) (A11 := A11) (c11 := c11) (A14 := A14) (c14 := c14) (A17 := A17) (c17 := c17) (A18 := A18) (c18 := c18) (A20 := A20) (c20 := c20) hmB hkB hZ)
  have HE1 := hid (sh_a1 (B := w0.heap.size) (m := m) (k := s) (t := t) (A1 := A1) (c1 := c1) (A2 := A2) (c2 := c2) (A8 := A8) (c8 := c8) (A11 := A11) (c11 := c11) (A14 := A14) (c14 := c14) (A17 := A17) (c17 := c17) (A18 := A18) (c18 := c18) (A20 := A20) (c20 := c20) hmB hkB hZ)
  have HE2 := hid (sh_s1 (B := w0.heap.size) (m := m) (k := s) (t := t) (A1 := A1) (c1 := c1) (A2 := A2) (c2 := c2) (A8 := A8) (c8 := c8) (A11 := A11) (c11 := c11) (A14 := A14) (c14 := c14) (A17 := A17) (c17 := c17) (A18 := A18) (c18 := c18) (A20 := A20) (c20 := c20) hmB hkB hZ)
  have HE3 := hid (sh_sv (B := w0.heap.size) (m := m) (k := s) (t := t) (A1 := A1) (c1 := c1) (A2 := A2) (c2 := c2) (A8 := A8) (c8 := c8) (A11 := A11) (c11 := c11) (A14 := A14) (c14 := c14) (A17 := A17) (c17 := c17) (A18 := A18) (c18 := c18) (A20 := A20) (c20 := c20) hmB hkB hZ)
  have HE4 := hid (sh_sd (B := w0.heap.size) (m := m) (k := s) (t := t) (A1 := A1) (c1 := c1) (A2 := A2) (c2 := c2) (A8 := A8) (c8 := c8) (A11 := A11) (c11 := c11) (A14 := A14) (c14 := c14) (A17 := A17) (c17 := c17) (A18 := A18) (c18 := c18) (A20 := A20) (c20 := c20) hmB hkB hZ)
  have HE5 := hid (sh_si (B := w0.heap.size) (m := m) (k := s) (t := t) (A1 := A1) (c1 := c1) (A2 := A2) (c2 := c2) (A8 := A8) (c8 := c8) (A11 := A11) (c11 := c11) (A14 := A14) (c14 := c14) (A17 := A17) (c17 := c17) (A18 := A18) (c18 := c18) (A20 := A20) (c20 := c20) hmB hkB hZ)
  have HE6 := hid (sh_ck (B := w0.heap.size) (m := m) (k := s) (t := t) (A1 := A1) (c1 := c1) (A2 := A2) (c2 := c2) (A8 := A8) (c8 := c8) (A11 := A11) (c11 := c11) (A14 := A14) (c14 := c14) (A17 := A17) (c17 := c17) (A18 := A18) (c18 := c18) (A20 := A20) (c20 := c20) hmB hkB hZ)
  have HE7 := hid (sh_sg (B := w0.heap.size) (m := m) (k := s) (t := t) (A1 := A1) (c1 := c1) (A2 := A2) (c2 := c2) (A8 := A8) (c8 := c8) (A11 := A11) (c11 := c11) (A14 := A14) (c14 := c14) (A17 := A17) (c17 := c17) (A18 := A18) (c18 := c18) (A20 := A20) (c20 := c20) hmB hkB hZ)
  have HE8 := hid (sh_pt (B := w0.heap.size) (m := m) (k := s) (t := t) (A1 := A1) (c1 := c1) (A2 := A2) (c2 := c2) (A8 := A8) (c8 := c8) (A11 := A11) (c11 := c11) (A14 := A14) (c14 := c14) (A17 := A17) (c17 := c17) (A18 := A18) (c18 := c18) (A20 := A20) (c20 := c20) hmB hkB hZ)
  have HE9 := hid (sh_ec (B := w0.heap.size) (m := m) (k := s) (t := t) (A1 := A1) (c1 := c1) (A2 := A2) (c2 := c2) (A8 := A8) (c8 := c8) (A11 := A11) (c11 := c11) (A14 := A14) (c14 := c14) (A17 := A17) (c17 := c17) (A18 := A18) (c18 := c18) (A20 := A20) (c20 := c20) hmB hkB hZ)
  have hT : TopS w0 (w0.alloc (.cells #[.nilIface, .slice none 0 0, .bool false, .pointer none, .int .i64 0, .int .i64 0, .bool false, .pointer none] 152)) w0.heap.size (some []) := TopS.new w0
  obtain ⟨wT, hwT⟩ : ∃ wT, w0.alloc (.cells #[.nilIface, .slice none 0 0, .bool false, .pointer none, .int .i64 0, .int .i64 0, .bool false, .pointer none] 152) = wT := ⟨_, rfl⟩
  rw [hwT] at hT
  have HP : Hid (w0.heap.size = s + 1) := hid hs0
  rw [hs0] at hT
  obtain ⟨ST0, hST0⟩ : ∃ x : Option (List UInt8), some [] = x := ⟨_, rfl⟩
  rw [hST0] at hT
  have hln0 : olen ST0 ≤ 0 := by rw [← hST0]; exact Nat.le_refl _
  have HST0 := hid hST0
  have HLN := hid hln0
  have HF := hid hF
  have HW := hid hw0
  have HWT := hid hwT
  have HS := hid hs
  have HK := hid hk0
  have HM := hid hm0
  have HU0 := hid hu0
  have HZ := hid hZ
  have hB1 : ShE (w0.heap.size) m s A1 c1 A2 c2 A8 c8 A11 c11 A14 c14 A17 c17 A18 c18 A20 c20 t w0 := hF
  clear hB1 hw0 hwT hs hST0 hln0 hm0 hk0 hm h1 h2 h8 h11 h14 h17 h18 h20 hF hu0 hZ hs0 hmB hkB
  obtain ⟨ST1, hST1⟩ : ∃ x, app ST0 (condOut (t.ocsp) (extOut 5 (some []))) = x := ⟨_, rfl⟩
  have hln1 : olen ST1 ≤ 18 := by
    have h0 := HLN.out
    rw [← hST1]
    have h1 := olen_app ST0 (condOut (t.ocsp) (extOut 5 (some [])))
    have h2 := olen_cond (t.ocsp) (extOut 5 (some []))
    have h3 := olen_ext 5 (some [])
    have h4 : olen (some []) ≤ 0 := Nat.le_refl _
    omega
  have HLN1 := hid hln1
  have HST1 := hid hST1
  clear hln1 hST1
  have hU := hT.up
  have hm1 := HM.out.upd hU (by simp)
  have hk1 := HK.out.upd hU (by simp)
  have d0 := hk1.cell 0
  have cc := hm1.cell 6
  simp at d0 cc
  have HT := hid hT
  clear hT hU hm1 hk1
  go_enter Try.func73, Try.ntmps73
  go_upto_region 2 with fail
  rw [HW.out, HWT.out, HS.out]
  go_upto_if 11 with fail
  go_cut [] (fun wx => TopS w0 wx (s + 1) ST1)
  case first =>
    rcases bcase (t.ocsp) with hz | hz
    · try rw [hz]
      have H := hid (AddUint16_top HT.out (by have := HLN.out; omega) 5 (by omega))
      go_wp2_with fail
      refine H.out.mono ?_
      rintro e w2 ⟨rfl, hT⟩
      have H2 := hid (AddUint16_top hT (by have := olen_app ST0 (some (be 2 5)); have h5 : olen (some (be 2 5)) = 2 := be_len _ _; have := HLN.out; omega) 0 (by omega))
      clear H hT
      go_wp2_with fail
      refine H2.out.mono ?_
      rintro e w3 ⟨rfl, hT⟩
      have HT3 := hid hT
      clear hT H2
      go_wp2_with fail
      go_meet
      exact TopS.cast HT3.out (by rw [← HST1.out, hz]; simp only [condOut_true, extOut, lpOut_empty, app_assoc])
    · try rw [hz]
      go_wp2_with fail
      go_meet
      exact TopS.cast HT.out (by rw [← HST1.out, hz, condOut_false, app_nil])
  have hT := hcut
  clear hcut HT d0 cc
  replace HLN := HLN1
  clear HLN1
  obtain ⟨ST2, hST2⟩ : ∃ x, app ST1 (condOut (t.ticket) (extOut 35 (some []))) = x := ⟨_, rfl⟩
  have hln2 : olen ST2 ≤ 36 := by
    have h0 := HLN.out
    rw [← hST2]
    have h1 := olen_app ST1 (condOut (t.ticket) (extOut 35 (some [])))
    have h2 := olen_cond (t.ticket) (extOut 35 (some []))
    have h3 := olen_ext 35 (some [])
    have h4 : olen (some []) ≤ 0 := Nat.le_refl _
    omega
  have HLN2 := hid hln2
  have HST2 := hid hST2
  clear hln2 hST2
  have hU := hT.up
  have hm1 := HM.out.upd hU (by simp)
  have hk1 := HK.out.upd hU (by simp)
  have d0 := hk1.cell 0
  have cc := hm1.cell 7
  simp at d0 cc
  have HT := hid hT
  clear hT hU hm1 hk1
  go_upto_if 17 with fail
  go_cut [] (fun wx => TopS w0 wx (s + 1) ST2)
  case first =>
    rcases bcase (t.ticket) with hz | hz
    · try rw [hz]
      have H := hid (AddUint16_top HT.out (by have := HLN.out; omega) 35 (by omega))
      go_wp2_with fail
      refine H.out.mono ?_
      rintro e w2 ⟨rfl, hT⟩
      have H2 := hid (AddUint16_top hT (by have := olen_app ST1 (some (be 2 35)); have h5 : olen (some (be 2 35)) = 2 := be_len _ _; have := HLN.out; omega) 0 (by omega))
      clear H hT
      go_wp2_with fail
      refine H2.out.mono ?_
      rintro e w3 ⟨rfl, hT⟩
      have HT3 := hid hT
      clear hT H2
      go_wp2_with fail
      go_meet
      exact TopS.cast HT3.out (by rw [← HST2.out, hz]; simp only [condOut_true, extOut, lpOut_empty, app_assoc])
    · try rw [hz]
      go_wp2_with fail
      go_meet
      exact TopS.cast HT.out (by rw [← HST2.out, hz, condOut_false, app_nil])
  have hT := hcut
  clear hcut HT d0 cc
  replace HLN := HLN2
  clear HLN2
  obtain ⟨ST3, hST3⟩ : ∃ x, app ST2 (condOut (t.rns) (extOut 65281 (lpOut 1 (some (t.rn))))) = x := ⟨_, rfl⟩
  have hln3 : olen ST3 ≤ 2147483703 := by
    have h0 := HLN.out
    rw [← hST3]
    have h1 := olen_app ST2 (condOut (t.rns) (extOut 65281 (lpOut 1 (some (t.rn)))))
    have h2 := olen_cond (t.rns) (extOut 65281 (lpOut 1 (some (t.rn))))
    have h3 := olen_ext 65281 (lpOut 1 (some (t.rn)))
    have h4 : olen (lpOut 1 (some (t.rn))) ≤ 2147483651 := HE0.out.1
    omega
  have HLN3 := hid hln3
  have HST3 := hid hST3
  clear hln3 hST3
  have hU := hT.up
  have hm1 := HM.out.upd hU (by simp)
  have hk1 := HK.out.upd hU (by simp)
  have d0 := hk1.cell 0
  have cc := hm1.cell 8
  simp at d0 cc
  have HT := hid hT
  clear hT hU hm1 hk1
  go_upto_if 23 with fail
  go_cut [] (fun wx => TopS w0 wx (s + 1) ST3)
  case first =>
    rcases bcase (t.rns) with hz | hz
    · try rw [hz]
      have H := hid (AddUint16_top HT.out (by have := HLN.out; omega) 65281 (by omega))
      go_wp2_with fail
      refine H.out.mono ?_
      rintro e w2 ⟨rfl, hT⟩
      have H2 := hid (AddLP16_topF hT HE0.out HF.out (Nat.le_refl _) (by have := olen_app ST2 (some (be 2 65281)); have h5 : olen (some (be 2 65281)) = 2 := be_len _ _; have := HLN.out; omega))
      clear H hT
      go_wp2_with fail
      refine H2.out.mono ?_
      rintro e w3 ⟨rfl, hT⟩
      have HT3 := hid hT
      clear hT H2
      go_wp2_with fail
      go_meet
      exact TopS.cast HT3.out (by rw [← HST3.out, hz]; simp only [condOut_true, extOut, lpOut_empty, app_assoc])
    · try rw [hz]
      go_wp2_with fail
      go_meet
      exact TopS.cast HT.out (by rw [← HST3.out, hz, condOut_false, app_nil])
  have hT := hcut
  clear hcut HT d0 cc
  replace HLN := HLN3
  clear HLN3
  obtain ⟨ST4, hST4⟩ : ∃ x, app ST3 (condOut (t.ems) (extOut 23 (some []))) = x := ⟨_, rfl⟩
  have hln4 : olen ST4 ≤ 2147483721 := by
    have h0 := HLN.out
    rw [← hST4]
    have h1 := olen_app ST3 (condOut (t.ems) (extOut 23 (some [])))
    have h2 := olen_cond (t.ems) (extOut 23 (some []))
    have h3 := olen_ext 23 (some [])
    have h4 : olen (some []) ≤ 0 := Nat.le_refl _
    omega
  have HLN4 := hid hln4
  have HST4 := hid hST4
  clear hln4 hST4
  have hU := hT.up
  have hm1 := HM.out.upd hU (by simp)
  have hk1 := HK.out.upd hU (by simp)
  have d0 := hk1.cell 0
  have cc := hm1.cell 10
  simp at d0 cc
  have HT := hid hT
  clear hT hU hm1 hk1
  go_upto_if 30 with fail
  go_cut [] (fun wx => TopS w0 wx (s + 1) ST4)
  case first =>
    rcases bcase (t.ems) with hz | hz
    · try rw [hz]
      have H := hid (AddUint16_top HT.out (by have := HLN.out; omega) 23 (by omega))
      go_wp2_with fail
      refine H.out.mono ?_
      rintro e w2 ⟨rfl, hT⟩
      have H2 := hid (AddUint16_top hT (by have := olen_app ST3 (some (be 2 23)); have h5 : olen (some (be 2 23)) = 2 := be_len _ _; have := HLN.out; omega) 0 (by omega))
      clear H hT
      go_wp2_with fail
      refine H2.out.mono ?_
      rintro e w3 ⟨rfl, hT⟩
      have HT3 := hid hT
      clear hT H2
      go_wp2_with fail
      go_meet
      exact TopS.cast HT3.out (by rw [← HST4.out, hz]; simp only [condOut_true, extOut, lpOut_empty, app_assoc])
    · try rw [hz]
      go_wp2_with fail
      go_meet
      exact TopS.cast HT.out (by rw [← HST4.out, hz, condOut_false, app_nil])
  have hT := hcut
  clear hcut HT d0 cc
  replace HLN := HLN4
  clear HLN4
  obtain ⟨ST5, hST5⟩ : ∃ x, app ST4 (condOut (decide (0 < t.alpn.length)) (extOut 16 (lpOut 2 (lpOut 1 (some (t.alpn)))))) = x := ⟨_, rfl⟩
  have hln5 : olen ST5 ≤ 4294967392 := by
    have h0 := HLN.out
    rw [← hST5]
    have h1 := olen_app ST4 (condOut (decide (0 < t.alpn.length)) (extOut 16 (lpOut 2 (lpOut 1 (some (t.alpn))))))
    have h2 := olen_cond (decide (0 < t.alpn.length)) (extOut 16 (lpOut 2 (lpOut 1 (some (t.alpn)))))
    have h3 := olen_ext 16 (lpOut 2 (lpOut 1 (some (t.alpn))))
    have h4 : olen (lpOut 2 (lpOut 1 (some (t.alpn)))) ≤ 2147483655 := HE1.out.1
    omega
  have HLN5 := hid hln5
  have HST5 := hid hST5
  clear hln5 hST5
  have hU := hT.up
  have hm1 := HM.out.upd hU (by simp)
  have hk1 := HK.out.upd hU (by simp)
  have d0 := hk1.cell 0
  have cc := hm1.cell 11
  simp at d0 cc
  have HT := hid hT
  clear hT hU hm1 hk1
  go_upto_if 38 with fail
  go_cut [] (fun wx => TopS w0 wx (s + 1) ST5)
  case first =>
    rcases bcase (decide (0 < t.alpn.length)) with hz | hz
    · try rw [hz]
      have H := hid (AddUint16_top HT.out (by have := HLN.out; omega) 16 (by omega))
      go_wp2_with fail
      refine H.out.mono ?_
      rintro e w2 ⟨rfl, hT⟩
      have H2 := hid (AddLP16_topF hT HE1.out HF.out (Nat.le_refl _) (by have := olen_app ST4 (some (be 2 16)); have h5 : olen (some (be 2 16)) = 2 := be_len _ _; have := HLN.out; omega))
      clear H hT
      go_wp2_with fail
      refine H2.out.mono ?_
      rintro e w3 ⟨rfl, hT⟩
      have HT3 := hid hT
      clear hT H2
      go_wp2_with fail
      go_meet
      exact TopS.cast HT3.out (by rw [← HST5.out, hz]; simp only [condOut_true, extOut, lpOut_empty, app_assoc])
    · try rw [hz]
      go_wp2_with fail
      go_meet
      exact TopS.cast HT.out (by rw [← HST5.out, hz, condOut_false, app_nil])
  have hT := hcut
  clear hcut HT d0 cc
  replace HLN := HLN5
  clear HLN5
  obtain ⟨ST6, hST6⟩ : ∃ x, app ST5 (condOut (decide (0 < t.scts.length)) (extOut 18 (lpOut 2 (ofW (vecsW 2 t.scts))))) = x := ⟨_, rfl⟩
  have hln6 : olen ST6 ≤ 4311744628 := by
    have h0 := HLN.out
    rw [← hST6]
    have h1 := olen_app ST5 (condOut (decide (0 < t.scts.length)) (extOut 18 (lpOut 2 (ofW (vecsW 2 t.scts)))))
    have h2 := olen_cond (decide (0 < t.scts.length)) (extOut 18 (lpOut 2 (ofW (vecsW 2 t.scts))))
    have h3 := olen_ext 18 (lpOut 2 (ofW (vecsW 2 t.scts)))
    have h4 : olen (lpOut 2 (ofW (vecsW 2 t.scts))) ≤ 16777220 := HE2.out.1
    omega
  have HLN6 := hid hln6
  have HST6 := hid hST6
  clear hln6 hST6
  have hU := hT.up
  have hm1 := HM.out.upd hU (by simp)
  have hk1 := HK.out.upd hU (by simp)
  have d0 := hk1.cell 0
  have cc := hm1.cell 12
  simp at d0 cc
  have HT := hid hT
  clear hT hU hm1 hk1
  go_upto_if 47 with fail
  go_cut [] (fun wx => TopS w0 wx (s + 1) ST6)
  case first =>
    rcases bcase (decide (0 < t.scts.length)) with hz | hz
    · try rw [hz]
      have H := hid (AddUint16_top HT.out (by have := HLN.out; omega) 18 (by omega))
      go_wp2_with fail
      refine H.out.mono ?_
      rintro e w2 ⟨rfl, hT⟩
      have H2 := hid (AddLP16_topF hT HE2.out HF.out (Nat.le_refl _) (by have := olen_app ST5 (some (be 2 18)); have h5 : olen (some (be 2 18)) = 2 := be_len _ _; have := HLN.out; omega))
      clear H hT
      go_wp2_with fail
      refine H2.out.mono ?_
      rintro e w3 ⟨rfl, hT⟩
      have HT3 := hid hT
      clear hT H2
      go_wp2_with fail
      go_meet
      exact TopS.cast HT3.out (by rw [← HST6.out, hz]; simp only [condOut_true, extOut, lpOut_empty, app_assoc])
    · try rw [hz]
      go_wp2_with fail
      go_meet
      exact TopS.cast HT.out (by rw [← HST6.out, hz, condOut_false, app_nil])
  have hT := hcut
  clear hcut HT d0 cc
  replace HLN := HLN6
  clear HLN6
  obtain ⟨ST7, hST7⟩ : ∃ x, app ST6 (condOut ((t.sv.toNat : Int) != 0) (extOut 43 (some (be 2 t.sv.toNat)))) = x := ⟨_, rfl⟩
  have hln7 : olen ST7 ≤ 4311744646 := by
    have h0 := HLN.out
    rw [← hST7]
    have h1 := olen_app ST6 (condOut ((t.sv.toNat : Int) != 0) (extOut 43 (some (be 2 t.sv.toNat))))
    have h2 := olen_cond ((t.sv.toNat : Int) != 0) (extOut 43 (some (be 2 t.sv.toNat)))
    have h3 := olen_ext 43 (some (be 2 t.sv.toNat))
    have h4 : olen (some (be 2 t.sv.toNat)) ≤ 2 := HE3.out.1
    omega
  have HLN7 := hid hln7
  have HST7 := hid hST7
  clear hln7 hST7
  have hU := hT.up
  have hm1 := HM.out.upd hU (by simp)
  have hk1 := HK.out.upd hU (by simp)
  have d0 := hk1.cell 0
  have cc := hm1.cell 13
  simp at d0 cc
  have HT := hid hT
  clear hT hU hm1 hk1
  go_upto_if 55 with fail
  go_cut [] (fun wx => TopS w0 wx (s + 1) ST7)
  case first =>
    rcases bcase ((t.sv.toNat : Int) != 0) with hz | hz
    · try rw [hz]
      have H := hid (AddUint16_top HT.out (by have := HLN.out; omega) 43 (by omega))
      go_wp2_with fail
      refine H.out.mono ?_
      rintro e w2 ⟨rfl, hT⟩
      have H2 := hid (AddLP16_topF hT HE3.out HF.out (Nat.le_refl _) (by have := olen_app ST6 (some (be 2 43)); have h5 : olen (some (be 2 43)) = 2 := be_len _ _; have := HLN.out; omega))
      clear H hT
      go_wp2_with fail
      refine H2.out.mono ?_
      rintro e w3 ⟨rfl, hT⟩
      have HT3 := hid hT
      clear hT H2
      go_wp2_with fail
      go_meet
      exact TopS.cast HT3.out (by rw [← HST7.out, hz]; simp only [condOut_true, extOut, lpOut_empty, app_assoc])
    · try rw [hz]
      go_wp2_with fail
      go_meet
      exact TopS.cast HT.out (by rw [← HST7.out, hz, condOut_false, app_nil])
  have hT := hcut
  clear hcut HT d0 cc
  replace HLN := HLN7
  clear HLN7
  obtain ⟨ST8, hST8⟩ : ∃ x, app ST7 (condOut ((t.sg.toNat : Int) != 0) (extOut 51 (app (some (be 2 t.sg.toNat)) (lpOut 2 (some (t.sd)))))) = x := ⟨_, rfl⟩
  have hln8 : olen ST8 ≤ 6459228315 := by
    have h0 := HLN.out
    rw [← hST8]
    have h1 := olen_app ST7 (condOut ((t.sg.toNat : Int) != 0) (extOut 51 (app (some (be 2 t.sg.toNat)) (lpOut 2 (some (t.sd))))))
    have h2 := olen_cond ((t.sg.toNat : Int) != 0) (extOut 51 (app (some (be 2 t.sg.toNat)) (lpOut 2 (some (t.sd)))))
    have h3 := olen_ext 51 (app (some (be 2 t.sg.toNat)) (lpOut 2 (some (t.sd))))
    have h4 : olen (app (some (be 2 t.sg.toNat)) (lpOut 2 (some (t.sd)))) ≤ 2147483653 := HE4.out.1
    omega
  have HLN8 := hid hln8
  have HST8 := hid hST8
  clear hln8 hST8
  have hU := hT.up
  have hm1 := HM.out.upd hU (by simp)
  have hk1 := HK.out.upd hU (by simp)
  have d0 := hk1.cell 0
  have cc := hm1.cell 14
  simp at d0 cc
  have HT := hid hT
  clear hT hU hm1 hk1
  go_upto_if 64 with fail
  go_cut [] (fun wx => TopS w0 wx (s + 1) ST8)
  case first =>
    rcases bcase ((t.sg.toNat : Int) != 0) with hz | hz
    · try rw [hz]
      have H := hid (AddUint16_top HT.out (by have := HLN.out; omega) 51 (by omega))
      go_wp2_with fail
      refine H.out.mono ?_
      rintro e w2 ⟨rfl, hT⟩
      have H2 := hid (AddLP16_topF hT HE4.out HF.out (Nat.le_refl _) (by have := olen_app ST7 (some (be 2 51)); have h5 : olen (some (be 2 51)) = 2 := be_len _ _; have := HLN.out; omega))
      clear H hT
      go_wp2_with fail
      refine H2.out.mono ?_
      rintro e w3 ⟨rfl, hT⟩
      have HT3 := hid hT
      clear hT H2
      go_wp2_with fail
      go_meet
      exact TopS.cast HT3.out (by rw [← HST8.out, hz]; simp only [condOut_true, extOut, lpOut_empty, app_assoc])
    · try rw [hz]
      go_wp2_with fail
      go_meet
      exact TopS.cast HT.out (by rw [← HST8.out, hz, condOut_false, app_nil])
  have hT := hcut
  clear hcut HT d0 cc
  replace HLN := HLN8
  clear HLN8
  obtain ⟨ST9, hST9⟩ : ∃ x, app ST8 (condOut (t.sip) (extOut 41 (some (be 2 t.si.toNat)))) = x := ⟨_, rfl⟩
  have hln9 : olen ST9 ≤ 6459228333 := by
    have h0 := HLN.out
    rw [← hST9]
    have h1 := olen_app ST8 (condOut (t.sip) (extOut 41 (some (be 2 t.si.toNat))))
    have h2 := olen_cond (t.sip) (extOut 41 (some (be 2 t.si.toNat)))
    have h3 := olen_ext 41 (some (be 2 t.si.toNat))
    have h4 : olen (some (be 2 t.si.toNat)) ≤ 2 := HE5.out.1
    omega
  have HLN9 := hid hln9
  have HST9 := hid hST9
  clear hln9 hST9
  have hU := hT.up
  have hm1 := HM.out.upd hU (by simp)
  have hk1 := HK.out.upd hU (by simp)
  have d0 := hk1.cell 0
  have cc := hm1.cell 16
  simp at d0 cc
  have HT := hid hT
  clear hT hU hm1 hk1
  go_upto_if 71 with fail
  go_cut [] (fun wx => TopS w0 wx (s + 1) ST9)
  case first =>
    rcases bcase (t.sip) with hz | hz
    · try rw [hz]
      have H := hid (AddUint16_top HT.out (by have := HLN.out; omega) 41 (by omega))
      go_wp2_with fail
      refine H.out.mono ?_
      rintro e w2 ⟨rfl, hT⟩
      have H2 := hid (AddLP16_topF hT HE5.out HF.out (Nat.le_refl _) (by have := olen_app ST8 (some (be 2 41)); have h5 : olen (some (be 2 41)) = 2 := be_len _ _; have := HLN.out; omega))
      clear H hT
      go_wp2_with fail
      refine H2.out.mono ?_
      rintro e w3 ⟨rfl, hT⟩
      have HT3 := hid hT
      clear hT H2
      go_wp2_with fail
      go_meet
      exact TopS.cast HT3.out (by rw [← HST9.out, hz]; simp only [condOut_true, extOut, lpOut_empty, app_assoc])
    · try rw [hz]
      go_wp2_with fail
      go_meet
      exact TopS.cast HT.out (by rw [← HST9.out, hz, condOut_false, app_nil])
  have hT := hcut
  clear hcut HT d0 cc
  replace HLN := HLN9
  clear HLN9
  obtain ⟨ST10, hST10⟩ : ∃ x, app ST9 (condOut (decide (0 < t.cookie.length)) (extOut 44 (lpOut 2 (some (t.cookie))))) = x := ⟨_, rfl⟩
  have hln10 : olen ST10 ≤ 8606712000 := by
    have h0 := HLN.out
    rw [← hST10]
    have h1 := olen_app ST9 (condOut (decide (0 < t.cookie.length)) (extOut 44 (lpOut 2 (some (t.cookie)))))
    have h2 := olen_cond (decide (0 < t.cookie.length)) (extOut 44 (lpOut 2 (some (t.cookie))))
    have h3 := olen_ext 44 (lpOut 2 (some (t.cookie)))
    have h4 : olen (lpOut 2 (some (t.cookie))) ≤ 2147483651 := HE6.out.1
    omega
  have HLN10 := hid hln10
  have HST10 := hid hST10
  clear hln10 hST10
  have hU := hT.up
  have hm1 := HM.out.upd hU (by simp)
  have hk1 := HK.out.upd hU (by simp)
  have d0 := hk1.cell 0
  have cc := hm1.cell 21
  simp at d0 cc
  have HT := hid hT
  clear hT hU hm1 hk1
  go_upto_if 80 with fail
  go_cut [] (fun wx => TopS w0 wx (s + 1) ST10)
  case first =>
    rcases bcase (decide (0 < t.cookie.length)) with hz | hz
    · try rw [hz]
      have H := hid (AddUint16_top HT.out (by have := HLN.out; omega) 44 (by omega))
      go_wp2_with fail
      refine H.out.mono ?_
      rintro e w2 ⟨rfl, hT⟩
      have H2 := hid (AddLP16_topF hT HE6.out HF.out (Nat.le_refl _) (by have := olen_app ST9 (some (be 2 44)); have h5 : olen (some (be 2 44)) = 2 := be_len _ _; have := HLN.out; omega))
      clear H hT
      go_wp2_with fail
      refine H2.out.mono ?_
      rintro e w3 ⟨rfl, hT⟩
      have HT3 := hid hT
      clear hT H2
      go_wp2_with fail
      go_meet
      exact TopS.cast HT3.out (by rw [← HST10.out, hz]; simp only [condOut_true, extOut, lpOut_empty, app_assoc])
    · try rw [hz]
      go_wp2_with fail
      go_meet
      exact TopS.cast HT.out (by rw [← HST10.out, hz, condOut_false, app_nil])
  have hT := hcut
  clear hcut HT d0 cc
  replace HLN := HLN10
  clear HLN10
  obtain ⟨ST11, hST11⟩ : ∃ x, app ST10 (condOut ((t.selg.toNat : Int) != 0) (extOut 51 (some (be 2 t.selg.toNat)))) = x := ⟨_, rfl⟩
  have hln11 : olen ST11 ≤ 8606712018 := by
    have h0 := HLN.out
    rw [← hST11]
    have h1 := olen_app ST10 (condOut ((t.selg.toNat : Int) != 0) (extOut 51 (some (be 2 t.selg.toNat))))
    have h2 := olen_cond ((t.selg.toNat : Int) != 0) (extOut 51 (some (be 2 t.selg.toNat)))
    have h3 := olen_ext 51 (some (be 2 t.selg.toNat))
    have h4 : olen (some (be 2 t.selg.toNat)) ≤ 2 := HE7.out.1
    omega
  have HLN11 := hid hln11
  have HST11 := hid hST11
  clear hln11 hST11
  have hU := hT.up
  have hm1 := HM.out.upd hU (by simp)
  have hk1 := HK.out.upd hU (by simp)
  have d0 := hk1.cell 0
  have cc := hm1.cell 22
  simp at d0 cc
  have HT := hid hT
  clear hT hU hm1 hk1
  go_upto_if 88 with fail
  go_cut [] (fun wx => TopS w0 wx (s + 1) ST11)
  case first =>
    rcases bcase ((t.selg.toNat : Int) != 0) with hz | hz
    · try rw [hz]
      have H := hid (AddUint16_top HT.out (by have := HLN.out; omega) 51 (by omega))
      go_wp2_with fail
      refine H.out.mono ?_
      rintro e w2 ⟨rfl, hT⟩
      have H2 := hid (AddLP16_topF hT HE7.out HF.out (Nat.le_refl _) (by have := olen_app ST10 (some (be 2 51)); have h5 : olen (some (be 2 51)) = 2 := be_len _ _; have := HLN.out; omega))
      clear H hT
      go_wp2_with fail
      refine H2.out.mono ?_
      rintro e w3 ⟨rfl, hT⟩
      have HT3 := hid hT
      clear hT H2
      go_wp2_with fail
      go_meet
      exact TopS.cast HT3.out (by rw [← HST11.out, hz]; simp only [condOut_true, extOut, lpOut_empty, app_assoc])
    · try rw [hz]
      go_wp2_with fail
      go_meet
      exact TopS.cast HT.out (by rw [← HST11.out, hz, condOut_false, app_nil])
  have hT := hcut
  clear hcut HT d0 cc
  replace HLN := HLN11
  clear HLN11
  obtain ⟨ST12, hST12⟩ : ∃ x, app ST11 (condOut (decide (0 < t.pts.length)) (extOut 11 (lpOut 1 (some (t.pts))))) = x := ⟨_, rfl⟩
  have hln12 : olen ST12 ≤ 10754195685 := by
    have h0 := HLN.out
    rw [← hST12]
    have h1 := olen_app ST11 (condOut (decide (0 < t.pts.length)) (extOut 11 (lpOut 1 (some (t.pts)))))
    have h2 := olen_cond (decide (0 < t.pts.length)) (extOut 11 (lpOut 1 (some (t.pts))))
    have h3 := olen_ext 11 (lpOut 1 (some (t.pts)))
    have h4 : olen (lpOut 1 (some (t.pts))) ≤ 2147483651 := HE8.out.1
    omega
  have HLN12 := hid hln12
  have HST12 := hid hST12
  clear hln12 hST12
  have hU := hT.up
  have hm1 := HM.out.upd hU (by simp)
  have hk1 := HK.out.upd hU (by simp)
  have d0 := hk1.cell 0
  have cc := hm1.cell 18
  simp at d0 cc
  have HT := hid hT
  clear hT hU hm1 hk1
  go_upto_if 97 with fail
  go_cut [] (fun wx => TopS w0 wx (s + 1) ST12)
  case first =>
    rcases bcase (decide (0 < t.pts.length)) with hz | hz
    · try rw [hz]
      have H := hid (AddUint16_top HT.out (by have := HLN.out; omega) 11 (by omega))
      go_wp2_with fail
      refine H.out.mono ?_
      rintro e w2 ⟨rfl, hT⟩
      have H2 := hid (AddLP16_topF hT HE8.out HF.out (Nat.le_refl _) (by have := olen_app ST11 (some (be 2 11)); have h5 : olen (some (be 2 11)) = 2 := be_len _ _; have := HLN.out; omega))
      clear H hT
      go_wp2_with fail
      refine H2.out.mono ?_
      rintro e w3 ⟨rfl, hT⟩
      have HT3 := hid hT
      clear hT H2
      go_wp2_with fail
      go_meet
      exact TopS.cast HT3.out (by rw [← HST12.out, hz]; simp only [condOut_true, extOut, lpOut_empty, app_assoc])
    · try rw [hz]
      go_wp2_with fail
      go_meet
      exact TopS.cast HT.out (by rw [← HST12.out, hz, condOut_false, app_nil])
  have hT := hcut
  clear hcut HT d0 cc
  replace HLN := HLN12
  clear HLN12
  obtain ⟨ST13, hST13⟩ : ∃ x, app ST12 (condOut (decide (0 < t.ech.length)) (extOut 65037 (some (t.ech)))) = x := ⟨_, rfl⟩
  have hln13 : olen ST13 ≤ 12901679348 := by
    have h0 := HLN.out
    rw [← hST13]
    have h1 := olen_app ST12 (condOut (decide (0 < t.ech.length)) (extOut 65037 (some (t.ech))))
    have h2 := olen_cond (decide (0 < t.ech.length)) (extOut 65037 (some (t.ech)))
    have h3 := olen_ext 65037 (some (t.ech))
    have h4 : olen (some (t.ech)) ≤ 2147483647 := HE9.out.1
    omega
  have HLN13 := hid hln13
  have HST13 := hid hST13
  clear hln13 hST13
  have hU := hT.up
  have hm1 := HM.out.upd hU (by simp)
  have hk1 := HK.out.upd hU (by simp)
  have d0 := hk1.cell 0
  have cc := hm1.cell 19
  simp at d0 cc
  have HT := hid hT
  clear hT hU hm1 hk1
  go_upto_if 106 with fail
  go_cut [] (fun wx => TopS w0 wx (s + 1) ST13)
  case first =>
    rcases bcase (decide (0 < t.ech.length)) with hz | hz
    · try rw [hz]
      have H := hid (AddUint16_top HT.out (by have := HLN.out; omega) 65037 (by omega))
      go_wp2_with fail
      refine H.out.mono ?_
      rintro e w2 ⟨rfl, hT⟩
      have H2 := hid (AddLP16_topF hT HE9.out HF.out (Nat.le_refl _) (by have := olen_app ST12 (some (be 2 65037)); have h5 : olen (some (be 2 65037)) = 2 := be_len _ _; have := HLN.out; omega))
      clear H hT
      go_wp2_with fail
      refine H2.out.mono ?_
      rintro e w3 ⟨rfl, hT⟩
      have HT3 := hid hT
      clear hT H2
      go_wp2_with fail
      go_meet
      exact TopS.cast HT3.out (by rw [← HST13.out, hz]; simp only [condOut_true, extOut, lpOut_empty, app_assoc])
    · try rw [hz]
      go_wp2_with fail
      go_meet
      exact TopS.cast HT.out (by rw [← HST13.out, hz, condOut_false, app_nil])
  have hT := hcut
  clear hcut HT d0 cc
  replace HLN := HLN13
  clear HLN13
  obtain ⟨ST14, hST14⟩ : ∃ x, app ST13 (condOut (t.ack) (extOut 0 (some []))) = x := ⟨_, rfl⟩
  have hln14 : olen ST14 ≤ 12901679366 := by
    have h0 := HLN.out
    rw [← hST14]
    have h1 := olen_app ST13 (condOut (t.ack) (extOut 0 (some [])))
    have h2 := olen_cond (t.ack) (extOut 0 (some []))
    have h3 := olen_ext 0 (some [])
    have h4 : olen (some []) ≤ 0 := Nat.le_refl _
    omega
  have HLN14 := hid hln14
  have HST14 := hid hST14
  clear hln14 hST14
  have hU := hT.up
  have hm1 := HM.out.upd hU (by simp)
  have hk1 := HK.out.upd hU (by simp)
  have d0 := hk1.cell 0
  have cc := hm1.cell 20
  simp at d0 cc
  have HT := hid hT
  clear hT hU hm1 hk1
  go_upto_if 113 with fail
  go_cut [] (fun wx => TopS w0 wx (s + 1) ST14)
  case first =>
    rcases bcase (t.ack) with hz | hz
    · try rw [hz]
      have H := hid (AddUint16_top HT.out (by have := HLN.out; omega) 0 (by omega))
      go_wp2_with fail
      refine H.out.mono ?_
      rintro e w2 ⟨rfl, hT⟩
      have H2 := hid (AddUint16_top hT (by have := olen_app ST13 (some (be 2 0)); have h5 : olen (some (be 2 0)) = 2 := be_len _ _; have := HLN.out; omega) 0 (by omega))
      clear H hT
      go_wp2_with fail
      refine H2.out.mono ?_
      rintro e w3 ⟨rfl, hT⟩
      have HT3 := hid hT
      clear hT H2
      go_wp2_with fail
      go_meet
      exact TopS.cast HT3.out (by rw [← HST14.out, hz]; simp only [condOut_true, extOut, lpOut_empty, app_assoc])
    · try rw [hz]
      go_wp2_with fail
      go_meet
      exact TopS.cast HT.out (by rw [← HST14.out, hz, condOut_false, app_nil])
  have hT := hcut
  clear hcut HT d0 cc
  replace HLN := HLN14
  clear HLN14
  have hST : ST14 = shOutM t := by
    rw [← HST14.out, ← HST13.out, ← HST12.out, ← HST11.out, ← HST10.out, ← HST9.out, ← HST8.out, ← HST7.out, ← HST6.out, ← HST5.out, ← HST4.out, ← HST3.out, ← HST2.out, ← HST1.out, ← HST0.out]
    simp only [app_assoc, app_lnil]
    rfl
  have HXL := hid (show olen (shOutM t) ≤ 34359738368 by have := olen_shOutM HZ.out; omega)
  rw [hST] at hT
  have H := hid (Bytes_top hT (by have := HXL.out; omega))
  clear hT hST HST0 HST1 HST2 HST3 HST4 HST5 HST6 HST7 HST8 HST9 HST10 HST11 HST12 HST13 HST14 HE0 HE1 HE2 HE3 HE4 HE5 HE6 HE7 HE8 HE9
  have q1 := neq_err_nil
  have q2 := neq_err_some
  go_wp2_with fail
  refine H.out.mono ?_
  intro e w4 hp
  obtain ⟨hu4, hp⟩ := hp
  clear H
  generalize hO : shOutM t = O at hp HXL
  rcases O with _ | xs
  · obtain ⟨tt, xx, rfl⟩ := hp
    go_wp2
    go_ret2
    have e : shMakeM t = none := by unfold shMakeM; rw [hO]; rfl
    rw [e]
    have h1 : Upd [] w w4 := HU0.out.trans hu4 (by simp)
    exact ⟨h1.trans ((Upd.refl [] w4).alloc _) (by simp), _, _, rfl⟩
  · obtain ⟨u, rfl, hy, hn, A, n, c, rfl⟩ := hp
    obtain ⟨A, c, e, hy, -, -⟩ := Byt.form hy rfl
    injection e with e1 e2 e3
    subst e1 e2 e3
    obtain ⟨g, hg⟩ : ∃ g, w4.heap.size = g := ⟨_, rfl⟩
    obtain ⟨w5, hw5⟩ : ∃ w5, w4.alloc (.cells #[.slice A xs.length c] 23) = w5 := ⟨_, rfl⟩
    obtain ⟨w6, hw6⟩ : ∃ w6, w5.alloc (.cells #[.nilIface, .slice none 0 0, .bool false, .pointer none, .int .i64 0, .int .i64 0, .bool false, .pointer none] 152) = w6 := ⟨_, rfl⟩
    have hu5 : Upd [] w4 w5 := by
      rw [← hw5]
      exact (Upd.refl [] w4).alloc _
    have hb5 : Blk w5 g 23 #[.slice A xs.length c] := by
      rw [← hw5, ← hg]
      exact Blk.new _ _ _
    have hs5 : w5.heap.size = g + 1 := by rw [← hw5]; simp [hg]
    have h05 : Upd [] w0 w5 := hu4.trans hu5 (by simp)
    have hsz0 := h05.size
    have hF0 := HF.out
    obtain ⟨hm1, hk1, hq1, hq2, hq8, hq11, hq14, hq17, hq18, hq20⟩ := hF0
    have hG : ShG w5.heap.size m s g A c A1 c1 A2 c2 A8 c8 A11 c11 A14 c14 A17 c17 A18 c18 A20 c20 t xs w5 := ⟨⟨hm1.upd h05 (by simp), hk1.upd h05 (by simp), (Row.upd hq1 h05 (by simp)).shrink, (Row.upd hq2 h05 (by simp)).shrink, (Row.upd hq8 h05 (by simp)).shrink, (Lst.upd hq11 h05 (by simp)).shrink, (Row.upd hq14 h05 (by simp)).shrink, (Row.upd hq17 h05 (by simp)).shrink, (Row.upd hq18 h05 (by simp)).shrink, (Row.upd hq20 h05 (by simp)).shrink⟩, hb5, (Row.upd hy hu5 (by simp)).shrink⟩
    have hml := hm1.lt
    have hkl := hk1.lt
    have hgl := hb5.lt
    have hxl : xs.length ≤ 34359738368 := HXL.out
    have HE := hid (sh_1 (t := t) (xs := xs) (Ax := A) (cx := c) (x := g) (A1 := A1) (c1 := c1) (A2 := A2) (c2 := c2) (A8 := A8) (c8 := c8) (A11 := A11) (c11 := c11) (A14 := A14) (c14 := c14) (A17 := A17) (c17 := c17) (A18 := A18) (c18 := c18) (A20 := A20) (c20 := c20) (B := w5.heap.size) (m := m) (k := s) (by omega) (by omega) hgl HZ.out hxl)
    have h6 : TopS w5 w6 w5.heap.size (some []) := by rw [← hw6]; exact TopS.new w5
    have HNB := hid (olen_shBodyA HZ.out hxl)
    have H6 := hid (AddUint8_top h6 (by show 0 ≤ _; omega) 2 (by omega))
    rw [hs5] at H6
    have HW5 := hid hw5
    have HW6 := hid hw6
    have HG := hid hg
    have HG' := hid hG
    have HX := hid h05
    clear hw5 hw6 hg hG hb5 hu5 h05 hm1 hk1 hq1 hq2 hq8 hq11 hq14 hq17 hq18 hq20 hy hn h6
    go_upto_region 48 with fail
    rw [HG.out, HW5.out, HW6.out]
    go_wp2_with fail
    refine H6.out.mono ?_
    rintro e w7 ⟨rfl, h7⟩
    have H7 := hid (AddLP24_topF h7 HE.out HG'.out (Nat.le_refl _) (by show 1 + _ + 4 ≤ _; omega))
    clear h7 H6
    go_wp2_with fail
    refine H7.out.mono ?_
    rintro e w8 ⟨rfl, h8⟩
    have H8 := hid (Bytes_top h8 (by
      have := HNB.out
      have h1 := olen_app (app (some []) (some [UInt8.ofNat 2])) (lpOut 3 (shBodyA t xs))
      have h2 : olen (app (some []) (some [UInt8.ofNat 2])) = 1 := rfl
      have h3 := olen_lp 3 (by omega) (shBodyA t xs)
      omega))
    clear h8 H7
    go_wp2_with fail
    refine H8.out.mono ?_
    intro e w9 hp
    obtain ⟨A1, n1, d1, x1, rfl⟩ := hp.pair
    go_wp2
    go_ret2
    have e : shMakeM t = app (app (some []) (some [UInt8.ofNat 2])) (lpOut 3 (shBodyA t xs)) := by unfold shMakeM; rw [hO, app_lnil]; rfl
    rw [e]
    exact hp.up (HU0.out.trans HX.out (by simp))
end
end Go.Proofs.Ytcikeghdlolkaaa

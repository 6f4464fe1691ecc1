/- Certificate of TLS 1.3: made by the package (printed by gen_ctm2.py). -/
import Derived.Test.YtddkjhlngofkaaaCtM
import Derived.Test.YtddkjhlngofkaaaEmit
namespace Go.Proofs.Ytddkjhlngofkaaa
open Go.RowKit
set_option maxRecDepth 100000

theorem ctOut_succ (t : Ct) (j : Nat) (h : j < t.certs.length) : ctOut t (j + 1) = app (ctOut t j) (app (lpOut 3 (some t.certs[j])) (lpOut 2 (ctX t j))) := by
  show app (ctOut t j) (app (lpOut 3 (some (t.certs[j]?.getD []))) (lpOut 2 (ctX t j))) = _
  rw [List.getElem?_eq_getElem h]; rfl
theorem ctNX_add (j : Nat) : ctNX2 (j + 1) = ctNX j + ctNX2 j := by unfold ctNX ctNX2; by_cases h : j = 0 <;> simp [h]
theorem ctNX2_le (j : Nat) : ctNX2 j ≤ 2199023255573 := by unfold ctNX2; split <;> omega
section
variable {w w' w1 w2 : World} {B cv m k q base off pl R R' : Nat} {A1 A2 A3 : Option Addr} {c1 c2 c3 : Nat} {t : Ct} {v ic : Value} {st : Option (List UInt8)} {P : Nat → Prop} {F : World → Prop}
set_option maxHeartbeats 4000000 in
theorem ct_list (hP : ∀ y, P y → B ≤ y ∧ y ≠ cv) (hN : CtN t) (h2 : A2.isSome = t.ocsp) (h3 : A3.isSome = t.scts) : EmitsP 118 #[.pointer (some ⟨cv, 0, none⟩)] P (CrE B cv A1 A2 A3 c1 c2 c3 t) (ctOut t t.certs.length) 3298534883349 := by
  have hmf : ∀ (fn : Fn) (first cap : Array Value) (w : World), (Instr.makeFunc fn first cap).run Try.prog w = .ok (.func fn first cap) w := fun _ _ _ _ => rfl
  refine EmitsP.mk (CrE.stab hP) (by have h := olen_ctOut t hN t.certs.length (Nat.le_refl _); rw [List.take_length] at h; have := hN.c8; have := ctNX2_le t.certs.length; omega) (by intro args w; kernel_rfl) ?_
  intro w1 q v base off pl ic bs hem
  obtain ⟨hg1, hl1, -, -⟩ := hem.F
  have d0 := hg1.cell 0
  simp at d0
  have HM := hid hem
  have HN := hid hN
  have HH2 := hid h2
  have HH3 := hid h3
  have hlen : t.certs.length ≤ 9223372036854775807 := by obtain ⟨_, _, _, _, a, b⟩ := hl1.form; omega
  clear hem hg1 hl1 hN h2 h3
  go_enter Try.func118, Try.ntmps118
  go_wp2_with fail
  go_loopg [8] t.certs.length (fun gk i wr => ∃ j : Nat, j + gk = t.certs.length ∧ i = .int .i64 (j : Int) ∧ EmQ w1 q v base off pl ic P (CrE B cv A1 A2 A3 c1 c2 c3 t) (app (some bs) (ctOut t j)) (3298534883349 - (vecsB 8 (t.certs.take j)).length - ctNX2 j) wr)
  case atStart => exact ⟨0, by omega, rfl, by have h : ctOut t 0 = some [] := rfl; rw [h, app_nil]; exact HM.out⟩
  case round =>
    obtain ⟨j, hj0, rfl, hem⟩ := hrel
    have HJ := hid hj0
    have HE := hid hem
    have hj : j ≤ t.certs.length := by omega
    clear hj0
    by_cases hlt : j < t.certs.length
    · obtain ⟨b, o, rfl, hb, hj', A', c', hcell, hy, hl1, hl2⟩ := hem.F.2.1.at_ hlt
      have hts := ct_takeS 8 t.certs j hlt
      have htl := ct_takeL 8 t.certs (j + 1)
      have hX := HN.out.c8
      have hnx := ctNX_add j
      have hnx2 := ctNX2_le (j + 1)
      have HS := hid (show app (app (app (some bs) (ctOut t j)) (lpOut 3 (some t.certs[j]))) (lpOut 2 (ctX t j)) = app (some bs) (ctOut t (j + 1)) by rw [ctOut_succ t j hlt, app_assoc, app_assoc])
      generalize t.certs[j] = x at hcell hy hl1 hl2 hts HS
      obtain ⟨wA, hwA⟩ : ∃ wA, (wr.alloc (.cells #[.int .i64 (j : Int)] 3)).alloc (.cells #[.slice A' x.length c'] 22) = wA := ⟨_, rfl⟩
      obtain ⟨g, hg⟩ : ∃ g, wr.heap.size = g := ⟨_, rfl⟩
      have hql := hem.lt
      have huA : Upd [] wr wA := by rw [← hwA]; exact ((Upd.refl _ _).alloc _).alloc _
      have hA := hem.new huA
      have hbi : Blk wA g 3 #[.int .i64 (j : Int)] := by rw [← hwA, ← hg]; exact (Blk.new _ _ _).alloc _
      have hbc : Blk wA (g + 1) 22 #[.slice A' x.length c'] := by
        rw [← hwA, ← hg]
        have := Blk.new (wr.alloc (.cells #[.int .i64 (j : Int)] 3)) 22 #[.slice A' x.length c']
        rwa [show (wr.alloc (.cells #[.int .i64 (j : Int)] 3)).heap.size = wr.heap.size + 1 by simp] at this
      have hyA := Row.upd hy huA (by simp)
      have hP2 : ∀ y, (P y ∧ y ≠ g ∧ y ≠ g + 1) → B ≤ y ∧ y ≠ cv := fun y hy => hP y hy.1
      have hst2 : StabP (fun y => P y ∧ y ≠ g ∧ y ≠ g + 1) (fun w => CrE B cv (some ⟨b, o, none⟩) A2 A3 c1 c2 c3 t w ∧ Blk w g 3 #[.int .i64 (j : Int)] ∧ Blk w (g + 1) 22 #[.slice A' x.length c'] ∧ Byt w B (.slice A' x.length c') x) := fun S w w' hu hS hf =>
        ⟨CrE.stab hP2 S w w' hu hS hf.1, hf.2.1.upd hu (fun hk => (hS _ hk).2.1 rfl), hf.2.2.1.upd hu (fun hk => (hS _ hk).2.2 rfl), Row.upd hf.2.2.2 hu (fun y hy => (hP y (hS y hy).1).1)⟩
      have HST := hid hst2
      have HP2 := hid hP2
      have H := hid (hA.lp24v (R' := 3298534883349 - (vecsB 8 (t.certs.take j)).length - ctNX2 j - x.length - 4) (fid := 119) (cap := #[.pointer (some ⟨g + 1, 0, none⟩)]) (out := some x) (need := x.length) hbi (by decide) hbc (by decide) (by omega) (by omega)
        (ct_cert (fun y hy => (hP2 y hy).1) hst2 (fun w hf => ⟨hf.2.2.1, hf.2.2.2⟩)) ⟨hA.F, hbi, hbc, hyA⟩ (by omega))
      have HFA := hid (show _ ∧ _ ∧ _ ∧ _ from ⟨hA.F, hbi, hbc, hyA⟩)
      have HBI := hid hbi
      have HBC := hid hbc
      have HWA := hid hwA
      have HG := hid hg
      have HQ := hid (show q ≠ g ∧ q ≠ g + 1 from ⟨by omega, by omega⟩)
      have HTS := hid hts
      have hsum : (vecsB 8 (t.certs.take (j + 1))).length + ctNX2 (j + 1) ≤ 3298534883349 := by omega
      have HSUM := hid hsum
      clear hem hy hA hbi hbc hyA hP2 hst2 hwA hg huA hts htl hX hnx hnx2 hsum
      go_wp2_with fail
      rw [HWA.out, HG.out]
      refine H.out.mono ?_
      rintro e w2 ⟨⟨rfl, hem⟩, S, hS1, hS2⟩
      have hF2 := HST.out S _ _ hS1 hS2 HFA.out
      have H2 := hid (hem.lp16v (R' := 3298534883349 - (vecsB 8 (t.certs.take (j + 1))).length - ctNX2 (j + 1)) (fid := 120) (cap := #[.pointer (some ⟨g, 0, none⟩), .pointer (some ⟨cv, 0, none⟩)]) (out := ctX t j) (need := ctNX j) hF2.2.1 (by decide) hF2.2.2.1 (by decide) HQ.out.1 HQ.out.2
        (ct_cx (fun y hy => (HP2.out y hy).1) HST.out (fun w hf => hf.1) (fun w hf => hf.2.1) HN.out HH2.out HH3.out) hF2 (by have := HTS.out; have := ctNX_add j; have := HSUM.out; omega))
      clear H hem hF2 hS1 hS2
      go_wp2_with fail
      refine H2.out.mono ?_
      rintro e w3 ⟨⟨rfl, hem⟩, -⟩
      clear H2
      go_wp2
      have hj0 := HJ.out
      go_roundg (t.certs.length - (j + 1))
      case measure => omega
      case rel => exact ⟨j + 1, by omega, by go_num, hem.cast HS.out⟩
    · obtain rfl : j = t.certs.length := by have := HJ.out; omega
      clear hem
      go_wp2
      go_end0
      exact ⟨rfl, HE.out.less (by omega)⟩
set_option maxHeartbeats 4000000 in
/-- the list of certificates, to a child -/
theorem marshalCert (hem : EmQ w1 q v base off pl ic P F st R w2) (hPB : ∀ y, P y → B ≤ y) (hr1 : Lst w2 B (.slice A1 t.certs.length c1) t.certs) (hr2 : Byt w2 B (.slice A2 t.staple.length c2) t.staple) (hr3 : Lst w2 B (.slice A3 t.stamps.length c3) t.stamps)
    (hN : CtN t) (h2 : A2.isSome = t.ocsp) (h3 : A3.isSome = t.scts) (hR : R' + 3298534883349 + 4 ≤ R) :
    Calls Try.prog 109 #[.pointer (some ⟨q, 0, none⟩), .agg #[.slice A1 t.certs.length c1, .slice A2 t.staple.length c2, .slice A3 t.stamps.length c3]] w2 (EmQP w1 q v base off pl ic P F (app st (lpOut 3 (ctOut t t.certs.length))) R') := by
  have hmf : ∀ (fn : Fn) (first cap : Array Value) (w : World), (Instr.makeFunc fn first cap).run Try.prog w = .ok (.func fn first cap) w := fun _ _ _ _ => rfl
  obtain ⟨wA, hwA⟩ : ∃ wA, w2.alloc (.cells #[.slice A1 t.certs.length c1, .slice A2 t.staple.length c2, .slice A3 t.stamps.length c3] 133) = wA := ⟨_, rfl⟩
  obtain ⟨g, hg⟩ : ∃ g, w2.heap.size = g := ⟨_, rfl⟩
  have hql := hem.lt
  have huA : Upd [] w2 wA := by rw [← hwA]; exact (Upd.refl _ _).alloc _
  have hA := hem.new huA
  have hb : Blk wA g 133 #[.slice A1 t.certs.length c1, .slice A2 t.staple.length c2, .slice A3 t.stamps.length c3] := by rw [← hwA, ← hg]; exact Blk.new _ _ _
  have H := hid (hA.lp24v (R' := R') (fid := 118) (cap := #[.pointer (some ⟨g, 0, none⟩)]) (out := ctOut t t.certs.length) (need := 3298534883349) hb (by decide) hb (by decide) (by omega) (by omega)
    (ct_list (B := B) (cv := g) (A1 := A1) (c1 := c1) (c2 := c2) (c3 := c3) (fun y hy => ⟨hPB y hy.1, hy.2.1⟩) hN h2 h3) ⟨hb, hr1.upd huA (by simp), Row.upd hr2 huA (by simp), hr3.upd huA (by simp)⟩ hR)
  have HWA := hid hwA
  have HG := hid hg
  clear hem hA hb hr1 hr2 hr3 hN h2 h3 hwA hg huA hR
  go_enter Try.func109, Try.ntmps109
  go_wp2_with fail
  rw [HWA.out, HG.out]
  refine H.out.mono ?_
  rintro e w3 ⟨⟨rfl, hem⟩, -⟩
  have HM := hid hem
  clear H hem
  go_wp2
  go_end0
  exact ⟨rfl, HM.out⟩
/-- what marshal's continuation reads -/
def CsE (B m k : Nat) (A1 A2 A3 : Option Addr) (c1 c2 c3 : Nat) (t : Ct) (w : World) : Prop :=
  Blk w m 135 #[.slice A1 t.certs.length c1, .slice A2 t.staple.length c2, .slice A3 t.stamps.length c3, .bool t.ocsp, .bool t.scts] ∧ Blk w k 131 #[.pointer (some ⟨m, 0, none⟩)] ∧
    Lst w B (.slice A1 t.certs.length c1) t.certs ∧ Byt w B (.slice A2 t.staple.length c2) t.staple ∧ Lst w B (.slice A3 t.stamps.length c3) t.stamps
theorem CsE.stab (hm : m < B) (hk : k < B) : StabP (fun y => B ≤ y) (CsE B m k A1 A2 A3 c1 c2 c3 t) := fun S _ _ hu hS hf =>
  ⟨hf.1.upd hu (fun h => by have := hS _ h; omega), hf.2.1.upd hu (fun h => by have := hS _ h; omega), hf.2.2.1.upd hu hS, Row.upd hf.2.2.2.1 hu hS, hf.2.2.2.2.upd hu hS⟩
set_option maxHeartbeats 8000000 in
theorem ct_1 (hm : m < B) (hk : k < B) (hN : CtN t) (hok : CtOk t) : EmitsP 108 #[.pointer (some ⟨k, 0, none⟩)] (fun y => B ≤ y) (CsE B m k A1 A2 A3 c1 c2 c3 t) (app (some [UInt8.ofNat 0]) (lpOut 3 (ctOut t t.certs.length))) 3298534883354 := by
  have hmf : ∀ (fn : Fn) (first cap : Array Value) (w : World), (Instr.makeFunc fn first cap).run Try.prog w = .ok (.func fn first cap) w := fun _ _ _ _ => rfl
  refine EmitsP.mk (CsE.stab hm hk) (by
    have h1 := olen_app (some [UInt8.ofNat 0]) (lpOut 3 (ctOut t t.certs.length))
    have h2 := olen_lp 3 (by omega) (ctOut t t.certs.length)
    have h3 := olen_ctOut t hN t.certs.length (Nat.le_refl _)
    rw [List.take_length] at h3
    have h4 : olen (some [UInt8.ofNat 0]) = 1 := rfl
    have := hN.c8
    have := ctNX2_le t.certs.length
    omega) (by intro args w; kernel_rfl) ?_
  intro w1 q v base off pl ic bs hem
  have H := hid (hem.u8 (R' := 3298534883353) 0 (by omega) (by omega))
  have HN := hid hN
  have HOK := hid hok
  clear hem hN hok
  go_enter Try.func108, Try.ntmps108
  go_wp2_with fail
  refine H.out.mono ?_
  rintro e w2 ⟨rfl, hem⟩
  obtain ⟨hm1, hk1, hr1, hr2, hr3⟩ := hem.F
  have hA2 : t.ocsp = true → A2.isSome = true := fun h => by
    obtain ⟨b, o, e, -⟩ := Byt.at_ hr2 (k := 0) (List.length_pos_iff.2 (HOK.out.o.1 h))
    rw [e]; rfl
  have hA3 : t.scts = true → A3.isSome = true := fun h => by
    obtain ⟨vs, hrow, hall⟩ := hr3
    obtain ⟨b, o, e, -⟩ := Row.at_ hrow (k := 0) (List.length_pos_iff.2 (HOK.out.s2.1 h))
    rw [e]; rfl
  have hz2 : t.ocsp = false → t.staple = [] := fun h => by
    by_cases h0 : t.staple = []
    · exact h0
    · have := HOK.out.o.2 h0; rw [h] at this; cases this
  have hz3 : t.scts = false → t.stamps = [] := fun h => by
    by_cases h0 : t.stamps = []
    · exact h0
    · have := HOK.out.s2.2 h0; rw [h] at this; cases this
  have d0 := hk1.cell 0
  have m0 := hm1.cell 0
  have m1 := hm1.cell 1
  have m2 := hm1.cell 2
  have m3 := hm1.cell 3
  have m4 := hm1.cell 4
  simp at d0 m0 m1 m2 m3 m4
  have hkl := hk1.lt
  have hml := hm1.lt
  -- what is handed on, whatever the flags are
  have key : ∀ (wx : World) (x2 x3 : Value), Upd [] w2 wx → x2 = (if t.ocsp = true then .slice A2 t.staple.length c2 else .slice none 0 0) → x3 = (if t.scts = true then .slice A3 t.stamps.length c3 else .slice none 0 0) →
      Calls Try.prog 109 #[.pointer (some ⟨q, 0, none⟩), .agg #[.slice A1 t.certs.length c1, x2, x3]] wx (EmQP w1 q v base off pl ic (fun y => B ≤ y) (CsE B m k A1 A2 A3 c1 c2 c3 t) (app (app (some bs) (some [UInt8.ofNat 0])) (lpOut 3 (ctOut t t.certs.length))) 0) := by
    intro wx x2 x3 hux e2 e3
    have hemx := hem.new hux
    obtain ⟨-, -, hx1, hx2, hx3⟩ := hemx.F
    obtain ⟨B2, C2, e2', hB2, hy2⟩ : ∃ B2 C2, x2 = .slice B2 t.staple.length C2 ∧ B2.isSome = t.ocsp ∧ Byt wx B (.slice B2 t.staple.length C2) t.staple := by
      cases h : t.ocsp with
      | true => exact ⟨A2, c2, by rw [e2, if_pos h], hA2 h, hx2⟩
      | false => exact ⟨none, 0, by rw [e2, if_neg (by rw [h]; decide), hz2 h]; rfl, rfl, by rw [hz2 h]; exact Row.nil_ _ _⟩
    obtain ⟨B3, C3, e3', hB3, hy3⟩ : ∃ B3 C3, x3 = .slice B3 t.stamps.length C3 ∧ B3.isSome = t.scts ∧ Lst wx B (.slice B3 t.stamps.length C3) t.stamps := by
      cases h : t.scts with
      | true => exact ⟨A3, c3, by rw [e3, if_pos h], hA3 h, hx3⟩
      | false => exact ⟨none, 0, by rw [e3, if_neg (by rw [h]; decide), hz3 h]; rfl, rfl, by rw [hz3 h]; exact Lst.nil_ _ _⟩
    rw [e2', e3']
    exact marshalCert hemx (fun y hy => hy) hx1 hy2 hy3 HN.out hB2 hB3 (by omega)
  have KEY := hid key
  clear key hA2 hA3 hz2 hz3 H hem hm1 hk1 hr1 hr2 hr3
  cases ho : t.ocsp <;> cases hs : t.scts
  all_goals
    rw [ho] at m3
    rw [hs] at m4
    have HO := hid ho
    have HSC := hid hs
    clear ho hs
    go_wp2_with fail
    refine (KEY.out _ _ _ ?_ ?_ ?_).mono ?_
  all_goals first
    | exact (Upd.refl _ _).alloc _
    | (rw [HO.out]; rfl)
    | (rw [HSC.out]; rfl)
    | skip
  all_goals
    rintro e w3 ⟨rfl, hem⟩
    have HM := hid hem
    clear hem KEY
    go_wp2
    go_end0
    exact ⟨rfl, HM.out.cast (app_assoc _ _ _)⟩
set_option maxHeartbeats 4000000 in
theorem marshal_Ct (hm : Blk w m 135 #[.slice A1 t.certs.length c1, .slice A2 t.staple.length c2, .slice A3 t.stamps.length c3, .bool t.ocsp, .bool t.scts]) (h1 : Lst w w.heap.size (.slice A1 t.certs.length c1) t.certs) (h2 : Byt w w.heap.size (.slice A2 t.staple.length c2) t.staple) (h3 : Lst w w.heap.size (.slice A3 t.stamps.length c3) t.stamps)
    (hN : CtN t) (hok : CtOk t) : Calls Try.prog 83 #[.pointer (some ⟨m, 0, none⟩)] w (BytesP w (ctMake t)) := by
  obtain ⟨w0, hw0⟩ : ∃ w0, w.alloc (.cells #[.pointer (some ⟨m, 0, none⟩)] 131) = w0 := ⟨_, rfl⟩
  have hs0 : w0.heap.size = w.heap.size + 1 := by rw [← hw0]; simp
  have hu0 : Upd [] w w0 := by rw [← hw0]; exact (Upd.refl _ _).alloc _
  have hF : CsE w0.heap.size m w.heap.size A1 A2 A3 c1 c2 c3 t w0 := by
    refine ⟨hm.upd hu0 (by simp), ?_, (h1.upd hu0 (by simp)).shrink, (Row.upd h2 hu0 (by simp)).shrink, (h3.upd hu0 (by simp)).shrink⟩
    rw [← hw0]; exact Blk.new _ _ _
  have hml := hm.lt
  have hE := ct_1 (t := t) (A1 := A1) (A2 := A2) (A3 := A3) (c1 := c1) (c2 := c2) (c3 := c3) (B := w0.heap.size) (m := m) (k := w.heap.size) (by omega) (by omega) hN hok
  have hmf : ∀ (fn : Fn) (first cap : Array Value) (w : World), (Instr.makeFunc fn first cap).run Try.prog w = .ok (.func fn first cap) w := fun _ _ _ _ => rfl
  have h1' := AddUint8_top (TopS.new w0) (by show 0 ≤ _; omega) 11 (by omega)
  rw [hs0, ← hw0] at h1'
  have H1 := hid h1'
  have HW := hid hw0
  have Hs := hid hs0
  have HL := hid (hE.1)
  have HE := hid hE
  clear h1' hw0 hs0 hE hN hok h1 h2 h3
  go_enter Try.func83, Try.ntmps83
  go_wp2_with fail
  refine H1.out.mono ?_
  intro e w2 hp
  rw [HW.out] at hp
  obtain ⟨he, h2⟩ := hp
  subst he
  have H2 := hid (AddLP24_topP h2 HE.out hF (fun _ h => h) (by show 1 + _ + 4 ≤ _; omega))
  go_wp2_with fail
  refine (H2.out).mono ?_
  intro e w3 hp
  obtain ⟨he, h3⟩ := hp
  subst he
  have H3 := hid (Bytes_top h3 (by
    have := HL.out
    have h := olen_app (app (some []) (some [UInt8.ofNat 11])) (lpOut 3 (app (some [UInt8.ofNat 0]) (lpOut 3 (ctOut t t.certs.length))))
    have h1 : olen (app (some []) (some [UInt8.ofNat 11])) = 1 := rfl
    have h2 := olen_lp 3 (by omega) (app (some [UInt8.ofNat 0]) (lpOut 3 (ctOut t t.certs.length)))
    omega))
  go_wp2_with fail
  refine (H3.out).mono ?_
  intro e w4 hp
  obtain ⟨A1, n1, c1, x1, rfl⟩ := hp.pair
  go_wp2
  go_ret2
  exact hp.up hu0
theorem tls_MarshalCt (hv : CtV w B v t) (hN : CtN t) (hok : CtOk t) : Calls Try.prog 71 #[v] w (BytesP w (ctMake t)) := by
  obtain ⟨A1, c1, A2, c2, A3, c3, rfl, y1, y2, y3⟩ := hv
  obtain ⟨w1, hw1⟩ : ∃ w1, (w.alloc (.cells #[.slice A1 t.certs.length c1, .bool t.ocsp, .bool t.scts, .slice A2 t.staple.length c2, .slice A3 t.stamps.length c3] 109)).alloc (.cells #[.slice A1 t.certs.length c1, .slice A2 t.staple.length c2, .slice A3 t.stamps.length c3, .bool t.ocsp, .bool t.scts] 135) = w1 := ⟨_, rfl⟩
  obtain ⟨s, hs⟩ : ∃ s, w.heap.size = s := ⟨_, rfl⟩
  have hu1 : Upd [] w w1 := by rw [← hw1]; exact ((Upd.refl _ _).alloc _).alloc _
  have hm1 : Blk w1 (s + 1) 135 #[.slice A1 t.certs.length c1, .slice A2 t.staple.length c2, .slice A3 t.stamps.length c3, .bool t.ocsp, .bool t.scts] := by
    rw [← hw1, ← hs]
    have := Blk.new (w.alloc (.cells #[.slice A1 t.certs.length c1, .bool t.ocsp, .bool t.scts, .slice A2 t.staple.length c2, .slice A3 t.stamps.length c3] 109)) 135 #[.slice A1 t.certs.length c1, .slice A2 t.staple.length c2, .slice A3 t.stamps.length c3, .bool t.ocsp, .bool t.scts]
    rwa [show (w.alloc (.cells #[.slice A1 t.certs.length c1, .bool t.ocsp, .bool t.scts, .slice A2 t.staple.length c2, .slice A3 t.stamps.length c3] 109)).heap.size = w.heap.size + 1 by simp] at this
  have hy1 := y1.shrink.upd hu1 (by simp)
  have hy2 := Row.upd y2.shrink hu1 (by simp)
  have hy3 := y3.shrink.upd hu1 (by simp)
  have HW := hid hw1
  have HS := hid hs
  have H1 := hid (marshal_Ct hm1 hy1.shrink hy2.shrink hy3.shrink hN hok)
  clear hw1 y1 y2 y3 hy1 hy2 hy3 hm1 hN hok
  go_enter Try.func71, Try.ntmps71
  go_wp2_with fail
  rw [HW.out]
  refine H1.out.mono ?_
  intro e w4 hp
  obtain ⟨A1, n1, c1, x1, rfl⟩ := hp.pair
  go_wp2
  go_ret2
  exact hp.up hu1
theorem impl_MarshalCt (hv : CtV w B v t) (hN : CtN t) (hok : CtOk t) : Calls Try.prog 35 #[v] w (MadeP w (ctMake t)) := by
  obtain ⟨A1, c1, A2, c2, A3, c3, rfl, y1, y2, y3⟩ := hv
  have hu0 : Upd [] w (w.alloc (.cells #[.slice A1 t.certs.length c1, .bool t.ocsp, .bool t.scts, .slice A2 t.staple.length c2, .slice A3 t.stamps.length c3] 53)) := (Upd.refl _ _).alloc _
  have H1 := hid (tls_MarshalCt (w := w.alloc (.cells #[.slice A1 t.certs.length c1, .bool t.ocsp, .bool t.scts, .slice A2 t.staple.length c2, .slice A3 t.stamps.length c3] 53)) (B := w.heap.size) (t := t) ⟨A1, c1, A2, c2, A3, c3, rfl, y1.shrink.upd hu0 (by simp), Row.upd y2.shrink hu0 (by simp), y3.shrink.upd hu0 (by simp)⟩ hN hok)
  clear hN hok y1 y2 y3
  go_enter Try.func35, Try.ntmps35
  go_wp2_with fail
  refine (H1.out).mono ?_
  intro e w1 hp
  have q1 := eql_err_nil
  have q2 := eql_err_some
  obtain ⟨A, n, c, ⟨rfl, hr⟩ | ⟨t, x, rfl, hr⟩⟩ := hp.two
  all_goals
    have HR := hid hr
    clear hr
    go_wp2_with fail
    go_quiet (fail)
    go_wp2
    go_ret2
    exact (HR.out _).up hu0
end
end Go.Proofs.Ytddkjhlngofkaaa

/- Certificate of TLS 1.3: read by the package (printed by gen_cti.py). -/
import Derived.Test.YtddkjhlngofkaaaCtU
import Derived.Test.YtddkjhlngofkaaaCtV
import Derived.WalkSpells
import Derived.StillTailTactics
namespace Go.Proofs.Ytddkjhlngofkaaa
open Go.RowKit
set_option maxRecDepth 100000

def CtUP (w : World) (B lo m : Nat) (o : Option Ct) (e : Ending) (w' : World) : Prop :=
  e = .returned (.bool o.isSome) ∧ Upd [m] w w' ∧ ∀ x, o = some x → ∃ vc vs vp, Blk w' m 135 #[vc, vs, vp, .bool x.ocsp, .bool x.scts] ∧ CtF w' B lo x vc vs vp
section
variable {w w' : World} {B m lo ps n : Nat} {v content vc vs vp : Value} {data : List UInt8} {e : Ending} {t x : Ct} {o : Option (List UInt8 × List UInt8)} {A2 A3 A4 : Option Addr} {c2 c3 c4 : Nat}
theorem CtcP.no (h : CtcP w B lo m ps o e w') (hl : o = none) : e = .returned (.bool false) ∧ Upd [m, ps] w w' := by
  subst hl; exact h
theorem CtcP.yes {y r : List UInt8} (h : CtcP w B lo m ps o e w') (hl : o = some (y, r)) : e = .returned (.bool (ctL Ct.zero y).isSome) ∧ Upd [m, ps] w w' ∧ ∀ M, ctL Ct.zero y = some M → Sv w' B ps r True ∧ CtB w' B lo m M := by
  subst hl; exact h
theorem Own.less {lo' : Nat} {e : TypeId} {xs : List Value} (h : Own w lo e v xs) (hl : lo' ≤ lo) : Own w lo' e v xs := by
  obtain ⟨h0, h | ⟨g, cap, cur, h1, h2, h3⟩⟩ := h
  · exact ⟨h0, .inl h⟩
  · exact ⟨h0, .inr ⟨g, cap, cur, h1, Nat.le_trans hl h2, h3⟩⟩
theorem CtF.low {lo' : Nat} (h : CtF w B lo x vc vs vp) (hl : lo' ≤ lo) : CtF w B lo' x vc vs vp := by
  obtain ⟨⟨us, h1, h2⟩, h3, ⟨ts, h4, h5⟩, h6, h7, h8⟩ := h
  exact ⟨⟨us, h1.less hl, h2⟩, h3, ⟨ts, h4.less hl, h5⟩, h6, h7, h8⟩
set_option maxHeartbeats 8000000 in
theorem unmarshal_Ct (hm : Blk w m 135 #[.slice none 0 0, .slice none 0 0, .slice none 0 0, .bool false, .bool false]) (hv : Byt w B v data) (hB : B ≤ m) :
    Calls Try.prog 82 #[.pointer (some ⟨m, 0, none⟩), v] w (CtUP w B (w.heap.size + 2) m (ctRead data)) := by
  obtain ⟨A, c, rfl, hv, hl, hc⟩ := Byt.form hv rfl
  have hml := hm.lt
  have m0 := hm.cell 0
  have f0 := hm.frozen 0
  have m1 := hm.cell 1
  have f1 := hm.frozen 1
  have m2 := hm.cell 2
  have f2 := hm.frozen 2
  have m3 := hm.cell 3
  have f3 := hm.frozen 3
  have m4 := hm.cell 4
  have f4 := hm.frozen 4
  simp at m0 m1 m2 m3 m4
  obtain ⟨wS, hwS⟩ : ∃ wS, (((((w.setCell ⟨m, 0, none⟩ (.slice none 0 0)).setCell ⟨m, 1, none⟩ (.slice none 0 0)).setCell ⟨m, 2, none⟩ (.slice none 0 0)).setCell ⟨m, 3, none⟩ (.bool false)).setCell ⟨m, 4, none⟩ (.bool false)) = wS := ⟨_, rfl⟩
  obtain ⟨w0, hw0⟩ : ∃ w0, ((wS.alloc (.cells #[.slice A data.length c] 141)).alloc (.cells #[.slice none 0 0] 141)) = w0 := ⟨_, rfl⟩
  obtain ⟨s, hs⟩ : ∃ s, w.heap.size = s := ⟨_, rfl⟩
  have huS : Upd [m] w wS := by rw [← hwS]; exact ((((((Upd.refl [m] w).setCell (by simp) _).setCell (by simp) _).setCell (by simp) _).setCell (by simp) _).setCell (by simp) _)
  have hsS : wS.heap.size = s := by rw [← hwS, ← hs]; simp [World.setCell]
  have hmS : Blk wS m 135 #[.slice none 0 0, .slice none 0 0, .slice none 0 0, .bool false, .bool false] := by rw [← hwS]; exact (((((hm.set_ 0 (.slice none 0 0)).set_ 1 (.slice none 0 0)).set_ 2 (.slice none 0 0)).set_ 3 (.bool false)).set_ 4 (.bool false))
  have hyS : Byt wS B (.slice A data.length c) data := Row.upd hv huS (by simpa using hB)
  have hu0S : Upd [] wS w0 := by rw [← hw0]; exact (((Upd.refl [] wS).alloc _).alloc _)
  have hu0 : Upd [m] w w0 := huS.trans hu0S (by simp)
  have hm0 : Blk w0 m 135 #[.slice none 0 0, .slice none 0 0, .slice none 0 0, .bool false, .bool false] := hmS.upd hu0S (by simp)
  have hal : ∀ (w1 : World) (o : Obj), (w1.alloc o).heap.size = w1.heap.size + 1 := fun w1 o => by simp
  have hx0 : Blk w0 s 141 #[.slice A data.length c] := by
    rw [← hw0]
    have := Blk.new wS 141 #[.slice A data.length c]
    simp only [hal, hsS, Nat.add_assoc] at this
    exact (this.alloc _)
  have hx1 : Blk w0 (s + 1) 141 #[.slice none 0 0] := by
    rw [← hw0]
    have := Blk.new (wS.alloc (.cells #[.slice A data.length c] 141)) 141 #[.slice none 0 0]
    simp only [hal, hsS, Nat.add_assoc] at this
    exact this
  have hs0 : Sv w0 B s data False := ⟨by omega, _, hx0, Row.upd hyS hu0S (by simp), fun x => x.elim⟩
  have hsz0 : w0.heap.size = s + 2 := by rw [← hw0]; simp only [hal, hsS]
  have hms : m < s := by omega
  have hBs : B ≤ s := by omega
  have hno : ∀ w2 : World, Upd [m] w w2 → ctRead data = none → CtUP w B (s + 2) m (ctRead data) (.returned (.bool false)) w2 := by
    intro w2 hu hk
    rw [hk]
    exact ⟨rfl, hu, fun x h => (by cases h)⟩
  have HNO := hid hno
  have HW := hid hw0
  have HS := hid hs
  have HSZ := hid hsz0
  have HWS := hid hwS
  rw [hs]
  have hwl : w.heap.size = s := hs
  clear hno hw0 hs hwS hal hsS huS hmS hyS hu0S hx0 hsz0
  have up2 : ∀ (a b : World) (S' : List Nat), Upd [m] w a → Upd S' a b → (∀ x ∈ S', x = m ∨ s ≤ x) → Upd [m] w b := fun _ _ _ h k hh => h.trans k fun x hx => (hh x hx).imp (by simp) (by have := HS.out; omega)
  have UP := hid up2
  clear up2
  have q1 : ∀ (w : World) (a : Option Addr) (n c n' c' : Nat), (binOp .neq 24 (.slice a n c) (.slice none n' c')).run Try.prog w = .ok (.bool a.isSome) w := fun w a n c n' c' => by rw [run_neq_slice_nil_any w _ _ a n c n' c' Try.underlying24]; cases a <;> rfl
  have q2 : ∀ (w : World) (a : Option Addr) (n c n' c' : Nat), (binOp .neq 22 (.slice a n c) (.slice none n' c')).run Try.prog w = .ok (.bool a.isSome) w := fun w a n c n' c' => by rw [run_neq_slice_nil_any w _ _ a n c n' c' Try.underlying22]; cases a <;> rfl
  by_cases h4 : data.length < 4
  · have Hk := hid (show ctRead data = none by unfold ctRead; rw [if_pos h4])
    have H := hid (Skip_bad hs0 4 h4)
    clear h4
    go_enter Try.func82, Try.ntmps82
    go_wp2_with fail
    rw [HWS.out, HW.out]
    refine H.out.mono ?_
    rintro e w2 ⟨rfl, hu2⟩
    go_wp2
    go_ret
    exact HNO.out _ (UP.out _ _ _ hu0 hu2 (by simp)) Hk.out
  have Hk : Hid (ctRead data = ctCtx (lp 1 (data.drop 4))) := hid (by unfold ctRead; rw [if_neg h4])
  have H := hid (Skip_ok hs0 4 (by omega) (by omega))
  generalize data.drop 4 = dd at H Hk
  clear h4 hs0
  go_enter Try.func82, Try.ntmps82
  go_wp2_with fail
  rw [HWS.out, HW.out]
  refine H.out.mono ?_
  rintro e w1 ⟨rfl, hu1, hs1⟩
  have hU1 := UP.out _ _ _ hu0 hu1 (by simp)
  have hm1 := hm0.upd hu1 (by simp; omega)
  have hc1 := hx1.upd hu1 (by simp)
  have hsz1 : s + 2 ≤ w1.heap.size := by have := HSZ.out; have := hu1.size; omega
  clear hm0 hu0 hu1 H hx1
  -- the context
  have H := hid (ReadLP8_any hs1 (k := 0) hc1 (by simp) (by omega) (by omega))
  go_wp2_with fail
  refine H.out.mono ?_
  intro e w2 hp
  rcases hr : lp 1 dd with _ | ⟨cx, d1⟩
  · obtain ⟨rfl, hu2⟩ := hp.no hr
    replace Hk : Hid (ctRead data = none) := hid (by rw [Hk.out, hr]; rfl)
    clear hr
    go_wp2
    go_ret
    exact HNO.out _ (UP.out _ _ _ hU1 hu2 (by simp)) Hk.out
  obtain ⟨u2, rfl, hu2, hs2, hc2, hyc, -⟩ := hp.yes hr
  have hm2 := hm1.upd hu2 (by simp; omega)
  have hU2 := UP.out _ _ _ hU1 hu2 (by simp)
  have hsz2 : s + 2 ≤ w2.heap.size := Nat.le_trans hsz1 hu2.size
  obtain ⟨A2, c2, rfl, hyc, -, -⟩ := Byt.form hyc rfl
  have q0 := hc2.cell 0
  simp at q0
  have H6 := hid (Empty_any hyc)
  clear hp hc2 hyc hu2 hm1 hU1 hsz1 hc1 hs1 H
  go_wp2_with fail
  refine H6.out.mono ?_
  rintro e w3 ⟨rfl, rfl⟩
  rcases cx with _ | ⟨y0, t0⟩
  rotate_left
  · have Hk2 : Hid (ctRead data = none) := hid (by rw [Hk.out, hr]; rfl)
    clear hr
    go_wp2
    go_ret
    exact HNO.out _ hU2 Hk2.out
  replace Hk : Hid (ctRead data = ctIn (lp 3 d1)) := hid (by rw [Hk.out, hr]; rfl)
  clear hr H6 q0
  -- the certificates
  have H := hid (unmarshalCert hm2 hs2 hB (by omega))
  go_wp2_with fail
  refine H.out.mono ?_
  intro e w6 hp
  obtain ⟨bb, rfl, hu6⟩ := hp.ret
  have hU6 := UP.out _ _ _ hU2 hu6 (by simp)
  rcases hr : lp 3 d1 with _ | ⟨x0, d5⟩
  · obtain ⟨hb, -⟩ := hp.no hr
    replace Hk : Hid (ctRead data = none) := hid (by rw [Hk.out, hr]; rfl)
    cases hb
    clear hr hp
    go_wp2
    go_ret
    exact HNO.out _ hU6 Hk.out
  obtain ⟨hb, -, hx⟩ := hp.yes hr
  rcases hM : ctL Ct.zero x0 with _ | M
  · rw [hM] at hb
    cases hb
    replace Hk : Hid (ctRead data = none) := hid (by rw [Hk.out, hr]; exact ctIn_bad _ _ hM)
    clear hr hp hx hM
    go_wp2
    go_ret
    exact HNO.out _ hU6 Hk.out
  rw [hM] at hb
  cases hb
  obtain ⟨hs6, vc, vs, vp, hm6, hF⟩ := hx M hM
  obtain ⟨A6, c6, e6, -, hy6, -⟩ := hs6.open_
  have H6 := hid (Empty_any hy6)
  have HK5 := hid hr
  have HM := hid hM
  clear hr hp hx hM hy6 H hs2 hm2 hU2 hu6
  go_wp2_with fail
  refine H6.out.mono ?_
  rintro e w7 ⟨rfl, rfl⟩
  rcases d5 with _ | ⟨z5, t5⟩
  rotate_left
  · have Hk2 : Hid (ctRead data = none) := hid (by rw [Hk.out, HK5.out]; rfl)
    go_wp2
    go_ret
    exact HNO.out _ hU6 Hk2.out
  replace Hk : Hid (ctRead data = some M) := hid (by rw [Hk.out, HK5.out, ctIn_some, HM.out])
  have hoc := hF.oc
  have hop := hF.op
  have hos := hF.os
  have hfo := hF.fo
  have hfs := hF.fs
  obtain ⟨us, ho1, ha1⟩ := hoc
  obtain ⟨ts, ho2, ha2⟩ := hop
  obtain ⟨As, cs, rfl, hos, -, -⟩ := Byt.form hos rfl
  obtain ⟨Ap, cp, rfl⟩ := ho2.formN (n := M.stamps.length) ha2.length
  have hAo : As.isSome = M.ocsp := by
    rcases hb : M.ocsp with _ | _
    · have := hfo.1 hb
      injection this with h _ _
      rw [h]; rfl
    · have hne := hfo.2 hb
      obtain ⟨b, o, e, -⟩ := Byt.at_ hos (k := 0) (List.length_pos_iff.2 hne)
      rw [e]; rfl
  have hAp : Ap.isSome = M.scts := by
    rcases hb : M.scts with _ | _
    · have := hfs.1 hb
      injection this with h _ _
      rw [h]; rfl
    · have hne := hfs.2 hb
      have hl := ha2.length
      have hp := List.length_pos_iff.2 hne
      obtain ⟨b, o, e, -⟩ := Row.at_ ho2.row (k := 0) hp
      rw [e]; rfl
  have HAO := hid hAo
  have HAP := hid hAp
  have p2 := hm6.cell 2
  have p1 := hm6.cell 1
  simp at p1 p2
  have f3 := hm6.frozen 3
  have f4 := hm6.frozen 4
  have p3 := hm6.cell 3
  have p4 := hm6.cell 4
  simp at p3 p4
  have HF := hid hF
  clear hAo hAp hfo hfs ho1 ha1 ho2 ha2 hos hF H6 e6 hs6
  go_wp2
  go_ret
  rw [Hk.out]
  have huz : Upd [m] w6 ((w6.setCell ⟨m, 4, none⟩ (.bool Ap.isSome)).setCell ⟨m, 3, none⟩ (.bool As.isSome)) := ((Upd.refl _ _).setCell (by simp) _).setCell (by simp) _
  have hmz := (hm6.set_ 4 (.bool Ap.isSome)).set_ 3 (.bool As.isSome)
  refine ⟨rfl, UP.out _ _ _ hU6 huz (by simp), fun x hx => ?_⟩
  cases hx
  have hmz : Blk _ m 135 #[vc, .slice As M.staple.length cs, .slice Ap M.stamps.length cp, .bool As.isSome, .bool Ap.isSome] := hmz
  rw [HAO.out, HAP.out] at hmz
  rw [HAO.out, HAP.out] at huz ⊢
  exact ⟨_, _, _, hmz, (HF.out.upd huz (by simpa using hB) (by simp; omega)).low (by omega)⟩
theorem CtF.val (h : CtF w B lo t (.slice A2 t.certs.length c2) (.slice A3 t.staple.length c3) (.slice A4 t.stamps.length c4)) (hB : B ≤ w.heap.size) : CtV w w.heap.size (.agg #[.slice A2 t.certs.length c2, .bool t.ocsp, .bool t.scts, .slice A3 t.staple.length c3, .slice A4 t.stamps.length c4]) t := by
  obtain ⟨⟨us, h1, h2⟩, h3, ⟨ts, h4, h5⟩, -⟩ := h
  exact ⟨A2, c2, A3, c3, A4, c4, rfl, ⟨us, h1.row, h2.imp fun _ _ hb => hb.more hB⟩, h3.more hB, ⟨ts, h4.row, h5.imp fun _ _ hb => hb.more hB⟩⟩
theorem CtF.firm (h : CtF w B lo t (.slice A2 t.certs.length c2) (.slice A3 t.staple.length c3) (.slice A4 t.stamps.length c4)) (hB : B ≤ w.heap.size) (hn : n ≤ lo) : Firm CtV B n w (.agg #[.slice A2 t.certs.length c2, .bool t.ocsp, .bool t.scts, .slice A3 t.staple.length c3, .slice A4 t.stamps.length c4]) t := by
  refine ⟨h.val hB, fun w' S hu hS => ?_⟩
  exact CtF.val (h.upd hu (fun k hk => (hS k hk).1) fun k hk => .inl (by have := (hS k hk).2; omega)) (Nat.le_trans hB hu.size)
theorem Ct.zero_firm (w : World) : Firm CtV B n w (.agg #[.slice none 0 0, .bool false, .bool false, .slice none 0 0, .slice none 0 0]) Ct.zero := by
  have : ∀ w : World, CtV w w.heap.size (.agg #[.slice none 0 0, .bool false, .bool false, .slice none 0 0, .slice none 0 0]) Ct.zero := fun w => ⟨none, 0, none, 0, none, 0, rfl, Lst.nil_ _ _, Row.nil_ _ _, Lst.nil_ _ _⟩
  exact ⟨this w, fun w' _ _ _ => this w'⟩
set_option maxHeartbeats 4000000 in
theorem tls_UnCt (hv : Byt w B v data) (hB : B ≤ w.heap.size) : Calls Try.prog 69 #[v] w (UnF CtV B w Ct.zero (ctRead data)) := by
  obtain ⟨A, c, rfl, hv, hl, hc⟩ := Byt.form hv rfl
  obtain ⟨w1, hw1⟩ : ∃ w1, (w.alloc (.cells #[.slice none 0 0, .bool false, .bool false, .slice none 0 0, .slice none 0 0] 109)).alloc (.cells #[.slice none 0 0, .slice none 0 0, .slice none 0 0, .bool false, .bool false] 135) = w1 := ⟨_, rfl⟩
  obtain ⟨s, hs⟩ : ∃ s, w.heap.size = s := ⟨_, rfl⟩
  have hu1 : Upd [] w w1 := by rw [← hw1]; exact ((Upd.refl _ _).alloc _).alloc _
  have hb1 : Blk w1 s 109 #[.slice none 0 0, .bool false, .bool false, .slice none 0 0, .slice none 0 0] := by rw [← hw1, ← hs]; exact (Blk.new _ _ _).alloc _
  have hm1 : Blk w1 (s + 1) 135 #[.slice none 0 0, .slice none 0 0, .slice none 0 0, .bool false, .bool false] := by
    rw [← hw1, ← hs]
    have := Blk.new (w.alloc (.cells #[.slice none 0 0, .bool false, .bool false, .slice none 0 0, .slice none 0 0] 109)) 135 #[.slice none 0 0, .slice none 0 0, .slice none 0 0, .bool false, .bool false]
    rwa [show (w.alloc (.cells #[.slice none 0 0, .bool false, .bool false, .slice none 0 0, .slice none 0 0] 109)).heap.size = w.heap.size + 1 by simp] at this
  have hs1 : w1.heap.size = s + 2 := by rw [← hw1, ← hs]; simp
  have H1 := hid (unmarshal_Ct hm1 (Row.upd hv hu1 (by simp)) (by omega))
  have HW := hid hw1
  have HS1 := hid hs1
  have HSS := hid hs
  have hsw : w.heap.size ≤ s := by omega
  have hBs : B ≤ s := by omega
  clear hw1 hm1 hs1
  generalize ctRead data = o at H1 ⊢
  go_enter Try.func69, Try.ntmps69
  go_wp2_with fail
  rw [HW.out]
  refine (H1.out).mono ?_
  rintro e w2 ⟨rfl, hu2, hx⟩
  have hu := hu1.trans hu2 (by simp; omega)
  have hb2 := hb1.upd hu2 (by simp)
  obtain ⟨r0, r1, r2, r3, r4, f0, f1, f2, f3, f4⟩ := ct_cells hb2
  rcases o with _ | t
  · have hz : Blk (((((w2.setCell ⟨s, 0, none⟩ (.slice none 0 0)).setCell ⟨s, 1, none⟩ (.bool false)).setCell ⟨s, 2, none⟩ (.bool false)).setCell ⟨s, 3, none⟩ (.slice none 0 0)).setCell ⟨s, 4, none⟩ (.slice none 0 0)) s 109 #[.slice none 0 0, .bool false, .bool false, .slice none 0 0, .slice none 0 0] := by have := (((((hb2.set_ 0 (.slice none 0 0)).set_ 1 (.bool false)).set_ 2 (.bool false)).set_ 3 (.slice none 0 0)).set_ 4 (.slice none 0 0)); simpa using this
    obtain ⟨z0, z1, z2, z3, z4, -⟩ := ct_cells hz
    go_wp2
    exact bodyPost_ret (v := .tuple #[.agg #[.slice none 0 0, .bool false, .bool false, .slice none 0 0, .slice none 0 0], .bool false]) (by simp [results, Try.results69, go_sem, z0, z1, z2, z3, z4]) rfl ⟨_, rfl, Ct.zero_firm _, (((((hu.setCell (.inr (by omega)) _).setCell (.inr (by omega)) _).setCell (.inr (by omega)) _).setCell (.inr (by omega)) _).setCell (.inr (by omega)) _)⟩
  · obtain ⟨vc, vs, vp, hm2, hF⟩ := hx t rfl
    have hoc := hF.oc
    have hop := hF.op
    have hos := hF.os
    obtain ⟨us, ho1, ha1⟩ := hoc
    obtain ⟨ts, ho2, ha2⟩ := hop
    obtain ⟨A2, c2, rfl⟩ := ho1.formN (n := t.certs.length) ha1.length
    obtain ⟨A3, c3, rfl, hos, -, -⟩ := Byt.form hos rfl
    obtain ⟨A4, c4, rfl⟩ := ho2.formN (n := t.stamps.length) ha2.length
    have m0 := hm2.cell 0
    have m1 := hm2.cell 1
    have m2 := hm2.cell 2
    have m3 := hm2.cell 3
    have m4 := hm2.cell 4
    simp at m0 m1 m2 m3 m4
    clear hx ho1 ha1 ho2 ha2 hos
    have hz : Blk (((((w2.setCell ⟨s, 0, none⟩ (.slice A2 t.certs.length c2)).setCell ⟨s, 1, none⟩ (.bool t.ocsp)).setCell ⟨s, 2, none⟩ (.bool t.scts)).setCell ⟨s, 3, none⟩ (.slice A3 t.staple.length c3)).setCell ⟨s, 4, none⟩ (.slice A4 t.stamps.length c4)) s 109 #[.slice A2 t.certs.length c2, .bool t.ocsp, .bool t.scts, .slice A3 t.staple.length c3, .slice A4 t.stamps.length c4] := by have := (((((hb2.set_ 0 (.slice A2 t.certs.length c2)).set_ 1 (.bool t.ocsp)).set_ 2 (.bool t.scts)).set_ 3 (.slice A3 t.staple.length c3)).set_ 4 (.slice A4 t.stamps.length c4)); simpa using this
    obtain ⟨z0, z1, z2, z3, z4, -⟩ := ct_cells hz
    have huf : Upd [s] w2 ((((((w2.setCell ⟨s, 0, none⟩ (.slice A2 t.certs.length c2)).setCell ⟨s, 1, none⟩ (.bool t.ocsp)).setCell ⟨s, 2, none⟩ (.bool t.scts)).setCell ⟨s, 3, none⟩ (.slice A3 t.staple.length c3)).setCell ⟨s, 4, none⟩ (.slice A4 t.stamps.length c4))).drew := ((((((Upd.refl [s] w2).setCell (by simp) _).setCell (by simp) _).setCell (by simp) _).setCell (by simp) _).setCell (by simp) _).drew
    have HUF := hid huf
    have HF := hid hF
    clear hz huf hF
    go_wp2_with fail
    go_still_tail 24, (by kernel_rfl)
    go_wp2
    have huf := HUF.out
    have hF := HF.out
    rw [HS1.out] at hF
    have hsz2 := hu2.size
    rw [HS1.out] at hsz2
    have hFf := hF.upd huf (by simp; omega) (by simp; omega)
    refine bodyPost_ret (v := .tuple #[.agg #[.slice A2 t.certs.length c2, .bool t.ocsp, .bool t.scts, .slice A3 t.staple.length c3, .slice A4 t.stamps.length c4], .bool true]) (by simp [results, Try.results69, go_sem, z0, z1, z2, z3, z4]) rfl
      ⟨_, rfl, CtF.firm hFf (by have := huf.size; omega) (by omega), hu.trans huf (by simp; omega)⟩
end
section
variable {w w' : World} {B : Nat} {v : Value} {data : List UInt8}
set_option maxHeartbeats 2000000 in
theorem un_Ct (hv0 : Byt w B v data) : Calls Try.prog 32 #[v] w (UnG CtV w Ct.zero (ctRead data)) := by
  have hv := hv0.shrink
  clear hv0
  obtain ⟨A, c, rfl, hv, hl, hc⟩ := Byt.form hv rfl
  obtain ⟨w1, hw1⟩ : ∃ w1, w.alloc (.cells #[.slice none 0 0, .bool false, .bool false, .slice none 0 0, .slice none 0 0] 53) = w1 := ⟨_, rfl⟩
  obtain ⟨s, hs⟩ : ∃ s, w.heap.size = s := ⟨_, rfl⟩
  have hu1 : Upd [] w w1 := by rw [← hw1]; exact (Upd.refl _ _).alloc _
  have hb1 : Blk w1 s 53 #[.slice none 0 0, .bool false, .bool false, .slice none 0 0, .slice none 0 0] := by rw [← hw1, ← hs]; exact Blk.new _ _ _
  have hs1 : s < w1.heap.size := hb1.lt
  have hsl : w.heap.size ≤ s := by omega
  have hy1 := Row.upd hv hu1 (by simp)
  rw [hs] at hy1
  have H1 := hid (tls_UnCt hy1 (by omega))
  have HW := hid hw1
  have HS := hid hs
  clear hw1 hs
  generalize ctRead data = o at H1 ⊢
  go_enter Try.func32, Try.ntmps32
  go_wp2_with fail
  rw [HW.out, HS.out]
  refine (H1.out).mono ?_
  rintro e w2 ⟨v2, rfl, hv2, hu2⟩
  obtain ⟨cs2, rfl, hi2, hc2⟩ := CtV.okT.agg hv2.1
  have hi2' : (Try.prog.info? 53).map (·.size) = some cs2.size := by
    obtain ⟨cs3, e, hi3, -⟩ := CtV.ok.agg hv2.1
    injection e with e
    all_goals (subst e; exact hi3)
  have HZ2 := hid (CtV.size hv2.1)
  have hb2 := hb1.upd hu2 (by simp)
  have HI := hid hi2
  have HI' := hid hi2'
  have HC := hid hc2
  clear H1 HW hb1 hi2 hc2 hi2'
  go_wp2_with (first
    | (refine wpList_store_vb CtV.okT (Blk.new _ _ _) (CtV.okT.upd hv2.1 ((Upd.refl [] _).alloc _) (by simp)) (Nat.le_refl _) HZ2.out rfl _ _ rfl rfl rfl ?_; intro w3 hb3 hu3 hs3; have hU3 : Upd [] w2 w3 := ((Upd.refl [] _).alloc _).trans hu3 (by simp); have hb23 := hb2.upd hU3 (by simp))
    | (refine wpList_load_vb CtV.okT hb3 _ rfl rfl rfl ?_)
    | (refine wpList_store_any hb23 HI'.out HC.out HZ2.out rfl _ _ rfl rfl rfl ?_; intro w4 hb4 hu4 hs4))
  obtain ⟨d, hd1, hd2⟩ := CtV.ok.str
  refine bodyPost_ret (v := .tuple #[.agg cs2, .bool o.isSome]) (results_cell2 (T := 53) (p := 2) (q := 3) (g := s) rfl _ _ rfl rfl (blk_loadVar hb4 hd1 hd2 HI'.out)) rfl ⟨_, rfl, ?_, ?_⟩
  · exact hv2.2 _ [s] ((hU3.mono (S' := [s]) (by simp)).trans hu4 (by simp)) (by simp; omega)
  · exact ((hu1.trans hu2 (by simp)).trans hU3 (by simp)).trans hu4 (by simp; omega)
end

end Go.Proofs.Ytddkjhlngofkaaa

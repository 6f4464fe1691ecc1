/- ServerHello: written by the reference, with extensions in whatever order (printed by gen_shl.py). -/
import Derived.Test.YtcikeghdlolkaaaShW
import Derived.Test.YtcikeghdlolkaaaWSt
namespace Go.Proofs.Ytcikeghdlolkaaa
open Go.RowKit
set_option maxRecDepth 100000
section
variable {w w' : World} {B C N : Nat} {v content : Value} {t : Sh} {L : List Ex}
set_option maxHeartbeats 8000000 in
theorem Write_Sh (hv : ShV w B v t) (hz : ShSz t) (hc : Exr w C N content L) (hx : (exsB L).length ≤ 1000000000000) : Calls Try.prog 13 #[v, content] w (MsgP w (messageW 2 (shW t L))) := by
  obtain ⟨A3, c3, rfl, hc, -, -⟩ := hc.shrink.form
  obtain ⟨A1, c1, A2, c2, A8, c8, A11, c11, A14, c14, A17, c17, A18, c18, A20, c20, rfl, y1, y2, y8, y11, y14, y17, y18, y20⟩ := hv
  obtain ⟨w1, hw1⟩ : ∃ w1, (w.alloc (.cells #[wv t.vers, .slice A1 t.random.length c1, .slice A2 t.sid.length c2, wv t.suite, bv t.comp, .bool t.ocsp, .bool t.ticket, .bool t.rns, .slice A8 t.rn.length c8, .bool t.ems, strv t.alpn, .slice A11 t.scts.length c11, wv t.sv, wv t.sg, .slice A14 t.sd.length c14, .bool t.sip, wv t.si, .slice A17 t.pts.length c17, .slice A18 t.ech.length c18, .bool t.ack, .slice A20 t.cookie.length c20, wv t.selg] 26)).alloc (.cells #[.slice none 0 0, .bool false] 64) = w1 := ⟨_, rfl⟩
  obtain ⟨s, hs⟩ : ∃ s, w.heap.size = s := ⟨_, rfl⟩
  have hu1 : Upd [] w w1 := by rw [← hw1]; exact ((Upd.refl _ _).alloc _).alloc _
  have hS : WSt w (s + 1) s 26 #[wv t.vers, .slice A1 t.random.length c1, .slice A2 t.sid.length c2, wv t.suite, bv t.comp, .bool t.ocsp, .bool t.ticket, .bool t.rns, .slice A8 t.rn.length c8, .bool t.ems, strv t.alpn, .slice A11 t.scts.length c11, wv t.sv, wv t.sg, .slice A14 t.sd.length c14, .bool t.sip, wv t.si, .slice A17 t.pts.length c17, .slice A18 t.ech.length c18, .bool t.ack, .slice A20 t.cookie.length c20, wv t.selg] w1 Wr.nil := by
    refine ⟨.slice none 0 0, ⟨Nat.le_refl _, ?_, Own.nil_ _ _ _⟩, hu1, ?_, by omega, by omega⟩
    · have h := Blk.new (w.alloc (.cells #[wv t.vers, .slice A1 t.random.length c1, .slice A2 t.sid.length c2, wv t.suite, bv t.comp, .bool t.ocsp, .bool t.ticket, .bool t.rns, .slice A8 t.rn.length c8, .bool t.ems, strv t.alpn, .slice A11 t.scts.length c11, wv t.sv, wv t.sg, .slice A14 t.sd.length c14, .bool t.sip, wv t.si, .slice A17 t.pts.length c17, .slice A18 t.ech.length c18, .bool t.ack, .slice A20 t.cookie.length c20, wv t.selg] 26)) 64 #[.slice none 0 0, .bool false]
      rw [show (w.alloc (.cells #[wv t.vers, .slice A1 t.random.length c1, .slice A2 t.sid.length c2, wv t.suite, bv t.comp, .bool t.ocsp, .bool t.ticket, .bool t.rns, .slice A8 t.rn.length c8, .bool t.ems, strv t.alpn, .slice A11 t.scts.length c11, wv t.sv, wv t.sg, .slice A14 t.sd.length c14, .bool t.sip, wv t.si, .slice A17 t.pts.length c17, .slice A18 t.ech.length c18, .bool t.ack, .slice A20 t.cookie.length c20, wv t.selg] 26)).heap.size = s + 1 by simp [hs]] at h
      rw [← hw1]; exact h
    · rw [← hw1, ← hs]; exact (Blk.new _ _ _).alloc _
  have HX := hid hx
  have HW := hid hw1
  have HS := hid hs
  have HC := hid hc
  have Z1 := hid hz.random
  have Z2 := hid hz.sid
  have HY1 := hid y1
  have HY2 := hid y2
  have hr0 : IntKind.i64.wrap (t.vers.toNat : Int) = (t.vers.toNat : Int) := by have hu := t.vers.toNat_lt; rw [IntKind.wrap_i64]; omega
  have hr3 : IntKind.i64.wrap (t.suite.toNat : Int) = (t.suite.toNat : Int) := by have hu := t.suite.toNat_lt; rw [IntKind.wrap_i64]; omega
  have hr4 : IntKind.i64.wrap (t.comp.toNat : Int) = (t.comp.toNat : Int) := by have hu := t.comp.toNat_lt; rw [IntKind.wrap_i64]; omega
  have q0 := t.vers.toNat_lt
  have q3 := t.suite.toNat_lt
  have q4 := t.comp.toNat_lt
  clear hx hw1 hs hc hz hu1 y1 y2 y8 y11 y14 y17 y18 y20
  obtain ⟨v1, hk1, nx⟩ := hS.open_
  have H := hid (wnum_any hk1 2 t.vers.toNat (by omega) (by simp [Wr.nil]))
  have d0 := hS.blk.cell 0
  simp at d0
  clear hS
  go_enter Try.func13, Try.ntmps13
  go_upto_region 2 with fail
  rw [HW.out, HS.out]
  go_wp2_with fail
  refine H.out.mono ?_
  intro e w2 hp
  obtain ⟨rfl, hS⟩ := nx _ _ _ hp
  obtain ⟨W1, hW1⟩ : ∃ x, Wr.nil.num 2 t.vers.toNat = x := ⟨_, rfl⟩
  have hl1 : W1.b.length = 2 := by rw [← hW1]; simp [Wr.num, Wr.nil, be_len]
  rw [hW1] at hS
  clear nx hk1 H d0 hp
  -- the random one is appended
  have hy1 := hS.byt HY1.out
  have hS0 := hS
  obtain ⟨v2, hk2, -⟩ := hS.open_
  obtain ⟨A2_, c2_, hv2e, e0, e1, g0, g1⟩ := hk2.open_
  have d1 := hS.blk.cell 1
  simp at d1
  have hpn : s + 1 ∉ v2.ownBlock.toList := fun hm => hk2.2.2.ne hk2.2.1 (by decide) _ (Option.mem_toList.1 hm) rfl
  have Hv2e := hid hv2e
  have HL1 := hid hl1
  have HS0 := hid hS0
  have HKO := hid hk2
  have hown2 := hk2.2.2
  have hlt2 := hk2.2.1.lt
  clear hv2e hl1 hS hS0
  rw [← Hv2e.out] at e0
  go_upto_region 4 with (at_builtin; go_must (refine wpList_append_row _ rfl _ _ _ rfl (s + 1) 5 (.int .u8 0) 1 Try.underlying23 info_u8 rfl rfl hown2 rfl hy1 (byt_oneCell t.random) (by have := HL1.out; have := Z1.out; simp; omega) (by have := HL1.out; have := Z1.out; simp; omega) (by omega) ?_; intro v3 w3 hap; have hb3 := hk2.2.1.upd hap.2.1 hpn; have f0 := hb3.cell 0; simp at f0; have f1 := hb3.frozen 0; have HAP := hid (HS0.out.app HKO.out hap); obtain ⟨A9, c9, hv9⟩ := Own.formN (n := W1.b.length + t.random.length) hap.1 (by simp); subst hv9; clear hap))
  obtain ⟨W2, hW2⟩ : ∃ x : Wr, (⟨W1.b ++ t.random, W1.bad⟩ : Wr) = x := ⟨_, rfl⟩
  have hl2 : W2.b.length ≤ 2147483649 := by rw [← hW2]; have := HL1.out; have := Z1.out; simp; omega
  have hS := HAP.out
  rw [hW2] at hS
  obtain ⟨w4, hw4⟩ : ∃ x, w3.setCell ⟨s + 1, 0, none⟩ (.slice A9 (W1.b.length + t.random.length) c9) = x := ⟨_, rfl⟩
  rw [hw4] at hS ⊢
  clear hw4 HAP f0 f1 hb3 HS0 HKO hown2 hlt2 hpn hk2 hy1 d1 e0 e1 g0 g1 Hv2e
  obtain ⟨v3, hk3, nx⟩ := hS.open_
  have H := hid (wvec_any1 hk3 (hS.src HY2.out _) (by omega) (by have := Z2.out; omega))
  have d := hS.blk.cell 2
  simp at d
  clear hS
  go_wp2_with fail
  refine H.out.mono ?_
  intro e w5 hp
  obtain ⟨rfl, hS⟩ := nx _ _ _ hp
  obtain ⟨W3, hW3⟩ : ∃ x, W2.vec 1 t.sid = x := ⟨_, rfl⟩
  have hl3 : W3.b.length ≤ 4294967298 := by rw [← hW3]; have := Z2.out; simp [Wr.num, Wr.vec, be_len]; omega
  rw [hW3] at hS
  clear nx hk3 H d hp
  obtain ⟨v4, hk4, nx⟩ := hS.open_
  have H := hid (wnum_any hk4 2 t.suite.toNat (by omega) (by omega))
  have d := hS.blk.cell 3
  simp at d
  clear hS
  go_wp2_with fail
  refine H.out.mono ?_
  intro e w6 hp
  obtain ⟨rfl, hS⟩ := nx _ _ _ hp
  obtain ⟨W4, hW4⟩ : ∃ x, W3.num 2 t.suite.toNat = x := ⟨_, rfl⟩
  have hl4 : W4.b.length ≤ 4294967302 := by rw [← hW4]; have := Z2.out; simp [Wr.num, Wr.vec, be_len]; omega
  rw [hW4] at hS
  clear nx hk4 H d hp
  obtain ⟨v5, hk5, nx⟩ := hS.open_
  have H := hid (wnum_any hk5 1 t.comp.toNat (by omega) (by omega))
  have d := hS.blk.cell 4
  simp at d
  clear hS
  go_wp2_with fail
  refine H.out.mono ?_
  intro e w7 hp
  obtain ⟨rfl, hS⟩ := nx _ _ _ hp
  obtain ⟨W5, hW5⟩ : ∃ x, W4.num 1 t.comp.toNat = x := ⟨_, rfl⟩
  have hl5 : W5.b.length ≤ 4294967304 := by rw [← hW5]; have := Z2.out; simp [Wr.num, Wr.vec, be_len]; omega
  rw [hW5] at hS
  clear nx hk5 H d hp
  have hWE : shHeadW t = W5 := by rw [← hW5, ← hW4, ← hW3, ← hW2, ← hW1]; rfl
  clear hW1 hW2 hW3 hW4 hW5
  obtain ⟨v8, hk8, -⟩ := hS.open_
  have hU7 := hS.up
  obtain ⟨A8_, c8_, hv8, e0, e1, g0, g1⟩ := hk8.open_
  have hrow := hk8.2.2.row
  rw [hv8] at hrow
  have hbw := hk8.2.1
  rw [hv8] at hbw
  have hc7 := HC.out.upd hU7 (by simp)
  have hsw : w.heap.size ≤ s := by have := HS.out; omega
  have HL5 := hid hl5
  have HWE := hid hWE
  clear hS hk8 hv8 hl2 hl3 hl4 hl5 hWE HY1 HY2 HC
  go_upto_region 7 with fail
  by_cases hLn : L = []
  · subst hLn
    have t0 : decide ((0 : Int) < (([] : List Ex).length : Int)) = false := rfl
    have H := hid (message_any 2 W5.bad hrow (by have := HL5.out; omega))
    go_wp2_with fail
    refine H.out.mono ?_
    rintro e w9 ⟨v9, rfl, hy9, hn9, ⟨A9, n9, c9, rfl⟩, hu9⟩
    have HF := hid (hU7.trans hu9 (by simp))
    have HN := hid (fun k (hk : (Value.slice A9 n9 c9).ownBlock = some k) => Nat.le_trans hU7.size (hn9 k hk))
    have HY := hid hy9
    have HM : Hid (messageW 2 ⟨W5.b, W5.bad⟩ = messageW 2 (shW t [])) := hid (by rw [← HWE.out]; rfl)
    clear hy9 hn9 hu9
    rw [HM.out] at HY ⊢
    go_wp2
    go_ret2
    exact ⟨_, rfl, HY.out, HN.out, ⟨_, _, _, rfl⟩, HF.out⟩
  · have t0 : decide (0 < L.length) = true := decide_eq_true (List.length_pos_iff.2 hLn)
    have hel : (exsW L).b.length ≤ 1000000000002 := by rw [exsW_eq]; simp [be_len]; have := HX.out; omega
    have HEL := hid hel
    have hm5 : messageW 2 (behindW ⟨W5.b, W5.bad⟩ ⟨(exsW L).b, (exsW L).bad⟩) = messageW 2 (shW t L) := by
      unfold shW
      rw [if_neg hLn, HWE.out]
    have HM := hid hm5
    clear hLn hel hm5
    go_wp2_with fail
    try simp only [List.append_eq, List.cons_append, List.nil_append]
    go_region_with (first
      | (go_at_call 40; refine (extensions_any_w (hc7.upd ((Upd.refl [] w7).drew) (by simp)) (by have := HX.out; omega)).mono ?_; rintro e w8 ⟨v8, rfl, hy8, hn8, ⟨A8x, n8x, c8x, rfl⟩, hu8⟩; have hb8 := (Blk.drew hbw).upd hu8 (by simp); have s0 := hb8.cell 0; have s1 := hb8.cell 1; simp at s0 s1; have hrow8 := Row.upd (Row.drew hrow) hu8 (by simp); have hU8 := (hU7.drew).trans hu8 (by simp))
      | (go_at_call 39; refine (behind_any hrow8 hy8 W5.bad _ (by have := HL5.out; omega) (by have := HEL.out; omega)).mono ?_; rintro e w10 ⟨v10, rfl, hy10, hn10, ⟨A10, n10, c10, rfl⟩, hu10⟩; have hb10 := hb8.upd hu10 (by simp); have hU10 := hU8.trans hu10 (by simp); have hlt8 := hb8.lt; have hP := wval_put (w := w) (r0 := s + 1) (by omega) hb10 hy10 (fun k hk => by have := hn10 k hk; have := hU8.size; omega) (fun g hg => by have := hn10 g hg; omega) ⟨A10, n10, c10, rfl⟩ hU10; have g2 := hb10.frozen 0; have g3 := hb10.frozen 1; have z0 := hb10.cell 0; have z1 := hb10.cell 1; simp at z0 z1))
    all_goals
      obtain ⟨hbP, vP, hvP, hyP, hnP, hsP, huP⟩ := hP
      cases hvP
      have k0 := hbP.cell 0
      have k1 := hbP.cell 1
      simp only [List.getElem?_toArray, List.getElem?_cons_zero, List.getElem?_cons_succ] at k0 k1
      have H := hid (message_any 2 (behindW ⟨W5.b, W5.bad⟩ ⟨(exsW L).b, (exsW L).bad⟩).bad hyP (by show (W5.b ++ (exsW L).b).length ≤ _; rw [List.length_append]; have := HL5.out; have := HEL.out; omega))
      obtain ⟨wP, hwP⟩ : ∃ x, (w10.setCell ⟨s + 1, 0, none⟩ (.slice A10 n10 c10)).setCell ⟨s + 1, 1, none⟩ (.bool (behindW ⟨W5.b, W5.bad⟩ ⟨(exsW L).b, (exsW L).bad⟩).bad) = x := ⟨_, rfl⟩
      rw [hwP] at H k0 k1 huP
      try rw [hwP]
      clear hb10 hb8 z0 z1 s0 s1 hbP hyP hy10 hy8 hrow8 hrow hbw hc7
      go_wp2_with fail
      refine H.out.mono ?_
      rintro e w9 ⟨v9, rfl, hy9, hn9, ⟨A9, n9, c9, rfl⟩, hu9⟩
      have HF := hid (huP.trans hu9 (by simp))
      have HN := hid (fun k (hk : (Value.slice A9 n9 c9).ownBlock = some k) => Nat.le_trans huP.size (hn9 k hk))
      have HY := hid hy9
      have HM2 : Hid (messageW 2 ⟨(behindW ⟨W5.b, W5.bad⟩ ⟨(exsW L).b, (exsW L).bad⟩).b, (behindW ⟨W5.b, W5.bad⟩ ⟨(exsW L).b, (exsW L).bad⟩).bad⟩ = messageW 2 (shW t L)) := hid HM.out
      clear hy9 hn9 hu9
      rw [HM2.out] at HY ⊢
      go_wp2
      go_ret2
      exact ⟨_, rfl, HY.out, HN.out, ⟨_, _, _, rfl⟩, HF.out⟩
end
end Go.Proofs.Ytcikeghdlolkaaa

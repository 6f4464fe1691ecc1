/- ClientHello: written by the reference, with extensions in whatever order (printed by gen_chz.py). -/
import Derived.Test.YtaajmfgplhfncaaGreatChW
import Derived.Test.YtaajmfgplhfncaaGreatWSt
namespace Go.Proofs.YtaajmfgplhfncaaGreat
open Go.RowKit
set_option maxRecDepth 100000
theorem WSt.upd0 {w wi wj : World} {p m : Nat} {T : TypeId} {cs : Array Value} {s : Wr} (h : WSt w p m T cs wi s) (hu : Upd [] wi wj) : WSt w p m T cs wj s := by
  obtain ⟨v, h1, h2, h3, h4, h5⟩ := h
  exact ⟨v, h1.upd hu (by simp) (by simp), h2.trans hu (by simp), h3.upd hu (by simp), h4, h5⟩
theorem WSt.open2 {w wi wj : World} {p m : Nat} {T : TypeId} {cs : Array Value} {s : Wr} (h : WSt w p m T cs wi s) (hu : Upd [] wi wj) : ∃ v, Wrt wj p p v s ∧ (∀ k, v.ownBlock = some k → k < wi.heap.size) ∧ p < wi.heap.size ∧ ∀ s' e w2, WrtP wj p p v s' e w2 → e = .returned (.tuple #[]) ∧ WSt w p m T cs w2 s' := by
  obtain ⟨v, h1, h2, h3, h4, h5⟩ := h
  refine ⟨v, h1.upd hu (by simp) (by simp), fun k hk => (h1.2.2.ge hk).2, h1.2.1.lt, fun s' e w2 hp => ?_⟩
  obtain ⟨he, v', k1, k2, -⟩ := hp
  have hge : ∀ x ∈ p :: v.ownBlock.toList, p ≤ x := by
    intro x hx
    rcases List.mem_cons.1 hx with hx | hx
    · omega
    · exact (h1.2.2.ge (Option.mem_toList.1 hx)).1
  exact ⟨he, v', k1, (h2.trans hu (by simp)).trans k2 (fun x hx => .inr (by have := hge x hx; omega)), (h3.upd hu (by simp)).upd k2 (fun hm => by have := hge m hm; omega), h4, h5⟩
section
variable {w w' : World} {B C N : Nat} {v content : Value} {t : Ch} {L : List Ex}
set_option maxHeartbeats 8000000 in
theorem Write_Ch (hv : ChV w B v t) (hz : ChSz t) (hc : Exr w C N content L) (hx : (exsB L).length ≤ 1000000000000) : Calls Tryz.prog 9 #[v, content] w (MsgP w (messageW 1 (chW t L))) := by
  obtain ⟨A3, c3, rfl, hc, -, -⟩ := hc.shrink.form
  obtain ⟨cs1, rfl, -⟩ := ChV.ok.agg hv
  obtain ⟨w1, hw1⟩ : ∃ w1, (w.alloc (.cells cs1 29)).alloc (.cells #[.slice none 0 0, .bool false] 53) = w1 := ⟨_, rfl⟩
  obtain ⟨s, hs⟩ : ∃ s, w.heap.size = s := ⟨_, rfl⟩
  have hu1 : Upd [] w w1 := by rw [← hw1]; exact ((Upd.refl _ _).alloc _).alloc _
  have hS : WSt w (s + 1) s 29 cs1 w1 Wr.nil := by
    refine ⟨.slice none 0 0, ⟨Nat.le_refl _, ?_, Own.nil_ _ _ _⟩, hu1, ?_, by omega, by omega⟩
    · have h := Blk.new (w.alloc (.cells cs1 29)) 53 #[.slice none 0 0, .bool false]
      rw [show (w.alloc (.cells cs1 29)).heap.size = s + 1 by simp [hs]] at h
      rw [← hw1]; exact h
    · rw [← hw1, ← hs]; exact (Blk.new _ _ _).alloc _
  have HC0 := hid (GV.val hv (i := 0) (u := wv t.vers) rfl)
  obtain ⟨A1, c1, a1, y1⟩ := GV.byt hv (i := 1) (l := t.random) rfl
  obtain ⟨A2, c2, a2, y2⟩ := GV.byt hv (i := 2) (l := t.sid) rfl
  obtain ⟨A5, c5, a3, y3⟩ := GV.row hv (i := 3) (us := t.suites.map wv) rfl (n := t.suites.length) (by simp)
  obtain ⟨A4, c4, a4, y4⟩ := GV.byt hv (i := 4) (l := t.comps) rfl
  have HC1 := hid a1
  have HC2 := hid a2
  have HC3 := hid a3
  have HC4 := hid a4
  have HX := hid hx
  have HW := hid hw1
  have HS := hid hs
  have HC := hid hc
  have Z1 := hid (Nat.le_trans hz.random (show 1048576 ≤ 2147483647 by omega))
  have Z2 := hid (Nat.le_trans hz.sid (show 1048576 ≤ 2147483647 by omega))
  have Z3 := hid (Nat.le_trans hz.suites (show 1048576 ≤ 2147483647 by omega))
  have Z4 := hid (Nat.le_trans hz.comps (show 1048576 ≤ 2147483647 by omega))
  have HY1 := hid y1
  have HY2 := hid y2
  have HY3 := hid y3.shrink
  have HY4 := hid y4
  have hr0 : IntKind.i64.wrap (t.vers.toNat : Int) = (t.vers.toNat : Int) := by have hu := t.vers.toNat_lt; rw [IntKind.wrap_i64]; omega
  have q0 := t.vers.toNat_lt
  clear hx hw1 hs hc hz hu1 y1 y2 y3 y4 a1 a2 a3 a4 hv
  obtain ⟨v1, hk1, nx⟩ := hS.open_
  have H := hid (wnum_any hk1 2 t.vers.toNat (by omega) (by simp [Wr.nil]))
  have d0 := hS.blk.at_ HC0.out
  clear hS
  go_enter Tryz.func9, Tryz.ntmps9
  go_upto_region 2 with fail
  rw [HW.out, HS.out]
  go_wp2_with fail
  refine H.out.mono ?_
  intro e w2 hp
  obtain ⟨rfl, hS⟩ := nx _ _ _ hp
  obtain ⟨W1, hW1⟩ : ∃ x, Wr.nil.num 2 t.vers.toNat = x := ⟨_, rfl⟩
  have hl1 : W1.b.length = 2 := by rw [← hW1]; simp [Wr.num, Wr.nil, be_len]
  rw [hW1] at hS
  clear nx hk1 H d0 hp
  -- the random one is appended
  have hy1 := hS.byt HY1.out
  have hS0 := hS
  obtain ⟨v2, hk2, -⟩ := hS.open_
  obtain ⟨A2_, c2_, hv2e, e0, e1, g0, g1⟩ := hk2.open_
  have d1 := hS.blk.at_ HC1.out
  have hpn : s + 1 ∉ v2.ownBlock.toList := fun hm => hk2.2.2.ne hk2.2.1 (by decide) _ (Option.mem_toList.1 hm) rfl
  have Hv2e := hid hv2e
  have HL1 := hid hl1
  have HS0 := hid hS0
  have HKO := hid hk2
  have hown2 := hk2.2.2
  have hlt2 := hk2.2.1.lt
  clear hv2e hl1 hS hS0
  rw [← Hv2e.out] at e0
  go_upto_region 4 with (at_builtin; go_must (refine wpList_append_row _ rfl _ _ _ rfl (s + 1) 5 (.int .u8 0) 1 Tryz.underlying23 info_u8 rfl rfl hown2 rfl hy1 (byt_oneCell t.random) (by have := HL1.out; have := Z1.out; simp; omega) (by have := HL1.out; have := Z1.out; simp; omega) (by omega) ?_; intro v3 w3 hap; have hb3 := hk2.2.1.upd hap.2.1 hpn; have f0 := hb3.cell 0; simp at f0; have f1 := hb3.frozen 0; have HAP := hid (HS0.out.app HKO.out hap); obtain ⟨A9, c9, hv9⟩ := Own.formN (n := W1.b.length + t.random.length) hap.1 (by simp); subst hv9; clear hap))
  obtain ⟨W2, hW2⟩ : ∃ x : Wr, (⟨W1.b ++ t.random, W1.bad⟩ : Wr) = x := ⟨_, rfl⟩
  have hl2 : W2.b.length ≤ 2147483649 := by rw [← hW2]; have := HL1.out; have := Z1.out; simp; omega
  have hS := HAP.out
  rw [hW2] at hS
  obtain ⟨w4, hw4⟩ : ∃ x, w3.setCell ⟨s + 1, 0, none⟩ (.slice A9 (W1.b.length + t.random.length) c9) = x := ⟨_, rfl⟩
  rw [hw4] at hS ⊢
  clear hw4 HAP f0 f1 hb3 HS0 HKO hown2 hlt2 hpn hk2 hy1 d1 e0 e1 g0 g1 Hv2e
  obtain ⟨v3, hk3, nx⟩ := hS.open_
  have H := hid (wvec_any1 hk3 (hS.src HY2.out _) (by omega) (by have := Z2.out; omega))
  have d := hS.blk.at_ HC2.out
  clear hS
  go_wp2_with fail
  refine H.out.mono ?_
  intro e w5 hp
  obtain ⟨rfl, hS⟩ := nx _ _ _ hp
  obtain ⟨W3, hW3⟩ : ∃ x, W2.vec 1 t.sid = x := ⟨_, rfl⟩
  have hl3 : W3.b.length ≤ 4294967298 := by rw [← hW3]; have := Z2.out; simp [Wr.num, Wr.vec, be_len]; omega
  rw [hW3] at hS
  clear nx hk3 H d hp
  -- the cipher suites
  have hy3 := Row.upd HY3.out hS.up (by simp)
  have H := hid (words_any_w hy3 (by have := Z3.out; omega))
  have d := hS.blk.at_ HC3.out
  have HSS := hid hS
  clear hS hy3
  go_wp2_with fail
  refine H.out.mono ?_
  rintro e w6 ⟨v6, rfl, hy6, hn6, ⟨A6, n6, c6, rfl⟩, hu6⟩
  obtain ⟨v4, hk4, hvo4, hpo4, nx⟩ := HSS.out.open2 hu6
  have hsz6 := hu6.size
  have hq4 : ∀ k, (Value.slice A6 n6 c6).ownBlock = some k → k ≠ s + 1 ∧ v4.ownBlock ≠ some k := by
    intro k hk
    have := hn6 k hk
    exact ⟨by omega, fun h => by have := hvo4 k h; omega⟩
  have hwl : (wordsW t.suites).b.length ≤ 4294967294 := by show (wordsB t.suites).length ≤ _; rw [wordsB_len]; have := Z3.out; omega
  have H := hid (winner_any2 hk4 ⟨_, hy6, .inr hq4⟩ (wordsW t.suites).bad (by omega) (by omega))
  have HWL := hid hwl
  clear hy6 hn6 hu6 hsz6 hq4 hwl HSS d hvo4 hpo4
  go_wp2_with fail
  refine H.out.mono ?_
  intro e w7 hp
  obtain ⟨rfl, hS⟩ := nx _ _ _ hp
  obtain ⟨W4, hW4⟩ : ∃ x, W3.inner 2 (wordsW t.suites) = x := ⟨_, rfl⟩
  have hl4 : W4.b.length ≤ 8589934594 := by rw [← hW4]; have := HWL.out; simp [Wr.inner, Wr.vec, be_len]; omega
  have hW4' : W3.inner 2 ⟨(wordsW t.suites).b, (wordsW t.suites).bad⟩ = W4 := hW4
  rw [hW4'] at hS
  clear nx hk4 H hp hW4' HWL
  obtain ⟨v5, hk5, nx⟩ := hS.open_
  have H := hid (wvec_any1 hk5 (hS.src HY4.out _) (by omega) (by have := Z4.out; omega))
  have d := hS.blk.at_ HC4.out
  clear hS
  go_wp2_with fail
  refine H.out.mono ?_
  intro e w7 hp
  obtain ⟨rfl, hS⟩ := nx _ _ _ hp
  obtain ⟨W5, hW5⟩ : ∃ x, W4.vec 1 t.comps = x := ⟨_, rfl⟩
  have hl5 : W5.b.length ≤ 12884901888 := by rw [← hW5]; have := Z4.out; simp [Wr.vec, be_len]; omega
  rw [hW5] at hS
  clear nx hk5 H d hp
  have hWE : chHeadW t = W5 := by rw [← hW5, ← hW4, ← hW3, ← hW2, ← hW1]; rfl
  clear hW1 hW2 hW3 hW4 hW5
  obtain ⟨v8, hk8, -⟩ := hS.open_
  have hU7 := hS.up
  obtain ⟨A8_, c8_, hv8, e0, e1, g0, g1⟩ := hk8.open_
  have hrow := hk8.2.2.row
  rw [hv8] at hrow
  have hbw := hk8.2.1
  rw [hv8] at hbw
  have hc7 := HC.out.upd hU7 (by simp)
  have hsw : w.heap.size ≤ s := by have := HS.out; omega
  have HL5 := hid hl5
  have HWE := hid hWE
  clear hS hk8 hv8 hl2 hl3 hl4 hl5 hWE HY1 HY2 HY3 HY4 HC HC0 HC1 HC2 HC3 HC4
  go_upto_region 7 with fail
  by_cases hLn : L = []
  · subst hLn
    have t0 : decide ((0 : Int) < (([] : List Ex).length : Int)) = false := rfl
    have H := hid (message_any 1 W5.bad hrow (by have := HL5.out; omega))
    go_wp2_with fail
    refine H.out.mono ?_
    rintro e w9 ⟨v9, rfl, hy9, hn9, ⟨A9, n9, c9, rfl⟩, hu9⟩
    have HF := hid (hU7.trans hu9 (by simp))
    have HN := hid (fun k (hk : (Value.slice A9 n9 c9).ownBlock = some k) => Nat.le_trans hU7.size (hn9 k hk))
    have HY := hid hy9
    have HM : Hid (messageW 1 ⟨W5.b, W5.bad⟩ = messageW 1 (chW t [])) := hid (by rw [← HWE.out]; rfl)
    clear hy9 hn9 hu9
    rw [HM.out] at HY ⊢
    go_wp2
    go_ret2
    exact ⟨_, rfl, HY.out, HN.out, ⟨_, _, _, rfl⟩, HF.out⟩
  · have t0 : decide (0 < L.length) = true := decide_eq_true (List.length_pos_iff.2 hLn)
    have hel : (exsW L).b.length ≤ 1000000000002 := by rw [exsW_eq]; simp [be_len]; have := HX.out; omega
    have HEL := hid hel
    have hm5 : messageW 1 (behindW ⟨W5.b, W5.bad⟩ ⟨(exsW L).b, (exsW L).bad⟩) = messageW 1 (chW t L) := by
      unfold chW
      rw [if_neg hLn, HWE.out]
    have HM := hid hm5
    clear hLn hel hm5
    go_wp2_with fail
    try simp only [List.append_eq, List.cons_append, List.nil_append]
    go_region_with (first
      | (go_at_call 35; refine (extensions_any_w (hc7.upd ((Upd.refl [] w7).drew) (by simp)) (by have := HX.out; omega)).mono ?_; rintro e w8 ⟨v8, rfl, hy8, hn8, ⟨A8x, n8x, c8x, rfl⟩, hu8⟩; have hb8 := (Blk.drew hbw).upd hu8 (by simp); have s0 := hb8.cell 0; have s1 := hb8.cell 1; simp at s0 s1; have hrow8 := Row.upd (Row.drew hrow) hu8 (by simp); have hU8 := (hU7.drew).trans hu8 (by simp))
      | (go_at_call 30; refine (behind_any hrow8 hy8 W5.bad _ (by have := HL5.out; omega) (by have := HEL.out; omega)).mono ?_; rintro e w10 ⟨v10, rfl, hy10, hn10, ⟨A10, n10, c10, rfl⟩, hu10⟩; have hb10 := hb8.upd hu10 (by simp); have hU10 := hU8.trans hu10 (by simp); have hlt8 := hb8.lt; have hP := wval_put (w := w) (r0 := s + 1) (by omega) hb10 hy10 (fun k hk => by have := hn10 k hk; have := hU8.size; omega) (fun g hg => by have := hn10 g hg; omega) ⟨A10, n10, c10, rfl⟩ hU10; have g2 := hb10.frozen 0; have g3 := hb10.frozen 1; have z0 := hb10.cell 0; have z1 := hb10.cell 1; simp at z0 z1))
    all_goals
      obtain ⟨hbP, vP, hvP, hyP, hnP, hsP, huP⟩ := hP
      cases hvP
      have k0 := hbP.cell 0
      have k1 := hbP.cell 1
      simp only [List.getElem?_toArray, List.getElem?_cons_zero, List.getElem?_cons_succ] at k0 k1
      have H := hid (message_any 1 (behindW ⟨W5.b, W5.bad⟩ ⟨(exsW L).b, (exsW L).bad⟩).bad hyP (by show (W5.b ++ (exsW L).b).length ≤ _; rw [List.length_append]; have := HL5.out; have := HEL.out; omega))
      obtain ⟨wP, hwP⟩ : ∃ x, (w10.setCell ⟨s + 1, 0, none⟩ (.slice A10 n10 c10)).setCell ⟨s + 1, 1, none⟩ (.bool (behindW ⟨W5.b, W5.bad⟩ ⟨(exsW L).b, (exsW L).bad⟩).bad) = x := ⟨_, rfl⟩
      rw [hwP] at H k0 k1 huP
      try rw [hwP]
      clear hb10 hb8 z0 z1 s0 s1 hbP hyP hy10 hy8 hrow8 hrow hbw hc7
      go_wp2_with fail
      refine H.out.mono ?_
      rintro e w9 ⟨v9, rfl, hy9, hn9, ⟨A9, n9, c9, rfl⟩, hu9⟩
      have HF := hid (huP.trans hu9 (by simp))
      have HN := hid (fun k (hk : (Value.slice A9 n9 c9).ownBlock = some k) => Nat.le_trans huP.size (hn9 k hk))
      have HY := hid hy9
      have HM2 : Hid (messageW 1 ⟨(behindW ⟨W5.b, W5.bad⟩ ⟨(exsW L).b, (exsW L).bad⟩).b, (behindW ⟨W5.b, W5.bad⟩ ⟨(exsW L).b, (exsW L).bad⟩).bad⟩ = messageW 1 (chW t L)) := hid HM.out
      clear hy9 hn9 hu9
      rw [HM2.out] at HY ⊢
      go_wp2
      go_ret2
      exact ⟨_, rfl, HY.out, HN.out, ⟨_, _, _, rfl⟩, HF.out⟩
end
end Go.Proofs.YtaajmfgplhfncaaGreat

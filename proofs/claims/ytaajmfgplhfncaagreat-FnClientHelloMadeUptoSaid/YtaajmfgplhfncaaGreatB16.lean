/- Texts joined: WSt, ChZ, ChY, RdB, ChB, ChU0, SpecE, Prot, Ret, ChTy, ChR0. -/
import Derived.Deep.LoopGhost
import Derived.Deep.RegionHeld3
import Derived.OrdersHeld
import Derived.Deep.MidRow
import Derived.Deep.DeepMust
import Derived.Test.YtaajmfgplhfncaaGreatB06
import Derived.Test.YtaajmfgplhfncaaGreatB15
import Derived.Test.YtaajmfgplhfncaaGreatB14
import Derived.Test.YtaajmfgplhfncaaGreatB03
import Derived.Test.YtaajmfgplhfncaaGreatB07
import Derived.Test.YtaajmfgplhfncaaGreatB10
import Derived.Test.YtaajmfgplhfncaaGreatB08
import Derived.Test.YtaajmfgplhfncaaGreatB01
import Derived.Test.YtaajmfgplhfncaaGreatB05
import Derived.Test.YtaajmfgplhfncaaGreatB12
namespace Go.Proofs.YtaajmfgplhfncaaGreat
open Go.RowKit
set_option maxRecDepth 100000
def WSt (w : World) (p m : Nat) (T : TypeId) (cs : Array Value) (wi : World) (s : Wr) : Prop :=
  ∃ v, Wrt wi p p v s ∧ Upd [] w wi ∧ Blk wi m T cs ∧ m < p ∧ w.heap.size ≤ m
section
variable {w wi w2 w3 : World} {p m : Nat} {T : TypeId} {cs : Array Value} {s s' : Wr} {e : Ending} {xs : List UInt8} {v v3 : Value}
theorem WSt.up (h : WSt w p m T cs wi s) : Upd [] w wi := by obtain ⟨_, _, h, _⟩ := h; exact h
theorem WSt.blk (h : WSt w p m T cs wi s) : Blk wi m T cs := by obtain ⟨_, _, _, h, _⟩ := h; exact h
theorem WSt.open_ (h : WSt w p m T cs wi s) : ∃ v, Wrt wi p p v s ∧ ∀ s' e w2, WrtP wi p p v s' e w2 → e = .returned (.tuple #[]) ∧ WSt w p m T cs w2 s' := by
  obtain ⟨v, h1, h2, h3, h4, h5⟩ := h
  refine ⟨v, h1, fun s' e w2 hp => ?_⟩
  obtain ⟨he, v', k1, k2, -⟩ := hp
  have hge : ∀ x ∈ p :: v.ownBlock.toList, p ≤ x := by
    intro x hx
    rcases List.mem_cons.1 hx with hx | hx
    · omega
    · exact (h1.2.2.ge (Option.mem_toList.1 hx)).1
  exact ⟨he, v', k1, h2.trans k2 (fun x hx => .inr (by have := hge x hx; omega)), h3.upd k2 (fun hm => by have := hge m hm; omega), h4, h5⟩
theorem WSt.app (h : WSt w p m T cs wi s) (hw : Wrt wi p p v s) (hap : Appended wi p 5 v (s.b.map bv ++ xs.map bv) v3 w3) : WSt w p m T cs (w3.setCell ⟨p, 0, none⟩ v3) ⟨s.b ++ xs, s.bad⟩ := by
  obtain ⟨v0, k1, k2, k3, k4, k5⟩ := h
  have hp := wvec_end (s3 := ⟨s.b ++ xs, s.bad⟩) (Upd.refl (p :: v.ownBlock.toList) wi) (.inl rfl) hw hap rfl
  obtain ⟨_, v', q1, q2, -⟩ := hp
  have hge : ∀ x ∈ p :: v.ownBlock.toList, p ≤ x := by
    intro x hx
    rcases List.mem_cons.1 hx with hx | hx
    · omega
    · exact (hw.2.2.ge (Option.mem_toList.1 hx)).1
  exact ⟨v', q1, k2.trans q2 (fun x hx => .inr (by have := hge x hx; omega)), k3.upd q2 (fun hm => by have := hge m hm; omega), k4, k5⟩
theorem WSt.byt (h : WSt w p m T cs wi s) {B : Nat} {c : Value} (hc : Byt w B c xs) : Byt wi w.heap.size c xs := Row.upd (Row.shrink hc) h.up (by simp)
theorem WSt.src (h : WSt w p m T cs wi s) {B : Nat} {c : Value} (hc : Byt w B c xs) (v : Value) : Src wi p p v c xs := by
  have hb := h.byt hc
  obtain ⟨_, _, _, _, h4, h5⟩ := h
  exact ⟨_, hb, .inl (by omega)⟩
end
end Go.Proofs.YtaajmfgplhfncaaGreat
namespace Go.Proofs.YtaajmfgplhfncaaGreat
open Go.RowKit
set_option maxRecDepth 100000
theorem WSt.open2 {w wi wj : World} {p m : Nat} {T : TypeId} {cs : Array Value} {s : Wr} (h : WSt w p m T cs wi s) (hu : Upd [] wi wj) : ∃ v, Wrt wj p p v s ∧ (∀ k, v.ownBlock = some k → k < wi.heap.size) ∧ p < wi.heap.size ∧ ∀ s' e w2, WrtP wj p p v s' e w2 → e = .returned (.tuple #[]) ∧ WSt w p m T cs w2 s' := by
  obtain ⟨v, h1, h2, h3, h4, h5⟩ := h
  refine ⟨v, h1.upd hu (by simp) (by simp), fun k hk => (h1.2.2.ge hk).2, h1.2.1.lt, fun s' e w2 hp => ?_⟩
  obtain ⟨he, v', k1, k2, -⟩ := hp
  have hge : ∀ x ∈ p :: v.ownBlock.toList, p ≤ x := by
    intro x hx
    rcases List.mem_cons.1 hx with hx | hx
    · omega
    · exact (h1.2.2.ge (Option.mem_toList.1 hx)).1
  exact ⟨he, v', k1, (h2.trans hu (by simp)).trans k2 (fun x hx => .inr (by have := hge x hx; omega)), (h3.upd hu (by simp)).upd k2 (fun hm => by have := hge m hm; omega), h4, h5⟩
section
variable {w w' : World} {B C N : Nat} {v content : Value} {t : Ch} {L : List Ex}
set_option maxHeartbeats 8000000 in
theorem Write_Ch (hv : ChV w B v t) (hz : ChSz t) (hc : Exr w C N content L) (hx : (exsB L).length ≤ 1000000000000) : Calls Tryz.prog 9 #[v, content] w (MsgP w (messageW 1 (chW t L))) := by
  obtain ⟨A3, c3, rfl, hc, -, -⟩ := hc.shrink.form
  obtain ⟨cs1, rfl, -⟩ := ChV.ok.agg hv
  obtain ⟨w1, hw1⟩ : ∃ w1, (w.alloc (.cells cs1 29)).alloc (.cells #[.slice none 0 0, .bool false] 53) = w1 := ⟨_, rfl⟩
  obtain ⟨s, hs⟩ : ∃ s, w.heap.size = s := ⟨_, rfl⟩
  have hu1 : Upd [] w w1 := by rw [← hw1]; exact ((Upd.refl _ _).alloc _).alloc _
  have hS : WSt w (s + 1) s 29 cs1 w1 Wr.nil := by
    refine ⟨.slice none 0 0, ⟨Nat.le_refl _, ?_, Own.nil_ _ _ _⟩, hu1, ?_, by omega, by omega⟩
    · have h := Blk.new (w.alloc (.cells cs1 29)) 53 #[.slice none 0 0, .bool false]
      rw [show (w.alloc (.cells cs1 29)).heap.size = s + 1 by simp [hs]] at h
      rw [← hw1]; exact h
    · rw [← hw1, ← hs]; exact (Blk.new _ _ _).alloc _
  have HC0 := hid (GV.val hv (i := 0) (u := wv t.vers) rfl)
  obtain ⟨A1, c1, a1, y1⟩ := GV.byt hv (i := 1) (l := t.random) rfl
  obtain ⟨A2, c2, a2, y2⟩ := GV.byt hv (i := 2) (l := t.sid) rfl
  obtain ⟨A5, c5, a3, y3⟩ := GV.row hv (i := 3) (us := t.suites.map wv) rfl (n := t.suites.length) (by simp)
  obtain ⟨A4, c4, a4, y4⟩ := GV.byt hv (i := 4) (l := t.comps) rfl
  have HC1 := hid a1
  have HC2 := hid a2
  have HC3 := hid a3
  have HC4 := hid a4
  have HX := hid hx
  have HW := hid hw1
  have HS := hid hs
  have HC := hid hc
  have Z1 := hid (Nat.le_trans hz.random (show 1048576 ≤ 2147483647 by omega))
  have Z2 := hid (Nat.le_trans hz.sid (show 1048576 ≤ 2147483647 by omega))
  have Z3 := hid (Nat.le_trans hz.suites (show 1048576 ≤ 2147483647 by omega))
  have Z4 := hid (Nat.le_trans hz.comps (show 1048576 ≤ 2147483647 by omega))
  have HY1 := hid y1
  have HY2 := hid y2
  have HY3 := hid y3.shrink
  have HY4 := hid y4
  have hr0 : IntKind.i64.wrap (t.vers.toNat : Int) = (t.vers.toNat : Int) := by have hu := t.vers.toNat_lt; rw [IntKind.wrap_i64]; omega
  have q0 := t.vers.toNat_lt
  clear hx hw1 hs hc hz hu1 y1 y2 y3 y4 a1 a2 a3 a4 hv
  obtain ⟨v1, hk1, nx⟩ := hS.open_
  have H := hid (wnum_any hk1 2 t.vers.toNat (by omega) (by simp [Wr.nil]))
  have d0 := hS.blk.at_ HC0.out
  clear hS
  go_enter Tryz.func9, Tryz.ntmps9
  go_upto_region 2 with fail
  rw [HW.out, HS.out]
  go_wp2_with fail
  refine H.out.mono ?_
  intro e w2 hp
  obtain ⟨rfl, hS⟩ := nx _ _ _ hp
  obtain ⟨W1, hW1⟩ : ∃ x, Wr.nil.num 2 t.vers.toNat = x := ⟨_, rfl⟩
  have hl1 : W1.b.length = 2 := by rw [← hW1]; simp [Wr.num, Wr.nil, be_len]
  rw [hW1] at hS
  clear nx hk1 H d0 hp
  -- the random one is appended
  have hy1 := hS.byt HY1.out
  have hS0 := hS
  obtain ⟨v2, hk2, -⟩ := hS.open_
  obtain ⟨A2_, c2_, hv2e, e0, e1, g0, g1⟩ := hk2.open_
  have d1 := hS.blk.at_ HC1.out
  have hpn : s + 1 ∉ v2.ownBlock.toList := fun hm => hk2.2.2.ne hk2.2.1 (by decide) _ (Option.mem_toList.1 hm) rfl
  have Hv2e := hid hv2e
  have HL1 := hid hl1
  have HS0 := hid hS0
  have HKO := hid hk2
  have hown2 := hk2.2.2
  have hlt2 := hk2.2.1.lt
  clear hv2e hl1 hS hS0
  rw [← Hv2e.out] at e0
  go_upto_region 4 with (at_builtin; go_must (refine wpList_append_row _ rfl _ _ _ rfl (s + 1) 5 (.int .u8 0) 1 Tryz.underlying23 info_u8 rfl rfl hown2 rfl hy1 (byt_oneCell t.random) (by have := HL1.out; have := Z1.out; simp; omega) (by have := HL1.out; have := Z1.out; simp; omega) (by omega) ?_; intro v3 w3 hap; have hb3 := hk2.2.1.upd hap.2.1 hpn; have f0 := hb3.cell 0; simp at f0; have f1 := hb3.frozen 0; have HAP := hid (HS0.out.app HKO.out hap); obtain ⟨A9, c9, hv9⟩ := Own.formN (n := W1.b.length + t.random.length) hap.1 (by simp); subst hv9; clear hap))
  obtain ⟨W2, hW2⟩ : ∃ x : Wr, (⟨W1.b ++ t.random, W1.bad⟩ : Wr) = x := ⟨_, rfl⟩
  have hl2 : W2.b.length ≤ 2147483649 := by rw [← hW2]; have := HL1.out; have := Z1.out; simp; omega
  have hS := HAP.out
  rw [hW2] at hS
  obtain ⟨w4, hw4⟩ : ∃ x, w3.setCell ⟨s + 1, 0, none⟩ (.slice A9 (W1.b.length + t.random.length) c9) = x := ⟨_, rfl⟩
  rw [hw4] at hS ⊢
  clear hw4 HAP f0 f1 hb3 HS0 HKO hown2 hlt2 hpn hk2 hy1 d1 e0 e1 g0 g1 Hv2e
  obtain ⟨v3, hk3, nx⟩ := hS.open_
  have H := hid (wvec_any1 hk3 (hS.src HY2.out _) (by omega) (by have := Z2.out; omega))
  have d := hS.blk.at_ HC2.out
  clear hS
  go_wp2_with fail
  refine H.out.mono ?_
  intro e w5 hp
  obtain ⟨rfl, hS⟩ := nx _ _ _ hp
  obtain ⟨W3, hW3⟩ : ∃ x, W2.vec 1 t.sid = x := ⟨_, rfl⟩
  have hl3 : W3.b.length ≤ 4294967298 := by rw [← hW3]; have := Z2.out; simp [Wr.num, Wr.vec, be_len]; omega
  rw [hW3] at hS
  clear nx hk3 H d hp
  -- the cipher suites
  have hy3 := Row.upd HY3.out hS.up (by simp)
  have H := hid (words_any_w hy3 (by have := Z3.out; omega))
  have d := hS.blk.at_ HC3.out
  have HSS := hid hS
  clear hS hy3
  go_wp2_with fail
  refine H.out.mono ?_
  rintro e w6 ⟨v6, rfl, hy6, hn6, ⟨A6, n6, c6, rfl⟩, hu6⟩
  obtain ⟨v4, hk4, hvo4, hpo4, nx⟩ := HSS.out.open2 hu6
  have hsz6 := hu6.size
  have hq4 : ∀ k, (Value.slice A6 n6 c6).ownBlock = some k → k ≠ s + 1 ∧ v4.ownBlock ≠ some k := by
    intro k hk
    have := hn6 k hk
    exact ⟨by omega, fun h => by have := hvo4 k h; omega⟩
  have hwl : (wordsW t.suites).b.length ≤ 4294967294 := by show (wordsB t.suites).length ≤ _; rw [wordsB_len]; have := Z3.out; omega
  have H := hid (winner_any2 hk4 ⟨_, hy6, .inr hq4⟩ (wordsW t.suites).bad (by omega) (by omega))
  have HWL := hid hwl
  clear hy6 hn6 hu6 hsz6 hq4 hwl HSS d hvo4 hpo4
  go_wp2_with fail
  refine H.out.mono ?_
  intro e w7 hp
  obtain ⟨rfl, hS⟩ := nx _ _ _ hp
  obtain ⟨W4, hW4⟩ : ∃ x, W3.inner 2 (wordsW t.suites) = x := ⟨_, rfl⟩
  have hl4 : W4.b.length ≤ 8589934594 := by rw [← hW4]; have := HWL.out; simp [Wr.inner, Wr.vec, be_len]; omega
  have hW4' : W3.inner 2 ⟨(wordsW t.suites).b, (wordsW t.suites).bad⟩ = W4 := hW4
  rw [hW4'] at hS
  clear nx hk4 H hp hW4' HWL
  obtain ⟨v5, hk5, nx⟩ := hS.open_
  have H := hid (wvec_any1 hk5 (hS.src HY4.out _) (by omega) (by have := Z4.out; omega))
  have d := hS.blk.at_ HC4.out
  clear hS
  go_wp2_with fail
  refine H.out.mono ?_
  intro e w7 hp
  obtain ⟨rfl, hS⟩ := nx _ _ _ hp
  obtain ⟨W5, hW5⟩ : ∃ x, W4.vec 1 t.comps = x := ⟨_, rfl⟩
  have hl5 : W5.b.length ≤ 12884901888 := by rw [← hW5]; have := Z4.out; simp [Wr.vec, be_len]; omega
  rw [hW5] at hS
  clear nx hk5 H d hp
  have hWE : chHeadW t = W5 := by rw [← hW5, ← hW4, ← hW3, ← hW2, ← hW1]; rfl
  clear hW1 hW2 hW3 hW4 hW5
  obtain ⟨v8, hk8, -⟩ := hS.open_
  have hU7 := hS.up
  obtain ⟨A8_, c8_, hv8, e0, e1, g0, g1⟩ := hk8.open_
  have hrow := hk8.2.2.row
  rw [hv8] at hrow
  have hbw := hk8.2.1
  rw [hv8] at hbw
  have hc7 := HC.out.upd hU7 (by simp)
  have hsw : w.heap.size ≤ s := by have := HS.out; omega
  have HL5 := hid hl5
  have HWE := hid hWE
  clear hS hk8 hv8 hl2 hl3 hl4 hl5 hWE HY1 HY2 HY3 HY4 HC HC0 HC1 HC2 HC3 HC4
  go_upto_region 7 with fail
  by_cases hLn : L = []
  · subst hLn
    have t0 : decide ((0 : Int) < (([] : List Ex).length : Int)) = false := rfl
    have H := hid (message_any 1 W5.bad hrow (by have := HL5.out; omega))
    go_wp2_with fail
    refine H.out.mono ?_
    rintro e w9 ⟨v9, rfl, hy9, hn9, ⟨A9, n9, c9, rfl⟩, hu9⟩
    have HF := hid (hU7.trans hu9 (by simp))
    have HN := hid (fun k (hk : (Value.slice A9 n9 c9).ownBlock = some k) => Nat.le_trans hU7.size (hn9 k hk))
    have HY := hid hy9
    have HM : Hid (messageW 1 ⟨W5.b, W5.bad⟩ = messageW 1 (chW t [])) := hid (by rw [← HWE.out]; rfl)
    clear hy9 hn9 hu9
    rw [HM.out] at HY ⊢
    go_wp2
    go_ret2
    exact ⟨_, rfl, HY.out, HN.out, ⟨_, _, _, rfl⟩, HF.out⟩
  · have t0 : decide (0 < L.length) = true := decide_eq_true (List.length_pos_iff.2 hLn)
    have hel : (exsW L).b.length ≤ 1000000000002 := by rw [exsW_eq]; simp [be_len]; have := HX.out; omega
    have HEL := hid hel
    have hm5 : messageW 1 (behindW ⟨W5.b, W5.bad⟩ ⟨(exsW L).b, (exsW L).bad⟩) = messageW 1 (chW t L) := by
      unfold chW
      rw [if_neg hLn, HWE.out]
    have HM := hid hm5
    clear hLn hel hm5
    go_wp2_with fail
    try simp only [List.append_eq, List.cons_append, List.nil_append]
    go_region_with (first
      | (go_at_call 35; refine (extensions_any_w (hc7.upd ((Upd.refl [] w7).drew) (by simp)) (by have := HX.out; omega)).mono ?_; rintro e w8 ⟨v8, rfl, hy8, hn8, ⟨A8x, n8x, c8x, rfl⟩, hu8⟩; have hb8 := (Blk.drew hbw).upd hu8 (by simp); have s0 := hb8.cell 0; have s1 := hb8.cell 1; simp at s0 s1; have hrow8 := Row.upd (Row.drew hrow) hu8 (by simp); have hU8 := (hU7.drew).trans hu8 (by simp))
      | (go_at_call 30; refine (behind_any hrow8 hy8 W5.bad _ (by have := HL5.out; omega) (by have := HEL.out; omega)).mono ?_; rintro e w10 ⟨v10, rfl, hy10, hn10, ⟨A10, n10, c10, rfl⟩, hu10⟩; have hb10 := hb8.upd hu10 (by simp); have hU10 := hU8.trans hu10 (by simp); have hlt8 := hb8.lt; have hP := wval_put (w := w) (r0 := s + 1) (by omega) hb10 hy10 (fun k hk => by have := hn10 k hk; have := hU8.size; omega) (fun g hg => by have := hn10 g hg; omega) ⟨A10, n10, c10, rfl⟩ hU10; have g2 := hb10.frozen 0; have g3 := hb10.frozen 1; have z0 := hb10.cell 0; have z1 := hb10.cell 1; simp at z0 z1))
    all_goals
      obtain ⟨hbP, vP, hvP, hyP, hnP, hsP, huP⟩ := hP
      cases hvP
      have k0 := hbP.cell 0
      have k1 := hbP.cell 1
      simp only [List.getElem?_toArray, List.getElem?_cons_zero, List.getElem?_cons_succ] at k0 k1
      have H := hid (message_any 1 (behindW ⟨W5.b, W5.bad⟩ ⟨(exsW L).b, (exsW L).bad⟩).bad hyP (by show (W5.b ++ (exsW L).b).length ≤ _; rw [List.length_append]; have := HL5.out; have := HEL.out; omega))
      obtain ⟨wP, hwP⟩ : ∃ x, (w10.setCell ⟨s + 1, 0, none⟩ (.slice A10 n10 c10)).setCell ⟨s + 1, 1, none⟩ (.bool (behindW ⟨W5.b, W5.bad⟩ ⟨(exsW L).b, (exsW L).bad⟩).bad) = x := ⟨_, rfl⟩
      rw [hwP] at H k0 k1 huP
      try rw [hwP]
      clear hb10 hb8 z0 z1 s0 s1 hbP hyP hy10 hy8 hrow8 hrow hbw hc7
      go_wp2_with fail
      refine H.out.mono ?_
      rintro e w9 ⟨v9, rfl, hy9, hn9, ⟨A9, n9, c9, rfl⟩, hu9⟩
      have HF := hid (huP.trans hu9 (by simp))
      have HN := hid (fun k (hk : (Value.slice A9 n9 c9).ownBlock = some k) => Nat.le_trans huP.size (hn9 k hk))
      have HY := hid hy9
      have HM2 : Hid (messageW 1 ⟨(behindW ⟨W5.b, W5.bad⟩ ⟨(exsW L).b, (exsW L).bad⟩).b, (behindW ⟨W5.b, W5.bad⟩ ⟨(exsW L).b, (exsW L).bad⟩).bad⟩ = messageW 1 (chW t L)) := hid HM.out
      clear hy9 hn9 hu9
      rw [HM2.out] at HY ⊢
      go_wp2
      go_ret2
      exact ⟨_, rfl, HY.out, HN.out, ⟨_, _, _, rfl⟩, HF.out⟩
end
end Go.Proofs.YtaajmfgplhfncaaGreat
namespace Go.Proofs.YtaajmfgplhfncaaGreat
open Go.RowKit
set_option maxRecDepth 100000
theorem bz_sum (l : List Item) : (l.map fun i => bz i.1 (4 + i.2.2.b.length)).sum ≤ (l.map fun i => 4 + i.2.2.b.length).sum := by
  induction l with
  | nil => exact Nat.le_refl _
  | cons x l ih =>
    simp only [List.map_cons, List.sum_cons]
    have : bz x.1 (4 + x.2.2.b.length) ≤ 4 + x.2.2.b.length := by cases x.1 <;> simp [bz]
    omega
theorem vector_len (n : Nat) (x : Wr) : (Wr.vector n x).b.length = n + x.b.length := by rw [vector_b, List.length_append, be_len]
theorem sum_le {α : Type} (f : α → Nat) (K : Nat) : ∀ l : List α, (∀ i ∈ l, f i ≤ K) → (l.map f).sum ≤ l.length * K
  | [], _ => by simp
  | x :: l, h => by
    have h1 := h x (by simp)
    have h2 := sum_le f K l (fun i hi => h i (by simp [hi]))
    rw [List.map_cons, List.sum_cons, List.length_cons, Nat.succ_mul]
    omega
theorem item_len {t : Ch} (hZ : ChSz t) : ∀ i, i < 19 → (chItem t i).2.2.b.length ≤ 16777000 := by
  intro i hi
  have e : i = 0 ∨ i = 1 ∨ i = 2 ∨ i = 3 ∨ i = 4 ∨ i = 5 ∨ i = 6 ∨ i = 7 ∨ i = 8 ∨ i = 9 ∨ i = 10 ∨ i = 11 ∨ i = 12 ∨ i = 13 ∨ i = 14 ∨ i = 15 ∨ i = 16 ∨ i = 17 ∨ i = 18 := by omega
  have ew : ∀ l : List UInt16, (wordsW l).b.length = 2 * l.length := fun l => wordsB_len l
  have ev : ∀ (n : Nat) (x : Wr), x.b.length ≤ 16000000 → n ≤ 2 → (Wr.vector n x).b.length ≤ 16777000 := fun n x h hn => by rw [vector_len]; omega
  have hw : ∀ (n : Nat) (l : List UInt16), l.length ≤ 1048576 → n ≤ 2 → (Wr.vector n (wordsW l)).b.length ≤ 16777000 := fun n l h hn => ev n _ (by rw [ew]; omega) hn
  have hp : ∀ (n : Nat) (l : List UInt8), l.length ≤ 1048576 → n ≤ 2 → (Wr.vector n (Wr.plain l)).b.length ≤ 16777000 := fun n l h hn => ev n _ (Nat.le_trans h (by omega)) hn
  have hq : ∀ (l : List UInt8), l.length ≤ 1048576 → (Wr.plain l).b.length ≤ 16777000 := fun l h => Nat.le_trans h (by omega)
  have hz : Wr.nil.b.length ≤ 16777000 := Nat.zero_le _
  rcases e with rfl | rfl | rfl | rfl | rfl | rfl | rfl | rfl | rfl | rfl | rfl | rfl | rfl | rfl | rfl | rfl | rfl | rfl | rfl
  · exact ev 2 (hostW t.host) (by rw [hostW_b]; have := hZ.host; simp [be_len]; omega) (by omega)
  · show statusW.b.length ≤ 16777000; rw [statusW_b]; simp
  · exact hw 2 _ hZ.curves (by omega)
  · exact hp 1 _ hZ.pts (by omega)
  · exact hq _ hZ.tick
  · exact hw 2 _ hZ.sig (by omega)
  · exact hw 2 _ hZ.sigc (by omega)
  · exact hp 1 _ hZ.rn (by omega)
  · exact hz
  · exact ev 2 (vecsW 1 t.alpn) (by have := vecsB_lst 1 t.alpn; have := hZ.alpn; show (vecsB 1 t.alpn).length ≤ _; omega) (by omega)
  · exact hz
  · exact hw 1 _ hZ.sv (by omega)
  · exact hp 2 _ hZ.cookie (by omega)
  · exact ev 2 (kshW (chKs t)) (by have := kshB_cost (chKs t); have := hZ.vks; show (kshB (chKs t)).length ≤ _; omega) (by omega)
  · exact hz
  · exact hp 1 _ hZ.modes (by omega)
  · exact hq _ hZ.qtp
  · exact hq _ hZ.ech
  · show ((Wr.vector 2 (identsW (chPs t))).b ++ (Wr.vector 2 (vecsW 1 t.pb)).b).length ≤ 16777000
    rw [List.length_append, vector_len, vector_len]
    have k1 : (identsW (chPs t)).b.length ≤ 8388608 := Nat.le_trans (identsB_cost (chPs t)) hZ.vps
    have k2 : (vecsW 1 t.pb).b.length ≤ 2097152 := Nat.le_trans (vecsB_lst 1 t.pb) (Nat.mul_le_mul_left 2 hZ.pb)
    omega
theorem chE_len {t : Ch} (hZ : ChSz t) : (exsB (chE t)).length ≤ 1000000000 := by
  have hs : (exsB (chE t)).length ≤ ((chItems t).map fun i => 4 + i.2.2.b.length).sum := by
    rw [chE_eq, itemsE_size]
    exact bz_sum (chItems t)
  have hl : (chItems t).length = 19 := rfl
  have h2 := sum_le (fun i : Item => 4 + i.2.2.b.length) 16777004 (chItems t) (fun x hx => by
    unfold chItems at hx
    obtain ⟨i, hi, rfl⟩ := List.mem_map.1 hx
    have hi19 : i < 19 := by
      simp only [List.mem_cons, List.not_mem_nil, or_false] at hi
      omega
    have := item_len hZ i hi19
    show 4 + _ ≤ _
    omega)
  rw [hl] at h2
  exact Nat.le_trans hs (Nat.le_trans h2 (by decide))
section
variable {w w' : World} {B : Nat} {v : Value} {t : Ch}
theorem Write_ChE (hv : ChV w B v t) (hz : ChSz t) {C N : Nat} {content : Value} (hc : Exr w C N content (chExtL t).l) : Calls Tryz.prog 9 #[v, content] w (MsgP w (messageW 1 (chW t (chE t)))) :=
  Write_Ch hv hz hc (by have := chE_len hz; show (exsB (chE t)).length ≤ _; omega)
end
end Go.Proofs.YtaajmfgplhfncaaGreat
namespace Go.Proofs.YtaajmfgplhfncaaGreat
open Go.RowKit
set_option maxRecDepth 100000
section
variable {w w' : World} {N b : Nat} {bs : List UInt8} {nn : Prop}
end
end Go.Proofs.YtaajmfgplhfncaaGreat
namespace Go.Proofs.YtaajmfgplhfncaaGreat
open Go.RowKit
set_option maxRecDepth 100000
section
variable {w w' : World} {N b : Nat} {bs : List UInt8} {nn : Prop}
theorem lp_b1 (x r : List UInt8) (h : x.length < 256) : lp 1 (be 1 x.length ++ (x ++ r)) = some (x, r) := by rw [← List.append_assoc]; exact lp_be1 x r h
theorem lp_b2 (x r : List UInt8) (h : x.length < 65536) : lp 2 (be 2 x.length ++ (x ++ r)) = some (x, r) := by
  rw [← List.append_assoc]
  exact lp_be 2 x r (by simp [be, beNat]; omega)
end
end Go.Proofs.YtaajmfgplhfncaaGreat
namespace Go.Proofs.YtaajmfgplhfncaaGreat
open Go.RowKit Go.Maps
set_option maxRecDepth 100000
def chF0 (v0 v4 : Value) (M : Ch) : List Fld := [.val v0, .val (wv M.vers), .byt M.random, .byt M.sid, .val v4, .byt M.comps, .val (strv M.host), .val (.bool M.ocsp), .row 22 (M.curves.map wv), .byt M.pts, .val (.bool M.ticket), .byt M.tick,
  .row 22 (M.sig.map wv), .row 22 (M.sigc.map wv), .val (.bool M.rns), .byt M.rn, .val (.bool M.ems), .row 9 (M.alpn.map strv), .val (.bool M.scts), .row 22 (M.sv.map wv), .byt M.cookie, .prs 108 (ksC M), .val (.bool M.early), .byt M.modes,
  .prs 110 (piC M), .vec M.pb, .cpy M.quic M.qtp, .byt M.ech, .row 22 (M.exs.map wv)]
def chF (v0 : Value) (M : Ch) : List Fld := (chF0 v0 (.bool false) M).set 4 (.row 22 (M.suites.map wv))
def ChUP (w : World) (B m : Nat) (t : Ch) (e : Ending) (w' : World) : Prop :=
  e = .returned (.bool true) ∧ Upd [m] w w' ∧ ∃ v0 cs lo hi, w.heap.size ≤ lo ∧ m < lo ∧ MSt w' B lo hi m 105 cs (chF v0 t)
section
variable {w0 w w' : World} {B lo lo' hi hi' m s sx mb n : Nat} {v v0 v4 x : Value} {T e : TypeId} {cs : Array Value} {fs : List Fld} {f : Fld} {S : List Nat} {i : Nat} {d d' : List UInt8} {ks : List UInt16} {us : List Value}
theorem ownsRow_low {size : Nat} {xs : List Value} {k : Nat} (h : w.ownsRow lo e size v k xs) (hb : ∀ g, v.ownBlock = some g → lo' ≤ g) : w.ownsRow lo' e size v k xs := by
  refine ⟨h.1, ?_⟩
  rcases h.2 with h1 | ⟨g, cap, cur, rfl, h1, h2⟩
  · exact .inl h1
  · exact .inr ⟨g, cap, cur, rfl, hb g rfl, h2⟩
theorem FOk.low (h : FOk w B lo v f) (hl : f.isOwn = true → ∀ g, v.ownBlock = some g → lo' ≤ g) : FOk w B lo' v f := by
  cases f with
  | val u => exact h
  | byt l => exact h
  | row e us => exact ownsRow_low h (hl rfl)
  | vec ls =>
    obtain ⟨vs, h1, h2⟩ := h
    exact ⟨vs, ownsRow_low h1 (hl rfl), h2⟩
  | prs e ls =>
    obtain ⟨vs, h1, h2⟩ := h
    exact ⟨vs, ownsRow_low h1 (hl rfl), h2⟩
  | cpy has l =>
    rcases h with ⟨h1, g, c, rfl, h2, h3⟩ | h
    · exact .inl ⟨h1, g, c, rfl, hl rfl g rfl, h3⟩
    · exact .inr h
theorem MSt.free (h : MSt w B lo lo m T cs fs) : MSt w B lo' hi' m T cs fs :=
  ⟨h.blk, h.len, fun i v f h1 h2 => (h.ok i v f h1 h2).low fun h3 g h4 => by have := h.own i v f g h1 h2 h3 h4; omega, fun i v f g h1 h2 h3 h4 => by have := h.own i v f g h1 h2 h3 h4; omega, h.ap⟩
theorem MSt.ownAt (h : MSt w B lo hi m T cs fs) (hf : fs[i]? = some (.val v)) (ho : Own w lo' e v us) (hl : lo' ≤ lo) (hh : hi ≤ hi') (hlh : lo ≤ hi') (hv : ∀ g, v.ownBlock = some g → g < lo) : MSt w B lo' hi' m T cs (fs.set i (.row e us)) := by
  have hil : i < fs.length := (List.getElem?_eq_some_iff.1 hf).1
  have oth : ∀ {j : Nat} {g0 : Fld}, j ≠ i → (fs.set i (.row e us))[j]? = some g0 → fs[j]? = some g0 := fun hj h2 => by rwa [List.getElem?_set_ne (Ne.symm hj)] at h2
  have slf : ∀ {u : Value} {g0 : Fld}, cs[i]? = some u → (fs.set i (.row e us))[i]? = some g0 → u = v ∧ g0 = .row e us := by
    intro u g0 h1 h2
    rw [List.getElem?_set_self hil] at h2
    exact ⟨h.ok i u _ h1 hf, (Option.some.inj h2).symm⟩
  refine ⟨h.blk, by simp [h.len], fun j u g0 h1 h2 => ?_, fun j u g0 g h1 h2 h3 h4 => ?_, fun j k vj vk fj fk g hjk h1 h2 h3 h4 h5 h6 h7 h8 => ?_⟩
  · by_cases hj : j = i
    · subst hj
      obtain ⟨rfl, rfl⟩ := slf h1 h2
      exact ho
    · exact (h.ok j u g0 h1 (oth hj h2)).low fun h3 g h4 => by have := h.own j u g0 g h1 (oth hj h2) h3 h4; omega
  · by_cases hj : j = i
    · subst hj
      obtain ⟨rfl, rfl⟩ := slf h1 h2
      exact ⟨(ho.ge h4).1, Nat.lt_of_lt_of_le (hv g h4) hlh⟩
    · have := h.own j u g0 g h1 (oth hj h2) h3 h4
      omega
  · by_cases hj : j = i
    · subst hj
      obtain ⟨rfl, rfl⟩ := slf h1 h3
      have := (h.own k vk fk g h2 (oth (Ne.symm hjk) h4) h6 h8).1
      have := hv g h7
      omega
    · by_cases hk : k = i
      · subst hk
        obtain ⟨rfl, rfl⟩ := slf h2 h4
        have := (h.own j vj fj g h1 (oth hj h3) h5 h7).1
        have := hv g h8
        omega
      · exact h.ap j k vj vk fj fk g hjk h1 h2 (oth hj h3) (oth hk h4) h5 h6 h7 h8
theorem MSt.cast {fs' : List Fld} (h : MSt w B lo hi m T cs fs) (e : fs = fs') : MSt w B lo hi m T cs fs' := e ▸ h
structure HSt (w0 : World) (B m s : Nat) (T : TypeId) (cs : Array Value) (fs : List Fld) (d : List UInt8) (w : World) : Prop where
  sv : Sv w B s d True
  ms : MSt w B (m + 1) (m + 1) m T cs fs
  up : Upd [m] w0 w
  lt : B ≤ m ∧ m < s ∧ s < w.heap.size ∧ w0.heap.size ≤ s
theorem HSt.upd (h : HSt w0 B m s T cs fs d w) (hu : Upd S w w') (hS : ∀ k ∈ S, s < k) : HSt w0 B m s T cs fs d w' := by
  obtain ⟨l1, l2, l3, l4⟩ := h.lt
  have hz := hu.size
  exact ⟨h.sv.upd hu (fun k hk => by have := hS k hk; omega) (fun hk => by have := hS _ hk; omega), h.ms.upd hu (fun k hk => by have := hS k hk; omega), h.up.trans hu (fun k hk => .inr (by have := hS k hk; omega)), ⟨l1, l2, by omega, l4⟩⟩
theorem HSt.next (h : HSt w0 B m s T cs fs d w) (hu : Upd S w w') (hS : ∀ k ∈ S, s ≤ k) (hs : Sv w' B s d' True) : HSt w0 B m s T cs fs d' w' := by
  obtain ⟨l1, l2, l3, l4⟩ := h.lt
  have hz := hu.size
  exact ⟨hs, h.ms.upd hu (fun k hk => by have := hS k hk; omega), h.up.trans hu (fun k hk => .inr (by have := hS k hk; omega)), ⟨l1, l2, by omega, l4⟩⟩
theorem HSt.put (h : HSt w0 B m s T cs fs d w) (hu : Upd S w w') (hS : ∀ k ∈ S, k = m ∨ s ≤ k) (hs : Sv w' B s d' True) (hb : Blk w' m T (cs.setIfInBounds i x)) (hf : FOk w' B (m + 1) x f) (ho : f.isOwn = false) : HSt w0 B m s T (cs.setIfInBounds i x) (fs.set i f) d' w' := by
  obtain ⟨l1, l2, l3, l4⟩ := h.lt
  have hz := hu.size
  exact ⟨hs, h.ms.putV (by omega) hu (fun k hk => by have := hS k hk; omega) hb hf ho, h.up.trans hu (fun k hk => by rcases hS k hk with hk | hk; exact .inl (by simp [hk]); exact .inr (by omega)), ⟨l1, l2, by omega, l4⟩⟩
theorem HSt.cast {fs' : List Fld} (h : HSt w0 B m s T cs fs d w) (e : fs = fs') : HSt w0 B m s T cs fs' d w := e ▸ h
structure CSt (w0 : World) (B m s sx mb hi : Nat) (T : TypeId) (cs : Array Value) (fs : List Fld) (d : List UInt8) (n : Nat) (ks : List UInt16) (v4 : Value) (us : List Value) (w : World) : Prop extends USt w0 B m sx mb hi T cs fs d n ks w where
  o : Own w s 22 v4 us
  r : ∀ g, v4.ownBlock = some g → g < sx
  ls : m < s ∧ s ≤ sx
theorem CSt.upd (h : CSt w0 B m s sx mb hi T cs fs d n ks v4 us w) (hu : Upd S w w') (hS : ∀ k ∈ S, hi ≤ k) : CSt w0 B m s sx mb hi T cs fs d n ks v4 us w' := by
  obtain ⟨l1, l2, l3, l4, l5, l6⟩ := h.lt
  exact { h.toUSt.upd hu hS with o := h.o.upd hu (fun g hg hk => by have := hS g hk; have := h.r g hg; omega), r := h.r, ls := h.ls }
theorem CSt.next (h : CSt w0 B m s sx mb hi T cs fs d n ks v4 us w) (hu : Upd S w w') (hS : ∀ k ∈ S, hi ≤ k ∨ k = sx) (hs : Sv w' B sx d' True) : CSt w0 B m s sx mb hi T cs fs d' n ks v4 us w' := by
  obtain ⟨l1, l2, l3, l4, l5, l6⟩ := h.lt
  exact { h.toUSt.next hu hS hs with o := h.o.upd hu (fun g hg hk => by have := hS g hk; have := h.r g hg; omega), r := h.r, ls := h.ls }
theorem CSt.put (h : CSt w0 B m s sx mb hi T cs fs d n ks v4 us w) (hu : Upd S w w') (hS : ∀ k ∈ S, hi ≤ k ∨ k = m ∨ ∃ v f0, cs[i]? = some v ∧ fs[i]? = some f0 ∧ f0.isOwn = true ∧ v.ownBlock = some k)
    (hb : Blk w' m T (cs.setIfInBounds i x)) (hf : FOk w' B (mb + 1) x f) (hx : f.isOwn = true → ∀ g, x.ownBlock = some g → (hi ≤ g ∧ g < hi') ∨ ∃ v f0, cs[i]? = some v ∧ fs[i]? = some f0 ∧ f0.isOwn = true ∧ v.ownBlock = some g) (hh : hi ≤ hi') (hh2 : hi' ≤ w'.heap.size) :
    CSt w0 B m s sx mb hi' T (cs.setIfInBounds i x) (fs.set i f) d n ks v4 us w' := by
  obtain ⟨l1, l2, l3, l4, l5, l6⟩ := h.lt
  refine { h.toUSt.put hu hS hb hf hx hh hh2 with o := h.o.upd hu (fun g hg hk => ?_), r := h.r, ls := h.ls }
  have h1 := h.r g hg
  have h2 := (h.o.ge hg).1
  have h3 := h.ls
  rcases hS g hk with h4 | h4 | ⟨v, f0, k1, k2, k3, k4⟩
  · omega
  · omega
  · have := (h.ms.own i v f0 g k1 k2 k3 k4).1
    omega
theorem CSt.putV (h : CSt w0 B m s sx mb hi T cs fs d n ks v4 us w) (hu : Upd S w w') (hS : ∀ k ∈ S, hi ≤ k ∨ k = m) (hb : Blk w' m T (cs.setIfInBounds i x)) (hf : FOk w' B (mb + 1) x f) (ho : f.isOwn = false) : CSt w0 B m s sx mb hi T (cs.setIfInBounds i x) (fs.set i f) d n ks v4 us w' :=
  h.put hu (fun k hk => (hS k hk).imp id .inl) hb hf (fun e => by rw [ho] at e; cases e) (Nat.le_refl _) (Nat.le_trans h.lt.2.2.2.2.1 hu.size)
theorem CSt.cast {fs' : List Fld} (h : CSt w0 B m s sx mb hi T cs fs d n ks v4 us w) (e : fs = fs') : CSt w0 B m s sx mb hi T cs fs' d n ks v4 us w := e ▸ h
theorem CSt.loop {f0 : Fld} {p : Nat} (h : CSt w0 B m s sx mb hi T cs fs d n ks v4 us w) (hcv : cs[i]? = some v) (hf0 : fs[i]? = some f0) (ho : f0.isOwn = true) (hu : Upd (p :: m :: v.ownBlock.toList) w w') (hp : hi ≤ p) (hb : Blk w' m T (cs.setIfInBounds i x))
    (hfx : FOk w' B (mb + 1) x f) (hn : nextV v x w.heap.size) (hlt : ∀ g, x.ownBlock = some g → g < w'.heap.size) : CSt w0 B m s sx mb w'.heap.size T (cs.setIfInBounds i x) (fs.set i f) d n ks v4 us w' := by
  obtain ⟨l1, l2, l3, l4, l5, l6⟩ := h.lt
  have hz := hu.size
  refine h.put hu (fun k hk => ?_) hb hfx (fun _ g hg => ?_) (by omega) (Nat.le_refl _)
  · rcases List.mem_cons.1 hk with hk | hk
    · left; omega
    · rcases List.mem_cons.1 hk with hk | hk
      · exact .inr (.inl hk)
      · exact .inr (.inr ⟨v, f0, hcv, hf0, ho, Option.mem_toList.1 hk⟩)
  · rcases hn with hn | ⟨j, hn, hj⟩
    · right; rw [hn] at hg; exact ⟨v, f0, hcv, hf0, ho, hg⟩
    · left; exact ⟨by rw [hn] at hg; injection hg with hg; omega, hlt g hg⟩
theorem CSt.fin {M : Ch} (h : CSt w0 B m s sx mb hi 105 cs (chF0 v0 v4 M) d n ks v4 (M.suites.map wv) w) (hs : w0.heap.size ≤ s) : ChUP w0 B m M (.returned (.bool true)) w := by
  obtain ⟨l1, l2, l3, l4, l5, l6⟩ := h.lt
  exact ⟨rfl, h.up, v0, cs, s, hi, hs, h.ls.1, (h.ms.ownAt (i := 4) rfl h.o (by have := h.ls; omega) (Nat.le_refl _) (by omega) (fun g hg => by have := h.r g hg; omega)).cast rfl⟩
theorem HSt.fin {M : Ch} {s' : Nat} (h : HSt w0 B m s 105 cs (chF0 v0 v4 M) d w) (ho : Own w s' 22 v4 (M.suites.map wv)) (hs : m < s' ∧ w0.heap.size ≤ s') : ChUP w0 B m M (.returned (.bool true)) w :=
  ⟨rfl, h.up, v0, cs, s', w.heap.size + s', hs.2, hs.1, ((h.ms.free (lo' := w.heap.size + s') (hi' := w.heap.size + s')).ownAt (i := 4) rfl ho (by omega) (Nat.le_refl _) (Nat.le_refl _) (fun g hg => by have := (ho.ge hg).2; omega)).cast rfl⟩
def chTail (L : List Ex) : List UInt8 := if L = [] then [] else blkB L
theorem ch_body (t : Ch) (L : List Ex) : (chMsg t L).drop 4 = be 2 t.vers.toNat ++ (t.random ++ (be 1 t.sid.length ++ (t.sid ++ (be 2 (wordsB t.suites).length ++ (wordsB t.suites ++ (be 1 t.comps.length ++ (t.comps ++ chTail L))))))) := by
  unfold chMsg
  rw [msgB_drop]
  simp [chBodyB, chHeadB, chTail]
theorem exsB_cons2 (k : UInt16) (d : List UInt8) (L : List Ex) : exsB ((k, d) :: L) = be 2 k.toNat ++ (be 2 d.length ++ (d ++ exsB L)) := by simp [exsB, exB]
theorem vecsB1_cons (x : List UInt8) (l : List (List UInt8)) : vecsB 1 (x :: l) = be 1 x.length ++ (x ++ vecsB 1 l) := by simp [vecsB]
theorem kshB_cons (k : UInt16) (x : List UInt8) (l : List (UInt16 × List UInt8)) : kshB ((k, x) :: l) = be 2 k.toNat ++ (be 2 x.length ++ (x ++ kshB l)) := by simp [kshB]
theorem identsB_cons (x : List UInt8) (a : UInt32) (l : List (List UInt8 × UInt32)) : identsB ((x, a) :: l) = be 2 x.length ++ (x ++ (be 4 a.toNat ++ identsB l)) := by simp [identsB, identB]
end
end Go.Proofs.YtaajmfgplhfncaaGreat
namespace Go.Proofs.YtaajmfgplhfncaaGreat
open Go.RowKit
set_option maxRecDepth 100000
def R.eKey (x : R) : UInt16 := UInt16.ofNat (x.num 2).1
def R.eData (x : R) : List UInt8 := ((x.num 2).2.vec 2 0 65535).1
def R.eRest (x : R) : R := ((x.num 2).2.vec 2 0 65535).2
theorem R.extsGo_succ (f : Nat) (x : R) (out : List Ex) : R.extsGo (f + 1) x out = if x.bs = [] then (out, x) else R.extsGo f (x.eRest.twice (out.any (·.1 == x.eKey))) (out ++ [(x.eKey, x.eData)]) := rfl
theorem R.twice_len (x : R) (c : Bool) : (x.twice c).bs.length ≤ x.bs.length := by cases c <;> simp [R.twice, fail_bs]
theorem R.twice_again (x : R) (c : Bool) : (x.twice c).fail 4 = x.twice true := by
  cases c
  · rfl
  · unfold R.twice R.fail
    by_cases h : x.code = 0
    · simp [h]
    · simp [h]
theorem R.eRest_len (x : R) (h : x.bs ≠ []) (c : Bool) : (x.eRest.twice c).bs.length < x.bs.length := by
  have h1 := R.twice_len x.eRest c
  have h2 := vec_bs_len (x.num 2).2 2 0 65535
  have h3 : (x.num 2).2.bs.length = x.bs.length - 2 := take_bs_len x 2
  have h4 : 0 < x.bs.length := List.length_pos_iff.2 h
  unfold R.eRest at h1 ⊢
  omega
theorem R.extsGo_fuel (f g : Nat) (x : R) (out : List Ex) (hf : x.bs.length ≤ f) (hg : x.bs.length ≤ g) : R.extsGo f x out = R.extsGo g x out := by
  induction f generalizing g x out with
  | zero =>
    have hx : x.bs = [] := List.eq_nil_of_length_eq_zero (by omega)
    cases g with
    | zero => rfl
    | succ g => rw [R.extsGo_succ, if_pos hx]; rfl
  | succ f ih =>
    cases g with
    | zero =>
      have hx : x.bs = [] := List.eq_nil_of_length_eq_zero (by omega)
      rw [R.extsGo_succ, if_pos hx]; rfl
    | succ g =>
      rw [R.extsGo_succ, R.extsGo_succ]
      by_cases h : x.bs = []
      · rw [if_pos h, if_pos h]
      · have := R.eRest_len x h (out.any (·.1 == x.eKey))
        rw [if_neg h, if_neg h, ih g _ _ (by omega) (by omega)]
theorem R.extsGo_round (x : R) (l : List Ex) (h : x.bs ≠ []) :
    R.extsGo x.bs.length x l = R.extsGo (x.eRest.twice (l.any (·.1 == x.eKey))).bs.length (x.eRest.twice (l.any (·.1 == x.eKey))) (l ++ [(x.eKey, x.eData)]) := by
  have h1 := R.eRest_len x h (l.any (·.1 == x.eKey))
  obtain ⟨f, hf⟩ : ∃ f, x.bs.length = f + 1 := ⟨x.bs.length - 1, by omega⟩
  rw [hf, R.extsGo_succ, if_neg h]
  exact R.extsGo_fuel _ _ _ _ (by omega) (Nat.le_refl _)
theorem num2_lt (x : R) : (x.num 2).1 < 65536 := by
  have := beNat_lt (x.take 2).1
  rw [take_len] at this
  exact this
theorem any_take_succ (l : List Ex) (k : Nat) (h : k < l.length) (key : UInt16) : (l.take (k + 1)).any (·.1 == key) = ((l.take k).any (·.1 == key) || (l[k].1 == key)) := by
  rw [List.take_succ_eq_append_getElem h, List.any_append]
  simp
section
variable {w w' : World} {N r : Nat} {s : R} {S : List Nat}
def ExtsP (w : World) (N r : Nat) (l : List Ex) (s : R) (e : Ending) (w' : World) : Prop :=
  ∃ v, e = .returned v ∧ EOwn w' w.heap.size N v l ∧ Upd [r] w w' ∧ Rd w' N r s
def XRel (w : World) (N r q : Nat) (s1 x0 : R) (gk : Nat) (v : Value) (wr : World) : Prop :=
  ∃ (x : R) (l : List Ex), gk = x.bs.length ∧ l.length + x.bs.length ≤ x0.bs.length + 1 ∧ Rd wr N q x ∧ Rd wr N r s1 ∧ EOwn wr w.heap.size N v l ∧ Upd [r] w wr ∧ R.extsGo x0.bs.length x0 [] = R.extsGo x.bs.length x l
def YRel (w6 : World) (N q : Nat) (x5 : R) (l : List Ex) (key : UInt16) (gk : Nat) (i : Value) (wr : World) : Prop :=
  ∃ k : Nat, k + gk = l.length ∧ i = .int .i64 (k : Int) ∧ Rd wr N q (x5.twice ((l.take k).any (·.1 == key))) ∧ Upd [q] w6 wr
theorem EOwn.q {q base : Nat} {v : Value} {l : List Ex} {x : R} {wr : World} (hown : EOwn w base N v l) (hx : Rd w N q x) (hu : Upd [q] w wr) : EOwn wr base N v l := by
  obtain ⟨hq, vx, hbx, _⟩ := hx
  exact hown.upd hu (fun g hg => by have := hown.ne hbx (by decide) g hg; simpa using this) (by simpa using hq)
theorem xrel_step {q : Nat} {s1 x0 x' : R} {l l' : List Ex} {v v3 : Value} {w8 w9 : World} {o : Obj} (hNw : N ≤ w.heap.size) (hrw : r < w.heap.size)
    (hx : Rd w8 N q x') (hr : Rd w8 N r s1) (hown : EOwn w8 w.heap.size N v l) (hu : Upd [r] w w8) (hap : EAppended (w8.alloc o) w.heap.size N v l' v3 w9)
    (hl : l'.length + x'.bs.length ≤ x0.bs.length + 1) (hE : R.extsGo x0.bs.length x0 [] = R.extsGo x'.bs.length x' l') : XRel w N r q s1 x0 x'.bs.length v3 w9 := by
  obtain ⟨h1, h2, h3⟩ := hap.one
  have hge : ∀ k ∈ v.ownBlock.toList, w.heap.size ≤ k := fun k hk => (hown.ge (Option.mem_toList.1 hk)).1
  have hq : q ∉ v.ownBlock.toList := by
    obtain ⟨_, vx, hbx, _⟩ := hx
    intro hk
    exact hown.ne hbx (by decide) q (Option.mem_toList.1 hk) rfl
  refine ⟨x', l', rfl, hl, hx.upd h2 (fun k hk => Nat.le_trans hNw (hge k hk)) hq, hr.upd h2 (fun k hk => Nat.le_trans hNw (hge k hk)) (fun hk => by have := hge r hk; omega), h1, ?_, hE⟩
  exact hu.trans h2 fun k hk => .inr (hge k hk)
set_option maxHeartbeats 4000000 in
theorem extensions_any (hr : Rd w N r s) :
    Calls Tryz.prog 49 #[.pointer (some ⟨r, 0, none⟩)] w (ExtsP w N r s.exts.1 s.exts.2) := by
  have hlt := hr.lt
  have hN := hr.1
  have H0 := hid (vec_any hr 2 0 65535 (by omega))
  go_enter Tryz.func49, Tryz.ntmps49
  go_wp2_with fail
  refine H0.out.mono ?_
  rintro e w1 ⟨u, rfl, hu1, hr1, hy1⟩
  obtain ⟨A, c, rfl, hy1, hl1, hc1⟩ := Byt.form hy1 rfl
  have hws := hu1.size
  have H1 := hid (within_any hr1 (N' := N) (by omega) hy1)
  have hvl := vec_bs_len s 2 0 65535
  go_wp2_with fail
  refine H1.out.mono ?_
  rintro e w2 ⟨rfl, hu2, hx2⟩
  obtain ⟨x0, hx0⟩ : ∃ x0, s.block = x0 := ⟨_, rfl⟩
  obtain ⟨s1, hs1⟩ : ∃ s1, (s.vec 2 0 65535).2 = s1 := ⟨_, rfl⟩
  have hx2' : Rd w2 N w1.heap.size x0 := by rw [← hx0]; exact hx2
  have hr2 : Rd w2 N r s1 := by rw [← hs1]; exact hr1.upd hu2 (by simp) (by simp)
  have hxb : x0.bs.length ≤ 4294967296 := by
    rw [← hx0]
    unfold R.block R.within
    simp only
    split
    · unfold R.vec
      simp only
      split
      · rw [take_len]
        have := num2_lt s
        omega
      · simp
    · simp
  have hu02 : Upd [r] w w2 := hu1.trans hu2 (by simp)
  obtain ⟨q, hq⟩ : ∃ q, w1.heap.size = q := ⟨_, rfl⟩
  rw [hq] at hx2'
  have hqw : w.heap.size ≤ q := by omega
  have hqr : q ≠ r := by omega
  have HX := hid hx0
  have HS := hid hs1
  have hlq : q < w2.heap.size := hx2'.lt
  clear hx2 hx0 hs1 hr1 hy1 hl1 hc1 hvl
  have HQ := hid hq
  clear hq
  go_wp2_with fail
  rw [HQ.out]
  go_loopg [3] x0.bs.length (fun gk v wr => XRel w N r q s1 x0 gk v wr)
  case atStart => exact ⟨x0, [], rfl, by simp, hx2', hr2, EOwn.nil_ _ _ _, hu02, rfl⟩
  case round =>
    obtain ⟨x, l, rfl, hxl, hx, hrr, hown, hu, hE⟩ := hrel
    obtain ⟨wo, rfl⟩ : ∃ wo : World, wo = wr := ⟨_, rfl⟩
    have HE := hid hE
    clear hE
    obtain ⟨Av, cv, rfl, hvl, hvc⟩ := hown.form
    obtain ⟨Ax, cx, c0, c1, f0, f1, hlx, hcx⟩ := hx.open_
    by_cases h0 : x.bs = []
    · obtain ⟨bs, cd⟩ := x
      have h0 : bs = [] := h0
      subst h0
      have hz : ¬ 0 < ([] : List UInt8).length := by simp
      have H2 := hid (done_any hrr hx hqr (by omega))
      have HO := hid hown
      go_wp2_with fail
      refine H2.out.mono ?_
      rintro e w3 ⟨rfl, hu3, hr3⟩
      go_wp2
      go_ret
      have hE := HE.out
      have hE : R.extsGo x0.bs.length x0 [] = (l, ⟨[], cd⟩) := hE
      have hX1 : s.exts.1 = l := by show (R.extsGo s.block.bs.length s.block []).1 = l; rw [HX.out, hE]
      have hX2 : s.exts.2 = s1.done ⟨[], cd⟩ := by show (s.vec 2 0 65535).2.done (R.extsGo s.block.bs.length s.block []).2 = _; rw [HX.out, hE, HS.out]
      rw [hX1, hX2]
      obtain ⟨_, vx, hbx, _⟩ := hx
      refine ⟨_, rfl, HO.out.upd hu3 (fun g hg => ?_) (by simp; omega), hu.trans hu3 (by simp; omega), hr3⟩
      have h1 := HO.out.ne hbx (by decide) g hg
      have h2 := (HO.out.ge hg).1
      simp
      omega
    · have hp : 0 < x.bs.length := List.length_pos_iff.2 h0
      have H3 := hid (num_any hx 2 (by omega))
      obtain ⟨n, hn⟩ : ∃ n : Nat, (x.num 2).1 = n := ⟨_, rfl⟩
      have hnl : n < 65536 := by rw [← hn]; exact num2_lt x
      rw [hn] at H3
      have Hn := hid hn
      have Hp := hid h0
      have HO := hid hown
      have HU := hid hu
      clear hn h0
      go_wp2_with fail
      refine H3.out.mono ?_
      rintro e w3 ⟨rfl, hu3, hx3⟩
      obtain ⟨w4, hw4⟩ : ∃ w4, w3.alloc (.cells #[.int .u16 (n : Int), .slice none 0 0] 89) = w4 := ⟨_, rfl⟩
      obtain ⟨g, hg⟩ : ∃ g, w3.heap.size = g := ⟨_, rfl⟩
      have hu34 : Upd [] w3 w4 := by rw [← hw4]; exact (Upd.refl _ _).alloc _
      have hb4 : Blk w4 g 89 #[.int .u16 (n : Int), .slice none 0 0] := by rw [← hw4, ← hg]; exact Blk.new _ _ _
      have hx4 : Rd w4 N q (x.num 2).2 := hx3.upd hu34 (by simp) (by simp)
      have hgq : q < g := by rw [← hg]; exact hx3.lt
      have H4 := hid (vec_any hx4 2 0 65535 (by omega))
      have HW4 := hid hw4
      have Hg := hid hg
      clear hw4 hg
      go_wp2_with fail
      rw [HW4.out, Hg.out]
      refine H4.out.mono ?_
      rintro e w5 ⟨u5, rfl, hu5, hx5, hy5⟩
      obtain ⟨A5, c5, rfl, hy5, hl5, hc5⟩ := Byt.form hy5 rfl
      have hb5 : Blk w5 g 89 #[.int .u16 (n : Int), .slice none 0 0] := hb4.upd hu5 (by simp; omega)
      obtain ⟨d, hd⟩ : ∃ d, ((x.num 2).2.vec 2 0 65535).1 = d := ⟨_, rfl⟩
      rw [hd] at hy5 hl5
      rw [hd]
      have c50 := hb5.cell 0
      have c51 := hb5.cell 1
      have f51 := hb5.frozen 1
      simp at c50 c51
      obtain ⟨w6, hw6⟩ : ∃ w6, w5.setCell ⟨g, 1, none⟩ (.slice A5 d.length c5) = w6 := ⟨_, rfl⟩
      have hu36 : Upd [q] w3 w6 := by
        rw [← hw6]
        refine (((Upd.refl [q] w3).trans hu34 (by simp)).trans hu5 (by simp)).setCell (.inr ?_) _
        rw [← Hg.out]; exact Nat.le_refl _
      have hb6 : Blk w6 g 89 #[.int .u16 (n : Int), .slice A5 d.length c5] := by
        rw [← hw6]; exact hb5.set_ 1 _
      have hx6 : Rd w6 N q x.eRest := by
        rw [← hw6]
        exact hx5.upd (S := [g]) ((Upd.refl [g] w5).setCell (by simp) _) (by simp; omega) (by simp; omega)
      have hy6 : Byt w6 N (.slice A5 d.length c5) d := by rw [← hw6]; exact Row.setCell (p := ⟨g, 1, none⟩) hy5 (by show N ≤ g; omega) _
      have hu6 : Upd [q] wo w6 := hu3.trans hu36 (by simp)
      have hown6 : EOwn w6 w.heap.size N (.slice Av l.length cv) l := HO.out.q hx hu6
      have hrr6 : Rd w6 N r s1 := hrr.upd hu6 (by simp; omega) (by simp; omega)
      have HW6 := hid hw6
      have HD := hid hd
      clear hw6 hd hb4 hb5
      go_wp2_with fail
      rw [HW6.out]
      go_wp2_with fail
      go_loopg [27] l.length (fun gk i wr => YRel w6 N q x.eRest l (UInt16.ofNat n) gk i wr)
      case atStart => exact ⟨0, by omega, rfl, by simpa [R.twice] using hx6, Upd.refl _ _⟩
      case round =>
        obtain ⟨k, hk, rfl, hxk, hu7⟩ := hrel
        have Hk := hid hk
        have hown7 := hown6.q hx6 hu7
        have hb7 := hb6.upd hu7 (by simp; omega)
        have d70 := hb7.cell 0
        have d71 := hb7.cell 1
        simp at d70 d71
        have ne0 := World.new_ne wr ⟨g, 0, none⟩ d70
        clear hk
        by_cases hlt : k < l.length
        · obtain ⟨b, o, rfl, hbl, hk', A', c', e0, e1, hye, -, -⟩ := hown7.exr.at_ hlt
          have hkey := any_take_succ l k hk' (UInt16.ofNat n)
          generalize l[k] = ek at e0 e1 hye hkey
          have Hkey := hid hkey
          clear hkey
          have d70a : (wr.alloc (.cells #[wv ek.1, .slice A' ek.2.length c'] 89)).cell? ⟨g, 0, none⟩ = some (.int .u16 (n : Int)) := ((hb7.alloc _).cell 0).trans (by simp)
          by_cases he : ek.1 = UInt16.ofNat n
          · have t1 : ((ek.1.toNat : Int) == (n : Int)) = true := by
              rw [he, beq_iff_eq, UInt16.toNat_ofNat']; omega
            have HF := hid (fail_any (hxk.upd ((Upd.refl [] wr).alloc (.cells #[wv ek.1, .slice A' ek.2.length c'] 89)) (by simp) (by simp)) 4)
            have hxt : (x.eRest.twice ((l.take k).any (·.1 == UInt16.ofNat n))).fail 4 = x.eRest.twice ((l.take (k + 1)).any (·.1 == UInt16.ofNat n)) := by
              rw [R.twice_again, Hkey.out, he]; simp
            have HT := hid hxt
            have He := hid he
            clear hxt he
            go_wp2_with fail
            refine HF.out.mono ?_
            rintro e w8 ⟨rfl, hu8, hx8⟩
            go_wp2
            go_roundg (l.length - (k + 1))
            case measure => have := Hk.out; omega
            case rel =>
              refine ⟨k + 1, by have := Hk.out; omega, rfl, ?_, (hu7.trans ((Upd.refl [] wr).alloc _) (by simp)).trans hu8 (by simp)⟩
              rw [← HT.out]
              exact hx8
          · have t1 : ((ek.1.toNat : Int) == (n : Int)) = false := by
              rw [beq_eq_false_iff_ne]
              intro h
              apply he
              apply UInt16.toNat_inj.1
              rw [UInt16.toNat_ofNat']
              omega
            have hxt : x.eRest.twice ((l.take k).any (·.1 == UInt16.ofNat n)) = x.eRest.twice ((l.take (k + 1)).any (·.1 == UInt16.ofNat n)) := by
              rw [Hkey.out]
              have : (ek.1 == UInt16.ofNat n) = false := by simpa using he
              rw [this, Bool.or_false]
            have HT := hid hxt
            have He := hid he
            clear hxt he
            go_wp2
            go_roundg (l.length - (k + 1))
            case measure => have := Hk.out; omega
            case rel =>
              refine ⟨k + 1, by have := Hk.out; omega, rfl, ?_, hu7.trans ((Upd.refl [] wr).alloc _) (by simp)⟩
              rw [← HT.out]
              exact hxk.upd ((Upd.refl [] wr).alloc _) (by simp) (by simp)
        · have hke : l.take k = l := List.take_of_length_le (by omega)
          rw [hke] at hxk
          have hy7 : Byt wr N (.slice A5 d.length c5) d := Row.upd hy6 hu7 (by simp; omega)
          have hrr7 : Rd wr N r s1 := hrr6.upd hu7 (by simp; omega) (by simp; omega)
          have huw : Upd [r] w wr := (HU.out.trans hu6 (by simp; omega)).trans hu7 (by simp; omega)
          have hwl : w.heap.size ≤ wr.heap.size := huw.size
          have hO : Exr (wr.alloc (.cells #[.int .u16 (n : Int), .slice A5 d.length c5] 89)) (wr.heap.size + 1) N (.slice (some ⟨wr.heap.size, 0, none⟩) 1 1) [(UInt16.ofNat n, d)] := by
            have := Exr.one (w := wr) (k := UInt16.ofNat n) hy7
            rwa [← wv_ofNat n hnl] at this
          have HO1 := hid hO
          have hlen : l.length ≤ 4294967297 := by omega
          have HK := hid hke
          clear hO hke
          go_wp2_with (at_builtin; go_must (refine wpList_append_ex rfl _ _ rfl rfl (hown7.alloc _) rfl HO1.out (by simp; omega) (by simp; omega) (by omega) ?_; intro v3 w9 hap))
          go_roundg (x.eRest.twice (l.any (·.1 == x.eKey))).bs.length
          case measure => exact R.eRest_len x Hp.out _
          case rel =>
            have hkey : x.eKey = UInt16.ofNat n := by show UInt16.ofNat (x.num 2).1 = _; rw [Hn.out]
            have hdat : x.eData = d := HD.out
            have hrd := R.extsGo_round x l Hp.out
            have hln := R.eRest_len x Hp.out (l.any (·.1 == x.eKey))
            rw [hkey, hdat] at hrd
            rw [hkey] at hln
            rw [hkey]
            exact xrel_step (by omega) (by assumption) hxk hrr7 hown7 huw hap (by rw [List.length_append]; simp; omega) (HE.out.trans hrd)
end
end Go.Proofs.YtaajmfgplhfncaaGreat
namespace Go.Proofs.YtaajmfgplhfncaaGreat
open Go.RowKit
set_option maxRecDepth 100000
section
variable {w w' : World} {N r : Nat} {s : R} {e : Ending}
def RestP (w : World) (N r : Nat) (s : R) (e : Ending) (w' : World) : Prop :=
  ∃ A c, e = .returned (.slice A s.rest.1.length c) ∧ Byt w' N (.slice A s.rest.1.length c) s.rest.1 ∧ Upd [r] w w' ∧ Rd w' N r s.rest.2
theorem rest_take (x : R) : x.take x.bs.length = (x.bs, ⟨[], x.code⟩) := by
  unfold R.take
  rw [if_neg (show ¬ x.bs.length < x.bs.length by omega)]
  simp
theorem rest_any (hr : Rd w N r s) (hl : s.bs.length ≤ 4294967296) :
    Calls Tryz.prog 80 #[.pointer (some ⟨r, 0, none⟩)] w (RestP w N r s) := by
  obtain ⟨A, c, c0, c1, f0, f1, -, -⟩ := hr.open_
  by_cases h0 : s.bs.length = 0
  · have hz : ((s.bs.length : Int) == 0) = true := by rw [h0]; rfl
    have H := hid (fail_any hr 1)
    have HR := hid (show s.rest1 = s.fail 1 by unfold R.rest1; rw [if_pos h0])
    clear h0
    go_enter Tryz.func80, Tryz.ntmps80
    go_wp2_with fail
    refine H.out.mono ?_
    rintro e w1 ⟨rfl, hu1, hr1⟩
    obtain ⟨A1, c1', d0, d1, e0, e1, -, -⟩ := hr1.open_
    have H2 := hid (take_any hr1 (s.fail 1).bs.length (by rw [fail_bs]; simp))
    clear H hr c0 c1 f0 f1
    go_wp2_with fail
    refine H2.out.mono ?_
    rintro e w2 ⟨v, rfl, hu2, hr2, -, hy2⟩
    have hy2 := hy2.resolve_left (by omega)
    rw [← HR.out] at hy2 hr2
    obtain ⟨A2, c2, rfl, hy2, -, -⟩ := Byt.form hy2 rfl
    go_wp2
    go_ret
    exact ⟨A2, c2, rfl, hy2, hu1.trans hu2 (by simp), hr2⟩
  · have hz : ((s.bs.length : Int) == 0) = false := by rw [beq_eq_false_iff_ne]; omega
    have HR := hid (show s.rest1 = s by unfold R.rest1; rw [if_neg h0])
    have H2 := hid (take_any hr s.bs.length hl)
    clear h0
    go_enter Tryz.func80, Tryz.ntmps80
    go_wp2_with fail
    refine H2.out.mono ?_
    rintro e w2 ⟨v, rfl, hu2, hr2, -, hy2⟩
    have hy2 := hy2.resolve_left (by omega)
    have hy2 : Byt w2 N v s.rest.1 := by unfold R.rest; rw [HR.out]; exact hy2
    have hr2 : Rd w2 N r s.rest.2 := by unfold R.rest; rw [HR.out]; exact hr2
    obtain ⟨A2, c2, rfl, hy2, -, -⟩ := Byt.form hy2 rfl
    go_wp2
    go_ret
    exact ⟨A2, c2, rfl, hy2, hu2, hr2⟩
end
end Go.Proofs.YtaajmfgplhfncaaGreat
namespace Go.Proofs.YtaajmfgplhfncaaGreat
open Go.RowKit
set_option maxRecDepth 100000
section
variable {ops : Array Oper} {Q : Exit → Act → World → Prop} {S : World → Prop} {a : Act} {o : Oper} {T : TypeId} {g k i : Nat} {v : Value} {w : World} {cs zs : Array Value} {K : Act → World → Prop}
theorem yieldsIf_loadvar (p : Operand) (ho : o.op = .load T p) (hw : Region.wanted o (yielded ops a.tmps) = true) (hx : a.eval p = .pointer (some ⟨g, k, none⟩)) (hS : ∀ w, S w → (loadVar T ⟨g, k, none⟩).run Tryz.prog w = .ok v w) : YieldsIf Tryz.prog ops S o v a := by
  refine .inl ⟨hw, fun w h => ?_⟩
  unfold execOp
  simp only [ho, hx, Instr.loadAt, Instr.sureAddr, Sem.run_bind, Sem.run_pure, Result.andThen_ok, hS w h]
theorem wpOp_store_any (hi0 : ops[i]? = some o) (hb : Blk w g T zs) (hi : (Tryz.prog.info? T).map (·.size) = some cs.size) (h1 : cs.all (·.oneCell') = true) (hz : zs.size = cs.size) (hw : Region.wanted o (yielded ops a.tmps) = true) (p q : Operand) (ho : o.op = .store T p q)
    (hx : a.eval p = .pointer (some ⟨g, 0, none⟩)) (hy : a.eval q = .agg cs)
    (hK : ∀ w', Blk w' g T cs → Upd [g] w w' → w'.heap.size = w.heap.size → K (a.put o.dst undef) w') : wpOp Tryz.prog ops Q i K a w := by
  have hu := setCells_upd g cs.toList 0 w
  have hl : 0 + cs.toList.length ≤ zs.size := by rw [hz]; simp
  have hb' := setCells_blk g T cs.toList 0 w zs hb hl
  have e : (zs.toList.take 0 ++ cs.toList ++ zs.toList.drop (0 + cs.toList.length)).toArray = cs := by
    have : zs.toList.drop (0 + cs.toList.length) = [] := by rw [List.drop_eq_nil_iff]; simp [hz]
    rw [this]; simp
  rw [e] at hb'
  unfold wpOp
  simp only [hi0, hw, if_true]
  refine .inl ?_
  refine wp_store_mid T p q ho g 0 cs hx hy ?_ hi h1 (hK _ hb' hu (setCells_size _ _ _ _))
  intro j hj
  have hjz : j < zs.size := by omega
  rw [hb.cell, hb.frozen]
  simp [hjz]
theorem wpOp_enter (hi0 : ops[i]? = some o) (hw : Region.wanted o (yielded ops a.tmps) = true) (f : FuncId) (args : Array Value) (he : (execOp a.eval o).run Tryz.prog w = .ok (.enter f args) w)
    (h : Calls Tryz.prog f args w fun e w' => match e with | .returned v => K (a.put o.dst v) w' | .panicked c => Q (.panic c) a w' | .outgrown => LetsOut Q) : wpOp Tryz.prog ops Q i K a w := by
  unfold wpOp
  simp only [hi0, hw, if_true]
  refine .inl ?_
  unfold Oper.wp
  rw [he]
  exact h.mono fun e w' h => by cases e <;> exact h
end
end Go.Proofs.YtaajmfgplhfncaaGreat
namespace Go.Proofs.YtaajmfgplhfncaaGreat
open Go.RowKit
set_option maxRecDepth 100000
section
variable {w w' : World} {B C N : Nat} {v u content : Value} {L : List Ex}
set_option maxHeartbeats 1000000 in
theorem Types_any (hc : Exr w B N content L) (hl : L.length ≤ 1099511627776) : Calls Tryz.prog 51 #[content] w (fun e w' => ∃ v, e = .returned v ∧ Own w' w.heap.size 22 v ((L.map (·.1)).map wv) ∧ Upd [] w w') := by
  obtain ⟨A, c, rfl, hcr, hlc, hm⟩ := hc.shrink.form
  have HX := hid hl
  clear hl hc
  go_enter Tryz.func51, Tryz.ntmps51
  go_wp2_with fail
  go_loopg [3, 8] L.length (fun gk v i wr => ∃ j : Nat, j + gk = L.length ∧ i = .int .i64 (j : Int) ∧ Own wr w.heap.size 22 v (((L.take j).map (·.1)).map wv) ∧ Upd [] w wr)
  case atStart => exact ⟨0, by omega, rfl, Own.nil_ _ _ _, Upd.refl _ _⟩
  case round =>
    obtain ⟨j, hj0, rfl, hown, hu⟩ := hrel
    have hj : j ≤ L.length := by omega
    have HJ := hid hj0
    clear hj0
    by_cases hlt : j < L.length
    · have hcw := hcr.upd hu (by simp)
      obtain ⟨b, o, rfl, hb, hj', A', c', e0, e1, -, -, -⟩ := hcw.at_ hlt
      have hsz := hu.size
      clear hcw
      obtain ⟨A3, c3, rfl⟩ := Own.formN (n := j) hown (by simp; omega)
      obtain ⟨wX, hwX⟩ : ∃ x, wr.alloc (.cells #[wv (L[j]).1, .slice A' (L[j]).2.length c'] 89) = x := ⟨_, rfl⟩
      obtain ⟨g, hg⟩ : ∃ x, wr.heap.size = x := ⟨_, rfl⟩
      have huX : Upd [] wr wX := by rw [← hwX]; exact (Upd.refl _ _).alloc _
      have hbg : Blk wX g 89 #[wv (L[j]).1, .slice A' (L[j]).2.length c'] := by rw [← hwX, ← hg]; exact Blk.new _ _ _
      have d0 := hbg.cell 0
      simp at d0
      have hsX := huX.size
      have HWX := hid hwX
      have HG := hid hg
      have HU := hid hu
      have HUX := hid huX
      have HO := hid (hown.upd huX (by simp))
      have HS := hid (show w.heap.size ≤ wX.heap.size by omega)
      clear hwX hg huX hbg hu hown hsX hsz
      go_upto_region 5 with fail
      rw [HWX.out, HG.out]
      clear e0 e1
      go_wp2_with (at_builtin; go_must (refine wpList_append_row _ rfl _ _ _ rfl w.heap.size 22 (.int .u16 0) 2 Tryz.underlying24 info_u16 rfl rfl (HO.out.upd ((Upd.refl [] _).alloc _) (by simp)) rfl (Row.one _ _ _) (by intro u hu; simp at hu; subst hu; rfl) (by have := HX.out; simp; omega) (by have := HX.out; simp; omega) (by have := HS.out; simp; omega) ?_; intro v3 w3 hap))
      go_roundg (L.length - (j + 1))
      case measure => have := HJ.out; omega
      case rel =>
        have hap' : Appended (wX.alloc (.cells #[wv (L[j]).1] 22)) w.heap.size 22 (.slice A3 j c3) (((L.take j).map (·.1)).map wv ++ [wv (L[j]).1]) v3 w3 := hap
        refine ⟨j + 1, by have := HJ.out; omega, by go_num, ?_, ((HU.out.trans HUX.out (by simp)).alloc _).trans hap'.2.1 (fun k hk => .inr (HO.out.ge (Option.mem_toList.1 hk)).1)⟩
        rw [List.take_succ_eq_append_getElem hlt, List.map_append, List.map_append]
        exact hap'.1
    · obtain rfl : j = L.length := by omega
      rw [List.take_length] at hown
      go_wp2
      go_ret
      exact ⟨_, rfl, hown, hu⟩
end
end Go.Proofs.YtaajmfgplhfncaaGreat
namespace Go.Proofs.YtaajmfgplhfncaaGreat
open Go.RowKit
set_option maxRecDepth 100000
theorem vecR {n : Nat} {bs x r : List UInt8} (h : lp n bs = some (x, r)) {lo hi : Nat} (h1 : lo ≤ x.length) (h2 : x.length ≤ hi) : (R.mk bs 0).vec n lo hi = (x, ⟨r, 0⟩) := by
  rw [R.vec_some h]
  unfold R.rng
  rw [if_neg (by omega)]
theorem lpR (n : Nat) (x r : List UInt8) (hn : n = 1 ∧ x.length < 256 ∨ n = 2 ∧ x.length < 65536) : lp n (be n x.length ++ (x ++ r)) = some (x, r) := by
  rcases hn with ⟨rfl, h⟩ | ⟨rfl, h⟩
  · exact lp_b1 x r h
  · exact lp_b2 x r h
theorem numR {k n : Nat} (r : List UInt8) (h : beNat (be k n) = n) : (R.mk (be k n ++ r) 0).num k = (n, ⟨r, 0⟩) := by
  have hl := be_len k n
  unfold R.num R.take
  rw [if_neg (by simp [hl])]
  rw [show (be k n ++ r).take k = be k n by rw [← hl, hl, List.take_left' hl], show (be k n ++ r).drop k = r by rw [List.drop_left' hl]]
  rw [h]
theorem beNat_be1 (n : Nat) (h : n < 256) : beNat (be 1 n) = n := by simp [be, beNat]; omega
theorem beNat_be4 (n : Nat) (h : n < 4294967296) : beNat (be 4 n) = n := by simp [be, beNat]; omega
theorem wEndR (l : List UInt16) : (R.mk (wordsB l) 0).wEnd = ⟨[], 0⟩ := by
  unfold R.wEnd
  rw [if_pos (by show (wordsB l).length % 2 = 0; rw [wordsB_len]; omega)]
theorem wordsR (r : List UInt8) (l : List UInt16) : (R.mk r 0).words (wordsB l) = (l, ⟨r, 0⟩) := by
  unfold R.words
  rw [show (R.mk r 0).within (wordsB l) = ⟨wordsB l, 0⟩ from rfl, wEndR, show (R.mk (wordsB l) 0).bs = wordsB l from rfl, wordsOf_wordsB]
  rfl
theorem vecsGoR (n : Nat) (hn : n = 1 ∨ n = 2) : ∀ (ls : List (List UInt8)) (f : Nat), (∀ x ∈ ls, x ≠ [] ∧ x.length < 256 ^ n) → (vecsB n ls).length ≤ f → R.vecsGo n 1 f ⟨vecsB n ls, 0⟩ = (ls, ⟨[], 0⟩)
  | [], f, _, _ => by
    cases f with
    | zero => rfl
    | succ f => unfold R.vecsGo; rw [if_pos (show (R.mk (vecsB n []) 0).bs = [] from rfl)]; rfl
  | x :: ls, f, h, hf => by
    have hx := h x (by simp)
    have e : vecsB n (x :: ls) = be n x.length ++ (x ++ vecsB n ls) := by simp [vecsB]
    have h0 : 0 < x.length := List.length_pos_iff.2 hx.1
    rw [e] at hf ⊢
    have hbl := be_len n x.length
    rw [List.length_append, hbl, List.length_append] at hf
    obtain ⟨g, rfl⟩ : ∃ g, f = g + 1 := ⟨f - 1, by omega⟩
    unfold R.vecsGo
    have hv : (R.mk (be n x.length ++ (x ++ vecsB n ls)) 0).vec n 1 (256 ^ n - 1) = (x, ⟨vecsB n ls, 0⟩) := vecR (lpR n x _ (by rcases hn with rfl | rfl; exact .inl ⟨rfl, hx.2⟩; exact .inr ⟨rfl, hx.2⟩)) h0 (by have := hx.2; omega)
    rw [if_neg (by show be n x.length ++ (x ++ vecsB n ls) ≠ []; intro hh; have := congrArg List.length hh; simp [hbl] at this; omega), hv]
    simp only
    rw [vecsGoR n hn ls g (fun y hy => h y (by simp [hy])) (by omega)]
theorem vectorsR (n : Nat) (hn : n = 1 ∨ n = 2) (r : List UInt8) (ls : List (List UInt8)) (h : ∀ x ∈ ls, x ≠ [] ∧ x.length < 256 ^ n) : (R.mk r 0).vectors (vecsB n ls) n 1 = (ls, ⟨r, 0⟩) := by
  unfold R.vectors
  rw [show (R.mk r 0).within (vecsB n ls) = ⟨vecsB n ls, 0⟩ from rfl, vecsGoR n hn ls _ h (Nat.le_refl _)]
  rfl
section
variable {w w' : World} {B N N' q y n k : Nat} {v content : Value} {bs r x : List UInt8} {l : List UInt16} {ls : List (List UInt8)}
theorem vecS (hq : Rd w N q ⟨bs, 0⟩) (n lo hi : Nat) (h : lp n bs = some (x, r)) (hk : n ≤ 2) (h1 : lo ≤ x.length) (h2 : x.length ≤ hi) :
    Calls Tryz.prog 46 #[.pointer (some ⟨q, 0, none⟩), .int .i64 n, .int .i64 lo, .int .i64 hi] w (fun e w' => ∃ A c, e = .returned (.slice A x.length c) ∧ Upd [q] w w' ∧ Rd w' N q ⟨r, 0⟩ ∧ Byt w' N (.slice A x.length c) x) := by
  refine (vec_any hq n lo hi (by omega)).mono ?_
  rintro e w' ⟨v, rfl, hu, hr, hy⟩
  rw [vecR h h1 h2] at hr hy
  obtain ⟨A, c, rfl, hy, -, -⟩ := Byt.form hy rfl
  exact ⟨A, c, rfl, hu, hr, hy⟩
theorem numS (hq : Rd w N q ⟨be n k ++ r, 0⟩) (hk : n ≤ 4) (h : beNat (be n k) = k) : Calls Tryz.prog 44 #[.pointer (some ⟨q, 0, none⟩), .int .i64 n] w (fun e w' => e = .returned (.int .i64 (k : Int)) ∧ Upd [q] w w' ∧ Rd w' N q ⟨r, 0⟩) := by
  have h2 := num_any hq n hk
  rw [numR r h] at h2
  exact h2
theorem wordsS (hq : Rd w N q ⟨r, 0⟩) (hv : Byt w N v (wordsB l)) (hb : (wordsB l).length ≤ 4294967296) :
    Calls Tryz.prog 47 #[.pointer (some ⟨q, 0, none⟩), v] w (fun e w' => ∃ A c, e = .returned (.slice A l.length c) ∧ Own w' w.heap.size 22 (.slice A l.length c) (l.map wv) ∧ Upd [q] w w' ∧ Rd w' N q ⟨r, 0⟩) := by
  refine (words_any hq hv hb).mono ?_
  rintro e w' ⟨v, rfl, ho, hu, hr⟩
  rw [wordsR] at hr ho
  obtain ⟨A, c, rfl⟩ := ho.formN (n := l.length) (by simp)
  exact ⟨A, c, rfl, ho, hu, hr⟩
theorem vectorsS1 (hq : Rd w N q ⟨r, 0⟩) (hv : Byt w N v (vecsB 1 ls)) (hb : (vecsB 1 ls).length ≤ 4294967296) (h : ∀ x ∈ ls, x ≠ [] ∧ x.length < 256) :
    Calls Tryz.prog 61 #[.pointer (some ⟨q, 0, none⟩), v, .int .i64 1, .int .i64 1] w (fun e w' => ∃ A c, e = .returned (.slice A ls.length c) ∧ Vecs w' w.heap.size N (.slice A ls.length c) ls ∧ Upd [q] w w' ∧ Rd w' N q ⟨r, 0⟩) := by
  refine (vectors_any1 hq hv hb 1).mono ?_
  rintro e w' ⟨v, rfl, ho, hu, hr⟩
  rw [vectorsR 1 (.inl rfl) r ls h] at hr ho
  obtain ⟨us, h1, h2⟩ := ho
  obtain ⟨A, c, rfl⟩ := h1.formN (n := ls.length) h2.length
  exact ⟨A, c, rfl, ⟨us, h1, h2⟩, hu, hr⟩
theorem vectorsS2 (hq : Rd w N q ⟨r, 0⟩) (hv : Byt w N v []) :
    Calls Tryz.prog 61 #[.pointer (some ⟨q, 0, none⟩), v, .int .i64 2, .int .i64 1] w (fun e w' => ∃ A c, e = .returned (.slice A 0 c) ∧ Upd [q] w w' ∧ Rd w' N q ⟨r, 0⟩) := by
  refine (vectors_any2 hq hv (by simp) 1).mono ?_
  rintro e w' ⟨v, rfl, ho, hu, hr⟩
  have e0 : (R.mk r 0).vectors [] 2 1 = ([], ⟨r, 0⟩) := vectorsR 2 (.inr rfl) r [] (by simp)
  rw [e0] at hr ho
  obtain ⟨us, h1, h2⟩ := ho
  obtain ⟨A, c, rfl⟩ := h1.formN (n := 0) h2.length
  exact ⟨A, c, rfl, hu, hr⟩
theorem withinS (hr : Rd w N q ⟨r, 0⟩) (hN : N' ≤ w.heap.size) (hv : Byt w N' v bs) : Calls Tryz.prog 52 #[.pointer (some ⟨q, 0, none⟩), v] w (WithinP w N' ⟨bs, 0⟩) := within_any hr hN hv
theorem doneS (hr : Rd w N q ⟨r, 0⟩) (hy : Rd w N' y ⟨[], 0⟩) (hne : y ≠ q) (hNq : N ≤ y) : Calls Tryz.prog 54 #[.pointer (some ⟨q, 0, none⟩), .pointer (some ⟨y, 0, none⟩)] w (DoneP w N q y ⟨r, 0⟩) := done_any hr hy hne hNq
theorem takeS (hq : Rd w N q ⟨x, 0⟩) (hl : x.length ≤ 4294967296) : Calls Tryz.prog 45 #[.pointer (some ⟨q, 0, none⟩), .int .i64 (x.length : Nat)] w (fun e w' => ∃ A c, e = .returned (.slice A x.length c) ∧ Upd [q] w w' ∧ Rd w' N q ⟨[], 0⟩ ∧ Byt w' N (.slice A x.length c) x) := by
  refine (take_any hq x.length hl).mono ?_
  rintro e w' ⟨v, rfl, hu, hr, -, hy⟩
  rw [show (R.mk x 0).take x.length = (x, ⟨[], 0⟩) from rest_take ⟨x, 0⟩] at hr hy
  replace hy := hy.resolve_left (by simp)
  obtain ⟨A, c, rfl, hy, -, -⟩ := Byt.form hy rfl
  exact ⟨A, c, rfl, hu, hr, hy⟩
theorem takeS32 (hq : Rd w N q ⟨x ++ r, 0⟩) (hx : x.length = 32) : Calls Tryz.prog 45 #[.pointer (some ⟨q, 0, none⟩), .int .i64 32] w (fun e w' => ∃ A c, e = .returned (.slice A x.length c) ∧ Upd [q] w w' ∧ Rd w' N q ⟨r, 0⟩ ∧ Byt w' N (.slice A x.length c) x) := by
  refine (take_any hq 32 (by omega)).mono ?_
  rintro e w' ⟨v, rfl, hu, hr, -, hy⟩
  have e0 : (R.mk (x ++ r) 0).take 32 = (x, ⟨r, 0⟩) := by
    unfold R.take
    rw [if_neg (by show ¬ (x ++ r).length < 32; simp; omega)]
    show ((x ++ r).take 32, R.mk ((x ++ r).drop 32) 0) = _
    rw [← hx, List.take_left, List.drop_left]
  rw [e0] at hr hy
  replace hy := hy.resolve_left (by show ¬ (x ++ r).length < 32; simp; omega)
  obtain ⟨A, c, rfl, hy, -, -⟩ := Byt.form hy rfl
  exact ⟨A, c, rfl, hu, hr, hy⟩
theorem restS (hq : Rd w N q ⟨x, 0⟩) (hl : x.length ≤ 4294967296) (h0 : x ≠ []) : Calls Tryz.prog 80 #[.pointer (some ⟨q, 0, none⟩)] w (fun e w' => ∃ A c, e = .returned (.slice A x.length c) ∧ Upd [q] w w' ∧ Rd w' N q ⟨[], 0⟩ ∧ Byt w' N (.slice A x.length c) x) := by
  refine (rest_any hq hl).mono ?_
  rintro e w' ⟨A, c, rfl, hy, hu, hr⟩
  have e0 : (R.mk x 0).rest = (x, ⟨[], 0⟩) := by
    have h1 : (R.mk x 0).rest1 = ⟨x, 0⟩ := by unfold R.rest1; rw [if_neg (by simpa using h0)]
    unfold R.rest
    rw [h1, rest_take]
  rw [e0] at hy hr
  exact ⟨A, c, by rw [e0], hu, hr, hy⟩
set_option maxHeartbeats 1000000 in
theorem texts_any (hc : Lst w B content ls) (hl : ls.length ≤ 1099511627776) (hxs : ∀ x ∈ ls, x.length ≤ 2147483647) :
    Calls Tryz.prog 62 #[content] w (fun e w' => ∃ A c, e = .returned (.slice A ls.length c) ∧ Own w' w.heap.size 9 (.slice A ls.length c) (ls.map strv) ∧ Upd [] w w') := by
  obtain ⟨A, c, rfl, hcr, hlc, hm⟩ := hc.shrink.form
  have HX := hid hl
  have HXS := hid hxs
  clear hl hc hxs
  go_enter Tryz.func62, Tryz.ntmps62
  go_wp2_with fail
  go_loopg [3, 8] ls.length (fun gk v i wr => ∃ j : Nat, j + gk = ls.length ∧ i = .int .i64 (j : Int) ∧ Own wr w.heap.size 9 v ((ls.take j).map strv) ∧ Upd [] w wr)
  case atStart => exact ⟨0, by omega, rfl, Own.nil_ _ _ _, Upd.refl _ _⟩
  case round =>
    obtain ⟨j, hj0, rfl, hown, hu⟩ := hrel
    have hj : j ≤ ls.length := by omega
    have HJ := hid hj0
    clear hj0
    by_cases hlt : j < ls.length
    · have hcw := hcr.upd hu (by simp)
      obtain ⟨b, o, rfl, hb, hj', A', c', hcell, hy, hy1, hy2⟩ := hcw.at_ hlt
      have hsz := hu.size
      have hxl := HXS.out _ (List.getElem_mem hlt)
      obtain ⟨A3, c3, rfl⟩ := Own.formN (n := j) hown (by simp; omega)
      have HO := hid hown
      have HU := hid hu
      have HS := hid hsz
      clear hcw hsz hown hu
      have hcv := conv_bytes 23 Tryz.underlying23 hy
      go_wp2_with (first
        | (at_builtin; go_must (refine wpList_append_row _ rfl _ _ _ rfl w.heap.size 9 (strv []) 16 Tryz.underlying25 (by kernel_rfl) rfl rfl (HO.out.upd ((Upd.refl [] _).alloc _) (by simp)) rfl (Row.one _ _ _) (by intro u hu; simp at hu; subst hu; rfl) (by have := HX.out; simp; omega) (by have := HX.out; simp; omega) (by have := HS.out; simp; omega) ?_; intro v3 w3 hap)))
      go_roundg (ls.length - (j + 1))
      case measure => have := HJ.out; omega
      case rel =>
        have hap' : Appended (wr.alloc (.cells #[strv ls[j]] 9)) w.heap.size 9 (.slice A3 j c3) ((ls.take j).map strv ++ [strv ls[j]]) v3 w3 := hap
        refine ⟨j + 1, by have := HJ.out; omega, by go_num, ?_, (HU.out.alloc _).trans hap'.2.1 (fun k hk => .inr (HO.out.ge (Option.mem_toList.1 hk)).1)⟩
        rw [List.take_succ_eq_append_getElem hlt, List.map_append]
        exact hap'.1
    · obtain rfl : j = ls.length := by omega
      rw [List.take_length] at hown
      obtain ⟨A3, c3, rfl⟩ := Own.formN (n := ls.length) hown (by simp)
      go_wp2
      go_ret
      exact ⟨_, _, rfl, hown, hu⟩
end
end Go.Proofs.YtaajmfgplhfncaaGreat

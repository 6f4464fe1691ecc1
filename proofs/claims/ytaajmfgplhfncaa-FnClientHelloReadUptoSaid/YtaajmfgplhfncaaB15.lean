/- Texts joined: WSt, ChZ, ChY, RdB, ChB, ChU0, ChU1, ChU2, ChU3. -/
import Derived.Deep.LoopGhost
import Derived.Test.YtaajmfgplhfncaaB06
import Derived.Test.YtaajmfgplhfncaaB14
import Derived.Test.YtaajmfgplhfncaaB13
import Derived.Test.YtaajmfgplhfncaaB03
import Derived.Test.YtaajmfgplhfncaaB09
import Derived.Test.YtaajmfgplhfncaaB07
namespace Go.Proofs.Ytaajmfgplhfncaa
open Go.RowKit
set_option maxRecDepth 100000
def WSt (w : World) (p m : Nat) (T : TypeId) (cs : Array Value) (wi : World) (s : Wr) : Prop :=
  ∃ v, Wrt wi p p v s ∧ Upd [] w wi ∧ Blk wi m T cs ∧ m < p ∧ w.heap.size ≤ m
section
variable {w wi w2 w3 : World} {p m : Nat} {T : TypeId} {cs : Array Value} {s s' : Wr} {e : Ending} {xs : List UInt8} {v v3 : Value}
theorem WSt.up (h : WSt w p m T cs wi s) : Upd [] w wi := by obtain ⟨_, _, h, _⟩ := h; exact h
theorem WSt.blk (h : WSt w p m T cs wi s) : Blk wi m T cs := by obtain ⟨_, _, _, h, _⟩ := h; exact h
theorem WSt.open_ (h : WSt w p m T cs wi s) : ∃ v, Wrt wi p p v s ∧ ∀ s' e w2, WrtP wi p p v s' e w2 → e = .returned (.tuple #[]) ∧ WSt w p m T cs w2 s' := by
  obtain ⟨v, h1, h2, h3, h4, h5⟩ := h
  refine ⟨v, h1, fun s' e w2 hp => ?_⟩
  obtain ⟨he, v', k1, k2, -⟩ := hp
  have hge : ∀ x ∈ p :: v.ownBlock.toList, p ≤ x := by
    intro x hx
    rcases List.mem_cons.1 hx with hx | hx
    · omega
    · exact (h1.2.2.ge (Option.mem_toList.1 hx)).1
  exact ⟨he, v', k1, h2.trans k2 (fun x hx => .inr (by have := hge x hx; omega)), h3.upd k2 (fun hm => by have := hge m hm; omega), h4, h5⟩
theorem WSt.app (h : WSt w p m T cs wi s) (hw : Wrt wi p p v s) (hap : Appended wi p 5 v (s.b.map bv ++ xs.map bv) v3 w3) : WSt w p m T cs (w3.setCell ⟨p, 0, none⟩ v3) ⟨s.b ++ xs, s.bad⟩ := by
  obtain ⟨v0, k1, k2, k3, k4, k5⟩ := h
  have hp := wvec_end (s3 := ⟨s.b ++ xs, s.bad⟩) (Upd.refl (p :: v.ownBlock.toList) wi) (.inl rfl) hw hap rfl
  obtain ⟨_, v', q1, q2, -⟩ := hp
  have hge : ∀ x ∈ p :: v.ownBlock.toList, p ≤ x := by
    intro x hx
    rcases List.mem_cons.1 hx with hx | hx
    · omega
    · exact (hw.2.2.ge (Option.mem_toList.1 hx)).1
  exact ⟨v', q1, k2.trans q2 (fun x hx => .inr (by have := hge x hx; omega)), k3.upd q2 (fun hm => by have := hge m hm; omega), k4, k5⟩
theorem WSt.byt (h : WSt w p m T cs wi s) {B : Nat} {c : Value} (hc : Byt w B c xs) : Byt wi w.heap.size c xs := Row.upd (Row.shrink hc) h.up (by simp)
theorem WSt.src (h : WSt w p m T cs wi s) {B : Nat} {c : Value} (hc : Byt w B c xs) (v : Value) : Src wi p p v c xs := by
  have hb := h.byt hc
  obtain ⟨_, _, _, _, h4, h5⟩ := h
  exact ⟨_, hb, .inl (by omega)⟩
end
end Go.Proofs.Ytaajmfgplhfncaa
namespace Go.Proofs.Ytaajmfgplhfncaa
open Go.RowKit
set_option maxRecDepth 100000
theorem WSt.open2 {w wi wj : World} {p m : Nat} {T : TypeId} {cs : Array Value} {s : Wr} (h : WSt w p m T cs wi s) (hu : Upd [] wi wj) : ∃ v, Wrt wj p p v s ∧ (∀ k, v.ownBlock = some k → k < wi.heap.size) ∧ p < wi.heap.size ∧ ∀ s' e w2, WrtP wj p p v s' e w2 → e = .returned (.tuple #[]) ∧ WSt w p m T cs w2 s' := by
  obtain ⟨v, h1, h2, h3, h4, h5⟩ := h
  refine ⟨v, h1.upd hu (by simp) (by simp), fun k hk => (h1.2.2.ge hk).2, h1.2.1.lt, fun s' e w2 hp => ?_⟩
  obtain ⟨he, v', k1, k2, -⟩ := hp
  have hge : ∀ x ∈ p :: v.ownBlock.toList, p ≤ x := by
    intro x hx
    rcases List.mem_cons.1 hx with hx | hx
    · omega
    · exact (h1.2.2.ge (Option.mem_toList.1 hx)).1
  exact ⟨he, v', k1, (h2.trans hu (by simp)).trans k2 (fun x hx => .inr (by have := hge x hx; omega)), (h3.upd hu (by simp)).upd k2 (fun hm => by have := hge m hm; omega), h4, h5⟩
section
variable {w w' : World} {B C N : Nat} {v content : Value} {t : Ch} {L : List Ex}
set_option maxHeartbeats 8000000 in
theorem Write_Ch (hv : ChV w B v t) (hz : ChSz t) (hc : Exr w C N content L) (hx : (exsB L).length ≤ 1000000000000) : Calls Try.prog 10 #[v, content] w (MsgP w (messageW 1 (chW t L))) := by
  obtain ⟨A3, c3, rfl, hc, -, -⟩ := hc.shrink.form
  obtain ⟨cs1, rfl, -⟩ := ChV.ok.agg hv
  obtain ⟨w1, hw1⟩ : ∃ w1, (w.alloc (.cells cs1 29)).alloc (.cells #[.slice none 0 0, .bool false] 54) = w1 := ⟨_, rfl⟩
  obtain ⟨s, hs⟩ : ∃ s, w.heap.size = s := ⟨_, rfl⟩
  have hu1 : Upd [] w w1 := by rw [← hw1]; exact ((Upd.refl _ _).alloc _).alloc _
  have hS : WSt w (s + 1) s 29 cs1 w1 Wr.nil := by
    refine ⟨.slice none 0 0, ⟨Nat.le_refl _, ?_, Own.nil_ _ _ _⟩, hu1, ?_, by omega, by omega⟩
    · have h := Blk.new (w.alloc (.cells cs1 29)) 54 #[.slice none 0 0, .bool false]
      rw [show (w.alloc (.cells cs1 29)).heap.size = s + 1 by simp [hs]] at h
      rw [← hw1]; exact h
    · rw [← hw1, ← hs]; exact (Blk.new _ _ _).alloc _
  have HC0 := hid (GV.val hv (i := 0) (u := wv t.vers) rfl)
  obtain ⟨A1, c1, a1, y1⟩ := GV.byt hv (i := 1) (l := t.random) rfl
  obtain ⟨A2, c2, a2, y2⟩ := GV.byt hv (i := 2) (l := t.sid) rfl
  obtain ⟨A5, c5, a3, y3⟩ := GV.row hv (i := 3) (us := t.suites.map wv) rfl (n := t.suites.length) (by simp)
  obtain ⟨A4, c4, a4, y4⟩ := GV.byt hv (i := 4) (l := t.comps) rfl
  have HC1 := hid a1
  have HC2 := hid a2
  have HC3 := hid a3
  have HC4 := hid a4
  have HX := hid hx
  have HW := hid hw1
  have HS := hid hs
  have HC := hid hc
  have Z1 := hid (Nat.le_trans hz.random (show 1048576 ≤ 2147483647 by omega))
  have Z2 := hid (Nat.le_trans hz.sid (show 1048576 ≤ 2147483647 by omega))
  have Z3 := hid (Nat.le_trans hz.suites (show 1048576 ≤ 2147483647 by omega))
  have Z4 := hid (Nat.le_trans hz.comps (show 1048576 ≤ 2147483647 by omega))
  have HY1 := hid y1
  have HY2 := hid y2
  have HY3 := hid y3.shrink
  have HY4 := hid y4
  have hr0 : IntKind.i64.wrap (t.vers.toNat : Int) = (t.vers.toNat : Int) := by have hu := t.vers.toNat_lt; rw [IntKind.wrap_i64]; omega
  have q0 := t.vers.toNat_lt
  clear hx hw1 hs hc hz hu1 y1 y2 y3 y4 a1 a2 a3 a4 hv
  obtain ⟨v1, hk1, nx⟩ := hS.open_
  have H := hid (wnum_any hk1 2 t.vers.toNat (by omega) (by simp [Wr.nil]))
  have d0 := hS.blk.at_ HC0.out
  clear hS
  go_enter Try.func10, Try.ntmps10
  go_upto_region 2 with fail
  rw [HW.out, HS.out]
  go_wp2_with fail
  refine H.out.mono ?_
  intro e w2 hp
  obtain ⟨rfl, hS⟩ := nx _ _ _ hp
  obtain ⟨W1, hW1⟩ : ∃ x, Wr.nil.num 2 t.vers.toNat = x := ⟨_, rfl⟩
  have hl1 : W1.b.length = 2 := by rw [← hW1]; simp [Wr.num, Wr.nil, be_len]
  rw [hW1] at hS
  clear nx hk1 H d0 hp
  -- the random one is appended
  have hy1 := hS.byt HY1.out
  have hS0 := hS
  obtain ⟨v2, hk2, -⟩ := hS.open_
  obtain ⟨A2_, c2_, hv2e, e0, e1, g0, g1⟩ := hk2.open_
  have d1 := hS.blk.at_ HC1.out
  have hpn : s + 1 ∉ v2.ownBlock.toList := fun hm => hk2.2.2.ne hk2.2.1 (by decide) _ (Option.mem_toList.1 hm) rfl
  have Hv2e := hid hv2e
  have HL1 := hid hl1
  have HS0 := hid hS0
  have HKO := hid hk2
  have hown2 := hk2.2.2
  have hlt2 := hk2.2.1.lt
  clear hv2e hl1 hS hS0
  rw [← Hv2e.out] at e0
  go_upto_region 4 with (at_builtin; go_must (refine wpList_append_row _ rfl _ _ _ rfl (s + 1) 5 (.int .u8 0) 1 Try.underlying23 info_u8 rfl rfl hown2 rfl hy1 (byt_oneCell t.random) (by have := HL1.out; have := Z1.out; simp; omega) (by have := HL1.out; have := Z1.out; simp; omega) (by omega) ?_; intro v3 w3 hap; have hb3 := hk2.2.1.upd hap.2.1 hpn; have f0 := hb3.cell 0; simp at f0; have f1 := hb3.frozen 0; have HAP := hid (HS0.out.app HKO.out hap); obtain ⟨A9, c9, hv9⟩ := Own.formN (n := W1.b.length + t.random.length) hap.1 (by simp); subst hv9; clear hap))
  obtain ⟨W2, hW2⟩ : ∃ x : Wr, (⟨W1.b ++ t.random, W1.bad⟩ : Wr) = x := ⟨_, rfl⟩
  have hl2 : W2.b.length ≤ 2147483649 := by rw [← hW2]; have := HL1.out; have := Z1.out; simp; omega
  have hS := HAP.out
  rw [hW2] at hS
  obtain ⟨w4, hw4⟩ : ∃ x, w3.setCell ⟨s + 1, 0, none⟩ (.slice A9 (W1.b.length + t.random.length) c9) = x := ⟨_, rfl⟩
  rw [hw4] at hS ⊢
  clear hw4 HAP f0 f1 hb3 HS0 HKO hown2 hlt2 hpn hk2 hy1 d1 e0 e1 g0 g1 Hv2e
  obtain ⟨v3, hk3, nx⟩ := hS.open_
  have H := hid (wvec_any1 hk3 (hS.src HY2.out _) (by omega) (by have := Z2.out; omega))
  have d := hS.blk.at_ HC2.out
  clear hS
  go_wp2_with fail
  refine H.out.mono ?_
  intro e w5 hp
  obtain ⟨rfl, hS⟩ := nx _ _ _ hp
  obtain ⟨W3, hW3⟩ : ∃ x, W2.vec 1 t.sid = x := ⟨_, rfl⟩
  have hl3 : W3.b.length ≤ 4294967298 := by rw [← hW3]; have := Z2.out; simp [Wr.num, Wr.vec, be_len]; omega
  rw [hW3] at hS
  clear nx hk3 H d hp
  -- the cipher suites
  have hy3 := Row.upd HY3.out hS.up (by simp)
  have H := hid (words_any_w hy3 (by have := Z3.out; omega))
  have d := hS.blk.at_ HC3.out
  have HSS := hid hS
  clear hS hy3
  go_wp2_with fail
  refine H.out.mono ?_
  rintro e w6 ⟨v6, rfl, hy6, hn6, ⟨A6, n6, c6, rfl⟩, hu6⟩
  obtain ⟨v4, hk4, hvo4, hpo4, nx⟩ := HSS.out.open2 hu6
  have hsz6 := hu6.size
  have hq4 : ∀ k, (Value.slice A6 n6 c6).ownBlock = some k → k ≠ s + 1 ∧ v4.ownBlock ≠ some k := by
    intro k hk
    have := hn6 k hk
    exact ⟨by omega, fun h => by have := hvo4 k h; omega⟩
  have hwl : (wordsW t.suites).b.length ≤ 4294967294 := by show (wordsB t.suites).length ≤ _; rw [wordsB_len]; have := Z3.out; omega
  have H := hid (winner_any2 hk4 ⟨_, hy6, .inr hq4⟩ (wordsW t.suites).bad (by omega) (by omega))
  have HWL := hid hwl
  clear hy6 hn6 hu6 hsz6 hq4 hwl HSS d hvo4 hpo4
  go_wp2_with fail
  refine H.out.mono ?_
  intro e w7 hp
  obtain ⟨rfl, hS⟩ := nx _ _ _ hp
  obtain ⟨W4, hW4⟩ : ∃ x, W3.inner 2 (wordsW t.suites) = x := ⟨_, rfl⟩
  have hl4 : W4.b.length ≤ 8589934594 := by rw [← hW4]; have := HWL.out; simp [Wr.inner, Wr.vec, be_len]; omega
  have hW4' : W3.inner 2 ⟨(wordsW t.suites).b, (wordsW t.suites).bad⟩ = W4 := hW4
  rw [hW4'] at hS
  clear nx hk4 H hp hW4' HWL
  obtain ⟨v5, hk5, nx⟩ := hS.open_
  have H := hid (wvec_any1 hk5 (hS.src HY4.out _) (by omega) (by have := Z4.out; omega))
  have d := hS.blk.at_ HC4.out
  clear hS
  go_wp2_with fail
  refine H.out.mono ?_
  intro e w7 hp
  obtain ⟨rfl, hS⟩ := nx _ _ _ hp
  obtain ⟨W5, hW5⟩ : ∃ x, W4.vec 1 t.comps = x := ⟨_, rfl⟩
  have hl5 : W5.b.length ≤ 12884901888 := by rw [← hW5]; have := Z4.out; simp [Wr.vec, be_len]; omega
  rw [hW5] at hS
  clear nx hk5 H d hp
  have hWE : chHeadW t = W5 := by rw [← hW5, ← hW4, ← hW3, ← hW2, ← hW1]; rfl
  clear hW1 hW2 hW3 hW4 hW5
  obtain ⟨v8, hk8, -⟩ := hS.open_
  have hU7 := hS.up
  obtain ⟨A8_, c8_, hv8, e0, e1, g0, g1⟩ := hk8.open_
  have hrow := hk8.2.2.row
  rw [hv8] at hrow
  have hbw := hk8.2.1
  rw [hv8] at hbw
  have hc7 := HC.out.upd hU7 (by simp)
  have hsw : w.heap.size ≤ s := by have := HS.out; omega
  have HL5 := hid hl5
  have HWE := hid hWE
  clear hS hk8 hv8 hl2 hl3 hl4 hl5 hWE HY1 HY2 HY3 HY4 HC HC0 HC1 HC2 HC3 HC4
  go_upto_region 7 with fail
  by_cases hLn : L = []
  · subst hLn
    have t0 : decide ((0 : Int) < (([] : List Ex).length : Int)) = false := rfl
    have H := hid (message_any 1 W5.bad hrow (by have := HL5.out; omega))
    go_wp2_with fail
    refine H.out.mono ?_
    rintro e w9 ⟨v9, rfl, hy9, hn9, ⟨A9, n9, c9, rfl⟩, hu9⟩
    have HF := hid (hU7.trans hu9 (by simp))
    have HN := hid (fun k (hk : (Value.slice A9 n9 c9).ownBlock = some k) => Nat.le_trans hU7.size (hn9 k hk))
    have HY := hid hy9
    have HM : Hid (messageW 1 ⟨W5.b, W5.bad⟩ = messageW 1 (chW t [])) := hid (by rw [← HWE.out]; rfl)
    clear hy9 hn9 hu9
    rw [HM.out] at HY ⊢
    go_wp2
    go_ret2
    exact ⟨_, rfl, HY.out, HN.out, ⟨_, _, _, rfl⟩, HF.out⟩
  · have t0 : decide (0 < L.length) = true := decide_eq_true (List.length_pos_iff.2 hLn)
    have hel : (exsW L).b.length ≤ 1000000000002 := by rw [exsW_eq]; simp [be_len]; have := HX.out; omega
    have HEL := hid hel
    have hm5 : messageW 1 (behindW ⟨W5.b, W5.bad⟩ ⟨(exsW L).b, (exsW L).bad⟩) = messageW 1 (chW t L) := by
      unfold chW
      rw [if_neg hLn, HWE.out]
    have HM := hid hm5
    clear hLn hel hm5
    go_wp2_with fail
    try simp only [List.append_eq, List.cons_append, List.nil_append]
    go_region_with (first
      | (go_at_call 35; refine (extensions_any_w (hc7.upd ((Upd.refl [] w7).drew) (by simp)) (by have := HX.out; omega)).mono ?_; rintro e w8 ⟨v8, rfl, hy8, hn8, ⟨A8x, n8x, c8x, rfl⟩, hu8⟩; have hb8 := (Blk.drew hbw).upd hu8 (by simp); have s0 := hb8.cell 0; have s1 := hb8.cell 1; simp at s0 s1; have hrow8 := Row.upd (Row.drew hrow) hu8 (by simp); have hU8 := (hU7.drew).trans hu8 (by simp))
      | (go_at_call 29; refine (behind_any hrow8 hy8 W5.bad _ (by have := HL5.out; omega) (by have := HEL.out; omega)).mono ?_; rintro e w10 ⟨v10, rfl, hy10, hn10, ⟨A10, n10, c10, rfl⟩, hu10⟩; have hb10 := hb8.upd hu10 (by simp); have hU10 := hU8.trans hu10 (by simp); have hlt8 := hb8.lt; have hP := wval_put (w := w) (r0 := s + 1) (by omega) hb10 hy10 (fun k hk => by have := hn10 k hk; have := hU8.size; omega) (fun g hg => by have := hn10 g hg; omega) ⟨A10, n10, c10, rfl⟩ hU10; have g2 := hb10.frozen 0; have g3 := hb10.frozen 1; have z0 := hb10.cell 0; have z1 := hb10.cell 1; simp at z0 z1))
    all_goals
      obtain ⟨hbP, vP, hvP, hyP, hnP, hsP, huP⟩ := hP
      cases hvP
      have k0 := hbP.cell 0
      have k1 := hbP.cell 1
      simp only [List.getElem?_toArray, List.getElem?_cons_zero, List.getElem?_cons_succ] at k0 k1
      have H := hid (message_any 1 (behindW ⟨W5.b, W5.bad⟩ ⟨(exsW L).b, (exsW L).bad⟩).bad hyP (by show (W5.b ++ (exsW L).b).length ≤ _; rw [List.length_append]; have := HL5.out; have := HEL.out; omega))
      obtain ⟨wP, hwP⟩ : ∃ x, (w10.setCell ⟨s + 1, 0, none⟩ (.slice A10 n10 c10)).setCell ⟨s + 1, 1, none⟩ (.bool (behindW ⟨W5.b, W5.bad⟩ ⟨(exsW L).b, (exsW L).bad⟩).bad) = x := ⟨_, rfl⟩
      rw [hwP] at H k0 k1 huP
      try rw [hwP]
      clear hb10 hb8 z0 z1 s0 s1 hbP hyP hy10 hy8 hrow8 hrow hbw hc7
      go_wp2_with fail
      refine H.out.mono ?_
      rintro e w9 ⟨v9, rfl, hy9, hn9, ⟨A9, n9, c9, rfl⟩, hu9⟩
      have HF := hid (huP.trans hu9 (by simp))
      have HN := hid (fun k (hk : (Value.slice A9 n9 c9).ownBlock = some k) => Nat.le_trans huP.size (hn9 k hk))
      have HY := hid hy9
      have HM2 : Hid (messageW 1 ⟨(behindW ⟨W5.b, W5.bad⟩ ⟨(exsW L).b, (exsW L).bad⟩).b, (behindW ⟨W5.b, W5.bad⟩ ⟨(exsW L).b, (exsW L).bad⟩).bad⟩ = messageW 1 (chW t L)) := hid HM.out
      clear hy9 hn9 hu9
      rw [HM2.out] at HY ⊢
      go_wp2
      go_ret2
      exact ⟨_, rfl, HY.out, HN.out, ⟨_, _, _, rfl⟩, HF.out⟩
end
end Go.Proofs.Ytaajmfgplhfncaa
namespace Go.Proofs.Ytaajmfgplhfncaa
open Go.RowKit
set_option maxRecDepth 100000
theorem bz_sum (l : List Item) : (l.map fun i => bz i.1 (4 + i.2.2.b.length)).sum ≤ (l.map fun i => 4 + i.2.2.b.length).sum := by
  induction l with
  | nil => exact Nat.le_refl _
  | cons x l ih =>
    simp only [List.map_cons, List.sum_cons]
    have : bz x.1 (4 + x.2.2.b.length) ≤ 4 + x.2.2.b.length := by cases x.1 <;> simp [bz]
    omega
theorem vector_len (n : Nat) (x : Wr) : (Wr.vector n x).b.length = n + x.b.length := by rw [vector_b, List.length_append, be_len]
theorem sum_le {α : Type} (f : α → Nat) (K : Nat) : ∀ l : List α, (∀ i ∈ l, f i ≤ K) → (l.map f).sum ≤ l.length * K
  | [], _ => by simp
  | x :: l, h => by
    have h1 := h x (by simp)
    have h2 := sum_le f K l (fun i hi => h i (by simp [hi]))
    rw [List.map_cons, List.sum_cons, List.length_cons, Nat.succ_mul]
    omega
theorem item_len {t : Ch} (hZ : ChSz t) : ∀ i, i < 19 → (chItem t i).2.2.b.length ≤ 16777000 := by
  intro i hi
  have e : i = 0 ∨ i = 1 ∨ i = 2 ∨ i = 3 ∨ i = 4 ∨ i = 5 ∨ i = 6 ∨ i = 7 ∨ i = 8 ∨ i = 9 ∨ i = 10 ∨ i = 11 ∨ i = 12 ∨ i = 13 ∨ i = 14 ∨ i = 15 ∨ i = 16 ∨ i = 17 ∨ i = 18 := by omega
  have ew : ∀ l : List UInt16, (wordsW l).b.length = 2 * l.length := fun l => wordsB_len l
  have ev : ∀ (n : Nat) (x : Wr), x.b.length ≤ 16000000 → n ≤ 2 → (Wr.vector n x).b.length ≤ 16777000 := fun n x h hn => by rw [vector_len]; omega
  have hw : ∀ (n : Nat) (l : List UInt16), l.length ≤ 1048576 → n ≤ 2 → (Wr.vector n (wordsW l)).b.length ≤ 16777000 := fun n l h hn => ev n _ (by rw [ew]; omega) hn
  have hp : ∀ (n : Nat) (l : List UInt8), l.length ≤ 1048576 → n ≤ 2 → (Wr.vector n (Wr.plain l)).b.length ≤ 16777000 := fun n l h hn => ev n _ (Nat.le_trans h (by omega)) hn
  have hq : ∀ (l : List UInt8), l.length ≤ 1048576 → (Wr.plain l).b.length ≤ 16777000 := fun l h => Nat.le_trans h (by omega)
  have hz : Wr.nil.b.length ≤ 16777000 := Nat.zero_le _
  rcases e with rfl | rfl | rfl | rfl | rfl | rfl | rfl | rfl | rfl | rfl | rfl | rfl | rfl | rfl | rfl | rfl | rfl | rfl | rfl
  · exact ev 2 (hostW t.host) (by rw [hostW_b]; have := hZ.host; simp [be_len]; omega) (by omega)
  · show statusW.b.length ≤ 16777000; rw [statusW_b]; simp
  · exact hw 2 _ hZ.curves (by omega)
  · exact hp 1 _ hZ.pts (by omega)
  · exact hq _ hZ.tick
  · exact hw 2 _ hZ.sig (by omega)
  · exact hw 2 _ hZ.sigc (by omega)
  · exact hp 1 _ hZ.rn (by omega)
  · exact hz
  · exact ev 2 (vecsW 1 t.alpn) (by have := vecsB_lst 1 t.alpn; have := hZ.alpn; show (vecsB 1 t.alpn).length ≤ _; omega) (by omega)
  · exact hz
  · exact hw 1 _ hZ.sv (by omega)
  · exact hp 2 _ hZ.cookie (by omega)
  · exact ev 2 (kshW (chKs t)) (by have := kshB_cost (chKs t); have := hZ.vks; show (kshB (chKs t)).length ≤ _; omega) (by omega)
  · exact hz
  · exact hp 1 _ hZ.modes (by omega)
  · exact hq _ hZ.qtp
  · exact hq _ hZ.ech
  · show ((Wr.vector 2 (identsW (chPs t))).b ++ (Wr.vector 2 (vecsW 1 t.pb)).b).length ≤ 16777000
    rw [List.length_append, vector_len, vector_len]
    have k1 : (identsW (chPs t)).b.length ≤ 8388608 := Nat.le_trans (identsB_cost (chPs t)) hZ.vps
    have k2 : (vecsW 1 t.pb).b.length ≤ 2097152 := Nat.le_trans (vecsB_lst 1 t.pb) (Nat.mul_le_mul_left 2 hZ.pb)
    omega
theorem chE_len {t : Ch} (hZ : ChSz t) : (exsB (chE t)).length ≤ 1000000000 := by
  have hs : (exsB (chE t)).length ≤ ((chItems t).map fun i => 4 + i.2.2.b.length).sum := by
    rw [chE_eq, itemsE_size]
    exact bz_sum (chItems t)
  have hl : (chItems t).length = 19 := rfl
  have h2 := sum_le (fun i : Item => 4 + i.2.2.b.length) 16777004 (chItems t) (fun x hx => by
    unfold chItems at hx
    obtain ⟨i, hi, rfl⟩ := List.mem_map.1 hx
    have hi19 : i < 19 := by
      simp only [List.mem_cons, List.not_mem_nil, or_false] at hi
      omega
    have := item_len hZ i hi19
    show 4 + _ ≤ _
    omega)
  rw [hl] at h2
  exact Nat.le_trans hs (Nat.le_trans h2 (by decide))
section
variable {w w' : World} {B : Nat} {v : Value} {t : Ch}
end
end Go.Proofs.Ytaajmfgplhfncaa
namespace Go.Proofs.Ytaajmfgplhfncaa
open Go.RowKit
set_option maxRecDepth 100000
section
variable {w w' : World} {N b : Nat} {bs : List UInt8} {nn : Prop}
theorem ReadBytes_ok (h : Sv w N b bs nn) (n : Nat) (hn : n ≤ bs.length) (hnn : 0 < n ∨ nn) {ob k : Nat} {T : TypeId} {cs : Array Value} (ho : Blk w ob T cs) (hk : k < cs.size) (hne : ob ≠ b) (hNo : N ≤ ob) :
    Calls Try.prog 53 #[.pointer (some ⟨b, 0, none⟩), .pointer (some ⟨ob, k, none⟩), .int .i64 n] w (LpP w N b (bs.take n) (bs.drop n) ob T cs k) := by
  have q : ∀ (w : World) (a : Option Addr) (n c n' c' : Nat), (binOp .eql 23 (.slice a n c) (.slice none n' c')).run Try.prog w = .ok (.bool a.isNone) w := fun w a n c n' c' => Lib.run_eql_slice_nil w _ _ a n c n' c' Try.underlying23
  obtain ⟨y, hy0⟩ : ∃ y, cs[k]? = some y := ⟨_, Array.getElem?_eq_getElem hk⟩
  have HY := hid hy0
  clear hy0
  go_enter Try.func53, Try.ntmps53
  go_wp2_with fail
  refine (read_ok h n hn hnn).mono ?_
  rintro e w1 ⟨u, rfl, ⟨a, n', c, rfl⟩, hy, hu, hs⟩
  have ho1 := ho.upd hu (by simpa using hne)
  have c0 := (ho1.cell k).trans HY.out
  have f0 := ho1.frozen k
  go_wp2
  go_ret
  have hu2 : Upd [ob] w1 (w1.setCell ⟨ob, k, none⟩ (.slice (some a) n' c)) := (Upd.refl _ _).setCell (by simp) _
  exact ⟨_, rfl, (hu.mono (by simp)).trans hu2 (by simp), hs.upd hu2 (by simpa using hNo) (by simpa using Ne.symm hne), ho1.set_ k _, Row.upd hy hu2 (by simpa using hNo), ⟨_, _, _, rfl⟩⟩
end
end Go.Proofs.Ytaajmfgplhfncaa
namespace Go.Proofs.Ytaajmfgplhfncaa
open Go.RowKit
set_option maxRecDepth 100000
section
variable {w w' : World} {N b : Nat} {bs : List UInt8} {nn : Prop}
theorem be2_word (u : UInt16) : ∃ x y : UInt8, be 2 u.toNat = [x, y] ∧ UInt16.ofNat (x.toNat * 256 + y.toNat) = u := by
  refine ⟨_, _, be2_two _, ?_⟩
  have := u.toNat_lt
  apply UInt16.toNat_inj.1
  simp
  omega
theorem ReadUint16_be {ob k : Nat} {T : TypeId} {cs : Array Value} {u : UInt16} (h : Sv w N b (be 2 u.toNat ++ bs) nn) (ho : Blk w ob T cs) (hk : k < cs.size) (hne : ob ≠ b) (hN : N ≤ ob) :
    Calls Try.prog 52 #[.pointer (some ⟨b, 0, none⟩), .pointer (some ⟨ob, k, none⟩)] w (OkOut w N b bs ob T cs k (wv u)) := by
  obtain ⟨x, y, h1, h2⟩ := be2_word u
  rw [h1] at h
  have := ReadUint16_ok h ho hk hne hN
  rwa [h2] at this
theorem be4_word (u : UInt32) : ∃ x y z t : UInt8, be 4 u.toNat = [x, y, z, t] ∧ UInt32.ofNat (beNat [x, y, z, t]) = u := by
  refine ⟨_, _, _, _, rfl, ?_⟩
  have := u.toNat_lt
  apply UInt32.toNat_inj.1
  simp [beNat]
  omega
theorem ReadUint32_be {ob k : Nat} {T : TypeId} {cs : Array Value} {u : UInt32} (h : Sv w N b (be 4 u.toNat ++ bs) nn) (ho : Blk w ob T cs) (hk : k < cs.size) (hne : ob ≠ b) (hN : N ≤ ob) :
    Calls Try.prog 62 #[.pointer (some ⟨b, 0, none⟩), .pointer (some ⟨ob, k, none⟩)] w (OkOut w N b bs ob T cs k (uv u)) := by
  obtain ⟨x, y, z, t, h1, h2⟩ := be4_word u
  rw [h1] at h
  have := ReadUint32_ok h ho hk hne hN
  rwa [h2] at this
theorem lp_b1 (x r : List UInt8) (h : x.length < 256) : lp 1 (be 1 x.length ++ (x ++ r)) = some (x, r) := by rw [← List.append_assoc]; exact lp_be1 x r h
theorem lp_b2 (x r : List UInt8) (h : x.length < 65536) : lp 2 (be 2 x.length ++ (x ++ r)) = some (x, r) := by
  rw [← List.append_assoc]
  exact lp_be 2 x r (by simp [be, beNat]; omega)
end
end Go.Proofs.Ytaajmfgplhfncaa
namespace Go.Proofs.Ytaajmfgplhfncaa
open Go.RowKit Go.Maps
set_option maxRecDepth 100000
def chF0 (v0 v4 : Value) (M : Ch) : List Fld := [.val v0, .val (wv M.vers), .byt M.random, .byt M.sid, .val v4, .byt M.comps, .val (strv M.host), .val (.bool M.ocsp), .row 22 (M.curves.map wv), .byt M.pts, .val (.bool M.ticket), .byt M.tick,
  .row 22 (M.sig.map wv), .row 22 (M.sigc.map wv), .val (.bool M.rns), .byt M.rn, .val (.bool M.ems), .row 9 (M.alpn.map strv), .val (.bool M.scts), .row 22 (M.sv.map wv), .byt M.cookie, .prs 93 (ksC M), .val (.bool M.early), .byt M.modes,
  .prs 95 (piC M), .vec M.pb, .cpy M.quic M.qtp, .byt M.ech, .row 22 (M.exs.map wv)]
def chF (v0 : Value) (M : Ch) : List Fld := (chF0 v0 (.bool false) M).set 4 (.row 22 (M.suites.map wv))
def ChUP (w : World) (B m : Nat) (t : Ch) (e : Ending) (w' : World) : Prop :=
  e = .returned (.bool true) ∧ Upd [m] w w' ∧ ∃ v0 cs lo hi, w.heap.size ≤ lo ∧ m < lo ∧ MSt w' B lo hi m 90 cs (chF v0 t)
section
variable {w0 w w' : World} {B lo lo' hi hi' m s sx mb n : Nat} {v v0 v4 x : Value} {T e : TypeId} {cs : Array Value} {fs : List Fld} {f : Fld} {S : List Nat} {i : Nat} {d d' : List UInt8} {ks : List UInt16} {us : List Value}
theorem ownsRow_low {size : Nat} {xs : List Value} {k : Nat} (h : w.ownsRow lo e size v k xs) (hb : ∀ g, v.ownBlock = some g → lo' ≤ g) : w.ownsRow lo' e size v k xs := by
  refine ⟨h.1, ?_⟩
  rcases h.2 with h1 | ⟨g, cap, cur, rfl, h1, h2⟩
  · exact .inl h1
  · exact .inr ⟨g, cap, cur, rfl, hb g rfl, h2⟩
theorem FOk.low (h : FOk w B lo v f) (hl : f.isOwn = true → ∀ g, v.ownBlock = some g → lo' ≤ g) : FOk w B lo' v f := by
  cases f with
  | val u => exact h
  | byt l => exact h
  | row e us => exact ownsRow_low h (hl rfl)
  | vec ls =>
    obtain ⟨vs, h1, h2⟩ := h
    exact ⟨vs, ownsRow_low h1 (hl rfl), h2⟩
  | prs e ls =>
    obtain ⟨vs, h1, h2⟩ := h
    exact ⟨vs, ownsRow_low h1 (hl rfl), h2⟩
  | cpy has l =>
    rcases h with ⟨h1, g, c, rfl, h2, h3⟩ | h
    · exact .inl ⟨h1, g, c, rfl, hl rfl g rfl, h3⟩
    · exact .inr h
theorem MSt.free (h : MSt w B lo lo m T cs fs) : MSt w B lo' hi' m T cs fs :=
  ⟨h.blk, h.len, fun i v f h1 h2 => (h.ok i v f h1 h2).low fun h3 g h4 => by have := h.own i v f g h1 h2 h3 h4; omega, fun i v f g h1 h2 h3 h4 => by have := h.own i v f g h1 h2 h3 h4; omega, h.ap⟩
theorem MSt.ownAt (h : MSt w B lo hi m T cs fs) (hf : fs[i]? = some (.val v)) (ho : Own w lo' e v us) (hl : lo' ≤ lo) (hh : hi ≤ hi') (hlh : lo ≤ hi') (hv : ∀ g, v.ownBlock = some g → g < lo) : MSt w B lo' hi' m T cs (fs.set i (.row e us)) := by
  have hil : i < fs.length := (List.getElem?_eq_some_iff.1 hf).1
  have oth : ∀ {j : Nat} {g0 : Fld}, j ≠ i → (fs.set i (.row e us))[j]? = some g0 → fs[j]? = some g0 := fun hj h2 => by rwa [List.getElem?_set_ne (Ne.symm hj)] at h2
  have slf : ∀ {u : Value} {g0 : Fld}, cs[i]? = some u → (fs.set i (.row e us))[i]? = some g0 → u = v ∧ g0 = .row e us := by
    intro u g0 h1 h2
    rw [List.getElem?_set_self hil] at h2
    exact ⟨h.ok i u _ h1 hf, (Option.some.inj h2).symm⟩
  refine ⟨h.blk, by simp [h.len], fun j u g0 h1 h2 => ?_, fun j u g0 g h1 h2 h3 h4 => ?_, fun j k vj vk fj fk g hjk h1 h2 h3 h4 h5 h6 h7 h8 => ?_⟩
  · by_cases hj : j = i
    · subst hj
      obtain ⟨rfl, rfl⟩ := slf h1 h2
      exact ho
    · exact (h.ok j u g0 h1 (oth hj h2)).low fun h3 g h4 => by have := h.own j u g0 g h1 (oth hj h2) h3 h4; omega
  · by_cases hj : j = i
    · subst hj
      obtain ⟨rfl, rfl⟩ := slf h1 h2
      exact ⟨(ho.ge h4).1, Nat.lt_of_lt_of_le (hv g h4) hlh⟩
    · have := h.own j u g0 g h1 (oth hj h2) h3 h4
      omega
  · by_cases hj : j = i
    · subst hj
      obtain ⟨rfl, rfl⟩ := slf h1 h3
      have := (h.own k vk fk g h2 (oth (Ne.symm hjk) h4) h6 h8).1
      have := hv g h7
      omega
    · by_cases hk : k = i
      · subst hk
        obtain ⟨rfl, rfl⟩ := slf h2 h4
        have := (h.own j vj fj g h1 (oth hj h3) h5 h7).1
        have := hv g h8
        omega
      · exact h.ap j k vj vk fj fk g hjk h1 h2 (oth hj h3) (oth hk h4) h5 h6 h7 h8
theorem MSt.cast {fs' : List Fld} (h : MSt w B lo hi m T cs fs) (e : fs = fs') : MSt w B lo hi m T cs fs' := e ▸ h
structure HSt (w0 : World) (B m s : Nat) (T : TypeId) (cs : Array Value) (fs : List Fld) (d : List UInt8) (w : World) : Prop where
  sv : Sv w B s d True
  ms : MSt w B (m + 1) (m + 1) m T cs fs
  up : Upd [m] w0 w
  lt : B ≤ m ∧ m < s ∧ s < w.heap.size ∧ w0.heap.size ≤ s
theorem HSt.upd (h : HSt w0 B m s T cs fs d w) (hu : Upd S w w') (hS : ∀ k ∈ S, s < k) : HSt w0 B m s T cs fs d w' := by
  obtain ⟨l1, l2, l3, l4⟩ := h.lt
  have hz := hu.size
  exact ⟨h.sv.upd hu (fun k hk => by have := hS k hk; omega) (fun hk => by have := hS _ hk; omega), h.ms.upd hu (fun k hk => by have := hS k hk; omega), h.up.trans hu (fun k hk => .inr (by have := hS k hk; omega)), ⟨l1, l2, by omega, l4⟩⟩
theorem HSt.next (h : HSt w0 B m s T cs fs d w) (hu : Upd S w w') (hS : ∀ k ∈ S, s ≤ k) (hs : Sv w' B s d' True) : HSt w0 B m s T cs fs d' w' := by
  obtain ⟨l1, l2, l3, l4⟩ := h.lt
  have hz := hu.size
  exact ⟨hs, h.ms.upd hu (fun k hk => by have := hS k hk; omega), h.up.trans hu (fun k hk => .inr (by have := hS k hk; omega)), ⟨l1, l2, by omega, l4⟩⟩
theorem HSt.put (h : HSt w0 B m s T cs fs d w) (hu : Upd S w w') (hS : ∀ k ∈ S, k = m ∨ s ≤ k) (hs : Sv w' B s d' True) (hb : Blk w' m T (cs.setIfInBounds i x)) (hf : FOk w' B (m + 1) x f) (ho : f.isOwn = false) : HSt w0 B m s T (cs.setIfInBounds i x) (fs.set i f) d' w' := by
  obtain ⟨l1, l2, l3, l4⟩ := h.lt
  have hz := hu.size
  exact ⟨hs, h.ms.putV (by omega) hu (fun k hk => by have := hS k hk; omega) hb hf ho, h.up.trans hu (fun k hk => by rcases hS k hk with hk | hk; exact .inl (by simp [hk]); exact .inr (by omega)), ⟨l1, l2, by omega, l4⟩⟩
theorem HSt.cast {fs' : List Fld} (h : HSt w0 B m s T cs fs d w) (e : fs = fs') : HSt w0 B m s T cs fs' d w := e ▸ h
structure CSt (w0 : World) (B m s sx mb hi : Nat) (T : TypeId) (cs : Array Value) (fs : List Fld) (d : List UInt8) (n : Nat) (ks : List UInt16) (v4 : Value) (us : List Value) (w : World) : Prop extends USt w0 B m sx mb hi T cs fs d n ks w where
  o : Own w s 22 v4 us
  r : ∀ g, v4.ownBlock = some g → g < sx
  ls : m < s ∧ s ≤ sx
theorem CSt.upd (h : CSt w0 B m s sx mb hi T cs fs d n ks v4 us w) (hu : Upd S w w') (hS : ∀ k ∈ S, hi ≤ k) : CSt w0 B m s sx mb hi T cs fs d n ks v4 us w' := by
  obtain ⟨l1, l2, l3, l4, l5, l6⟩ := h.lt
  exact { h.toUSt.upd hu hS with o := h.o.upd hu (fun g hg hk => by have := hS g hk; have := h.r g hg; omega), r := h.r, ls := h.ls }
theorem CSt.next (h : CSt w0 B m s sx mb hi T cs fs d n ks v4 us w) (hu : Upd S w w') (hS : ∀ k ∈ S, hi ≤ k ∨ k = sx) (hs : Sv w' B sx d' True) : CSt w0 B m s sx mb hi T cs fs d' n ks v4 us w' := by
  obtain ⟨l1, l2, l3, l4, l5, l6⟩ := h.lt
  exact { h.toUSt.next hu hS hs with o := h.o.upd hu (fun g hg hk => by have := hS g hk; have := h.r g hg; omega), r := h.r, ls := h.ls }
theorem CSt.see (h : CSt w0 B m s sx mb hi T cs fs d n ks v4 us w) {n' : Nat} {ks' : List UInt16} (hu : Upd [mb] w w') (hs : Seen w' mb n' ks') : CSt w0 B m s sx mb hi T cs fs d n' ks' v4 us w' := by
  obtain ⟨l1, l2, l3, l4, l5, l6⟩ := h.lt
  exact { h.toUSt.see hu hs with o := h.o.upd hu (fun g hg hk => by have := List.mem_singleton.1 hk; have := h.r g hg; omega), r := h.r, ls := h.ls }
theorem CSt.put (h : CSt w0 B m s sx mb hi T cs fs d n ks v4 us w) (hu : Upd S w w') (hS : ∀ k ∈ S, hi ≤ k ∨ k = m ∨ ∃ v f0, cs[i]? = some v ∧ fs[i]? = some f0 ∧ f0.isOwn = true ∧ v.ownBlock = some k)
    (hb : Blk w' m T (cs.setIfInBounds i x)) (hf : FOk w' B (mb + 1) x f) (hx : f.isOwn = true → ∀ g, x.ownBlock = some g → (hi ≤ g ∧ g < hi') ∨ ∃ v f0, cs[i]? = some v ∧ fs[i]? = some f0 ∧ f0.isOwn = true ∧ v.ownBlock = some g) (hh : hi ≤ hi') (hh2 : hi' ≤ w'.heap.size) :
    CSt w0 B m s sx mb hi' T (cs.setIfInBounds i x) (fs.set i f) d n ks v4 us w' := by
  obtain ⟨l1, l2, l3, l4, l5, l6⟩ := h.lt
  refine { h.toUSt.put hu hS hb hf hx hh hh2 with o := h.o.upd hu (fun g hg hk => ?_), r := h.r, ls := h.ls }
  have h1 := h.r g hg
  have h2 := (h.o.ge hg).1
  have h3 := h.ls
  rcases hS g hk with h4 | h4 | ⟨v, f0, k1, k2, k3, k4⟩
  · omega
  · omega
  · have := (h.ms.own i v f0 g k1 k2 k3 k4).1
    omega
theorem CSt.putV (h : CSt w0 B m s sx mb hi T cs fs d n ks v4 us w) (hu : Upd S w w') (hS : ∀ k ∈ S, hi ≤ k ∨ k = m) (hb : Blk w' m T (cs.setIfInBounds i x)) (hf : FOk w' B (mb + 1) x f) (ho : f.isOwn = false) : CSt w0 B m s sx mb hi T (cs.setIfInBounds i x) (fs.set i f) d n ks v4 us w' :=
  h.put hu (fun k hk => (hS k hk).imp id .inl) hb hf (fun e => by rw [ho] at e; cases e) (Nat.le_refl _) (Nat.le_trans h.lt.2.2.2.2.1 hu.size)
theorem CSt.cast {fs' : List Fld} (h : CSt w0 B m s sx mb hi T cs fs d n ks v4 us w) (e : fs = fs') : CSt w0 B m s sx mb hi T cs fs' d n ks v4 us w := e ▸ h
theorem CSt.full (h : CSt w0 B m s sx mb hi T cs fs d n ks v4 us w) : CSt w0 B m s sx mb w.heap.size T cs fs d n ks v4 us w := { h.toUSt.full with o := h.o, r := h.r, ls := h.ls }
theorem CSt.loop {f0 : Fld} {p : Nat} (h : CSt w0 B m s sx mb hi T cs fs d n ks v4 us w) (hcv : cs[i]? = some v) (hf0 : fs[i]? = some f0) (ho : f0.isOwn = true) (hu : Upd (p :: m :: v.ownBlock.toList) w w') (hp : hi ≤ p) (hb : Blk w' m T (cs.setIfInBounds i x))
    (hfx : FOk w' B (mb + 1) x f) (hn : nextV v x w.heap.size) (hlt : ∀ g, x.ownBlock = some g → g < w'.heap.size) : CSt w0 B m s sx mb w'.heap.size T (cs.setIfInBounds i x) (fs.set i f) d n ks v4 us w' := by
  obtain ⟨l1, l2, l3, l4, l5, l6⟩ := h.lt
  have hz := hu.size
  refine h.put hu (fun k hk => ?_) hb hfx (fun _ g hg => ?_) (by omega) (Nat.le_refl _)
  · rcases List.mem_cons.1 hk with hk | hk
    · left; omega
    · rcases List.mem_cons.1 hk with hk | hk
      · exact .inr (.inl hk)
      · exact .inr (.inr ⟨v, f0, hcv, hf0, ho, Option.mem_toList.1 hk⟩)
  · rcases hn with hn | ⟨j, hn, hj⟩
    · right; rw [hn] at hg; exact ⟨v, f0, hcv, hf0, ho, hg⟩
    · left; exact ⟨by rw [hn] at hg; injection hg with hg; omega, hlt g hg⟩
theorem CSt.loopSv {f0 : Fld} {p q : Nat} {ed : List UInt8} {nn : Prop} (h : CSt w0 B m s sx mb hi T cs fs d n ks v4 us w) (hcv : cs[i]? = some v) (hf0 : fs[i]? = some f0) (ho : f0.isOwn = true) (hu : Upd (p :: m :: v.ownBlock.toList) w w') (hp : hi ≤ p)
    (hs : Sv w B q ed nn) (hq : hi ≤ q) (hpq : q ≠ p) : Sv w' B q ed nn := by
  obtain ⟨l1, l2, l3, l4, l5, l6⟩ := h.lt
  have key : ∀ g, v.ownBlock = some g → mb + 1 ≤ g ∧ g < hi := fun g hg => h.ms.own i v f0 g hcv hf0 ho hg
  refine hs.upd hu (fun k hk => ?_) (fun hk => ?_)
  · rcases List.mem_cons.1 hk with hk | hk
    · omega
    · rcases List.mem_cons.1 hk with hk | hk
      · omega
      · have := key k (Option.mem_toList.1 hk); omega
  · rcases List.mem_cons.1 hk with hk | hk
    · exact hpq hk
    · rcases List.mem_cons.1 hk with hk | hk
      · omega
      · have := key _ (Option.mem_toList.1 hk); omega
theorem CSt.fin {M : Ch} (h : CSt w0 B m s sx mb hi 90 cs (chF0 v0 v4 M) d n ks v4 (M.suites.map wv) w) (hs : w0.heap.size ≤ s) : ChUP w0 B m M (.returned (.bool true)) w := by
  obtain ⟨l1, l2, l3, l4, l5, l6⟩ := h.lt
  exact ⟨rfl, h.up, v0, cs, s, hi, hs, h.ls.1, (h.ms.ownAt (i := 4) rfl h.o (by have := h.ls; omega) (Nat.le_refl _) (by omega) (fun g hg => by have := h.r g hg; omega)).cast rfl⟩
theorem HSt.fin {M : Ch} {s' : Nat} (h : HSt w0 B m s 90 cs (chF0 v0 v4 M) d w) (ho : Own w s' 22 v4 (M.suites.map wv)) (hs : m < s' ∧ w0.heap.size ≤ s') : ChUP w0 B m M (.returned (.bool true)) w :=
  ⟨rfl, h.up, v0, cs, s', w.heap.size + s', hs.2, hs.1, ((h.ms.free (lo' := w.heap.size + s') (hi' := w.heap.size + s')).ownAt (i := 4) rfl ho (by omega) (Nat.le_refl _) (Nat.le_refl _) (fun g hg => by have := (ho.ge hg).2; omega)).cast rfl⟩
abbrev chZ (v0 : Value) : List Value := [v0, .int .u16 0, .slice none 0 0, .slice none 0 0, .slice none 0 0, .slice none 0 0, strv [], .bool false, .slice none 0 0, .slice none 0 0, .bool false, .slice none 0 0, .slice none 0 0, .slice none 0 0, .bool false, .slice none 0 0, .bool false, .slice none 0 0, .bool false, .slice none 0 0, .slice none 0 0, .slice none 0 0, .bool false, .slice none 0 0, .slice none 0 0, .slice none 0 0, .slice none 0 0, .slice none 0 0, .slice none 0 0]
theorem ch_start (hb : Blk w m T (chZ v0).toArray) : MSt w B lo hi m T (chZ v0).toArray (chF0 v0 (.slice none 0 0) Ch.zero) :=
  MSt.start hb ⟨⟨rfl, fun e => (by cases e)⟩, ⟨rfl, fun e => (by cases e)⟩, ⟨Row.nil_ _ _, fun e => (by cases e)⟩, ⟨Row.nil_ _ _, fun e => (by cases e)⟩, ⟨rfl, fun e => (by cases e)⟩, ⟨Row.nil_ _ _, fun e => (by cases e)⟩, ⟨rfl, fun e => (by cases e)⟩, ⟨rfl, fun e => (by cases e)⟩, ⟨Own.nil_ _ _ _, fun _ => rfl⟩, ⟨Row.nil_ _ _, fun e => (by cases e)⟩, ⟨rfl, fun e => (by cases e)⟩, ⟨Row.nil_ _ _, fun e => (by cases e)⟩, ⟨Own.nil_ _ _ _, fun _ => rfl⟩, ⟨Own.nil_ _ _ _, fun _ => rfl⟩, ⟨rfl, fun e => (by cases e)⟩, ⟨Row.nil_ _ _, fun e => (by cases e)⟩, ⟨rfl, fun e => (by cases e)⟩, ⟨Own.nil_ _ _ _, fun _ => rfl⟩, ⟨rfl, fun e => (by cases e)⟩, ⟨Own.nil_ _ _ _, fun _ => rfl⟩, ⟨Row.nil_ _ _, fun e => (by cases e)⟩, ⟨Prs.nil_ _ _ _ _, fun _ => rfl⟩, ⟨rfl, fun e => (by cases e)⟩, ⟨Row.nil_ _ _, fun e => (by cases e)⟩, ⟨Prs.nil_ _ _ _ _, fun _ => rfl⟩, ⟨⟨[], Own.nil_ _ _ _, trivial⟩, fun _ => rfl⟩, ⟨.inr ⟨rfl, rfl, rfl⟩, fun _ => rfl⟩, ⟨Row.nil_ _ _, fun e => (by cases e)⟩, ⟨Own.nil_ _ _ _, fun _ => rfl⟩, trivial⟩
def chTail (L : List Ex) : List UInt8 := if L = [] then [] else blkB L
theorem ch_body (t : Ch) (L : List Ex) : (chMsg t L).drop 4 = be 2 t.vers.toNat ++ (t.random ++ (be 1 t.sid.length ++ (t.sid ++ (be 2 (wordsB t.suites).length ++ (wordsB t.suites ++ (be 1 t.comps.length ++ (t.comps ++ chTail L))))))) := by
  unfold chMsg
  rw [msgB_drop]
  simp [chBodyB, chHeadB, chTail]
theorem exsB_cons2 (k : UInt16) (d : List UInt8) (L : List Ex) : exsB ((k, d) :: L) = be 2 k.toNat ++ (be 2 d.length ++ (d ++ exsB L)) := by simp [exsB, exB]
theorem wordsB_cons (u : UInt16) (l : List UInt16) : wordsB (u :: l) = be 2 u.toNat ++ wordsB l := by simp [wordsB]
theorem vecsB1_cons (x : List UInt8) (l : List (List UInt8)) : vecsB 1 (x :: l) = be 1 x.length ++ (x ++ vecsB 1 l) := by simp [vecsB]
theorem kshB_cons (k : UInt16) (x : List UInt8) (l : List (UInt16 × List UInt8)) : kshB ((k, x) :: l) = be 2 k.toNat ++ (be 2 x.length ++ (x ++ kshB l)) := by simp [kshB]
theorem identsB_cons (x : List UInt8) (a : UInt32) (l : List (List UInt8 × UInt32)) : identsB ((x, a) :: l) = be 2 x.length ++ (x ++ (be 4 a.toNat ++ identsB l)) := by simp [identsB, identB]
def WRelC (B p m : Nat) (T : TypeId) (CS : Value → Array Value) (lo : Nat) (wE : World) (v0 : Value) (tot : List UInt16) (gk : Nat) (wr : World) : Prop :=
  ∃ (l r : List UInt16) (v : Value), gk = r.length ∧ ALoop 22 B p m T CS lo wE v0 (wordsB r) v (l.map wv) wr ∧ l ++ r = tot
def SRelC (B p m : Nat) (T : TypeId) (CS : Value → Array Value) (lo : Nat) (wE : World) (v0 : Value) (tot : List (List UInt8)) (gk : Nat) (wr : World) : Prop :=
  ∃ (l r : List (List UInt8)) (v : Value), gk = r.length ∧ ALoop 9 B p m T CS lo wE v0 (vecsB 1 r) v (l.map strv) wr ∧ l ++ r = tot
def BRelC (B p m : Nat) (T : TypeId) (CS : Value → Array Value) (lo : Nat) (wE : World) (v0 : Value) (tot : List (List UInt8)) (gk : Nat) (wr : World) : Prop :=
  ∃ (l r : List (List UInt8)) (us : List Value) (v : Value), gk = r.length ∧ ALoop 23 B p m T CS lo wE v0 (vecsB 1 r) v us wr ∧ All2 (fun u x => Byt wr B u x) us l ∧ l ++ r = tot
def KRelC (B p m : Nat) (T : TypeId) (CS : Value → Array Value) (lo : Nat) (wE : World) (v0 : Value) (tot : List (UInt16 × List UInt8)) (gk : Nat) (wr : World) : Prop :=
  ∃ (l r : List (UInt16 × List UInt8)) (v : Value), gk = r.length ∧ PLoop 93 B p m T CS lo wE v0 (kshB r) v (l.map fun x => (.val (wv x.1), .byt x.2)) wr ∧ l ++ r = tot
def IRelC (B p m : Nat) (T : TypeId) (CS : Value → Array Value) (lo : Nat) (wE : World) (v0 : Value) (tot : List (List UInt8 × UInt32)) (gk : Nat) (wr : World) : Prop :=
  ∃ (l r : List (List UInt8 × UInt32)) (v : Value), gk = r.length ∧ PLoop 95 B p m T CS lo wE v0 (identsB r) v (l.map fun x => (.byt x.1, .val (uv x.2))) wr ∧ l ++ r = tot
def ChRel (w0 : World) (B m s sx mb : Nat) (v0 v4 : Value) (us : List Value) (x0 : List UInt8) (t' : Ch) (gk : Nat) (wr : World) : Prop :=
  ∃ (L : List Ex) (M : Ch) (cs : Array Value), gk = L.length ∧ M.exs.length + (exsB L).length ≤ x0.length ∧ CSt w0 B m s sx mb wr.heap.size 90 cs (chF0 v0 v4 M) (exsB L) M.exs.length M.exs.reverse v4 us wr ∧ ChRun M L t'
end
end Go.Proofs.Ytaajmfgplhfncaa
namespace Go.Proofs.Ytaajmfgplhfncaa
open Go.RowKit Go.Maps
set_option maxRecDepth 100000
section
variable {w0 w w' : World} {B lo hi hi' m s sx mb n h0 : Nat} {v v0 v4 x : Value} {T e : TypeId} {cs : Array Value} {fs : List Fld} {f : Fld} {S : List Nat} {i : Nat} {d d' : List UInt8} {ks : List UInt16} {us : List Value}
theorem MSt.updO (h : MSt w B lo hi m T cs fs) (hu : Upd S w w') (hS : ∀ k ∈ S, B ≤ k ∧ k ≠ m) (hO : ∀ (i : Nat) (v : Value) (f : Fld) (g : Nat), cs[i]? = some v → fs[i]? = some f → f.isOwn = true → v.ownBlock = some g → g ∉ S) : MSt w' B lo hi m T cs fs :=
  ⟨h.blk.upd hu (fun hm => (hS m hm).2 rfl), h.len, fun i v f h1 h2 => (h.ok i v f h1 h2).upd hu (fun k hk => (hS k hk).1) fun h3 g h4 => hO i v f g h1 h2 h3 h4, h.own, h.ap⟩
theorem MSt.putO (h : MSt w B lo hi m T cs fs) (hu : Upd S w w') (hS : ∀ k ∈ S, B ≤ k) (hO : ∀ (j : Nat) (v : Value) (f : Fld) (g : Nat), j ≠ i → cs[j]? = some v → fs[j]? = some f → f.isOwn = true → v.ownBlock = some g → g ∉ S)
    (hb : Blk w' m T (cs.setIfInBounds i x)) (hf : FOk w' B lo x f) (hx : f.isOwn = true → ∀ g, x.ownBlock = some g → (hi ≤ g ∧ lo ≤ g ∧ g < hi') ∨ ∃ v f0, cs[i]? = some v ∧ fs[i]? = some f0 ∧ f0.isOwn = true ∧ v.ownBlock = some g) (hh : hi ≤ hi') :
    MSt w' B lo hi' m T (cs.setIfInBounds i x) (fs.set i f) := by
  have oth : ∀ {j : Nat} {v : Value} {g0 : Fld}, j ≠ i → (cs.setIfInBounds i x)[j]? = some v → (fs.set i f)[j]? = some g0 → cs[j]? = some v ∧ fs[j]? = some g0 := by
    intro j v g0 hj h1 h2
    rw [Array.getElem?_setIfInBounds_ne (Ne.symm hj)] at h1
    rw [List.getElem?_set_ne (Ne.symm hj)] at h2
    exact ⟨h1, h2⟩
  have slf : ∀ {v : Value} {g0 : Fld}, (cs.setIfInBounds i x)[i]? = some v → (fs.set i f)[i]? = some g0 → v = x ∧ g0 = f := by
    intro v g0 h1 h2
    have hi1 : i < fs.length := by have := (List.getElem?_eq_some_iff.1 h2).1; simpa using this
    rw [Array.getElem?_setIfInBounds_self_of_lt (by rw [h.len]; exact hi1)] at h1
    rw [List.getElem?_set_self hi1] at h2
    exact ⟨(Option.some.inj h1).symm, (Option.some.inj h2).symm⟩
  refine ⟨hb, by simp [h.len], ?_, ?_, ?_⟩
  · intro j v g0 h1 h2
    by_cases hj : j = i
    · subst hj
      obtain ⟨rfl, rfl⟩ := slf h1 h2
      exact hf
    · obtain ⟨h3, h4⟩ := oth hj h1 h2
      exact (h.ok j v g0 h3 h4).upd hu hS fun h5 g h6 => hO j v g0 g hj h3 h4 h5 h6
  · intro j v g0 g h1 h2 h3 h4
    by_cases hj : j = i
    · subst hj
      obtain ⟨rfl, rfl⟩ := slf h1 h2
      rcases hx h3 g h4 with h5 | ⟨vi, fi, k1, k2, k3, k4⟩
      · exact ⟨h5.2.1, h5.2.2⟩
      · have := h.own j vi fi g k1 k2 k3 k4; omega
    · obtain ⟨k1, k2⟩ := oth hj h1 h2
      have := h.own j v g0 g k1 k2 h3 h4; omega
  · intro j k vj vk fj fk g hjk h1 h2 h3 h4 h5 h6 h7 h8
    by_cases hj : j = i
    · subst hj
      obtain ⟨rfl, rfl⟩ := slf h1 h3
      obtain ⟨k1, k2⟩ := oth (Ne.symm hjk) h2 h4
      have hl := h.own k vk fk g k1 k2 h6 h8
      rcases hx h5 g h7 with h9 | ⟨vi, fi, p1, p2, p3, p4⟩
      · omega
      · exact h.ap j k vi vk fi fk g hjk p1 k1 p2 k2 p3 h6 p4 h8
    · obtain ⟨p1, p2⟩ := oth hj h1 h3
      by_cases hk : k = i
      · subst hk
        obtain ⟨rfl, rfl⟩ := slf h2 h4
        have hl := h.own j vj fj g p1 p2 h5 h7
        rcases hx h6 g h8 with h9 | ⟨vi, fi, q1, q2, q3, q4⟩
        · omega
        · exact h.ap j k vj vi fj fi g hjk p1 q1 p2 q2 h5 q3 h7 q4
      · obtain ⟨q1, q2⟩ := oth hk h2 h4
        exact h.ap j k vj vk fj fk g hjk p1 q1 p2 q2 h5 h6 h7 h8
structure DSt (w0 : World) (B m s sx mb h0 hi : Nat) (T : TypeId) (cs : Array Value) (fs : List Fld) (d : List UInt8) (n : Nat) (ks : List UInt16) (v4 : Value) (us : List Value) (w : World) : Prop extends CSt w0 B m s sx mb hi T cs fs d n ks v4 us w where
  hole : ∀ (i : Nat) (v : Value) (f : Fld), cs[i]? = some v → fs[i]? = some f → f.isOwn = true → v.ownBlock ≠ some h0
  hl : mb < h0 ∧ h0 < hi
theorem DSt.upd (h : DSt w0 B m s sx mb h0 hi T cs fs d n ks v4 us w) (hu : Upd S w w') (hS : ∀ k ∈ S, hi ≤ k ∨ k = h0) : DSt w0 B m s sx mb h0 hi T cs fs d n ks v4 us w' := by
  obtain ⟨l1, l2, l3, l4, l5, l6⟩ := h.lt
  have hl := h.hl
  have hz := hu.size
  have hz0 := h.up.size
  exact { sv := h.sv.upd hu (fun k hk => by have := hS k hk; omega) (fun hk => by have := hS _ hk; omega),
          ms := h.ms.updO hu (fun k hk => by have := hS k hk; omega) (fun i v f g h1 h2 h3 h4 hk => by
            have h5 := h.ms.own i v f g h1 h2 h3 h4
            rcases hS g hk with h6 | h6
            · omega
            · subst h6; exact h.hole i v f h1 h2 h3 h4),
          se := h.se.upd hu (fun hk => by have := hS _ hk; omega),
          up := h.up.trans hu (fun k hk => .inr (by have := hS k hk; omega)),
          lt := ⟨l1, l2, l3, l4, by omega, l6⟩,
          o := h.o.upd hu (fun g hg hk => by have := hS g hk; have := h.r g hg; omega), r := h.r, ls := h.ls, hole := h.hole, hl := h.hl }
theorem DSt.put (h : DSt w0 B m s sx mb h0 hi T cs fs d n ks v4 us w) (hu : Upd S w w') (hS : ∀ k ∈ S, hi ≤ k ∨ k = m ∨ k = h0 ∨ ∃ v f0, cs[i]? = some v ∧ fs[i]? = some f0 ∧ f0.isOwn = true ∧ v.ownBlock = some k)
    (hb : Blk w' m T (cs.setIfInBounds i x)) (hf : FOk w' B (mb + 1) x f) (hx : f.isOwn = true → ∀ g, x.ownBlock = some g → (hi ≤ g ∧ g < hi') ∨ ∃ v f0, cs[i]? = some v ∧ fs[i]? = some f0 ∧ f0.isOwn = true ∧ v.ownBlock = some g) (hh : hi ≤ hi') (hh2 : hi' ≤ w'.heap.size) :
    DSt w0 B m s sx mb h0 hi' T (cs.setIfInBounds i x) (fs.set i f) d n ks v4 us w' := by
  obtain ⟨l1, l2, l3, l4, l5, l6⟩ := h.lt
  have hl := h.hl
  have hz := hu.size
  have hz0 := h.up.size
  have hls := h.ls
  have key : ∀ k ∈ S, hi ≤ k ∨ k = m ∨ k = h0 ∨ (mb + 1 ≤ k ∧ ∃ v f0, cs[i]? = some v ∧ fs[i]? = some f0 ∧ f0.isOwn = true ∧ v.ownBlock = some k) := by
    intro k hk
    rcases hS k hk with h1 | h1 | h1 | ⟨v, f0, h1, h2, h3, h4⟩
    · exact .inl h1
    · exact .inr (.inl h1)
    · exact .inr (.inr (.inl h1))
    · exact .inr (.inr (.inr ⟨(h.ms.own i v f0 k h1 h2 h3 h4).1, v, f0, h1, h2, h3, h4⟩))
  have low : ∀ k ∈ S, k = m ∨ mb < k := by
    intro k hk
    rcases key k hk with h1 | h1 | h1 | ⟨h1, -⟩
    · exact .inr (by omega)
    · exact .inl h1
    · exact .inr (by omega)
    · exact .inr h1
  refine { sv := h.sv.upd hu (fun k hk => by have := low k hk; omega) (fun hk => by have := low _ hk; omega), ms := h.ms.putO hu (fun k hk => by have := low k hk; omega) (fun j v f g hj h1 h2 h3 h4 hk => ?_) hb hf (fun ho g hg => ?_) hh, se := h.se.upd hu (fun hk => by have := low _ hk; omega), up := h.up.trans hu (fun k hk => ?_), lt := ⟨l1, l2, l3, by omega, hh2, l6⟩,
           o := h.o.upd hu (fun g hg hk => by have h1 := h.r g hg; have h2 := (h.o.ge hg).1; have := low g hk; omega), r := h.r, ls := h.ls, hole := fun j v g0 h1 h2 h3 h4 => ?_, hl := by omega }
  · have h5 := h.ms.own j v f g h1 h2 h3 h4
    rcases key g hk with h6 | h6 | h6 | ⟨-, v', f0, k1, k2, k3, k4⟩
    · omega
    · omega
    · subst h6; exact h.hole j v f h1 h2 h3 h4
    · exact h.ms.ap i j v' v f0 f g (Ne.symm hj) k1 h1 k2 h2 k3 h3 k4 h4
  · rcases hx ho g hg with h1 | h1
    · exact .inl ⟨h1.1, by omega, h1.2⟩
    · exact .inr h1
  · rcases low k hk with h1 | h1
    · exact .inl (by simp [h1])
    · exact .inr (by omega)
  · by_cases hj : j = i
    · subst hj
      have hi1 : j < fs.length := by have := (List.getElem?_eq_some_iff.1 h2).1; simpa using this
      rw [Array.getElem?_setIfInBounds_self_of_lt (by rw [h.ms.len]; exact hi1)] at h1
      rw [List.getElem?_set_self hi1] at h2
      have e1 := Option.some.inj h1
      have e2 := Option.some.inj h2
      subst e1 e2
      rcases hx h3 h0 h4 with h5 | ⟨v, f0, k1, k2, k3, k4⟩
      · omega
      · exact h.hole j v f0 k1 k2 k3 k4
    · rw [Array.getElem?_setIfInBounds_ne (Ne.symm hj)] at h1
      rw [List.getElem?_set_ne (Ne.symm hj)] at h2
      exact h.hole j v g0 h1 h2 h3 h4
theorem DSt.putV (h : DSt w0 B m s sx mb h0 hi T cs fs d n ks v4 us w) (hu : Upd S w w') (hS : ∀ k ∈ S, hi ≤ k ∨ k = m ∨ k = h0) (hb : Blk w' m T (cs.setIfInBounds i x)) (hf : FOk w' B (mb + 1) x f) (ho : f.isOwn = false) : DSt w0 B m s sx mb h0 hi T (cs.setIfInBounds i x) (fs.set i f) d n ks v4 us w' :=
  h.put hu (fun k hk => by rcases hS k hk with h1 | h1 | h1; exact .inl h1; exact .inr (.inl h1); exact .inr (.inr (.inl h1))) hb hf (fun e => by rw [ho] at e; cases e) (Nat.le_refl _) (Nat.le_trans h.lt.2.2.2.2.1 hu.size)
theorem DSt.cast {fs' : List Fld} (h : DSt w0 B m s sx mb h0 hi T cs fs d n ks v4 us w) (e : fs = fs') : DSt w0 B m s sx mb h0 hi T cs fs' d n ks v4 us w := e ▸ h
theorem CSt.wide (h : CSt w0 B m s sx mb hi T cs fs d n ks v4 us w) (hh : hi ≤ hi') (hh2 : hi' ≤ w.heap.size) : CSt w0 B m s sx mb hi' T cs fs d n ks v4 us w := { h.toUSt.wide hh hh2 with o := h.o, r := h.r, ls := h.ls }
theorem CSt.dst {f0 : Fld} (h : CSt w0 B m s sx mb h0 T cs fs d n ks v4 us w) (hv : cs[i]? = some v) (hf0 : fs[i]? = some f0) (ho : f0.isOwn = true) (hsz : h0 < w.heap.size) (hu : Upd (m :: v.ownBlock.toList) w w')
    (hb : Blk w' m T (cs.setIfInBounds i x)) (hf : FOk w' B (mb + 1) x f) (hn : nextV v x w.heap.size) (hlt : ∀ g, x.ownBlock = some g → g < w'.heap.size) :
    DSt w0 B m s sx mb h0 w'.heap.size T (cs.setIfInBounds i x) (fs.set i f) d n ks v4 us w' := by
  obtain ⟨l1, l2, l3, l4, l5, l6⟩ := h.lt
  have hz := hu.size
  have c : CSt w0 B m s sx mb w'.heap.size T (cs.setIfInBounds i x) (fs.set i f) d n ks v4 us w' := h.put hu (fun k hk => by
    rcases List.mem_cons.1 hk with hk | hk
    · exact .inr (.inl hk)
    · exact .inr (.inr ⟨v, f0, hv, hf0, ho, Option.mem_toList.1 hk⟩)) hb hf (fun _ g hg => by
    rcases hn with hn | ⟨j, hn, hj⟩
    · right; rw [hn] at hg; exact ⟨v, f0, hv, hf0, ho, hg⟩
    · left; exact ⟨by rw [hn] at hg; injection hg with hg; omega, hlt g hg⟩) (by omega) (Nat.le_refl _)
  refine { c with hole := fun j u g0 h1 h2 h3 h4 => ?_, hl := by omega }
  by_cases hj : j = i
  · subst hj
    have hi1 : j < fs.length := (List.getElem?_eq_some_iff.1 hf0).1
    rw [Array.getElem?_setIfInBounds_self_of_lt (by rw [h.ms.len]; exact hi1)] at h1
    have e1 := Option.some.inj h1
    subst e1
    rcases hn with hn | ⟨q, hn, hq⟩
    · rw [hn] at h4; have := h.ms.own j v f0 h0 hv hf0 ho h4; omega
    · rw [hn] at h4; injection h4 with h4; omega
  · rw [Array.getElem?_setIfInBounds_ne (Ne.symm hj)] at h1
    rw [List.getElem?_set_ne (Ne.symm hj)] at h2
    have := h.ms.own j u g0 h0 h1 h2 h3 h4
    omega
theorem DSt.loop {f0 : Fld} {p : Nat} (h : DSt w0 B m s sx mb h0 hi T cs fs d n ks v4 us w) (hcv : cs[i]? = some v) (hf0 : fs[i]? = some f0) (ho : f0.isOwn = true) (hu : Upd (p :: m :: v.ownBlock.toList) w w') (hp : hi ≤ p) (hb : Blk w' m T (cs.setIfInBounds i x))
    (hfx : FOk w' B (mb + 1) x f) (hn : nextV v x w.heap.size) (hlt : ∀ g, x.ownBlock = some g → g < w'.heap.size) : DSt w0 B m s sx mb h0 w'.heap.size T (cs.setIfInBounds i x) (fs.set i f) d n ks v4 us w' := by
  obtain ⟨l1, l2, l3, l4, l5, l6⟩ := h.lt
  have hz := hu.size
  refine h.put hu (fun k hk => ?_) hb hfx (fun _ g hg => ?_) (by omega) (Nat.le_refl _)
  · rcases List.mem_cons.1 hk with hk | hk
    · left; omega
    · rcases List.mem_cons.1 hk with hk | hk
      · exact .inr (.inl hk)
      · exact .inr (.inr (.inr ⟨v, f0, hcv, hf0, ho, Option.mem_toList.1 hk⟩))
  · rcases hn with hn | ⟨j, hn, hj⟩
    · right; rw [hn] at hg; exact ⟨v, f0, hcv, hf0, ho, hg⟩
    · left; exact ⟨by rw [hn] at hg; injection hg with hg; omega, hlt g hg⟩
theorem DSt.loopSv {f0 : Fld} {p q : Nat} {ed : List UInt8} {nn : Prop} (h : DSt w0 B m s sx mb h0 hi T cs fs d n ks v4 us w) (hcv : cs[i]? = some v) (hf0 : fs[i]? = some f0) (ho : f0.isOwn = true) (hu : Upd (p :: m :: v.ownBlock.toList) w w') (hp : hi ≤ p)
    (hs : Sv w B q ed nn) (hq : hi ≤ q ∨ q = h0) (hpq : q ≠ p) : Sv w' B q ed nn := by
  obtain ⟨l1, l2, l3, l4, l5, l6⟩ := h.lt
  have hl := h.hl
  have key : ∀ g, v.ownBlock = some g → mb + 1 ≤ g ∧ g < hi ∧ g ≠ h0 := fun g hg => by
    have h1 := h.ms.own i v f0 g hcv hf0 ho hg
    exact ⟨h1.1, h1.2, fun e => by subst e; exact h.hole i v f0 hcv hf0 ho hg⟩
  refine hs.upd hu (fun k hk => ?_) (fun hk => ?_)
  · rcases List.mem_cons.1 hk with hk | hk
    · omega
    · rcases List.mem_cons.1 hk with hk | hk
      · omega
      · have := key k (Option.mem_toList.1 hk); omega
  · rcases List.mem_cons.1 hk with hk | hk
    · exact hpq hk
    · rcases List.mem_cons.1 hk with hk | hk
      · omega
      · have := key _ (Option.mem_toList.1 hk); omega
theorem DSt.full (h : DSt w0 B m s sx mb h0 hi T cs fs d n ks v4 us w) : CSt w0 B m s sx mb w.heap.size T cs fs d n ks v4 us w := h.toCSt.full
end
theorem ChStep.suites {M M' : Ch} {k : UInt16} {d : List UInt8} (h : ChStep M k d M') : M'.suites = M.suites := by cases h <;> rfl
theorem ChRun.suites {M M' : Ch} {L : List Ex} (h : ChRun M L M') : M'.suites = M.suites := by
  induction h with
  | nil M => rfl
  | cons M M1 M2 k d L h1 h2 h3 h4 ih => rw [ih, h2.suites]
end Go.Proofs.Ytaajmfgplhfncaa
namespace Go.Proofs.Ytaajmfgplhfncaa
open Go.RowKit Go.Maps
set_option maxRecDepth 100000
def codeAt : List Bool → Code → Code
  | [], c => c
  | b :: p, .seq x y => codeAt p (if b then y else x)
  | b :: p, .cond _ x y => codeAt p (if b then y else x)
  | _ :: p, .block _ c => codeAt p c
  | _ :: p, .loop c => codeAt p c
  | _ :: p, .scope c => codeAt p c
  | _, _ => .skip
noncomputable def chC (p : List Bool) : Code := codeAt p (Try.f46.body.getD .skip)
theorem wp_normal {P : Program} {c : Code} {R : Act → World → Prop} {Q : Exit → Act → World → Prop} {a : Act} {w : World} (h : ∀ K : Act → World → Prop, (∀ a' w', R a' w' → K a' w') → c.wp P (Exit.then K fun _ _ _ => False) a w) (hQ : ∀ a' w', R a' w' → Q .normal a' w') : c.wp P Q a w := by
  refine wp_mono (h R fun _ _ h => h) ?_
  intro e a' w' he
  cases e with
  | normal => exact hQ a' w' he
  | exit id => exact he.elim
  | goto l => exact he.elim
  | ret => exact he.elim
  | panic ch => exact he.elim
  | outgrown => exact he.elim
def frL (f : Nat → Value) : List Value := f 0 :: f 1 :: f 2 :: f 3 :: f 4 :: f 5 :: f 6 :: f 7 :: f 8 :: f 9 :: f 10 :: f 11 :: f 12 :: f 13 :: f 14 :: f 15 :: f 16 :: f 17 :: f 18 :: f 19 :: f 20 :: f 21 :: f 22 :: f 23 :: f 24 :: f 25 :: f 26 :: f 27 :: f 28 :: f 29 :: f 30 :: f 31 :: f 32 :: f 33 :: f 34 :: f 35 :: f 36 :: f 37 :: f 38 :: f 39 :: f 40 :: f 41 :: f 42 :: f 43 :: f 44 :: f 45 :: f 46 :: f 47 :: f 48 :: f 49 :: f 50 :: f 51 :: f 52 :: f 53 :: f 54 :: f 55 :: f 56 :: f 57 :: f 58 :: f 59 :: f 60 :: f 61 :: f 62 :: f 63 :: f 64 :: f 65 :: f 66 :: f 67 :: f 68 :: f 69 :: f 70 :: f 71 :: f 72 :: f 73 :: f 74 :: f 75 :: f 76 :: f 77 :: f 78 :: f 79 :: f 80 :: f 81 :: f 82 :: f 83 :: f 84 :: f 85 :: f 86 :: f 87 :: f 88 :: f 89 :: f 90 :: f 91 :: f 92 :: f 93 :: f 94 :: f 95 :: f 96 :: f 97 :: f 98 :: f 99 :: f 100 :: f 101 :: f 102 :: f 103 :: f 104 :: f 105 :: f 106 :: f 107 :: f 108 :: f 109 :: f 110 :: f 111 :: f 112 :: f 113 :: f 114 :: f 115 :: f 116 :: f 117 :: f 118 :: f 119 :: f 120 :: f 121 :: f 122 :: f 123 :: f 124 :: f 125 :: f 126 :: f 127 :: f 128 :: f 129 :: f 130 :: f 131 :: f 132 :: f 133 :: f 134 :: f 135 :: f 136 :: f 137 :: f 138 :: f 139 :: f 140 :: f 141 :: f 142 :: f 143 :: f 144 :: f 145 :: f 146 :: f 147 :: f 148 :: f 149 :: f 150 :: f 151 :: f 152 :: f 153 :: f 154 :: f 155 :: f 156 :: f 157 :: f 158 :: f 159 :: f 160 :: f 161 :: f 162 :: f 163 :: f 164 :: f 165 :: f 166 :: f 167 :: f 168 :: f 169 :: f 170 :: f 171 :: f 172 :: f 173 :: f 174 :: f 175 :: f 176 :: f 177 :: f 178 :: f 179 :: f 180 :: f 181 :: f 182 :: f 183 :: f 184 :: f 185 :: f 186 :: f 187 :: f 188 :: f 189 :: f 190 :: f 191 :: f 192 :: f 193 :: f 194 :: f 195 :: f 196 :: f 197 :: f 198 :: f 199 :: f 200 :: f 201 :: f 202 :: f 203 :: f 204 :: f 205 :: f 206 :: f 207 :: f 208 :: f 209 :: f 210 :: f 211 :: f 212 :: f 213 :: f 214 :: f 215 :: f 216 :: f 217 :: f 218 :: f 219 :: f 220 :: f 221 :: f 222 :: f 223 :: f 224 :: f 225 :: f 226 :: f 227 :: f 228 :: f 229 :: f 230 :: f 231 :: f 232 :: f 233 :: f 234 :: f 235 :: f 236 :: f 237 :: f 238 :: f 239 :: f 240 :: f 241 :: f 242 :: f 243 :: f 244 :: f 245 :: f 246 :: f 247 :: f 248 :: f 249 :: f 250 :: f 251 :: f 252 :: f 253 :: f 254 :: f 255 :: f 256 :: f 257 :: f 258 :: f 259 :: f 260 :: f 261 :: f 262 :: f 263 :: f 264 :: f 265 :: f 266 :: f 267 :: f 268 :: f 269 :: f 270 :: f 271 :: f 272 :: f 273 :: f 274 :: f 275 :: f 276 :: f 277 :: f 278 :: f 279 :: f 280 :: f 281 :: f 282 :: f 283 :: f 284 :: f 285 :: f 286 :: f 287 :: f 288 :: f 289 :: f 290 :: f 291 :: f 292 :: f 293 :: f 294 :: f 295 :: f 296 :: f 297 :: f 298 :: f 299 :: f 300 :: f 301 :: f 302 :: f 303 :: f 304 :: f 305 :: f 306 :: f 307 :: f 308 :: f 309 :: f 310 :: f 311 :: f 312 :: f 313 :: f 314 :: f 315 :: f 316 :: f 317 :: f 318 :: f 319 :: f 320 :: f 321 :: f 322 :: f 323 :: f 324 :: f 325 :: f 326 :: f 327 :: f 328 :: f 329 :: f 330 :: f 331 :: f 332 :: f 333 :: f 334 :: f 335 :: f 336 :: f 337 :: f 338 :: f 339 :: f 340 :: f 341 :: f 342 :: f 343 :: f 344 :: f 345 :: f 346 :: f 347 :: f 348 :: f 349 :: f 350 :: f 351 :: f 352 :: f 353 :: f 354 :: f 355 :: f 356 :: f 357 :: f 358 :: f 359 :: f 360 :: f 361 :: f 362 :: f 363 :: f 364 :: f 365 :: f 366 :: f 367 :: f 368 :: f 369 :: f 370 :: f 371 :: f 372 :: f 373 :: f 374 :: f 375 :: f 376 :: f 377 :: f 378 :: f 379 :: f 380 :: f 381 :: f 382 :: f 383 :: f 384 :: f 385 :: f 386 :: f 387 :: f 388 :: f 389 :: f 390 :: f 391 :: f 392 :: f 393 :: f 394 :: f 395 :: f 396 :: f 397 :: f 398 :: f 399 :: f 400 :: f 401 :: f 402 :: f 403 :: f 404 :: f 405 :: f 406 :: f 407 :: f 408 :: f 409 :: f 410 :: f 411 :: f 412 :: f 413 :: f 414 :: f 415 :: f 416 :: f 417 :: f 418 :: f 419 :: f 420 :: f 421 :: f 422 :: f 423 :: f 424 :: f 425 :: f 426 :: f 427 :: f 428 :: f 429 :: f 430 :: f 431 :: f 432 :: f 433 :: f 434 :: f 435 :: f 436 :: f 437 :: f 438 :: f 439 :: f 440 :: f 441 :: f 442 :: f 443 :: f 444 :: f 445 :: f 446 :: f 447 :: f 448 :: f 449 :: f 450 :: f 451 :: f 452 :: f 453 :: f 454 :: f 455 :: f 456 :: f 457 :: f 458 :: f 459 :: f 460 :: f 461 :: f 462 :: f 463 :: f 464 :: f 465 :: f 466 :: f 467 :: f 468 :: f 469 :: f 470 :: f 471 :: f 472 :: f 473 :: f 474 :: f 475 :: f 476 :: f 477 :: f 478 :: f 479 :: f 480 :: f 481 :: f 482 :: f 483 :: f 484 :: f 485 :: f 486 :: f 487 :: f 488 :: f 489 :: f 490 :: f 491 :: f 492 :: f 493 :: f 494 :: f 495 :: f 496 :: f 497 :: f 498 :: f 499 :: []
theorem frL_eq {xs : List Value} (h : xs.length = 500) : xs = frL fun i => xs[i]?.getD undef := by
  have e : ∀ f : Nat → Value, frL f = (List.range 500).map f := fun f => by kernel_rfl
  rw [e]
  apply List.ext_getElem
  · simp [h]
  · intro i h1 h2
    simp [h1]
def FrR (m sx mb : Nat) (a : Act) : Prop := a.defers = [] ∧ a.tmps.toList.length = 500 ∧ a.tmps.toList[0]? = some (.pointer (some ⟨m, 0, none⟩)) ∧ a.tmps.toList[8]? = some (.pointer (some ⟨sx, 0, none⟩)) ∧ a.tmps.toList[9]? = some (.map (some mb))
theorem FrR.lit {m sx mb : Nat} {a : Act} (h : FrR m sx mb a) : ∃ f : Nat → Value, a = ⟨(.pointer (some ⟨m, 0, none⟩) :: f 1 :: f 2 :: f 3 :: f 4 :: f 5 :: f 6 :: f 7 :: .pointer (some ⟨sx, 0, none⟩) :: .map (some mb) :: f 10 :: f 11 :: f 12 :: f 13 :: f 14 :: f 15 :: f 16 :: f 17 :: f 18 :: f 19 :: f 20 :: f 21 :: f 22 :: f 23 :: f 24 :: f 25 :: f 26 :: f 27 :: f 28 :: f 29 :: f 30 :: f 31 :: f 32 :: f 33 :: f 34 :: f 35 :: f 36 :: f 37 :: f 38 :: f 39 :: f 40 :: f 41 :: f 42 :: f 43 :: f 44 :: f 45 :: f 46 :: f 47 :: f 48 :: f 49 :: f 50 :: f 51 :: f 52 :: f 53 :: f 54 :: f 55 :: f 56 :: f 57 :: f 58 :: f 59 :: f 60 :: f 61 :: f 62 :: f 63 :: f 64 :: f 65 :: f 66 :: f 67 :: f 68 :: f 69 :: f 70 :: f 71 :: f 72 :: f 73 :: f 74 :: f 75 :: f 76 :: f 77 :: f 78 :: f 79 :: f 80 :: f 81 :: f 82 :: f 83 :: f 84 :: f 85 :: f 86 :: f 87 :: f 88 :: f 89 :: f 90 :: f 91 :: f 92 :: f 93 :: f 94 :: f 95 :: f 96 :: f 97 :: f 98 :: f 99 :: f 100 :: f 101 :: f 102 :: f 103 :: f 104 :: f 105 :: f 106 :: f 107 :: f 108 :: f 109 :: f 110 :: f 111 :: f 112 :: f 113 :: f 114 :: f 115 :: f 116 :: f 117 :: f 118 :: f 119 :: f 120 :: f 121 :: f 122 :: f 123 :: f 124 :: f 125 :: f 126 :: f 127 :: f 128 :: f 129 :: f 130 :: f 131 :: f 132 :: f 133 :: f 134 :: f 135 :: f 136 :: f 137 :: f 138 :: f 139 :: f 140 :: f 141 :: f 142 :: f 143 :: f 144 :: f 145 :: f 146 :: f 147 :: f 148 :: f 149 :: f 150 :: f 151 :: f 152 :: f 153 :: f 154 :: f 155 :: f 156 :: f 157 :: f 158 :: f 159 :: f 160 :: f 161 :: f 162 :: f 163 :: f 164 :: f 165 :: f 166 :: f 167 :: f 168 :: f 169 :: f 170 :: f 171 :: f 172 :: f 173 :: f 174 :: f 175 :: f 176 :: f 177 :: f 178 :: f 179 :: f 180 :: f 181 :: f 182 :: f 183 :: f 184 :: f 185 :: f 186 :: f 187 :: f 188 :: f 189 :: f 190 :: f 191 :: f 192 :: f 193 :: f 194 :: f 195 :: f 196 :: f 197 :: f 198 :: f 199 :: f 200 :: f 201 :: f 202 :: f 203 :: f 204 :: f 205 :: f 206 :: f 207 :: f 208 :: f 209 :: f 210 :: f 211 :: f 212 :: f 213 :: f 214 :: f 215 :: f 216 :: f 217 :: f 218 :: f 219 :: f 220 :: f 221 :: f 222 :: f 223 :: f 224 :: f 225 :: f 226 :: f 227 :: f 228 :: f 229 :: f 230 :: f 231 :: f 232 :: f 233 :: f 234 :: f 235 :: f 236 :: f 237 :: f 238 :: f 239 :: f 240 :: f 241 :: f 242 :: f 243 :: f 244 :: f 245 :: f 246 :: f 247 :: f 248 :: f 249 :: f 250 :: f 251 :: f 252 :: f 253 :: f 254 :: f 255 :: f 256 :: f 257 :: f 258 :: f 259 :: f 260 :: f 261 :: f 262 :: f 263 :: f 264 :: f 265 :: f 266 :: f 267 :: f 268 :: f 269 :: f 270 :: f 271 :: f 272 :: f 273 :: f 274 :: f 275 :: f 276 :: f 277 :: f 278 :: f 279 :: f 280 :: f 281 :: f 282 :: f 283 :: f 284 :: f 285 :: f 286 :: f 287 :: f 288 :: f 289 :: f 290 :: f 291 :: f 292 :: f 293 :: f 294 :: f 295 :: f 296 :: f 297 :: f 298 :: f 299 :: f 300 :: f 301 :: f 302 :: f 303 :: f 304 :: f 305 :: f 306 :: f 307 :: f 308 :: f 309 :: f 310 :: f 311 :: f 312 :: f 313 :: f 314 :: f 315 :: f 316 :: f 317 :: f 318 :: f 319 :: f 320 :: f 321 :: f 322 :: f 323 :: f 324 :: f 325 :: f 326 :: f 327 :: f 328 :: f 329 :: f 330 :: f 331 :: f 332 :: f 333 :: f 334 :: f 335 :: f 336 :: f 337 :: f 338 :: f 339 :: f 340 :: f 341 :: f 342 :: f 343 :: f 344 :: f 345 :: f 346 :: f 347 :: f 348 :: f 349 :: f 350 :: f 351 :: f 352 :: f 353 :: f 354 :: f 355 :: f 356 :: f 357 :: f 358 :: f 359 :: f 360 :: f 361 :: f 362 :: f 363 :: f 364 :: f 365 :: f 366 :: f 367 :: f 368 :: f 369 :: f 370 :: f 371 :: f 372 :: f 373 :: f 374 :: f 375 :: f 376 :: f 377 :: f 378 :: f 379 :: f 380 :: f 381 :: f 382 :: f 383 :: f 384 :: f 385 :: f 386 :: f 387 :: f 388 :: f 389 :: f 390 :: f 391 :: f 392 :: f 393 :: f 394 :: f 395 :: f 396 :: f 397 :: f 398 :: f 399 :: f 400 :: f 401 :: f 402 :: f 403 :: f 404 :: f 405 :: f 406 :: f 407 :: f 408 :: f 409 :: f 410 :: f 411 :: f 412 :: f 413 :: f 414 :: f 415 :: f 416 :: f 417 :: f 418 :: f 419 :: f 420 :: f 421 :: f 422 :: f 423 :: f 424 :: f 425 :: f 426 :: f 427 :: f 428 :: f 429 :: f 430 :: f 431 :: f 432 :: f 433 :: f 434 :: f 435 :: f 436 :: f 437 :: f 438 :: f 439 :: f 440 :: f 441 :: f 442 :: f 443 :: f 444 :: f 445 :: f 446 :: f 447 :: f 448 :: f 449 :: f 450 :: f 451 :: f 452 :: f 453 :: f 454 :: f 455 :: f 456 :: f 457 :: f 458 :: f 459 :: f 460 :: f 461 :: f 462 :: f 463 :: f 464 :: f 465 :: f 466 :: f 467 :: f 468 :: f 469 :: f 470 :: f 471 :: f 472 :: f 473 :: f 474 :: f 475 :: f 476 :: f 477 :: f 478 :: f 479 :: f 480 :: f 481 :: f 482 :: f 483 :: f 484 :: f 485 :: f 486 :: f 487 :: f 488 :: f 489 :: f 490 :: f 491 :: f 492 :: f 493 :: f 494 :: f 495 :: f 496 :: f 497 :: f 498 :: f 499 :: []).toArray, []⟩ := by
  obtain ⟨xs, ds⟩ := a
  obtain ⟨h1, h2, k0, k8, k9⟩ := h
  have e := frL_eq h2
  have q0 : (xs.toList[0]?).getD undef = .pointer (some ⟨m, 0, none⟩) := by rw [show xs.toList[0]? = some (.pointer (some ⟨m, 0, none⟩)) from k0]; rfl
  have q8 : (xs.toList[8]?).getD undef = .pointer (some ⟨sx, 0, none⟩) := by rw [show xs.toList[8]? = some (.pointer (some ⟨sx, 0, none⟩)) from k8]; rfl
  have q9 : (xs.toList[9]?).getD undef = .map (some mb) := by rw [show xs.toList[9]? = some (.map (some mb)) from k9]; rfl
  have h1 : ds = [] := h1
  subst h1
  refine ⟨fun i => (xs.toList[i]?).getD undef, ?_⟩
  simp only [frL, q0, q8, q9] at e
  simp only [← e]
def FrB (m sx mb g : Nat) (a : Act) : Prop := a.defers = [] ∧ a.tmps.toList.length = 500 ∧ a.tmps.toList[0]? = some (.pointer (some ⟨m, 0, none⟩)) ∧ a.tmps.toList[8]? = some (.pointer (some ⟨sx, 0, none⟩)) ∧ a.tmps.toList[9]? = some (.map (some mb)) ∧ a.tmps.toList[10]? = some (.pointer (some ⟨g, 0, none⟩)) ∧ a.tmps.toList[11]? = some (.pointer (some ⟨g + 1, 0, none⟩))
theorem FrB.lit {m sx mb g : Nat} {a : Act} (h : FrB m sx mb g a) : ∃ f : Nat → Value, a = ⟨(.pointer (some ⟨m, 0, none⟩) :: f 1 :: f 2 :: f 3 :: f 4 :: f 5 :: f 6 :: f 7 :: .pointer (some ⟨sx, 0, none⟩) :: .map (some mb) :: .pointer (some ⟨g, 0, none⟩) :: .pointer (some ⟨g + 1, 0, none⟩) :: f 12 :: f 13 :: f 14 :: f 15 :: f 16 :: f 17 :: f 18 :: f 19 :: f 20 :: f 21 :: f 22 :: f 23 :: f 24 :: f 25 :: f 26 :: f 27 :: f 28 :: f 29 :: f 30 :: f 31 :: f 32 :: f 33 :: f 34 :: f 35 :: f 36 :: f 37 :: f 38 :: f 39 :: f 40 :: f 41 :: f 42 :: f 43 :: f 44 :: f 45 :: f 46 :: f 47 :: f 48 :: f 49 :: f 50 :: f 51 :: f 52 :: f 53 :: f 54 :: f 55 :: f 56 :: f 57 :: f 58 :: f 59 :: f 60 :: f 61 :: f 62 :: f 63 :: f 64 :: f 65 :: f 66 :: f 67 :: f 68 :: f 69 :: f 70 :: f 71 :: f 72 :: f 73 :: f 74 :: f 75 :: f 76 :: f 77 :: f 78 :: f 79 :: f 80 :: f 81 :: f 82 :: f 83 :: f 84 :: f 85 :: f 86 :: f 87 :: f 88 :: f 89 :: f 90 :: f 91 :: f 92 :: f 93 :: f 94 :: f 95 :: f 96 :: f 97 :: f 98 :: f 99 :: f 100 :: f 101 :: f 102 :: f 103 :: f 104 :: f 105 :: f 106 :: f 107 :: f 108 :: f 109 :: f 110 :: f 111 :: f 112 :: f 113 :: f 114 :: f 115 :: f 116 :: f 117 :: f 118 :: f 119 :: f 120 :: f 121 :: f 122 :: f 123 :: f 124 :: f 125 :: f 126 :: f 127 :: f 128 :: f 129 :: f 130 :: f 131 :: f 132 :: f 133 :: f 134 :: f 135 :: f 136 :: f 137 :: f 138 :: f 139 :: f 140 :: f 141 :: f 142 :: f 143 :: f 144 :: f 145 :: f 146 :: f 147 :: f 148 :: f 149 :: f 150 :: f 151 :: f 152 :: f 153 :: f 154 :: f 155 :: f 156 :: f 157 :: f 158 :: f 159 :: f 160 :: f 161 :: f 162 :: f 163 :: f 164 :: f 165 :: f 166 :: f 167 :: f 168 :: f 169 :: f 170 :: f 171 :: f 172 :: f 173 :: f 174 :: f 175 :: f 176 :: f 177 :: f 178 :: f 179 :: f 180 :: f 181 :: f 182 :: f 183 :: f 184 :: f 185 :: f 186 :: f 187 :: f 188 :: f 189 :: f 190 :: f 191 :: f 192 :: f 193 :: f 194 :: f 195 :: f 196 :: f 197 :: f 198 :: f 199 :: f 200 :: f 201 :: f 202 :: f 203 :: f 204 :: f 205 :: f 206 :: f 207 :: f 208 :: f 209 :: f 210 :: f 211 :: f 212 :: f 213 :: f 214 :: f 215 :: f 216 :: f 217 :: f 218 :: f 219 :: f 220 :: f 221 :: f 222 :: f 223 :: f 224 :: f 225 :: f 226 :: f 227 :: f 228 :: f 229 :: f 230 :: f 231 :: f 232 :: f 233 :: f 234 :: f 235 :: f 236 :: f 237 :: f 238 :: f 239 :: f 240 :: f 241 :: f 242 :: f 243 :: f 244 :: f 245 :: f 246 :: f 247 :: f 248 :: f 249 :: f 250 :: f 251 :: f 252 :: f 253 :: f 254 :: f 255 :: f 256 :: f 257 :: f 258 :: f 259 :: f 260 :: f 261 :: f 262 :: f 263 :: f 264 :: f 265 :: f 266 :: f 267 :: f 268 :: f 269 :: f 270 :: f 271 :: f 272 :: f 273 :: f 274 :: f 275 :: f 276 :: f 277 :: f 278 :: f 279 :: f 280 :: f 281 :: f 282 :: f 283 :: f 284 :: f 285 :: f 286 :: f 287 :: f 288 :: f 289 :: f 290 :: f 291 :: f 292 :: f 293 :: f 294 :: f 295 :: f 296 :: f 297 :: f 298 :: f 299 :: f 300 :: f 301 :: f 302 :: f 303 :: f 304 :: f 305 :: f 306 :: f 307 :: f 308 :: f 309 :: f 310 :: f 311 :: f 312 :: f 313 :: f 314 :: f 315 :: f 316 :: f 317 :: f 318 :: f 319 :: f 320 :: f 321 :: f 322 :: f 323 :: f 324 :: f 325 :: f 326 :: f 327 :: f 328 :: f 329 :: f 330 :: f 331 :: f 332 :: f 333 :: f 334 :: f 335 :: f 336 :: f 337 :: f 338 :: f 339 :: f 340 :: f 341 :: f 342 :: f 343 :: f 344 :: f 345 :: f 346 :: f 347 :: f 348 :: f 349 :: f 350 :: f 351 :: f 352 :: f 353 :: f 354 :: f 355 :: f 356 :: f 357 :: f 358 :: f 359 :: f 360 :: f 361 :: f 362 :: f 363 :: f 364 :: f 365 :: f 366 :: f 367 :: f 368 :: f 369 :: f 370 :: f 371 :: f 372 :: f 373 :: f 374 :: f 375 :: f 376 :: f 377 :: f 378 :: f 379 :: f 380 :: f 381 :: f 382 :: f 383 :: f 384 :: f 385 :: f 386 :: f 387 :: f 388 :: f 389 :: f 390 :: f 391 :: f 392 :: f 393 :: f 394 :: f 395 :: f 396 :: f 397 :: f 398 :: f 399 :: f 400 :: f 401 :: f 402 :: f 403 :: f 404 :: f 405 :: f 406 :: f 407 :: f 408 :: f 409 :: f 410 :: f 411 :: f 412 :: f 413 :: f 414 :: f 415 :: f 416 :: f 417 :: f 418 :: f 419 :: f 420 :: f 421 :: f 422 :: f 423 :: f 424 :: f 425 :: f 426 :: f 427 :: f 428 :: f 429 :: f 430 :: f 431 :: f 432 :: f 433 :: f 434 :: f 435 :: f 436 :: f 437 :: f 438 :: f 439 :: f 440 :: f 441 :: f 442 :: f 443 :: f 444 :: f 445 :: f 446 :: f 447 :: f 448 :: f 449 :: f 450 :: f 451 :: f 452 :: f 453 :: f 454 :: f 455 :: f 456 :: f 457 :: f 458 :: f 459 :: f 460 :: f 461 :: f 462 :: f 463 :: f 464 :: f 465 :: f 466 :: f 467 :: f 468 :: f 469 :: f 470 :: f 471 :: f 472 :: f 473 :: f 474 :: f 475 :: f 476 :: f 477 :: f 478 :: f 479 :: f 480 :: f 481 :: f 482 :: f 483 :: f 484 :: f 485 :: f 486 :: f 487 :: f 488 :: f 489 :: f 490 :: f 491 :: f 492 :: f 493 :: f 494 :: f 495 :: f 496 :: f 497 :: f 498 :: f 499 :: []).toArray, []⟩ := by
  obtain ⟨xs, ds⟩ := a
  obtain ⟨h1, h2, k0, k8, k9, k10, k11⟩ := h
  have e := frL_eq h2
  have q0 : (xs.toList[0]?).getD undef = .pointer (some ⟨m, 0, none⟩) := by rw [show xs.toList[0]? = some (.pointer (some ⟨m, 0, none⟩)) from k0]; rfl
  have q8 : (xs.toList[8]?).getD undef = .pointer (some ⟨sx, 0, none⟩) := by rw [show xs.toList[8]? = some (.pointer (some ⟨sx, 0, none⟩)) from k8]; rfl
  have q9 : (xs.toList[9]?).getD undef = .map (some mb) := by rw [show xs.toList[9]? = some (.map (some mb)) from k9]; rfl
  have q10 : (xs.toList[10]?).getD undef = .pointer (some ⟨g, 0, none⟩) := by rw [show xs.toList[10]? = some (.pointer (some ⟨g, 0, none⟩)) from k10]; rfl
  have q11 : (xs.toList[11]?).getD undef = .pointer (some ⟨g + 1, 0, none⟩) := by rw [show xs.toList[11]? = some (.pointer (some ⟨g + 1, 0, none⟩)) from k11]; rfl
  have h1 : ds = [] := h1
  subst h1
  refine ⟨fun i => (xs.toList[i]?).getD undef, ?_⟩
  simp only [frL, q0, q8, q9, q10, q11] at e
  simp only [← e]
def FrA (m sx mb g : Nat) (k : UInt16) (a : Act) : Prop := a.defers = [] ∧ a.tmps.toList.length = 500 ∧ a.tmps.toList[0]? = some (.pointer (some ⟨m, 0, none⟩)) ∧ a.tmps.toList[8]? = some (.pointer (some ⟨sx, 0, none⟩)) ∧ a.tmps.toList[9]? = some (.map (some mb)) ∧ a.tmps.toList[10]? = some (.pointer (some ⟨g, 0, none⟩)) ∧ a.tmps.toList[11]? = some (.pointer (some ⟨g + 1, 0, none⟩)) ∧ a.tmps.toList[129]? = some (wv k)
theorem FrA.lit {m sx mb g : Nat} {k : UInt16} {a : Act} (h : FrA m sx mb g k a) : ∃ f : Nat → Value, a = ⟨(.pointer (some ⟨m, 0, none⟩) :: f 1 :: f 2 :: f 3 :: f 4 :: f 5 :: f 6 :: f 7 :: .pointer (some ⟨sx, 0, none⟩) :: .map (some mb) :: .pointer (some ⟨g, 0, none⟩) :: .pointer (some ⟨g + 1, 0, none⟩) :: f 12 :: f 13 :: f 14 :: f 15 :: f 16 :: f 17 :: f 18 :: f 19 :: f 20 :: f 21 :: f 22 :: f 23 :: f 24 :: f 25 :: f 26 :: f 27 :: f 28 :: f 29 :: f 30 :: f 31 :: f 32 :: f 33 :: f 34 :: f 35 :: f 36 :: f 37 :: f 38 :: f 39 :: f 40 :: f 41 :: f 42 :: f 43 :: f 44 :: f 45 :: f 46 :: f 47 :: f 48 :: f 49 :: f 50 :: f 51 :: f 52 :: f 53 :: f 54 :: f 55 :: f 56 :: f 57 :: f 58 :: f 59 :: f 60 :: f 61 :: f 62 :: f 63 :: f 64 :: f 65 :: f 66 :: f 67 :: f 68 :: f 69 :: f 70 :: f 71 :: f 72 :: f 73 :: f 74 :: f 75 :: f 76 :: f 77 :: f 78 :: f 79 :: f 80 :: f 81 :: f 82 :: f 83 :: f 84 :: f 85 :: f 86 :: f 87 :: f 88 :: f 89 :: f 90 :: f 91 :: f 92 :: f 93 :: f 94 :: f 95 :: f 96 :: f 97 :: f 98 :: f 99 :: f 100 :: f 101 :: f 102 :: f 103 :: f 104 :: f 105 :: f 106 :: f 107 :: f 108 :: f 109 :: f 110 :: f 111 :: f 112 :: f 113 :: f 114 :: f 115 :: f 116 :: f 117 :: f 118 :: f 119 :: f 120 :: f 121 :: f 122 :: f 123 :: f 124 :: f 125 :: f 126 :: f 127 :: f 128 :: wv k :: f 130 :: f 131 :: f 132 :: f 133 :: f 134 :: f 135 :: f 136 :: f 137 :: f 138 :: f 139 :: f 140 :: f 141 :: f 142 :: f 143 :: f 144 :: f 145 :: f 146 :: f 147 :: f 148 :: f 149 :: f 150 :: f 151 :: f 152 :: f 153 :: f 154 :: f 155 :: f 156 :: f 157 :: f 158 :: f 159 :: f 160 :: f 161 :: f 162 :: f 163 :: f 164 :: f 165 :: f 166 :: f 167 :: f 168 :: f 169 :: f 170 :: f 171 :: f 172 :: f 173 :: f 174 :: f 175 :: f 176 :: f 177 :: f 178 :: f 179 :: f 180 :: f 181 :: f 182 :: f 183 :: f 184 :: f 185 :: f 186 :: f 187 :: f 188 :: f 189 :: f 190 :: f 191 :: f 192 :: f 193 :: f 194 :: f 195 :: f 196 :: f 197 :: f 198 :: f 199 :: f 200 :: f 201 :: f 202 :: f 203 :: f 204 :: f 205 :: f 206 :: f 207 :: f 208 :: f 209 :: f 210 :: f 211 :: f 212 :: f 213 :: f 214 :: f 215 :: f 216 :: f 217 :: f 218 :: f 219 :: f 220 :: f 221 :: f 222 :: f 223 :: f 224 :: f 225 :: f 226 :: f 227 :: f 228 :: f 229 :: f 230 :: f 231 :: f 232 :: f 233 :: f 234 :: f 235 :: f 236 :: f 237 :: f 238 :: f 239 :: f 240 :: f 241 :: f 242 :: f 243 :: f 244 :: f 245 :: f 246 :: f 247 :: f 248 :: f 249 :: f 250 :: f 251 :: f 252 :: f 253 :: f 254 :: f 255 :: f 256 :: f 257 :: f 258 :: f 259 :: f 260 :: f 261 :: f 262 :: f 263 :: f 264 :: f 265 :: f 266 :: f 267 :: f 268 :: f 269 :: f 270 :: f 271 :: f 272 :: f 273 :: f 274 :: f 275 :: f 276 :: f 277 :: f 278 :: f 279 :: f 280 :: f 281 :: f 282 :: f 283 :: f 284 :: f 285 :: f 286 :: f 287 :: f 288 :: f 289 :: f 290 :: f 291 :: f 292 :: f 293 :: f 294 :: f 295 :: f 296 :: f 297 :: f 298 :: f 299 :: f 300 :: f 301 :: f 302 :: f 303 :: f 304 :: f 305 :: f 306 :: f 307 :: f 308 :: f 309 :: f 310 :: f 311 :: f 312 :: f 313 :: f 314 :: f 315 :: f 316 :: f 317 :: f 318 :: f 319 :: f 320 :: f 321 :: f 322 :: f 323 :: f 324 :: f 325 :: f 326 :: f 327 :: f 328 :: f 329 :: f 330 :: f 331 :: f 332 :: f 333 :: f 334 :: f 335 :: f 336 :: f 337 :: f 338 :: f 339 :: f 340 :: f 341 :: f 342 :: f 343 :: f 344 :: f 345 :: f 346 :: f 347 :: f 348 :: f 349 :: f 350 :: f 351 :: f 352 :: f 353 :: f 354 :: f 355 :: f 356 :: f 357 :: f 358 :: f 359 :: f 360 :: f 361 :: f 362 :: f 363 :: f 364 :: f 365 :: f 366 :: f 367 :: f 368 :: f 369 :: f 370 :: f 371 :: f 372 :: f 373 :: f 374 :: f 375 :: f 376 :: f 377 :: f 378 :: f 379 :: f 380 :: f 381 :: f 382 :: f 383 :: f 384 :: f 385 :: f 386 :: f 387 :: f 388 :: f 389 :: f 390 :: f 391 :: f 392 :: f 393 :: f 394 :: f 395 :: f 396 :: f 397 :: f 398 :: f 399 :: f 400 :: f 401 :: f 402 :: f 403 :: f 404 :: f 405 :: f 406 :: f 407 :: f 408 :: f 409 :: f 410 :: f 411 :: f 412 :: f 413 :: f 414 :: f 415 :: f 416 :: f 417 :: f 418 :: f 419 :: f 420 :: f 421 :: f 422 :: f 423 :: f 424 :: f 425 :: f 426 :: f 427 :: f 428 :: f 429 :: f 430 :: f 431 :: f 432 :: f 433 :: f 434 :: f 435 :: f 436 :: f 437 :: f 438 :: f 439 :: f 440 :: f 441 :: f 442 :: f 443 :: f 444 :: f 445 :: f 446 :: f 447 :: f 448 :: f 449 :: f 450 :: f 451 :: f 452 :: f 453 :: f 454 :: f 455 :: f 456 :: f 457 :: f 458 :: f 459 :: f 460 :: f 461 :: f 462 :: f 463 :: f 464 :: f 465 :: f 466 :: f 467 :: f 468 :: f 469 :: f 470 :: f 471 :: f 472 :: f 473 :: f 474 :: f 475 :: f 476 :: f 477 :: f 478 :: f 479 :: f 480 :: f 481 :: f 482 :: f 483 :: f 484 :: f 485 :: f 486 :: f 487 :: f 488 :: f 489 :: f 490 :: f 491 :: f 492 :: f 493 :: f 494 :: f 495 :: f 496 :: f 497 :: f 498 :: f 499 :: []).toArray, []⟩ := by
  obtain ⟨xs, ds⟩ := a
  obtain ⟨h1, h2, k0, k8, k9, k10, k11, k129⟩ := h
  have e := frL_eq h2
  have q0 : (xs.toList[0]?).getD undef = .pointer (some ⟨m, 0, none⟩) := by rw [show xs.toList[0]? = some (.pointer (some ⟨m, 0, none⟩)) from k0]; rfl
  have q8 : (xs.toList[8]?).getD undef = .pointer (some ⟨sx, 0, none⟩) := by rw [show xs.toList[8]? = some (.pointer (some ⟨sx, 0, none⟩)) from k8]; rfl
  have q9 : (xs.toList[9]?).getD undef = .map (some mb) := by rw [show xs.toList[9]? = some (.map (some mb)) from k9]; rfl
  have q10 : (xs.toList[10]?).getD undef = .pointer (some ⟨g, 0, none⟩) := by rw [show xs.toList[10]? = some (.pointer (some ⟨g, 0, none⟩)) from k10]; rfl
  have q11 : (xs.toList[11]?).getD undef = .pointer (some ⟨g + 1, 0, none⟩) := by rw [show xs.toList[11]? = some (.pointer (some ⟨g + 1, 0, none⟩)) from k11]; rfl
  have q129 : (xs.toList[129]?).getD undef = wv k := by rw [show xs.toList[129]? = some (wv k) from k129]; rfl
  have h1 : ds = [] := h1
  subst h1
  refine ⟨fun i => (xs.toList[i]?).getD undef, ?_⟩
  simp only [frL, q0, q8, q9, q10, q11, q129] at e
  simp only [← e]
theorem ChStep.i_host {M M' : Ch} {k : UInt16} {d : List UInt8} (h : ChStep M k d M') (hk : k = 0) : ∃ h, M.host = [] ∧ h ≠ [] ∧ h.getLast? ≠ some 46 ∧ d = be 2 (3 + h.length) ++ (0 :: (be 2 h.length ++ h)) ∧ M' = { M with host := h } := by
  cases h <;> first
    | (exact absurd hk (by decide))
    | (exfalso; rename_i h1 h2; rw [hk] at h1 h2; revert h1 h2; decide)
    | exact ⟨_, by assumption, by assumption, by assumption, by assumption, rfl⟩
theorem ChStep.i_ocsp {M M' : Ch} {k : UInt16} {d : List UInt8} (h : ChStep M k d M') (hk : k = 5) : d = [1, 0, 0, 0, 0] ∧ M' = { M with ocsp := true } := by
  cases h <;> first
    | (exact absurd hk (by decide))
    | (exfalso; rename_i h1 h2; rw [hk] at h1 h2; revert h1 h2; decide)
    | exact ⟨by assumption, rfl⟩
theorem ChStep.i_curves {M M' : Ch} {k : UInt16} {d : List UInt8} (h : ChStep M k d M') (hk : k = 10) : ∃ l, M.curves = [] ∧ l ≠ [] ∧ d = be 2 (wordsB l).length ++ wordsB l ∧ M' = { M with curves := l } := by
  cases h <;> first
    | (exact absurd hk (by decide))
    | (exfalso; rename_i h1 h2; rw [hk] at h1 h2; revert h1 h2; decide)
    | exact ⟨_, by assumption, by assumption, by assumption, rfl⟩
theorem ChStep.i_pts {M M' : Ch} {k : UInt16} {d : List UInt8} (h : ChStep M k d M') (hk : k = 11) : ∃ x, x ≠ [] ∧ x.length < 256 ∧ d = be 1 x.length ++ x ∧ M' = { M with pts := x } := by
  cases h <;> first
    | (exact absurd hk (by decide))
    | (exfalso; rename_i h1 h2; rw [hk] at h1 h2; revert h1 h2; decide)
    | exact ⟨_, by assumption, by assumption, by assumption, rfl⟩
theorem ChStep.i_ticket {M M' : Ch} {k : UInt16} {d : List UInt8} (h : ChStep M k d M') (hk : k = 35) : M' = { M with ticket := true, tick := d } := by
  cases h <;> first
    | (exact absurd hk (by decide))
    | (exfalso; rename_i h1 h2; rw [hk] at h1 h2; revert h1 h2; decide)
    | exact rfl
theorem ChStep.i_sig {M M' : Ch} {k : UInt16} {d : List UInt8} (h : ChStep M k d M') (hk : k = 13) : ∃ l, M.sig = [] ∧ l ≠ [] ∧ d = be 2 (wordsB l).length ++ wordsB l ∧ M' = { M with sig := l } := by
  cases h <;> first
    | (exact absurd hk (by decide))
    | (exfalso; rename_i h1 h2; rw [hk] at h1 h2; revert h1 h2; decide)
    | exact ⟨_, by assumption, by assumption, by assumption, rfl⟩
theorem ChStep.i_sigc {M M' : Ch} {k : UInt16} {d : List UInt8} (h : ChStep M k d M') (hk : k = 50) : ∃ l, M.sigc = [] ∧ l ≠ [] ∧ d = be 2 (wordsB l).length ++ wordsB l ∧ M' = { M with sigc := l } := by
  cases h <;> first
    | (exact absurd hk (by decide))
    | (exfalso; rename_i h1 h2; rw [hk] at h1 h2; revert h1 h2; decide)
    | exact ⟨_, by assumption, by assumption, by assumption, rfl⟩
theorem ChStep.i_rn {M M' : Ch} {k : UInt16} {d : List UInt8} (h : ChStep M k d M') (hk : k = 65281) : ∃ x, x.length < 256 ∧ d = be 1 x.length ++ x ∧ M' = { M with rns := true, rn := x } := by
  cases h <;> first
    | (exact absurd hk (by decide))
    | (exfalso; rename_i h1 h2; rw [hk] at h1 h2; revert h1 h2; decide)
    | exact ⟨_, by assumption, by assumption, rfl⟩
theorem ChStep.i_ems {M M' : Ch} {k : UInt16} {d : List UInt8} (h : ChStep M k d M') (hk : k = 23) : d = [] ∧ M' = { M with ems := true } := by
  cases h <;> first
    | (exact absurd hk (by decide))
    | (exfalso; rename_i h1 h2; rw [hk] at h1 h2; revert h1 h2; decide)
    | exact ⟨by assumption, rfl⟩
theorem ChStep.i_alpn {M M' : Ch} {k : UInt16} {d : List UInt8} (h : ChStep M k d M') (hk : k = 16) : ∃ l, M.alpn = [] ∧ l ≠ [] ∧ (∀ x ∈ l, x ≠ [] ∧ x.length < 256) ∧ d = be 2 (vecsB 1 l).length ++ vecsB 1 l ∧ M' = { M with alpn := l } := by
  cases h <;> first
    | (exact absurd hk (by decide))
    | (exfalso; rename_i h1 h2; rw [hk] at h1 h2; revert h1 h2; decide)
    | exact ⟨_, by assumption, by assumption, by assumption, by assumption, rfl⟩
theorem ChStep.i_scts {M M' : Ch} {k : UInt16} {d : List UInt8} (h : ChStep M k d M') (hk : k = 18) : d = [] ∧ M' = { M with scts := true } := by
  cases h <;> first
    | (exact absurd hk (by decide))
    | (exfalso; rename_i h1 h2; rw [hk] at h1 h2; revert h1 h2; decide)
    | exact ⟨by assumption, rfl⟩
theorem ChStep.i_sv {M M' : Ch} {k : UInt16} {d : List UInt8} (h : ChStep M k d M') (hk : k = 43) : ∃ l, M.sv = [] ∧ l ≠ [] ∧ (wordsB l).length < 256 ∧ d = be 1 (wordsB l).length ++ wordsB l ∧ M' = { M with sv := l } := by
  cases h <;> first
    | (exact absurd hk (by decide))
    | (exfalso; rename_i h1 h2; rw [hk] at h1 h2; revert h1 h2; decide)
    | exact ⟨_, by assumption, by assumption, by assumption, by assumption, rfl⟩
theorem ChStep.i_cookie {M M' : Ch} {k : UInt16} {d : List UInt8} (h : ChStep M k d M') (hk : k = 44) : ∃ x, x ≠ [] ∧ d = be 2 x.length ++ x ∧ M' = { M with cookie := x } := by
  cases h <;> first
    | (exact absurd hk (by decide))
    | (exfalso; rename_i h1 h2; rw [hk] at h1 h2; revert h1 h2; decide)
    | exact ⟨_, by assumption, by assumption, rfl⟩
theorem ChStep.i_ks {M M' : Ch} {k : UInt16} {d : List UInt8} (h : ChStep M k d M') (hk : k = 51) : ∃ l : List (UInt16 × List UInt8), M.kg = [] ∧ M.kd = [] ∧ l ≠ [] ∧ (∀ e ∈ l, e.2 ≠ []) ∧ d = be 2 (kshB l).length ++ kshB l ∧ M' = { M with kg := l.map (·.1), kd := l.map (·.2) } := by
  cases h <;> first
    | (exact absurd hk (by decide))
    | (exfalso; rename_i h1 h2; rw [hk] at h1 h2; revert h1 h2; decide)
    | exact ⟨_, by assumption, by assumption, by assumption, by assumption, by assumption, rfl⟩
theorem ChStep.i_early {M M' : Ch} {k : UInt16} {d : List UInt8} (h : ChStep M k d M') (hk : k = 42) : d = [] ∧ M' = { M with early := true } := by
  cases h <;> first
    | (exact absurd hk (by decide))
    | (exfalso; rename_i h1 h2; rw [hk] at h1 h2; revert h1 h2; decide)
    | exact ⟨by assumption, rfl⟩
theorem ChStep.i_modes {M M' : Ch} {k : UInt16} {d : List UInt8} (h : ChStep M k d M') (hk : k = 45) : ∃ x, x ≠ [] ∧ x.length < 256 ∧ d = be 1 x.length ++ x ∧ M' = { M with modes := x } := by
  cases h <;> first
    | (exact absurd hk (by decide))
    | (exfalso; rename_i h1 h2; rw [hk] at h1 h2; revert h1 h2; decide)
    | exact ⟨_, by assumption, by assumption, by assumption, rfl⟩
theorem ChStep.i_quic {M M' : Ch} {k : UInt16} {d : List UInt8} (h : ChStep M k d M') (hk : k = 57) : M' = { M with quic := true, qtp := d } := by
  cases h <;> first
    | (exact absurd hk (by decide))
    | (exfalso; rename_i h1 h2; rw [hk] at h1 h2; revert h1 h2; decide)
    | exact rfl
theorem ChStep.i_ech {M M' : Ch} {k : UInt16} {d : List UInt8} (h : ChStep M k d M') (hk : k = 65037) : d ≠ [] ∧ M' = { M with ech := d } := by
  cases h <;> first
    | (exact absurd hk (by decide))
    | (exfalso; rename_i h1 h2; rw [hk] at h1 h2; revert h1 h2; decide)
    | exact ⟨by assumption, rfl⟩
theorem ChStep.i_psk {M M' : Ch} {k : UInt16} {d : List UInt8} (h : ChStep M k d M') (hk : k = 41) : ∃ (l : List (List UInt8 × UInt32)) (b : List (List UInt8)), M.pl = [] ∧ M.pa = [] ∧ M.pb = [] ∧ l ≠ [] ∧ (∀ e ∈ l, e.1 ≠ []) ∧ b.length = l.length ∧ (∀ x ∈ b, 32 ≤ x.length ∧ x.length < 256) ∧ d = be 2 (identsB l).length ++ (identsB l ++ (be 2 (vecsB 1 b).length ++ vecsB 1 b)) ∧ M' = { M with pl := l.map (·.1), pa := l.map (·.2), pb := b } := by
  cases h <;> first
    | (exact absurd hk (by decide))
    | (exfalso; rename_i h1 h2; rw [hk] at h1 h2; revert h1 h2; decide)
    | exact ⟨_, _, by assumption, by assumption, by assumption, by assumption, by assumption, by assumption, by assumption, by assumption, rfl⟩
theorem ChStep.i_other {M M' : Ch} {k : UInt16} {d : List UInt8} (h : ChStep M k d M') (hk : k ≠ 0 ∧ k ≠ 5 ∧ k ≠ 10 ∧ k ≠ 11 ∧ k ≠ 35 ∧ k ≠ 13 ∧ k ≠ 50 ∧ k ≠ 65281 ∧ k ≠ 23 ∧ k ≠ 16 ∧ k ≠ 18 ∧ k ≠ 43 ∧ k ≠ 44 ∧ k ≠ 51 ∧ k ≠ 42 ∧ k ≠ 45 ∧ k ≠ 57 ∧ k ≠ 65037 ∧ k ≠ 41) : M' = M := by
  obtain ⟨h0, h5, h10, h11, h35, h13, h50, h65281, h23, h16, h18, h43, h44, h51, h42, h45, h57, h65037, h41⟩ := hk
  cases h <;> first
    | rfl
    | contradiction
end Go.Proofs.Ytaajmfgplhfncaa
namespace Go.Proofs.Ytaajmfgplhfncaa
open Go.RowKit Go.Maps
set_option maxRecDepth 100000
def ChAft (w0 : World) (B m s sx mb g : Nat) (v0 v4 : Value) (us : List Value) (t' : Ch) (L : List Ex) (xl : Nat) (a' : Act) (w' : World) : Prop :=
  FrB m sx mb g a' ∧ ∃ (M : Ch) (cs : Array Value), CSt w0 B m s sx mb w'.heap.size 90 cs (chF0 v0 v4 M) (exsB L) M.exs.length M.exs.reverse v4 us w' ∧ Sv w' B (g + 1) [] True ∧ M.exs.length + (exsB L).length ≤ xl ∧ ChRun M L t'
def ChArm (w0 : World) (B m s sx mb g : Nat) (v0 v4 : Value) (us : List Value) (M : Ch) (L : List Ex) (a' : Act) (w' : World) : Prop :=
  FrB m sx mb g a' ∧ ∃ (cs : Array Value), CSt w0 B m s sx mb w'.heap.size 90 cs (chF0 v0 v4 M) (exsB L) M.exs.length M.exs.reverse v4 us w' ∧ Sv w' B (g + 1) [] True
def ChEnd (w0 : World) (B m s sx mb : Nat) (v0 v4 : Value) (us : List Value) (t' : Ch) (L : List Ex) (xl : Nat) (a' : Act) (w' : World) : Prop :=
  FrR m sx mb a' ∧ ∃ (M : Ch) (cs : Array Value), CSt w0 B m s sx mb w'.heap.size 90 cs (chF0 v0 v4 M) (exsB L) M.exs.length M.exs.reverse v4 us w' ∧ M.exs.length + (exsB L).length ≤ xl ∧ ChRun M L t'
section
variable {w0 w w' wr : World} {B m s sx mb g n : Nat} {v0 v4 : Value} {us : List Value} {t' M M1 : Ch} {L : List Ex} {xl : Nat} {a : Act} {k : UInt16} {ed : List UInt8} {cs : Array Value} {K : Act → World → Prop}
set_option maxHeartbeats 16000000 in
theorem app28_Ch (hF : FrB m sx mb g a) (U : CSt w0 B m s sx mb g 90 cs (chF0 v0 v4 M) (exsB L) (M.exs.length + 1) (k :: M.exs.reverse) v4 us w) (hd : Sv w B (g + 1) ed True) (hk : Blk w g 22 #[wv k]) (hx : M.exs.length < 65536) (hB : B ≤ m)
    (hQ : ∀ (a' : Act) (w' : World) (cs' : Array Value), FrB m sx mb g a' → DSt w0 B m s sx mb (g + 1) w'.heap.size 90 cs' (chF0 v0 v4 { M with exs := M.exs ++ [k] }) (exsB L) (M.exs ++ [k]).length (M.exs ++ [k]).reverse v4 us w' → Sv w' B (g + 1) ed True → Blk w' g 22 #[wv k] → K a' w') :
    Code.wp Try.prog (chC [true, true, true, true, true, true, true, true, true, true, true, true, true, true, false, false, false, true, false, true, true, true, true, true, false]) (Exit.then K fun _ _ _ => False) a w := by
  obtain ⟨f, rfl⟩ := hF.lit
  have HQ := hid hQ
  clear hQ hF
  obtain ⟨l1, l2, l3, l4, l5, l6⟩ := U.lt
  have hls := U.ls
  obtain ⟨v28, hcv, hown⟩ := U.ms.get (i := 28) rfl
  have hown : Own w (mb + 1) 22 v28 (M.exs.map wv) := hown
  have hsz : g + 1 < w.heap.size := by obtain ⟨-, pv, hpb, -⟩ := hd; exact hpb.lt
  obtain ⟨Av, cv, rfl⟩ := hown.formN (n := M.exs.length) (by simp)
  have hm := U.ms.blk
  have hnm : m ∉ (Value.slice Av M.exs.length cv).ownBlock.toList := fun hm' => by have := hown.ne hm (by decide) m (Option.mem_toList.1 hm'); exact this rfl
  have c0 := U.ms.cell hcv
  have c0f := hm.frozen 28
  have c1 := hk.cell 0
  have a0 := ((hm.alloc (.cells #[wv k] 22)).cell 28).trans hcv
  have a0f := (hm.alloc (.cells #[wv k] 22)).frozen 28
  have a1 := (hk.alloc (.cells #[wv k] 22)).cell 0
  simp at c1 a1
  have U' := hid U
  have HCV := hid hcv
  clear U hls hcv
  conv => arg 2; whnf
  go_region_law (first | (refine step_append_row (v := .slice Av M.exs.length cv) _ rfl _ _ 24 rfl (mb + 1) 22 (.int .u16 0) 2 Try.underlying24 info_u16 rfl rfl (hown.upd (((Upd.refl [] _).alloc _).drew) (by simp)) rfl (Row.drew (Row.one w 22 (wv k))) (by intro u hu; simp at hu; subst hu; rfl) (by simp; omega) (by simp; omega) (by simp; omega) ?_; intro v3 w3 hap; obtain ⟨A3, c3, hv3⟩ := Own.formN (n := M.exs.length + 1) hap.1 (by simp); subst hv3; have hm3 := ((hm.alloc (.cells #[wv k] 22)).drew).upd hap.2.1 hnm; have e0 := (hm3.cell 28).trans HCV.out; have g0 := hm3.frozen 28))
  all_goals
    have hup : Upd [m] w3 (w3.setCell ⟨m, 28, none⟩ (.slice A3 (M.exs.length + 1) c3)) := (Upd.refl _ _).setCell (by simp) _
    have hmz := hm3.set_ 28 (.slice A3 (M.exs.length + 1) c3)
    have huD : Upd [] w (w.alloc (.cells #[wv k] 22)).drew := ((Upd.refl [] _).alloc _).drew
    generalize hwz : w3.setCell ⟨m, 28, none⟩ (.slice A3 (M.exs.length + 1) c3) = wz at hup hmz ⊢
    have huz : Upd (m :: (Value.slice Av M.exs.length cv).ownBlock.toList) w wz := ((huD.mono (by simp)).trans hap.2.1 (fun k hk => .inl (List.mem_cons_of_mem _ hk))).trans hup (by simp)
    have hoz : Own wz (mb + 1) 22 (.slice A3 (M.exs.length + 1) c3) ((M.exs ++ [k]).map wv) := by
      rw [List.map_append]
      exact hap.1.upd hup (fun g' hg hk => by
        have := hap.1.ne hm3 (by decide) g' hg
        simp at hk; exact this hk)
    have hnx : nextV (.slice Av M.exs.length cv) (.slice A3 (M.exs.length + 1) c3) w.heap.size := by
      rcases hap.2.2 with h3 | h3
      · exact .inl h3
      · exact .inr ⟨_, h3, huD.size⟩
    have own := fun g' hg' => U'.out.ms.own 28 _ _ g' HCV.out rfl rfl hg'
    have D := (U'.out.wide (hi' := g + 1) (by omega) (by omega)).dst (f := .row 22 ((M.exs ++ [k]).map wv)) HCV.out rfl rfl hsz huz hmz hoz hnx (fun g' hg' => (hoz.ge hg').2)
    have hne : ∀ j ∈ m :: (Value.slice Av M.exs.length cv).ownBlock.toList, j = m ∨ (mb + 1 ≤ j ∧ j < g) := by
      intro j hj
      rcases List.mem_cons.1 hj with hj | hj
      · exact .inl hj
      · have hj := Option.mem_toList.1 hj
        have h1 := own j hj
        exact .inr h1
    have hdz := hd.upd huz (fun j hj => by have := hne j hj; omega) (fun hj => by have := hne _ hj; omega)
    have hkz := hk.upd huz (fun hj => by have := hne _ hj; omega)
    have D2 := D.cast (show _ = chF0 v0 v4 { M with exs := M.exs ++ [k] } from rfl)
    rw [show M.exs.length + 1 = (M.exs ++ [k]).length by simp, show k :: M.exs.reverse = (M.exs ++ [k]).reverse by simp] at D2
    clear hup hmz huD hwz huz hoz hnx own D hne hap hm3 e0 g0 a0 a0f a1 c0 c0f c1 hd hk hown hnm
    go_wp2
    exact HQ.out _ _ _ ⟨rfl, by kernel_rfl, by kernel_rfl, by kernel_rfl, by kernel_rfl, by kernel_rfl, by kernel_rfl⟩ D2 hdz hkz
set_option maxHeartbeats 16000000 in
theorem tail_Ch (hF : FrB m sx mb g a) (hd : Sv w B (g + 1) [] True) (hQ : ∀ a', FrR m sx mb a' → K a' w) : Code.wp Try.prog (chC [true, true, true, true, true, true, true, true, true, true, true, true, true, true, false, false, false, true, false, true, true, true, true, true, true, true]) (Exit.then K fun _ _ _ => False) a w := by
  obtain ⟨f, rfl⟩ := hF.lit
  have HQ := hid hQ
  clear hQ hF
  obtain ⟨A7, c7, e7, -, hy7, -⟩ := hd.open_
  have H7 := hid (Empty_any hy7)
  clear hy7
  conv => arg 2; whnf
  go_wp2_with fail
  refine H7.out.mono ?_
  rintro e w20 ⟨rfl, rfl⟩
  go_wp2
  exact HQ.out _ ⟨rfl, by kernel_rfl, by kernel_rfl, by kernel_rfl, by kernel_rfl⟩
end
end Go.Proofs.Ytaajmfgplhfncaa

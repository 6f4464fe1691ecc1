/- Certificate of TLS 1.3: read by the reference. -/
import Derived.Test.YtddkjhlngofkaaaCtE
import Derived.Test.YtddkjhlngofkaaaSpecE
import Derived.Test.YtddkjhlngofkaaaReader
import Derived.Test.YtddkjhlngofkaaaCtU
import Derived.Deep.LoopGhost
import Derived.Deep.CutRange
namespace Go.Proofs.Ytddkjhlngofkaaa
open Go.RowKit
set_option maxRecDepth 100000

theorem ct_vec_len (s : R) (n lo hi : Nat) (hn : n ≤ 3) : (s.vec n lo hi).1.length ≤ 16777215 := by
  unfold R.vec
  simp only
  split
  · rw [take_len]
    have h1 := beNat_lt (s.take n).1
    rw [take_len] at h1
    have h2 : 256 ^ n ≤ 256 ^ 3 := Nat.pow_le_pow_right (by omega) (by omega)
    show beNat (s.take n).1 ≤ _
    omega
  · simp
theorem R.fail_len (s : R) (c : Nat) : (s.fail c).bs.length ≤ s.bs.length := by
  unfold R.fail
  simp
theorem R.done_len (s x : R) : (s.done x).bs.length ≤ s.bs.length := by
  unfold R.done
  split
  · exact Nat.le_refl _
  · exact R.fail_len _ _
theorem R.exts_blen (s : R) : s.exts.2.bs.length ≤ s.bs.length := by
  have h := R.done_len (s.vec 2 0 65535).2 (R.extsGo s.block.bs.length s.block []).2
  have h2 := vec_bs_len s 2 0 65535
  show ((s.vec 2 0 65535).2.done (R.extsGo s.block.bs.length s.block []).2).bs.length ≤ _
  omega
/-- what the fields own -/
structure RfF (w : World) (N lo : Nat) (vc vst vsp : Value) (M : Ct) : Prop where
  oc : Vecs w lo N vc M.certs
  os : Byt w N vst M.staple
  op : VecsIn w N lo w.heap.size vsp M.stamps
  a : apartV vc vsp
section
variable {w w' : World} {N lo m q : Nat} {v vc vst vsp vst' vsp' : Value} {M : Ct} {S : List Nat} {data : List UInt8} {e : Ending} {s x' : R}
def RdAt (w : World) (q : Nat) : Prop := ∃ cs, Blk w q 73 cs
theorem Rd.at (h : Rd w N q s) : RdAt w q := by obtain ⟨_, v, hb, _⟩ := h; exact ⟨_, hb⟩
theorem RfF.lt (h : RfF w N lo vc vst vsp M) : (∀ g, vc.ownBlock = some g → lo ≤ g ∧ g < w.heap.size) ∧ (∀ g, vsp.ownBlock = some g → lo ≤ g ∧ g < w.heap.size) := by
  obtain ⟨us, h4, -⟩ := h.oc
  exact ⟨fun g hg => h4.ge hg, h.op.2⟩
theorem Vecs.neRd {lo' : Nat} {ls : List (List UInt8)} (h : Vecs w lo' N v ls) (hq : RdAt w q) : v.ownBlock ≠ some q := by
  obtain ⟨us, h4, -⟩ := h
  obtain ⟨cs, hb⟩ := hq
  exact fun hg => h4.ne hb (by decide) q hg rfl
theorem RfF.upd (h : RfF w N lo vc vst vsp M) (hu : Upd S w w') (hN : ∀ k ∈ S, N ≤ k) (hS : ∀ k ∈ S, k < lo ∨ w.heap.size ≤ k ∨ RdAt w k) : RfF w' N lo vc vst vsp M := by
  obtain ⟨l1, l2⟩ := h.lt
  have hop := h.op
  obtain ⟨⟨b, o1⟩, o2⟩ := hop
  refine ⟨h.oc.upd hu (fun g hg hk => ?_) hN, h.os.upd hu hN, ⟨⟨b, o1.upd hu (fun g hg hk => ?_) hN⟩, fun g hg => by have := o2 g hg; have := hu.size; omega⟩, h.a⟩
  · have := l1 g hg
    rcases hS g hk with h1 | h1 | h1
    · omega
    · omega
    · exact h.oc.neRd h1 hg
  · have := l2 g hg
    rcases hS g hk with h1 | h1 | h1
    · omega
    · omega
    · exact o1.neRd h1 hg
theorem RfF.nil (w : World) (N lo : Nat) : RfF w N lo (.slice none 0 0) (.slice none 0 0) (.slice none 0 0) Ct.zero :=
  ⟨⟨[], Own.nil_ _ _ _, trivial⟩, Row.nil_ _ _, VecsIn.nil_ _ _ _ _, fun _ h => (by cases h)⟩
theorem RfF.cex {k : UInt16} {x : R} (h : RfF w N lo vc vst vsp M) (hp : CexP w N q m vc vst vsp M (ctRd M k x).1 x' e w') (hq : RdAt w q) (hNq : N ≤ q) (hNm : N ≤ m) (hml : m < lo) (hlw : lo ≤ w.heap.size) :
    ∃ vst' vsp', Blk w' m 53 #[vc, .bool (ctRd M k x).1.ocsp, .bool (ctRd M k x).1.scts, vst', vsp'] ∧ RfF w' N lo vc vst' vsp' (ctRd M k x).1 := by
  obtain ⟨-, hu, -, vst', vsp', hb, h1, h2⟩ := hp
  have hc : (ctRd M k x).1.certs = M.certs := by
    unfold ctRd
    split
    · rfl
    · split <;> rfl
  have hS : ∀ j ∈ [q, m], j < lo ∨ w.heap.size ≤ j ∨ RdAt w j := by
    intro j hj
    simp at hj
    rcases hj with rfl | rfl
    · exact .inr (.inr hq)
    · exact .inl hml
  have h' := h.upd hu (by simp; omega) hS
  obtain ⟨l1, l2⟩ := h.lt
  have hsz := hu.size
  refine ⟨vst', vsp', hb, by rw [hc]; exact h'.oc, ?_, ?_, ?_⟩
  · rcases h1 with ⟨rfl, h1⟩ | h1
    · rw [h1]; exact h'.os
    · exact h1
  · rcases h2 with ⟨rfl, h2⟩ | h2
    · rw [h2]; exact h'.op
    · exact h2.wide hlw (Nat.le_refl _)
  · rcases h2 with ⟨rfl, h2⟩ | h2
    · exact h.a
    · intro g hg he
      have := l1 g hg
      have := h2.2 g he
      omega
theorem RfF.add {c : List UInt8} {v' : Value} (h : RfF w N lo vc vst vsp M) (hu : Upd S w w') (hN : ∀ k ∈ S, N ≤ k) (hS : ∀ k ∈ S, vsp.ownBlock ≠ some k) (ho : Vecs w' lo N v' (M.certs ++ [c])) (hn : nextV vc v' w.heap.size) : RfF w' N lo v' vst vsp (M.add c) := by
  obtain ⟨l1, l2⟩ := h.lt
  have hop := h.op
  obtain ⟨⟨b, o1⟩, o2⟩ := hop
  exact ⟨ho, h.os.upd hu hN, ⟨⟨b, o1.upd hu (fun g hg hk => hS g hk hg) hN⟩, fun g hg => by have := o2 g hg; have := hu.size; omega⟩, (h.a.symm.next hn fun g hg => (l2 g hg).2).symm⟩
/-- the loop over certificates; over a certificate's extensions -/
def CtSRel1 (w : World) (N q2 q mb rb lo : Nat) (rQ : R) (G : Ct × R) (gk : Nat) (wr : World) : Prop :=
  ∃ (f : Nat) (M : Ct) (y : R) (vc vst vsp : Value), gk = y.bs.length ∧ Blk wr mb 53 #[vc, .bool M.ocsp, .bool M.scts, vst, vsp] ∧ Blk wr rb 53 #[.slice none 0 0, .bool false, .bool false, .slice none 0 0, .slice none 0 0] ∧ Rd wr N q rQ ∧ Rd wr N q2 y ∧ RfF wr N lo vc vst vsp M ∧ Upd [] w wr ∧ q2 < wr.heap.size ∧
    G = ctGoR f (M, y) ∧ y.bs.length ≤ f ∧ M.certs.length + y.bs.length ≤ 16777215
def CtSRel2 (w : World) (N q2 q mb rb lo base n1 bound : Nat) (rQ : R) (v : Value) (L : List Ex) (S0 : Ct × R) (gk : Nat) (i : Value) (wr : World) : Prop :=
  ∃ (j : Nat) (M : Ct) (y : R) (vc vst vsp : Value), j + gk = L.length ∧ i = .int .i64 (j : Int) ∧ Blk wr mb 53 #[vc, .bool M.ocsp, .bool M.scts, vst, vsp] ∧ Blk wr rb 53 #[.slice none 0 0, .bool false, .bool false, .slice none 0 0, .slice none 0 0] ∧ Rd wr N q rQ ∧ Rd wr N q2 y ∧ EOwn wr base N v L ∧ RfF wr N lo vc vst vsp M ∧ Upd [] w wr ∧ base ≤ wr.heap.size ∧
    specE ctRd L S0 = specE ctRd (L.drop j) (M, y) ∧ M.certs.length = n1 ∧ y.bs.length ≤ bound
set_option maxHeartbeats 8000000 in
theorem ReadCt_any (hv : Byt w N v data) (hB : N ≤ w.heap.size) : Calls Try.prog 34 #[v] w (RefG CtV w (ctSpec data).1 (ctSpec data).2.code) := by
  obtain ⟨A, c, rfl, hv, hl, hc⟩ := Byt.form hv rfl
  obtain ⟨w1, hw1⟩ : ∃ w1, (w.alloc (.cells #[.slice none 0 0, .bool false, .bool false, .slice none 0 0, .slice none 0 0] 53)).alloc (.cells #[.slice none 0 0, .bool false, .bool false, .slice none 0 0, .slice none 0 0] 53) = w1 := ⟨_, rfl⟩
  obtain ⟨s, hs⟩ : ∃ s, w.heap.size = s := ⟨_, rfl⟩
  have hu1 : Upd [] w w1 := by rw [← hw1]; exact ((Upd.refl _ _).alloc _).alloc _
  have hb1 : Blk w1 s 53 #[.slice none 0 0, .bool false, .bool false, .slice none 0 0, .slice none 0 0] := by rw [← hw1, ← hs]; exact (Blk.new _ _ _).alloc _
  have hm1 : Blk w1 (s + 1) 53 #[.slice none 0 0, .bool false, .bool false, .slice none 0 0, .slice none 0 0] := by
    rw [← hw1, ← hs]
    have := Blk.new (w.alloc (.cells #[.slice none 0 0, .bool false, .bool false, .slice none 0 0, .slice none 0 0] 53)) 53 #[.slice none 0 0, .bool false, .bool false, .slice none 0 0, .slice none 0 0]
    rwa [show (w.alloc (.cells #[.slice none 0 0, .bool false, .bool false, .slice none 0 0, .slice none 0 0] 53)).heap.size = w.heap.size + 1 by simp] at this
  have hs1 : w1.heap.size = s + 2 := by rw [← hw1, ← hs]; simp
  have H1 := hid (body_any (w := w1) (N := N) (by have := hu1.size; omega) (Row.upd hv hu1 (by simp)) 11)
  have HW := hid hw1
  have HS1 := hid hs1
  clear hw1 hs1
  go_enter Try.func34, Try.ntmps34
  go_wp2_with fail
  rw [HW.out]
  refine (H1.out).mono ?_
  rintro e w2 ⟨rfl, hu2, hr2⟩
  rw [HS1.out] at hr2
  rw [HS1.out]
  have hU2 := hu1.trans hu2 (by simp)
  have hb2 := hb1.upd hu2 (by simp)
  have hm2 := hm1.upd hu2 (by simp)
  clear hb1 hm1 hu1 hu2 H1
  have H := hid (context_any hr2)
  go_wp2_with fail
  refine H.out.mono ?_
  rintro e w3 ⟨rfl, hu3, hr3⟩
  have hU3 := hU2.trans hu3 (by simp; omega)
  have hb3 := hb2.upd hu3 (by simp)
  have hm3 := hm2.upd hu3 (by simp)
  clear hb2 hm2 hU2 hu3 hr2 H
  -- the list
  have H := hid (vec_any hr3 3 0 16777215 (by omega))
  go_wp2_with fail
  refine H.out.mono ?_
  rintro e w4 ⟨v4, rfl, hu4, hr4, hy4⟩
  have hU4 := hU3.trans hu4 (by simp; omega)
  have hb4 := hb3.upd hu4 (by simp)
  have hm4 := hm3.upd hu4 (by simp)
  have hnl := ct_vec_len (bodyR 11 data).context 3 0 16777215 (by omega)
  obtain ⟨P, hP⟩ : ∃ P, ctB data = P := ⟨_, rfl⟩
  have hP' : (bodyR 11 data).context.vec 3 0 16777215 = P := hP
  rw [hP'] at hr4 hy4 hnl
  obtain ⟨d4, r4⟩ := P
  obtain ⟨A4, c4, rfl, hy4, -, -⟩ := Byt.form hy4 rfl
  have hr4l := hr4.lt
  have H2 := hid (within_any hr4 (N' := N) (by omega) hy4)
  have HP := hid hP
  clear hP hP' hb3 hm3 hU3 hu4 hr3 H
  go_wp2_with fail
  refine H2.out.mono ?_
  rintro e w5 ⟨rfl, hu5, hq5⟩
  have hU5 := hU4.trans hu5 (by simp)
  have hb5 := hb4.upd hu5 (by simp)
  have hm5 := hm4.upd hu5 (by simp)
  have hr5 := hr4.upd hu5 (by simp) (by simp)
  have hsq : s + 2 < w4.heap.size := hr4l
  have hyl0 : (r4.within d4).bs.length ≤ 16777215 := Nat.le_trans (cq_within_len r4 d4) hnl
  have hG : ctG data = ctGoR (r4.within d4).bs.length (Ct.zero, r4.within d4) := by unfold ctG; rw [HP.out]
  have HG := hid hG
  generalize r4.within d4 = y0 at hq5 hyl0 HG
  generalize w4.heap.size = q2 at hq5 hsq
  have hq2l := hq5.lt
  clear hb4 hm4 hU4 hu5 hr4 hy4 H2 hnl hr4l hG
  go_wp2_with fail
  go_loopg [8] y0.bs.length (fun gk _ wr => CtSRel1 w N q2 (s + 2) (s + 1) s (s + 3) r4 (ctG data) gk wr)
  case atStart => exact ⟨y0.bs.length, Ct.zero, y0, _, _, _, rfl, hm5, hb5, hr5, hq5, RfF.nil _ _ _, hU5, hq2l, HG.out, Nat.le_refl _, by simp [Ct.zero]; exact hyl0⟩
  case round =>
    obtain ⟨f, M, y, vc, vst, vsp, rfl, hmr, hbr, hrr, hyr, hF, hur, hq2r, hE, hyf, hnl⟩ := hrel
    obtain ⟨wo, rfl⟩ : ∃ wo : World, wo = wr := ⟨_, rfl⟩
    have HE := hid hE
    have hus := hur.size
    obtain ⟨Ay, cy, y0', y1', yf0, yf1, hly, hcy⟩ := hyr.open_
    clear hm5 hb5 hr5 hq5 hU5 hq2l hE hyl0
    by_cases h0 : y.bs = []
    · have hfin : ctG data = (M, y) := by
        rw [HE.out, R.mk_eta y h0, ctGoR_stop]
      have hz : ¬ 0 < y.bs.length := by rw [h0]; simp
      have HFIN := hid hfin
      have hocv := hF.oc
      have hopv := hF.op
      have hosv := hF.os
      obtain ⟨A2, c2, rfl⟩ := hocv.formL
      obtain ⟨A3, c3, rfl, -, -, -⟩ := Byt.form hosv rfl
      obtain ⟨A4', c4', rfl⟩ : ∃ A c, vsp = .slice A M.stamps.length c := by obtain ⟨⟨b, o1⟩, -⟩ := hopv; exact o1.formL
      have H := hid (done_any hrr hyr (by omega) (by omega))
      clear h0 hfin hocv hopv hosv
      go_wp2_with fail
      refine H.out.mono ?_
      rintro e w6 ⟨rfl, hu6, hr6⟩
      have hU6 := hur.trans hu6 (by simp; omega)
      have hb6 := hbr.upd hu6 (by simp; omega)
      have hm6 := hmr.upd hu6 (by simp; omega)
      have hF6 := hF.upd hu6 (by simp; omega) (fun k hk => by
        simp at hk
        rcases hk with rfl | rfl
        · exact .inl (by omega)
        · exact .inr (.inr hyr.at))
      have H := hid (end_any hr6)
      clear hmr hbr hrr hyr hF hur hu6
      go_wp2_with fail
      refine H.out.mono ?_
      rintro e w7 ⟨rfl, hu7, hr7⟩
      have hU7 := hU6.trans hu7 (by simp; omega)
      have hb7 := hb6.upd hu7 (by simp <;> omega)
      have hm7 := hm6.upd hu7 (by simp <;> omega)
      have hF7 := hF6.upd hu7 (by simp; omega) (by simp)
      have hsp : ctSpec data = (M, (r4.done y).fin) := by unfold ctSpec; rw [HFIN.out, HP.out]
      have HSP := hid hsp
      obtain ⟨Ar, cr, q0, q1, qf0, qf1, -, -⟩ := hr7.open_
      obtain ⟨k0, k1, k2, k3, k4, -⟩ := ct_cells hm7
      obtain ⟨p0, p1, p2, p3, p4, pf0, pf1, pf2, pf3, pf4⟩ := ct_cells hb7
      have hz7 : Blk (((((w7.setCell ⟨s, 0, none⟩ (.slice A2 M.certs.length c2)).setCell ⟨s, 1, none⟩ (.bool M.ocsp)).setCell ⟨s, 2, none⟩ (.bool M.scts)).setCell ⟨s, 3, none⟩ (.slice A3 M.staple.length c3)).setCell ⟨s, 4, none⟩ (.slice A4' M.stamps.length c4')) s 53 #[.slice A2 M.certs.length c2, .bool M.ocsp, .bool M.scts, .slice A3 M.staple.length c3, .slice A4' M.stamps.length c4'] := by have := ((((hb7.set_ 0 (.slice A2 M.certs.length c2)).set_ 1 (.bool M.ocsp)).set_ 2 (.bool M.scts)).set_ 3 (.slice A3 M.staple.length c3)).set_ 4 (.slice A4' M.stamps.length c4'); simpa using this
      have huf : Upd [s] w7 (((((w7.setCell ⟨s, 0, none⟩ (.slice A2 M.certs.length c2)).setCell ⟨s, 1, none⟩ (.bool M.ocsp)).setCell ⟨s, 2, none⟩ (.bool M.scts)).setCell ⟨s, 3, none⟩ (.slice A3 M.staple.length c3)).setCell ⟨s, 4, none⟩ (.slice A4' M.stamps.length c4')).drew := (((((((Upd.refl [s] w7).setCell (.inl (by simp)) _).setCell (.inl (by simp)) _).setCell (.inl (by simp)) _).setCell (.inl (by simp)) _).setCell (.inl (by simp)) _)).drew
      have HZ := hid hz7
      have HF := hid huf
      have HFF := hid (hF7.upd huf (by simp <;> omega) (by simp <;> omega))
      clear hz7 huf hF6 hF7 hsp hm6 hb6 hU6 hu7 H hr6 hr7
      go_wp2_with fail
      go_region_law (fail)
      all_goals go_wp2
      all_goals obtain ⟨z0, z1, z2, z3, z4, -⟩ := ct_cells HZ.out
      all_goals
        refine bodyPost_ret (v := .tuple #[.agg #[.slice A2 M.certs.length c2, .bool M.ocsp, .bool M.scts, .slice A3 M.staple.length c3, .slice A4' M.stamps.length c4'], .int .i64 ((r4.done y).fin.code : Int)]) (by simp [results, Try.results34, go_sem, z0, z1, z2, z3, z4]) rfl ?_
        rw [HSP.out]
        obtain ⟨o2, o3, ⟨⟨b4, o4⟩, -⟩, -⟩ := HFF.out
        exact ⟨_, rfl, ⟨A2, c2, A3, c3, A4', c4', rfl, o2.lst, o3.shrink, o4.lst⟩, hU7.trans HF.out (by simp; omega)⟩
    obtain ⟨f, rfl⟩ : ∃ f', f = f' + 1 := ⟨f - 1, by have := List.length_pos_iff.2 h0; omega⟩
    have hp : 0 < y.bs.length := List.length_pos_iff.2 h0
    have hst : ctGoR (f + 1) (M, y) = ctGoR f (ctRound (M, y)) := by
      conv => lhs; unfold ctGoR
      rw [if_neg h0]
    have HST := hid hst
    have hvl := vec_bs_len y 3 1 16777215
    clear h0 hst
    have hdr : Upd [] wo wo.drew := (Upd.refl [] wo).drew
    have hmD := hmr.upd hdr (by simp)
    have hbD := hbr.upd hdr (by simp)
    have hrD := hrr.upd hdr (by simp) (by simp)
    have hyD := hyr.upd hdr (by simp) (by simp)
    have hFD := hF.upd hdr (by simp) (by simp)
    have hurD := hur.trans hdr (by simp)
    have hszD := hdr.size
    generalize hwd : wo.drew = wd at hmD hbD hrD hyD hFD hurD hszD
    have hoc := hFD.oc
    obtain ⟨us, hown, hall⟩ := hoc
    have HUL := hid hall.length
    have hul2 : us.length + 1 ≤ 16777216 := by have := hall.length; omega
    have hnm : (s + 1) ∉ vc.ownBlock.toList := fun hm' => by have := hown.ne hmD (by decide) (s + 1) (Option.mem_toList.1 hm'); exact this rfl
    have hnq : q2 ∉ vc.ownBlock.toList := fun hm' => by obtain ⟨cs', hb'⟩ := hyD.at; have := hown.ne hb' (by decide) q2 (Option.mem_toList.1 hm'); exact this rfl
    obtain ⟨Av, cv, rfl⟩ := hown.formN (n := us.length) rfl
    have d0 := hmD.cell 0
    have f0 := hmD.frozen 0
    simp at d0
    have H := hid (vec_any hyD 3 1 16777215 (by omega))
    obtain ⟨cc, hcc⟩ : ∃ cc, (y.vec 3 1 16777215).1 = cc := ⟨_, rfl⟩
    obtain ⟨y1, hy1⟩ : ∃ y1, (y.vec 3 1 16777215).2 = y1 := ⟨_, rfl⟩
    rw [hy1] at hvl
    have HR : Hid (ctRound (M, y) = specE ctRd y1.exts.1 (M.add cc, y1.exts.2)) := hid (by rw [← hcc, ← hy1]; rfl)
    have HCC := hid (And.intro hcc hy1)
    have HALL := hid hall
    have hge : ∀ k ∈ (Value.slice Av us.length cv).ownBlock.toList, s + 3 ≤ k ∧ k < wd.heap.size := fun k hk => hown.ge (Option.mem_toList.1 hk)
    clear hcc hy1 hall hmr hbr hrr hyr hF hur
    go_upto_region 6 with fail
    go_cut [] from 18 to 49 (fun wz => ∃ A3 c3, Blk wz (s + 1) 53 #[.slice A3 (us.length + 1) c3, .bool M.ocsp, .bool M.scts, vst, vsp] ∧ Blk wz s 53 #[.slice none 0 0, .bool false, .bool false, .slice none 0 0, .slice none 0 0] ∧ Rd wz N (s + 2) r4 ∧ Rd wz N q2 y1 ∧ RfF wz N (s + 3) (.slice A3 (us.length + 1) c3) vst vsp (M.add cc) ∧ Upd [] w wz ∧ q2 < wz.heap.size)
    case first =>
      go_region_law (first
        | (refine step_append_row (v := .slice Av us.length cv) _ rfl _ _ 24 rfl (s + 3) 22 (.slice none 0 0) 24 Try.underlying24 info_bytes rfl rfl (hown3.upd ((Upd.refl [] _).alloc _) (by simp)) rfl (Row.one w3 22 (.slice A5 n5 c5)) (by intro u hu; simp at hu; subst hu; rfl) (by simp; omega) (by simp; omega) (by simp; omega) ?_; intro v3' w4 hap; obtain ⟨A3, c3, hv3⟩ := Own.formN (n := us.length + 1) hap.1 (by simp); subst hv3; have hm4 := (hm3.alloc (.cells #[.slice A5 n5 c5] 22)).upd hap.2.1 hnm; have e0 := hm4.cell 0; simp at e0; have g0 := hm4.frozen 0)
        | (go_simp; go_at_call 42; refine H.out.mono ?_; rintro e w3 ⟨v3, rfl, hu3, hy3, hb3⟩; obtain ⟨A5, n5, c5, rfl⟩ : ∃ A n c, v3 = .slice A n c := (by obtain ⟨A, c, h, -⟩ := hb3; exact ⟨A, _, c, h⟩); have hsz3 : s + 3 ≤ w3.heap.size := (by have := hu3.size; omega); have hm3 := hmD.upd hu3 (by simp; omega); have hown3 := hown.upd hu3 (fun g hg hk => (by simp at hk; subst hk; exact hnq (Option.mem_toList.2 hg))); have c0 := hm3.cell 0; simp at c0; have a0 := (hm3.alloc (.cells #[.slice A5 n5 c5] 22)).cell 0; simp at a0))
      all_goals
        rw [HCC.out.1] at hb3
        rw [HCC.out.2] at hy3
        have hup : Upd [s + 1] w4 (w4.setCell ⟨s + 1, 0, none⟩ (.slice A3 (us.length + 1) c3)) := (Upd.refl _ _).setCell (by simp) _
        have hmz := hm4.set_ 0 (.slice A3 (us.length + 1) c3)
        generalize w4.setCell ⟨s + 1, 0, none⟩ (.slice A3 (us.length + 1) c3) = wz at hup hmz ⊢
        have huA : Upd [] w3 (w3.alloc (.cells #[.slice A5 n5 c5] 22)) := (Upd.refl _ _).alloc _
        have hu3z : Upd ((s + 1) :: (Value.slice Av us.length cv).ownBlock.toList) w3 wz := ((huA.mono (by simp)).trans hap.2.1 (fun k hk => .inl (List.mem_cons_of_mem _ hk))).trans hup (by simp)
        have huz : Upd (q2 :: (s + 1) :: (Value.slice Av us.length cv).ownBlock.toList) wd wz := (hu3.mono (S' := q2 :: (s + 1) :: (Value.slice Av us.length cv).ownBlock.toList) (by simp)).trans hu3z (fun k hk => .inl (List.mem_cons_of_mem _ hk))
        have hk3 : ∀ k ∈ (s + 1) :: (Value.slice Av us.length cv).ownBlock.toList, N ≤ k ∧ k ≠ s ∧ k ≠ s + 2 ∧ k ≠ q2 ∧ s ≤ k := by
          intro k hk
          rcases List.mem_cons.1 hk with hk | hk
          · subst hk; exact ⟨by omega, by omega, by omega, by omega, by omega⟩
          · have h1 := hge k hk
            exact ⟨by omega, by omega, by omega, fun h => by subst h; exact hnq hk, by omega⟩
        have hNq2 : N ≤ q2 := hyD.1
        have hkz : ∀ k ∈ q2 :: (s + 1) :: (Value.slice Av us.length cv).ownBlock.toList, N ≤ k ∧ k ≠ s ∧ k ≠ s + 2 ∧ s ≤ k := by
          intro k hk
          rcases List.mem_cons.1 hk with hk | hk
          · subst hk; exact ⟨hNq2, by omega, by omega, by omega⟩
          · have h1 := hk3 k hk; exact ⟨h1.1, h1.2.1, h1.2.2.1, h1.2.2.2.2⟩
        have hB4 : ∀ (u : Value) (l : List UInt8), Byt wd N u l → Byt wz N u l := fun u l hb => Row.upd hb huz (fun k hk => (hkz k hk).1)
        have hoz : Vecs wz (s + 3) N (.slice A3 (us.length + 1) c3) (M.certs ++ [cc]) := ⟨us ++ [.slice A5 n5 c5], hap.1.upd hup (fun g' hg hk => by
          have := hap.1.ne hm4 (by decide) g' hg
          simp at hk; exact this hk), All2.snoc (HALL.out.imp hB4) (Row.upd hb3 hu3z (fun k hk => (hk3 k hk).1))⟩
        have hnx : nextV (.slice Av us.length cv) (.slice A3 (us.length + 1) c3) wd.heap.size := by
          rcases hap.2.2 with h3 | h3
          · exact .inl h3
          · exact .inr ⟨_, h3, Nat.le_trans hu3.size huA.size⟩
        have hopD := hFD.op
        obtain ⟨⟨bp, hop⟩, hop2⟩ := hopD
        have hFz := hFD.add huz (fun k hk => (hkz k hk).1) (fun k hk he => by
          rcases List.mem_cons.1 hk with hk | hk
          · subst hk; exact hop.neRd hyD.at he
          · rcases List.mem_cons.1 hk with hk | hk
            · subst hk; have := hop2 _ he; omega
            · exact hFD.a k (Option.mem_toList.1 hk) he) hoz hnx
        have hrz := hrD.upd huz (fun k hk => (hkz k hk).1) (fun hk => (hkz _ hk).2.2.1 rfl)
        have hyz := hy3.upd hu3z (fun k hk => (hk3 k hk).1) (fun hk => (hk3 _ hk).2.2.2.1 rfl)
        have hbz := hbD.upd huz (fun hk => (hkz _ hk).2.1 rfl)
        have hurz := hurD.trans huz (fun k hk => .inr (by have := (hkz k hk).2.2.2; omega))
        have hqz := hyz.lt
        clear hup huA hu3z huz hk3 hkz hB4 hoz hnx hop hop2 hap hm4 hm3 hown3 hu3 hy3 hb3 c0 a0 e0 g0 H
        go_wp2
        go_meet
        exact ⟨_, _, hmz, hbz, hrz, hyz, hFz, hurz, hqz⟩
    obtain ⟨A3, c3, hmz, hbz, hrz, hyz, hFz, hurz, hqz⟩ := hcut
    clear hwd hmD hbD hrD hyD hFD hurD hszD hown hnm hnq d0 f0 H HCC HALL hge
    have HCL := hid (show (M.add cc).certs.length = us.length + 1 by show (M.certs ++ [cc]).length = _; rw [List.length_append, HUL.out]; rfl)
    have H := hid (extensions_any hyz)
    go_wp2_with fail
    refine H.out.mono ?_
    rintro e w11 ⟨v11, rfl, ho11, hu11, hy11⟩
    obtain ⟨A6, c6, rfl, hl6, hc6⟩ := ho11.form
    have hxl := R.exts_blen y1
    obtain ⟨L, hL⟩ : ∃ L, y1.exts.1 = L := ⟨_, rfl⟩
    obtain ⟨y2, hy2⟩ : ∃ r, y1.exts.2 = r := ⟨_, rfl⟩
    have hLd : ∀ e ∈ L, e.2.length < 65536 := by rw [← hL]; exact cq_exts_data _
    rw [hL, hy2] at HR
    rw [hL] at ho11 hl6
    rw [hy2] at hy11 hxl
    rw [hL]
    have HLD := hid hLd
    clear hL hy2 hLd
    have hU11 := hurz.trans hu11 (by simp; omega)
    have hb11 := hbz.upd hu11 (by simp; omega)
    have hm11 := hmz.upd hu11 (by simp; omega)
    have hr11 := hrz.upd hu11 (by simp; exact hyz.1) (by simp; omega)
    have hF11 := hFz.upd hu11 (by simp; exact hyz.1) (fun k hk => by simp at hk; subst hk; exact .inr (.inr hyz.at))
    have hbase : q2 < wc.heap.size := hqz
    have hs11 := hu11.size
    generalize wc.heap.size = base at ho11 hbase hs11
    clear hmz hbz hrz hyz hFz hurz hqz hu11 H
    go_wp2_with fail
    go_loopg [34] L.length (fun gk i wr => CtSRel2 w N q2 (s + 2) (s + 1) s (s + 3) base (us.length + 1) y2.bs.length r4 (.slice A6 L.length c6) L (M.add cc, y2) gk i wr)
    case atStart => exact ⟨0, M.add cc, y2, _, _, _, by omega, rfl, hm11, hb11, hr11, hy11, ho11, hF11, hU11, hs11, rfl, HCL.out, Nat.le_refl _⟩
    case round =>
      obtain ⟨j, M2, y3, vc, vst, vsp, hj0, rfl, hmr, hbr, hrr, hyr, how, hF, hur, hbs, hE2, hn3, hn4⟩ := hrel
      have HJ := hid hj0
      have HE2 := hid hE2
      have HN3 := hid hn3
      have hus := hur.size
      clear hm11 hb11 hr11 hy11 ho11 hF11 hU11 hs11 hj0 hE2 hn3
      by_cases hlt : j < L.length
      · obtain ⟨b, o, rfl, hb', hj', A', c', e0, e1, hy, hy1, hy2⟩ := how.exr.at_ hlt
        have hxm := HLD.out _ (List.getElem_mem hlt)
        have hdrop := List.drop_eq_getElem_cons hlt
        generalize L[j] = x at e0 e1 hy hy1 hy2 hxm hdrop
        obtain ⟨xk, xd⟩ := x
        have HST2 := hid (show specE ctRd (L.drop j) (M2, y3) = specE ctRd (L.drop (j + 1)) ((ctRd M2 xk (y3.within xd)).1, y3.done (ctRd M2 xk (y3.within xd)).2) by rw [hdrop]; rfl)
        have hxm : xd.length < 65536 := hxm
        have hocv := hF.oc
        obtain ⟨Av2, cv2, rfl⟩ : ∃ A c, vc = .slice A (us.length + 1) c := by obtain ⟨us', h1, h2⟩ := hocv; exact h1.formN (by rw [h2.length, HN3.out])
        obtain ⟨wA, hwA⟩ : ∃ wA, wr.alloc (.cells #[wv xk, .slice A' xd.length c'] 96) = wA := ⟨_, rfl⟩
        obtain ⟨g, hg⟩ : ∃ g, wr.heap.size = g := ⟨_, rfl⟩
        have huA : Upd [] wr wA := by rw [← hwA]; exact (Upd.refl _ _).alloc _
        have hbg : Blk wA g 96 #[wv xk, .slice A' xd.length c'] := by rw [← hwA, ← hg]; exact Blk.new _ _ _
        have hsg : q2 < g := by have := hyr.lt; omega
        have hmA := hmr.upd huA (by simp)
        have hbA := hbr.upd huA (by simp)
        have hrA := hrr.upd huA (by simp) (by simp)
        have hyA := hyr.upd huA (by simp) (by simp)
        have hoA := how.upd huA (by simp) (by simp)
        have hFA := hF.upd huA (by simp) (by simp)
        have hurA := hur.trans huA (by simp)
        have hxA : Byt wA N (.slice A' xd.length c') xd := Row.upd hy huA (by simp)
        have hgl := hbg.lt
        have HH := hid (within_any hyA (N' := N) (by have := hyA.lt; have := hyA.1; omega) hxA)
        have d0 := hbg.cell 0
        have d1 := hbg.cell 1
        simp at d0 d1
        have HWA := hid hwA
        have Hg := hid hg
        have hob : ∀ g', (Value.slice (some ⟨b, o, none⟩) L.length c6).ownBlock = some g' → base ≤ g' ∧ g' < g := fun g' hg' => by have := how.ge hg'; omega
        have HOB := hid hob
        clear hwA hg hmr hrr how hF hur huA hy hyr hbr hdrop hocv hob
        go_wp2_with fail
        rw [HWA.out, Hg.out]
        go_wp2_with fail
        refine HH.out.mono ?_
        rintro e w13 ⟨rfl, hu13, hq13⟩
        have hgq : g < wA.heap.size := hgl
        generalize wA.heap.size = q3 at hq13 hgq
        have hm13 := hmA.upd hu13 (by simp)
        have hb13 := hbA.upd hu13 (by simp)
        have hr13 := hrA.upd hu13 (by simp) (by simp)
        have hy13 := hyA.upd hu13 (by simp) (by simp)
        have ho13 := hoA.upd hu13 (by simp) (by simp)
        have hF13 := hFA.upd hu13 (by simp) (by simp)
        have hur13 := hurA.trans hu13 (by simp)
        have hbg13 := hbg.upd hu13 (by simp)
        have d0 := hbg13.cell 0
        simp at d0
        have hwl := cq_within_len y3 xd
        have hNm : N ≤ s + 1 := by omega
        have H := hid (certExt_any (k := xk) hq13 hm13 HN3.out.symm (by omega) hNm (by omega))
        clear hmA hrA hoA hFA hurA hxA hu13 hbg HH d1 hyA hbA hm13 hbg13
        go_wp2_with fail
        refine H.out.mono ?_
        intro e w14 hp
        obtain ⟨vst', vsp', hm14, hF14⟩ := hF13.cex hp hq13.at hq13.1 hNm (by omega) (by have := hq13.lt; omega)
        obtain ⟨rfl, hu14, hq14, -⟩ := hp
        have hNq3 := hq13.1
        have hb14 := hb13.upd hu14 (by simp; omega)
        have hr14 := hr13.upd hu14 (by simp; omega) (by simp; omega)
        have hy14 := hy13.upd hu14 (by simp; omega) (by simp; omega)
        have ho14 := ho13.upd hu14 (fun g' hg' hk => by
          have := HOB.out g' hg'
          simp at hk
          omega) (by simp; omega)
        have hur14 := hur13.trans hu14 (by simp; omega)
        have HD := hid (done_any hy14 hq14 (by omega) (by omega))
        have hcM : (ctRd M2 xk (y3.within xd)).1.certs = M2.certs := by
          unfold ctRd
          split
          · rfl
          · split <;> rfl
        have HCM := hid hcM
        have hqat := hq14.at
        have hyat := hy14.at
        have hlen4 := R.done_len y3 (ctRd M2 xk (y3.within xd)).2
        have hs14 := hu14.size
        have hq3l := hq13.lt
        clear hb13 hr13 hy13 ho13 hF13 hur13 hq13 H hu14 hq14 hcM
        go_wp2_with fail
        refine HD.out.mono ?_
        rintro e w15 ⟨rfl, hu15, hy15⟩
        have hNq2 := hy15.1
        have hm15 := hm14.upd hu15 (by simp; omega)
        have hb15 := hb14.upd hu15 (by simp; omega)
        have hr15 := hr14.upd hu15 (by simp; omega) (by simp; omega)
        have hov := ho14
        have ho15 := ho14.upd hu15 (fun g' hg' hk => by
          have := HOB.out g' hg'
          simp at hk
          omega) (by simp; omega)
        have hF15 := hF14.upd hu15 (by simp; omega) (fun k hk => by
          simp at hk
          rcases hk with rfl | rfl
          · exact .inr (.inr hyat)
          · exact .inr (.inr hqat))
        have hur15 := hur14.trans hu15 (by simp; omega)
        have hs15 := hu15.size
        clear hm14 hb14 hr14 ho14 hF14 hur14 hu15 hy14 hov
        go_wp2
        go_roundg (L.length - (j + 1))
        case measure => have := HJ.out; omega
        case rel => exact ⟨j + 1, (ctRd M2 xk (y3.within xd)).1, _, _, _, _, by have := HJ.out; omega, by go_num, hm15, hb15, hr15, hy15, ho15, hF15, hur15, by have := Hg.out; omega, by rw [HE2.out, HST2.out], by rw [HCM.out, HN3.out], by omega⟩
      · obtain rfl : j = L.length := by have := HJ.out; omega
        have HRR := hid (show ctRound (M, y) = (M2, y3) by rw [HR.out, HE2.out, List.drop_length]; rfl)
        go_wp2
        go_roundg y3.bs.length
        case measure => omega
        case rel => exact ⟨f, M2, y3, vc, vst, vsp, rfl, hmr, hbr, hrr, hyr, hF, hur, by omega, by rw [HE.out, HST.out, HRR.out], by omega, by have := HN3.out; have := HUL.out; omega⟩
theorem rf_Ct (hv : Byt w w.heap.size v data) : Calls Try.prog 34 #[v] w (RefG CtV w (ctSpec data).1 (ctSpec data).2.code) := ReadCt_any hv (Nat.le_refl _)
end
end Go.Proofs.Ytddkjhlngofkaaa

/- Texts joined: ChW. -/
import Derived.Test.YtaajmfgplhfncaaGreatB13
import Derived.Test.YtaajmfgplhfncaaGreatB06
namespace Go.Proofs.YtaajmfgplhfncaaGreat
open Go.RowKit
set_option maxRecDepth 100000
theorem Row.castl {w : World} {B : Nat} {v : Value} {a b : List Value} (h : Row w B v a) (e : a = b) : Row w B v b := e ▸ h
theorem Lst.castl {w : World} {B : Nat} {v : Value} {a b : List (List UInt8)} (h : Lst w B v a) (e : a = b) : Lst w B v b := e ▸ h
theorem chExtL_eq (t : Ch) : chExtL t = (((((((((((((((((((LW.nil).add (!t.host.isEmpty) 0 (Wr.vector 2 (hostW t.host))).add (t.ocsp) 5 (statusW)).add (decide (0 < t.curves.length)) 10 (Wr.vector 2 (wordsW t.curves))).add (decide (0 < t.pts.length)) 11 (Wr.vector 1 (Wr.plain t.pts))).add (t.ticket) 35 (Wr.plain t.tick)).add (decide (0 < t.sig.length)) 13 (Wr.vector 2 (wordsW t.sig))).add (decide (0 < t.sigc.length)) 50 (Wr.vector 2 (wordsW t.sigc))).add (t.rns) 65281 (Wr.vector 1 (Wr.plain t.rn))).add (t.ems) 23 (Wr.nil)).add (decide (0 < t.alpn.length)) 16 (Wr.vector 2 (vecsW 1 t.alpn))).add (t.scts) 18 (Wr.nil)).add (decide (0 < t.sv.length)) 43 (Wr.vector 1 (wordsW t.sv))).add (decide (0 < t.cookie.length)) 44 (Wr.vector 2 (Wr.plain t.cookie))).add (decide (0 < t.kg.length)) 51 (Wr.vector 2 (kshW (chKs t)))).add (t.early) 42 (Wr.nil)).add (decide (0 < t.modes.length)) 45 (Wr.vector 1 (Wr.plain t.modes))).add (t.quic) 57 (Wr.plain t.qtp)).add (decide (0 < t.ech.length)) 65037 (Wr.plain t.ech)).add (decide (0 < t.pl.length)) 41 (behindW (Wr.vector 2 (identsW (chPs t))) (Wr.vector 2 (vecsW 1 t.pb))) := rfl
section
variable {w w' : World} {B : Nat} {v : Value} {t : Ch}
set_option maxHeartbeats 16000000 in
theorem ClientExtensions_any (hv : ChV w B v t) (hZ : ChSz t) (hks : t.kg.length = t.kd.length) (hpa : t.pl.length = t.pa.length) : Calls Tryz.prog 8 #[v] w (ExL w (chExtL t)) := by
  rw [chExtL_eq]
  obtain ⟨cs1, rfl, -⟩ := ChV.ok.agg hv
  obtain ⟨s, hs⟩ : ∃ s, w.heap.size = s := ⟨_, rfl⟩
  obtain ⟨w1, hw1⟩ : ∃ w1, w.alloc (.cells cs1 29) = w1 := ⟨_, rfl⟩
  have hu1 : Upd [] w w1 := by rw [← hw1]; exact (Upd.refl _ _).alloc _
  have hs1 : w1.heap.size = s + 1 := by rw [← hw1, ← hs]; simp
  have hb1 : Blk w1 s 29 cs1 := by rw [← hw1, ← hs]; exact Blk.new _ _ _
  obtain ⟨w2, hw2⟩ : ∃ w2, w1.alloc (.cells #[.slice none 0 0, .bool false] 50) = w2 := ⟨_, rfl⟩
  have hL : LSt w1 (s + 1) LW.nil w2 := by rw [← hw2, ← hs1]; exact LSt.new w1
  have hln : LW.nil.l.length ≤ 0 := Nat.le_refl _
  have HC5 := hid (GV.val hv (i := 5) (u := strv t.host) rfl)
  have HC6 := hid (GV.val hv (i := 6) (u := .bool t.ocsp) rfl)
  obtain ⟨A7, c7, a7, x7⟩ := GV.row hv (i := 7) (us := t.curves.map wv) rfl (n := t.curves.length) (by simp)
  have HC7 := hid a7
  clear a7
  replace x7 := Row.upd x7.shrink hu1 (by simp)
  rw [hs] at x7
  obtain ⟨A8, c8, a8, x8⟩ := GV.byt hv (i := 8) (l := t.pts) rfl
  have HC8 := hid a8
  clear a8
  replace x8 := Row.upd x8.shrink hu1 (by simp)
  rw [hs] at x8
  have HC9 := hid (GV.val hv (i := 9) (u := .bool t.ticket) rfl)
  obtain ⟨A10, c10, a10, x10⟩ := GV.byt hv (i := 10) (l := t.tick) rfl
  have HC10 := hid a10
  clear a10
  replace x10 := Row.upd x10.shrink hu1 (by simp)
  rw [hs] at x10
  obtain ⟨A11, c11, a11, x11⟩ := GV.row hv (i := 11) (us := t.sig.map wv) rfl (n := t.sig.length) (by simp)
  have HC11 := hid a11
  clear a11
  replace x11 := Row.upd x11.shrink hu1 (by simp)
  rw [hs] at x11
  obtain ⟨A12, c12, a12, x12⟩ := GV.row hv (i := 12) (us := t.sigc.map wv) rfl (n := t.sigc.length) (by simp)
  have HC12 := hid a12
  clear a12
  replace x12 := Row.upd x12.shrink hu1 (by simp)
  rw [hs] at x12
  have HC13 := hid (GV.val hv (i := 13) (u := .bool t.rns) rfl)
  obtain ⟨A14, c14, a14, x14⟩ := GV.byt hv (i := 14) (l := t.rn) rfl
  have HC14 := hid a14
  clear a14
  replace x14 := Row.upd x14.shrink hu1 (by simp)
  rw [hs] at x14
  have HC15 := hid (GV.val hv (i := 15) (u := .bool t.ems) rfl)
  obtain ⟨A16, c16, a16, x16⟩ := GV.row hv (i := 16) (us := t.alpn.map strv) rfl (n := t.alpn.length) (by simp)
  have HC16 := hid a16
  clear a16
  replace x16 := Row.upd x16.shrink hu1 (by simp)
  rw [hs] at x16
  have HC17 := hid (GV.val hv (i := 17) (u := .bool t.scts) rfl)
  obtain ⟨A18, c18, a18, x18⟩ := GV.row hv (i := 18) (us := t.sv.map wv) rfl (n := t.sv.length) (by simp)
  have HC18 := hid a18
  clear a18
  replace x18 := Row.upd x18.shrink hu1 (by simp)
  rw [hs] at x18
  obtain ⟨A19, c19, a19, x19⟩ := GV.byt hv (i := 19) (l := t.cookie) rfl
  have HC19 := hid a19
  clear a19
  replace x19 := Row.upd x19.shrink hu1 (by simp)
  rw [hs] at x19
  obtain ⟨A20, c20, a20, x20⟩ := GV.row hv (i := 20) (us := t.kg.map wv) rfl (n := t.kg.length) (by simp)
  have HC20 := hid a20
  clear a20
  replace x20 := Row.upd x20.shrink hu1 (by simp)
  rw [hs] at x20
  obtain ⟨A21, c21, a21, x21⟩ := GV.lst hv (i := 21) (ls := t.kd) rfl
  have HC21 := hid a21
  clear a21
  replace x21 := Lst.upd x21.shrink hu1 (by simp)
  rw [hs] at x21
  have HC22 := hid (GV.val hv (i := 22) (u := .bool t.early) rfl)
  obtain ⟨A23, c23, a23, x23⟩ := GV.byt hv (i := 23) (l := t.modes) rfl
  have HC23 := hid a23
  clear a23
  replace x23 := Row.upd x23.shrink hu1 (by simp)
  rw [hs] at x23
  obtain ⟨A24, c24, a24, x24⟩ := GV.lst hv (i := 24) (ls := t.pl) rfl
  have HC24 := hid a24
  clear a24
  replace x24 := Lst.upd x24.shrink hu1 (by simp)
  rw [hs] at x24
  obtain ⟨A25, c25, a25, x25⟩ := GV.row hv (i := 25) (us := t.pa.map uv) rfl (n := t.pa.length) (by simp)
  have HC25 := hid a25
  clear a25
  replace x25 := Row.upd x25.shrink hu1 (by simp)
  rw [hs] at x25
  obtain ⟨A26, c26, a26, x26⟩ := GV.lst hv (i := 26) (ls := t.pb) rfl
  have HC26 := hid a26
  clear a26
  replace x26 := Lst.upd x26.shrink hu1 (by simp)
  rw [hs] at x26
  have HC27 := hid (GV.val hv (i := 27) (u := .bool t.quic) rfl)
  obtain ⟨A28, c28, a28, x28⟩ := GV.byt hv (i := 28) (l := t.qtp) rfl
  have HC28 := hid a28
  clear a28
  replace x28 := Row.upd x28.shrink hu1 (by simp)
  rw [hs] at x28
  obtain ⟨A29, c29, a29, x29⟩ := GV.byt hv (i := 29) (l := t.ech) rfl
  have HC29 := hid a29
  clear a29
  replace x29 := Row.upd x29.shrink hu1 (by simp)
  rw [hs] at x29
  have HX5 := hid hZ.host
  have HX7 := hid hZ.curves
  have HX8 := hid hZ.pts
  have HX11 := hid hZ.sig
  have HX12 := hid hZ.sigc
  have HX14 := hid hZ.rn
  have HX16 := hid hZ.alpn
  have HX18 := hid hZ.sv
  have HX19 := hid hZ.cookie
  have HX23 := hid hZ.modes
  have HX26 := hid hZ.pb
  have HXK := hid hZ.vks
  have HXP := hid hZ.vps
  have HE1 := hid (show ((chKs t).map fun x => wv x.1) = t.kg.map wv by have := congrArg (List.map wv) (zip_fst hks); rw [List.map_map] at this; exact this)
  have HE2 := hid (show (chKs t).map (·.2) = t.kd from zip_snd hks)
  have HE3 := hid (show (chPs t).map (·.1) = t.pl from zip_fst hpa)
  have HE4 := hid (show ((chPs t).map fun x => uv x.2) = t.pa.map uv by have := congrArg (List.map uv) (zip_snd hpa); rw [List.map_map] at this; exact this)
  have HLA := hid (show (Wr.vector 2 (identsW (chPs t))).b.length ≤ 1099511627776 by rw [vector_b, List.length_append, be_len]; have h : (identsW (chPs t)).b = identsB (chPs t) := rfl; rw [h]; have := identsB_cost (chPs t); have := hZ.vps; omega)
  have HLB := hid (show (Wr.vector 2 (vecsW 1 t.pb)).b.length ≤ 1099511627776 by rw [vector_b, List.length_append, be_len]; have h : (vecsW 1 t.pb).b = vecsB 1 t.pb := rfl; rw [h]; have := vecsB_lst 1 t.pb; have := hZ.pb; omega)
  have HW1 := hid hw1
  have HW2 := hid hw2
  have HS := hid hs
  clear hw1 hw2 hs1 hs hZ hks hpa hv
  go_enter Tryz.func8, Tryz.ntmps8
  go_upto_region 2 with fail
  rw [HW1.out, HS.out, HW2.out]
  go_cut [] from 5 to 12 (fun wx => LSt w1 (s + 1) ((LW.nil).add (!t.host.isEmpty) 0 (Wr.vector 2 (hostW t.host))) wx)
  case first =>
    have hU := hL.up
    have hb := hb1.upd hU (by simp)
    have HL := hid hL
    have HLN := hid (Nat.le_trans hln (show 0 ≤ 1000 by omega))
    clear hL hU hln
    have s5 := hb.at_ HC5.out
    go_region_held3 (fun w' => w'.cell? ⟨s, 5, none⟩ = some (strv t.host)) (go_keep)
      (first
        | (go_at_call 24; refine (host_any (by have := HX5.out; omega)).mono ?_; rintro e w4 ⟨v4, rfl, hy4, hn4, ⟨A5, n5, c5, rfl⟩, hu4⟩; have b4 := (hb.drew).upd hu4 (by simp); have s5_4 := b4.at_ HC5.out)
        | (go_at_call 23; refine (vector_any2 hy4 _ (by show (hostW t.host).b.length ≤ _; rw [hostW_b]; simp [be_len]; have := HX5.out; omega)).mono ?_; rintro e w5 ⟨v5, rfl, hy5, hn5, ⟨A6, n6, c6, rfl⟩, hu5⟩; have b5 := b4.upd hu5 (by simp); have s5_5 := b5.at_ HC5.out)
        | (go_at_call 22; refine (HL.out.add (((Upd.refl [] _).drew).trans (hu4.trans hu5 (by simp)) (by simp)) (!t.host.isEmpty) 0 hy5 (fun _ g hg => .inr (by have := hn5 g hg; have h4 := hu4.size; simp at h4; omega)) _ HLN.out).mono ?_; rintro e w9 ⟨rfl, hL6⟩; have b9 := hb1.upd hL6.up (by simp); have s5_9 := b9.at_ HC5.out))
    all_goals
      go_wp2_with fail
      go_meet
      exact hL6
  replace hL := hcut
  clear hcut
  replace hln : ((LW.nil).add (!t.host.isEmpty) 0 (Wr.vector 2 (hostW t.host))).l.length ≤ 1 := Nat.le_trans (LW.add_len _ _ _ _) (Nat.succ_le_succ hln)
  go_upto_region 3 with fail
  go_cut [] from 13 to 16 (fun wx => LSt w1 (s + 1) (((LW.nil).add (!t.host.isEmpty) 0 (Wr.vector 2 (hostW t.host))).add (t.ocsp) 5 (statusW)) wx)
  case first =>
    have hU := hL.up
    have hb := hb1.upd hU (by simp)
    have HL := hid hL
    have HLN := hid (Nat.le_trans hln (show 1 ≤ 1000 by omega))
    clear hL hU hln
    have s6 := hb.at_ HC6.out
    go_region_held3 (fun w' => w'.cell? ⟨s, 6, none⟩ = some (.bool t.ocsp)) (go_keep)
      (first
        | (go_at_call 25; refine status_any.mono ?_; rintro e w5 ⟨v5, rfl, hy5, hn5, ⟨A6, n6, c6, rfl⟩, hu5⟩; have b5 := (hb.drew).upd hu5 (by simp); have s6_5 := b5.at_ HC6.out)
        | (go_at_call 22; refine (HL.out.add (((Upd.refl [] _).drew).trans hu5 (by simp)) (t.ocsp) 5 hy5 (fun _ g hg => .inr (by have := hn5 g hg; simp at this; omega)) _ HLN.out).mono ?_; rintro e w9 ⟨rfl, hL6⟩; have b9 := hb1.upd hL6.up (by simp); have s6_9 := b9.at_ HC6.out))
    all_goals
      go_wp2_with fail
      go_meet
      exact hL6
  replace hL := hcut
  clear hcut
  replace hln : (((LW.nil).add (!t.host.isEmpty) 0 (Wr.vector 2 (hostW t.host))).add (t.ocsp) 5 (statusW)).l.length ≤ 2 := Nat.le_trans (LW.add_len _ _ _ _) (Nat.succ_le_succ hln)
  go_upto_region 4 with fail
  go_cut [] from 17 to 25 (fun wx => LSt w1 (s + 1) ((((LW.nil).add (!t.host.isEmpty) 0 (Wr.vector 2 (hostW t.host))).add (t.ocsp) 5 (statusW)).add (decide (0 < t.curves.length)) 10 (Wr.vector 2 (wordsW t.curves))) wx)
  case first =>
    have hU := hL.up
    have hb := hb1.upd hU (by simp)
    have x71 := Row.upd x7 hU (by simp)
    have HL := hid hL
    have HLN := hid (Nat.le_trans hln (show 2 ≤ 1000 by omega))
    clear hL hU hln
    have s7 := hb.at_ HC7.out
    go_region_held3 (fun w' => w'.cell? ⟨s, 7, none⟩ = some (.slice A7 t.curves.length c7)) (go_keep)
      (first
        | (go_at_call 26; refine (words_any_w (Row.drew x71) (by have := HX7.out; omega)).mono ?_; rintro e w4 ⟨v4, rfl, hy4, hn4, ⟨A5, n5, c5, rfl⟩, hu4⟩; have b4 := (hb.drew).upd hu4 (by simp); have s7_4 := b4.at_ HC7.out)
        | (go_at_call 23; refine (vector_any2 hy4 _ (by show (wordsB t.curves).length ≤ _; rw [wordsB_len]; have := HX7.out; omega)).mono ?_; rintro e w5 ⟨v5, rfl, hy5, hn5, ⟨A6, n6, c6, rfl⟩, hu5⟩; have b5 := b4.upd hu5 (by simp); have s7_5 := b5.at_ HC7.out)
        | (go_at_call 22; refine (HL.out.add (((Upd.refl [] _).drew).trans (hu4.trans hu5 (by simp)) (by simp)) (decide (0 < t.curves.length)) 10 hy5 (fun _ g hg => .inr (by have := hn5 g hg; have h4 := hu4.size; simp at h4; omega)) _ HLN.out).mono ?_; rintro e w9 ⟨rfl, hL6⟩; have b9 := hb1.upd hL6.up (by simp); have s7_9 := b9.at_ HC7.out))
    all_goals
      go_wp2_with fail
      go_meet
      exact hL6
  replace hL := hcut
  clear hcut
  replace hln : ((((LW.nil).add (!t.host.isEmpty) 0 (Wr.vector 2 (hostW t.host))).add (t.ocsp) 5 (statusW)).add (decide (0 < t.curves.length)) 10 (Wr.vector 2 (wordsW t.curves))).l.length ≤ 3 := Nat.le_trans (LW.add_len _ _ _ _) (Nat.succ_le_succ hln)
  go_upto_region 5 with fail
  go_cut [] from 26 to 34 (fun wx => LSt w1 (s + 1) (((((LW.nil).add (!t.host.isEmpty) 0 (Wr.vector 2 (hostW t.host))).add (t.ocsp) 5 (statusW)).add (decide (0 < t.curves.length)) 10 (Wr.vector 2 (wordsW t.curves))).add (decide (0 < t.pts.length)) 11 (Wr.vector 1 (Wr.plain t.pts))) wx)
  case first =>
    have hU := hL.up
    have hb := hb1.upd hU (by simp)
    have x81 := Row.upd x8 hU (by simp)
    have HL := hid hL
    have HLN := hid (Nat.le_trans hln (show 3 ≤ 1000 by omega))
    clear hL hU hln
    have s8 := hb.at_ HC8.out
    go_region_held3 (fun w' => w'.cell? ⟨s, 8, none⟩ = some (.slice A8 t.pts.length c8)) (go_keep)
      (first
        | (go_at_call 27; refine (plain_st (Row.drew x81)).mono ?_; rintro e w3 ⟨rfl, hu3⟩; have hp3 := Row.upd (Row.drew x81) hu3 (by simp); have b3 := (hb.drew).upd hu3 (by simp); have s8_3 := b3.at_ HC8.out)
        | (go_at_call 23; refine (vector_any1 hp3 _ (by have := HX8.out; omega)).mono ?_; rintro e w5 ⟨v5, rfl, hy5, hn5, ⟨A6, n6, c6, rfl⟩, hu5⟩; have b5 := b3.upd hu5 (by simp); have s8_5 := b5.at_ HC8.out)
        | (go_at_call 22; refine (HL.out.add (((Upd.refl [] _).drew).trans (hu3.trans hu5 (by simp)) (by simp)) (decide (0 < t.pts.length)) 11 hy5 (fun _ g hg => .inr (by have := hn5 g hg; have h3 := hu3.size; simp at h3; omega)) _ HLN.out).mono ?_; rintro e w9 ⟨rfl, hL6⟩; have b9 := hb1.upd hL6.up (by simp); have s8_9 := b9.at_ HC8.out))
    all_goals
      go_wp2_with fail
      go_meet
      exact hL6
  replace hL := hcut
  clear hcut
  replace hln : (((((LW.nil).add (!t.host.isEmpty) 0 (Wr.vector 2 (hostW t.host))).add (t.ocsp) 5 (statusW)).add (decide (0 < t.curves.length)) 10 (Wr.vector 2 (wordsW t.curves))).add (decide (0 < t.pts.length)) 11 (Wr.vector 1 (Wr.plain t.pts))).l.length ≤ 4 := Nat.le_trans (LW.add_len _ _ _ _) (Nat.succ_le_succ hln)
  go_upto_region 6 with fail
  go_cut [] from 35 to 40 (fun wx => LSt w1 (s + 1) ((((((LW.nil).add (!t.host.isEmpty) 0 (Wr.vector 2 (hostW t.host))).add (t.ocsp) 5 (statusW)).add (decide (0 < t.curves.length)) 10 (Wr.vector 2 (wordsW t.curves))).add (decide (0 < t.pts.length)) 11 (Wr.vector 1 (Wr.plain t.pts))).add (t.ticket) 35 (Wr.plain t.tick)) wx)
  case first =>
    have hU := hL.up
    have hb := hb1.upd hU (by simp)
    have x101 := Row.upd x10 hU (by simp)
    have HL := hid hL
    have HLN := hid (Nat.le_trans hln (show 4 ≤ 1000 by omega))
    clear hL hU hln
    have s9 := hb.at_ HC9.out
    have s10 := hb.at_ HC10.out
    go_region_held3 (fun w' => w'.cell? ⟨s, 9, none⟩ = some (.bool t.ticket) ∧ w'.cell? ⟨s, 10, none⟩ = some (.slice A10 t.tick.length c10)) (go_keep)
      (first
        | (go_at_call 27; refine (plain_st (Row.drew x101)).mono ?_; rintro e w3 ⟨rfl, hu3⟩; have b3 := (hb.drew).upd hu3 (by simp); have s9_3 := b3.at_ HC9.out; have s10_3 := b3.at_ HC10.out)
        | (go_at_call 22; refine (HL.out.add (((Upd.refl [] _).drew).trans hu3 (by simp)) (t.ticket) 35 (Row.upd (Row.drew x101) hu3 (by simp)) (fun hx g hg => .inl (by have := Byt.blk x101 hx g hg; omega)) false HLN.out).mono ?_; rintro e w9 ⟨rfl, hL6⟩; have b9 := hb1.upd hL6.up (by simp); have s9_9 := b9.at_ HC9.out; have s10_9 := b9.at_ HC10.out))
    all_goals
      go_wp2_with fail
      go_meet
      exact hL6
  replace hL := hcut
  clear hcut
  replace hln : ((((((LW.nil).add (!t.host.isEmpty) 0 (Wr.vector 2 (hostW t.host))).add (t.ocsp) 5 (statusW)).add (decide (0 < t.curves.length)) 10 (Wr.vector 2 (wordsW t.curves))).add (decide (0 < t.pts.length)) 11 (Wr.vector 1 (Wr.plain t.pts))).add (t.ticket) 35 (Wr.plain t.tick)).l.length ≤ 5 := Nat.le_trans (LW.add_len _ _ _ _) (Nat.succ_le_succ hln)
  go_upto_region 7 with fail
  go_cut [] from 41 to 49 (fun wx => LSt w1 (s + 1) (((((((LW.nil).add (!t.host.isEmpty) 0 (Wr.vector 2 (hostW t.host))).add (t.ocsp) 5 (statusW)).add (decide (0 < t.curves.length)) 10 (Wr.vector 2 (wordsW t.curves))).add (decide (0 < t.pts.length)) 11 (Wr.vector 1 (Wr.plain t.pts))).add (t.ticket) 35 (Wr.plain t.tick)).add (decide (0 < t.sig.length)) 13 (Wr.vector 2 (wordsW t.sig))) wx)
  case first =>
    have hU := hL.up
    have hb := hb1.upd hU (by simp)
    have x111 := Row.upd x11 hU (by simp)
    have HL := hid hL
    have HLN := hid (Nat.le_trans hln (show 5 ≤ 1000 by omega))
    clear hL hU hln
    have s11 := hb.at_ HC11.out
    go_region_held3 (fun w' => w'.cell? ⟨s, 11, none⟩ = some (.slice A11 t.sig.length c11)) (go_keep)
      (first
        | (go_at_call 26; refine (words_any_w (Row.drew x111) (by have := HX11.out; omega)).mono ?_; rintro e w4 ⟨v4, rfl, hy4, hn4, ⟨A5, n5, c5, rfl⟩, hu4⟩; have b4 := (hb.drew).upd hu4 (by simp); have s11_4 := b4.at_ HC11.out)
        | (go_at_call 23; refine (vector_any2 hy4 _ (by show (wordsB t.sig).length ≤ _; rw [wordsB_len]; have := HX11.out; omega)).mono ?_; rintro e w5 ⟨v5, rfl, hy5, hn5, ⟨A6, n6, c6, rfl⟩, hu5⟩; have b5 := b4.upd hu5 (by simp); have s11_5 := b5.at_ HC11.out)
        | (go_at_call 22; refine (HL.out.add (((Upd.refl [] _).drew).trans (hu4.trans hu5 (by simp)) (by simp)) (decide (0 < t.sig.length)) 13 hy5 (fun _ g hg => .inr (by have := hn5 g hg; have h4 := hu4.size; simp at h4; omega)) _ HLN.out).mono ?_; rintro e w9 ⟨rfl, hL6⟩; have b9 := hb1.upd hL6.up (by simp); have s11_9 := b9.at_ HC11.out))
    all_goals
      go_wp2_with fail
      go_meet
      exact hL6
  replace hL := hcut
  clear hcut
  replace hln : (((((((LW.nil).add (!t.host.isEmpty) 0 (Wr.vector 2 (hostW t.host))).add (t.ocsp) 5 (statusW)).add (decide (0 < t.curves.length)) 10 (Wr.vector 2 (wordsW t.curves))).add (decide (0 < t.pts.length)) 11 (Wr.vector 1 (Wr.plain t.pts))).add (t.ticket) 35 (Wr.plain t.tick)).add (decide (0 < t.sig.length)) 13 (Wr.vector 2 (wordsW t.sig))).l.length ≤ 6 := Nat.le_trans (LW.add_len _ _ _ _) (Nat.succ_le_succ hln)
  go_upto_region 8 with fail
  go_cut [] from 50 to 58 (fun wx => LSt w1 (s + 1) ((((((((LW.nil).add (!t.host.isEmpty) 0 (Wr.vector 2 (hostW t.host))).add (t.ocsp) 5 (statusW)).add (decide (0 < t.curves.length)) 10 (Wr.vector 2 (wordsW t.curves))).add (decide (0 < t.pts.length)) 11 (Wr.vector 1 (Wr.plain t.pts))).add (t.ticket) 35 (Wr.plain t.tick)).add (decide (0 < t.sig.length)) 13 (Wr.vector 2 (wordsW t.sig))).add (decide (0 < t.sigc.length)) 50 (Wr.vector 2 (wordsW t.sigc))) wx)
  case first =>
    have hU := hL.up
    have hb := hb1.upd hU (by simp)
    have x121 := Row.upd x12 hU (by simp)
    have HL := hid hL
    have HLN := hid (Nat.le_trans hln (show 6 ≤ 1000 by omega))
    clear hL hU hln
    have s12 := hb.at_ HC12.out
    go_region_held3 (fun w' => w'.cell? ⟨s, 12, none⟩ = some (.slice A12 t.sigc.length c12)) (go_keep)
      (first
        | (go_at_call 26; refine (words_any_w (Row.drew x121) (by have := HX12.out; omega)).mono ?_; rintro e w4 ⟨v4, rfl, hy4, hn4, ⟨A5, n5, c5, rfl⟩, hu4⟩; have b4 := (hb.drew).upd hu4 (by simp); have s12_4 := b4.at_ HC12.out)
        | (go_at_call 23; refine (vector_any2 hy4 _ (by show (wordsB t.sigc).length ≤ _; rw [wordsB_len]; have := HX12.out; omega)).mono ?_; rintro e w5 ⟨v5, rfl, hy5, hn5, ⟨A6, n6, c6, rfl⟩, hu5⟩; have b5 := b4.upd hu5 (by simp); have s12_5 := b5.at_ HC12.out)
        | (go_at_call 22; refine (HL.out.add (((Upd.refl [] _).drew).trans (hu4.trans hu5 (by simp)) (by simp)) (decide (0 < t.sigc.length)) 50 hy5 (fun _ g hg => .inr (by have := hn5 g hg; have h4 := hu4.size; simp at h4; omega)) _ HLN.out).mono ?_; rintro e w9 ⟨rfl, hL6⟩; have b9 := hb1.upd hL6.up (by simp); have s12_9 := b9.at_ HC12.out))
    all_goals
      go_wp2_with fail
      go_meet
      exact hL6
  replace hL := hcut
  clear hcut
  replace hln : ((((((((LW.nil).add (!t.host.isEmpty) 0 (Wr.vector 2 (hostW t.host))).add (t.ocsp) 5 (statusW)).add (decide (0 < t.curves.length)) 10 (Wr.vector 2 (wordsW t.curves))).add (decide (0 < t.pts.length)) 11 (Wr.vector 1 (Wr.plain t.pts))).add (t.ticket) 35 (Wr.plain t.tick)).add (decide (0 < t.sig.length)) 13 (Wr.vector 2 (wordsW t.sig))).add (decide (0 < t.sigc.length)) 50 (Wr.vector 2 (wordsW t.sigc))).l.length ≤ 7 := Nat.le_trans (LW.add_len _ _ _ _) (Nat.succ_le_succ hln)
  go_upto_region 9 with fail
  go_cut [] from 59 to 65 (fun wx => LSt w1 (s + 1) (((((((((LW.nil).add (!t.host.isEmpty) 0 (Wr.vector 2 (hostW t.host))).add (t.ocsp) 5 (statusW)).add (decide (0 < t.curves.length)) 10 (Wr.vector 2 (wordsW t.curves))).add (decide (0 < t.pts.length)) 11 (Wr.vector 1 (Wr.plain t.pts))).add (t.ticket) 35 (Wr.plain t.tick)).add (decide (0 < t.sig.length)) 13 (Wr.vector 2 (wordsW t.sig))).add (decide (0 < t.sigc.length)) 50 (Wr.vector 2 (wordsW t.sigc))).add (t.rns) 65281 (Wr.vector 1 (Wr.plain t.rn))) wx)
  case first =>
    have hU := hL.up
    have hb := hb1.upd hU (by simp)
    have x141 := Row.upd x14 hU (by simp)
    have HL := hid hL
    have HLN := hid (Nat.le_trans hln (show 7 ≤ 1000 by omega))
    clear hL hU hln
    have s13 := hb.at_ HC13.out
    have s14 := hb.at_ HC14.out
    go_region_held3 (fun w' => w'.cell? ⟨s, 13, none⟩ = some (.bool t.rns) ∧ w'.cell? ⟨s, 14, none⟩ = some (.slice A14 t.rn.length c14)) (go_keep)
      (first
        | (go_at_call 27; refine (plain_st (Row.drew x141)).mono ?_; rintro e w3 ⟨rfl, hu3⟩; have hp3 := Row.upd (Row.drew x141) hu3 (by simp); have b3 := (hb.drew).upd hu3 (by simp); have s13_3 := b3.at_ HC13.out; have s14_3 := b3.at_ HC14.out)
        | (go_at_call 23; refine (vector_any1 hp3 _ (by have := HX14.out; omega)).mono ?_; rintro e w5 ⟨v5, rfl, hy5, hn5, ⟨A6, n6, c6, rfl⟩, hu5⟩; have b5 := b3.upd hu5 (by simp); have s13_5 := b5.at_ HC13.out; have s14_5 := b5.at_ HC14.out)
        | (go_at_call 22; refine (HL.out.add (((Upd.refl [] _).drew).trans (hu3.trans hu5 (by simp)) (by simp)) (t.rns) 65281 hy5 (fun _ g hg => .inr (by have := hn5 g hg; have h3 := hu3.size; simp at h3; omega)) _ HLN.out).mono ?_; rintro e w9 ⟨rfl, hL6⟩; have b9 := hb1.upd hL6.up (by simp); have s13_9 := b9.at_ HC13.out; have s14_9 := b9.at_ HC14.out))
    all_goals
      go_wp2_with fail
      go_meet
      exact hL6
  replace hL := hcut
  clear hcut
  replace hln : (((((((((LW.nil).add (!t.host.isEmpty) 0 (Wr.vector 2 (hostW t.host))).add (t.ocsp) 5 (statusW)).add (decide (0 < t.curves.length)) 10 (Wr.vector 2 (wordsW t.curves))).add (decide (0 < t.pts.length)) 11 (Wr.vector 1 (Wr.plain t.pts))).add (t.ticket) 35 (Wr.plain t.tick)).add (decide (0 < t.sig.length)) 13 (Wr.vector 2 (wordsW t.sig))).add (decide (0 < t.sigc.length)) 50 (Wr.vector 2 (wordsW t.sigc))).add (t.rns) 65281 (Wr.vector 1 (Wr.plain t.rn))).l.length ≤ 8 := Nat.le_trans (LW.add_len _ _ _ _) (Nat.succ_le_succ hln)
  go_upto_region 10 with fail
  go_cut [] from 66 to 69 (fun wx => LSt w1 (s + 1) ((((((((((LW.nil).add (!t.host.isEmpty) 0 (Wr.vector 2 (hostW t.host))).add (t.ocsp) 5 (statusW)).add (decide (0 < t.curves.length)) 10 (Wr.vector 2 (wordsW t.curves))).add (decide (0 < t.pts.length)) 11 (Wr.vector 1 (Wr.plain t.pts))).add (t.ticket) 35 (Wr.plain t.tick)).add (decide (0 < t.sig.length)) 13 (Wr.vector 2 (wordsW t.sig))).add (decide (0 < t.sigc.length)) 50 (Wr.vector 2 (wordsW t.sigc))).add (t.rns) 65281 (Wr.vector 1 (Wr.plain t.rn))).add (t.ems) 23 (Wr.nil)) wx)
  case first =>
    have hU := hL.up
    have hb := hb1.upd hU (by simp)
    have HL := hid hL
    have HLN := hid (Nat.le_trans hln (show 8 ≤ 1000 by omega))
    clear hL hU hln
    have s15 := hb.at_ HC15.out
    go_wp2_with (first
      | (go_at_call 22; refine (HL.out.add (Upd.refl [] _) (t.ems) 23 (Row.nil_ _ 0) (fun hx => absurd rfl hx) false HLN.out).mono ?_; rintro e w9 ⟨rfl, hL6⟩; have b9 := hb1.upd hL6.up (by simp); have s15_9 := b9.at_ HC15.out))
    all_goals
      go_wp2_with fail
      go_meet
      exact hL6
  replace hL := hcut
  clear hcut
  replace hln : ((((((((((LW.nil).add (!t.host.isEmpty) 0 (Wr.vector 2 (hostW t.host))).add (t.ocsp) 5 (statusW)).add (decide (0 < t.curves.length)) 10 (Wr.vector 2 (wordsW t.curves))).add (decide (0 < t.pts.length)) 11 (Wr.vector 1 (Wr.plain t.pts))).add (t.ticket) 35 (Wr.plain t.tick)).add (decide (0 < t.sig.length)) 13 (Wr.vector 2 (wordsW t.sig))).add (decide (0 < t.sigc.length)) 50 (Wr.vector 2 (wordsW t.sigc))).add (t.rns) 65281 (Wr.vector 1 (Wr.plain t.rn))).add (t.ems) 23 (Wr.nil)).l.length ≤ 9 := Nat.le_trans (LW.add_len _ _ _ _) (Nat.succ_le_succ hln)
  go_upto_region 11 with fail
  go_cut [] from 70 to 79 (fun wx => LSt w1 (s + 1) (((((((((((LW.nil).add (!t.host.isEmpty) 0 (Wr.vector 2 (hostW t.host))).add (t.ocsp) 5 (statusW)).add (decide (0 < t.curves.length)) 10 (Wr.vector 2 (wordsW t.curves))).add (decide (0 < t.pts.length)) 11 (Wr.vector 1 (Wr.plain t.pts))).add (t.ticket) 35 (Wr.plain t.tick)).add (decide (0 < t.sig.length)) 13 (Wr.vector 2 (wordsW t.sig))).add (decide (0 < t.sigc.length)) 50 (Wr.vector 2 (wordsW t.sigc))).add (t.rns) 65281 (Wr.vector 1 (Wr.plain t.rn))).add (t.ems) 23 (Wr.nil)).add (decide (0 < t.alpn.length)) 16 (Wr.vector 2 (vecsW 1 t.alpn))) wx)
  case first =>
    have hU := hL.up
    have hb := hb1.upd hU (by simp)
    have x161 := Row.upd x16 hU (by simp)
    have HL := hid hL
    have HLN := hid (Nat.le_trans hln (show 9 ≤ 1000 by omega))
    clear hL hU hln
    have s16 := hb.at_ HC16.out
    go_region_held3 (fun w' => w'.cell? ⟨s, 16, none⟩ = some (.slice A16 t.alpn.length c16)) (go_keep)
      (first
        | (go_at_call 21; refine (octets_any (Row.drew x161) (by have := HX16.out; have := lstSz_len t.alpn; omega) (fun x hx => by have := HX16.out; have := lstSz_mem hx; omega)).mono ?_; rintro e w3 ⟨v3, rfl, hy3, hu3, hn3⟩; obtain ⟨A3, c3, rfl, hy3, -, -⟩ := hy3.form; have b3 := (hb.drew).upd hu3 (by simp); have s16_3 := b3.at_ HC16.out)
        | (go_at_call 28; refine (vectors_any_w 1 (.inl rfl) hy3 (by have := HX16.out; have := vecsB_lst 1 t.alpn; omega)).mono ?_; rintro e w4 ⟨v4, rfl, hy4, hn4, ⟨A4, n4, c4, rfl⟩, hu4⟩; have b4 := b3.upd hu4 (by simp); have s16_4 := b4.at_ HC16.out)
        | (go_at_call 23; refine (vector_any2 hy4 _ (by show (vecsB 1 t.alpn).length ≤ _; have := HX16.out; have := vecsB_lst 1 t.alpn; omega)).mono ?_; rintro e w5 ⟨v5, rfl, hy5, hn5, ⟨A5, n5, c5, rfl⟩, hu5⟩; have b5 := b4.upd hu5 (by simp); have s16_5 := b5.at_ HC16.out)
        | (go_at_call 22; have hu35 : Upd [] _ w5 := (((Upd.refl [] _).drew).trans hu3 (by simp)).trans (hu4.trans hu5 (by simp)) (by simp); refine (HL.out.add hu35 (decide (0 < t.alpn.length)) 16 hy5 (fun _ g hg => .inr (by have := hn5 g hg; have h3 := hu3.size; simp at h3; have := hu4.size; omega)) _ HLN.out).mono ?_; rintro e w9 ⟨rfl, hL6⟩; have b9 := hb1.upd hL6.up (by simp); have s16_9 := b9.at_ HC16.out))
    all_goals
      go_wp2_with fail
      go_meet
      exact hL6
  replace hL := hcut
  clear hcut
  replace hln : (((((((((((LW.nil).add (!t.host.isEmpty) 0 (Wr.vector 2 (hostW t.host))).add (t.ocsp) 5 (statusW)).add (decide (0 < t.curves.length)) 10 (Wr.vector 2 (wordsW t.curves))).add (decide (0 < t.pts.length)) 11 (Wr.vector 1 (Wr.plain t.pts))).add (t.ticket) 35 (Wr.plain t.tick)).add (decide (0 < t.sig.length)) 13 (Wr.vector 2 (wordsW t.sig))).add (decide (0 < t.sigc.length)) 50 (Wr.vector 2 (wordsW t.sigc))).add (t.rns) 65281 (Wr.vector 1 (Wr.plain t.rn))).add (t.ems) 23 (Wr.nil)).add (decide (0 < t.alpn.length)) 16 (Wr.vector 2 (vecsW 1 t.alpn))).l.length ≤ 10 := Nat.le_trans (LW.add_len _ _ _ _) (Nat.succ_le_succ hln)
  go_upto_region 12 with fail
  go_cut [] from 80 to 83 (fun wx => LSt w1 (s + 1) ((((((((((((LW.nil).add (!t.host.isEmpty) 0 (Wr.vector 2 (hostW t.host))).add (t.ocsp) 5 (statusW)).add (decide (0 < t.curves.length)) 10 (Wr.vector 2 (wordsW t.curves))).add (decide (0 < t.pts.length)) 11 (Wr.vector 1 (Wr.plain t.pts))).add (t.ticket) 35 (Wr.plain t.tick)).add (decide (0 < t.sig.length)) 13 (Wr.vector 2 (wordsW t.sig))).add (decide (0 < t.sigc.length)) 50 (Wr.vector 2 (wordsW t.sigc))).add (t.rns) 65281 (Wr.vector 1 (Wr.plain t.rn))).add (t.ems) 23 (Wr.nil)).add (decide (0 < t.alpn.length)) 16 (Wr.vector 2 (vecsW 1 t.alpn))).add (t.scts) 18 (Wr.nil)) wx)
  case first =>
    have hU := hL.up
    have hb := hb1.upd hU (by simp)
    have HL := hid hL
    have HLN := hid (Nat.le_trans hln (show 10 ≤ 1000 by omega))
    clear hL hU hln
    have s17 := hb.at_ HC17.out
    go_wp2_with (first
      | (go_at_call 22; refine (HL.out.add (Upd.refl [] _) (t.scts) 18 (Row.nil_ _ 0) (fun hx => absurd rfl hx) false HLN.out).mono ?_; rintro e w9 ⟨rfl, hL6⟩; have b9 := hb1.upd hL6.up (by simp); have s17_9 := b9.at_ HC17.out))
    all_goals
      go_wp2_with fail
      go_meet
      exact hL6
  replace hL := hcut
  clear hcut
  replace hln : ((((((((((((LW.nil).add (!t.host.isEmpty) 0 (Wr.vector 2 (hostW t.host))).add (t.ocsp) 5 (statusW)).add (decide (0 < t.curves.length)) 10 (Wr.vector 2 (wordsW t.curves))).add (decide (0 < t.pts.length)) 11 (Wr.vector 1 (Wr.plain t.pts))).add (t.ticket) 35 (Wr.plain t.tick)).add (decide (0 < t.sig.length)) 13 (Wr.vector 2 (wordsW t.sig))).add (decide (0 < t.sigc.length)) 50 (Wr.vector 2 (wordsW t.sigc))).add (t.rns) 65281 (Wr.vector 1 (Wr.plain t.rn))).add (t.ems) 23 (Wr.nil)).add (decide (0 < t.alpn.length)) 16 (Wr.vector 2 (vecsW 1 t.alpn))).add (t.scts) 18 (Wr.nil)).l.length ≤ 11 := Nat.le_trans (LW.add_len _ _ _ _) (Nat.succ_le_succ hln)
  go_upto_region 13 with fail
  go_cut [] from 84 to 92 (fun wx => LSt w1 (s + 1) (((((((((((((LW.nil).add (!t.host.isEmpty) 0 (Wr.vector 2 (hostW t.host))).add (t.ocsp) 5 (statusW)).add (decide (0 < t.curves.length)) 10 (Wr.vector 2 (wordsW t.curves))).add (decide (0 < t.pts.length)) 11 (Wr.vector 1 (Wr.plain t.pts))).add (t.ticket) 35 (Wr.plain t.tick)).add (decide (0 < t.sig.length)) 13 (Wr.vector 2 (wordsW t.sig))).add (decide (0 < t.sigc.length)) 50 (Wr.vector 2 (wordsW t.sigc))).add (t.rns) 65281 (Wr.vector 1 (Wr.plain t.rn))).add (t.ems) 23 (Wr.nil)).add (decide (0 < t.alpn.length)) 16 (Wr.vector 2 (vecsW 1 t.alpn))).add (t.scts) 18 (Wr.nil)).add (decide (0 < t.sv.length)) 43 (Wr.vector 1 (wordsW t.sv))) wx)
  case first =>
    have hU := hL.up
    have hb := hb1.upd hU (by simp)
    have x181 := Row.upd x18 hU (by simp)
    have HL := hid hL
    have HLN := hid (Nat.le_trans hln (show 11 ≤ 1000 by omega))
    clear hL hU hln
    have s18 := hb.at_ HC18.out
    go_region_held3 (fun w' => w'.cell? ⟨s, 18, none⟩ = some (.slice A18 t.sv.length c18)) (go_keep)
      (first
        | (go_at_call 26; refine (words_any_w (Row.drew x181) (by have := HX18.out; omega)).mono ?_; rintro e w4 ⟨v4, rfl, hy4, hn4, ⟨A5, n5, c5, rfl⟩, hu4⟩; have b4 := (hb.drew).upd hu4 (by simp); have s18_4 := b4.at_ HC18.out)
        | (go_at_call 23; refine (vector_any1 hy4 _ (by show (wordsB t.sv).length ≤ _; rw [wordsB_len]; have := HX18.out; omega)).mono ?_; rintro e w5 ⟨v5, rfl, hy5, hn5, ⟨A6, n6, c6, rfl⟩, hu5⟩; have b5 := b4.upd hu5 (by simp); have s18_5 := b5.at_ HC18.out)
        | (go_at_call 22; refine (HL.out.add (((Upd.refl [] _).drew).trans (hu4.trans hu5 (by simp)) (by simp)) (decide (0 < t.sv.length)) 43 hy5 (fun _ g hg => .inr (by have := hn5 g hg; have h4 := hu4.size; simp at h4; omega)) _ HLN.out).mono ?_; rintro e w9 ⟨rfl, hL6⟩; have b9 := hb1.upd hL6.up (by simp); have s18_9 := b9.at_ HC18.out))
    all_goals
      go_wp2_with fail
      go_meet
      exact hL6
  replace hL := hcut
  clear hcut
  replace hln : (((((((((((((LW.nil).add (!t.host.isEmpty) 0 (Wr.vector 2 (hostW t.host))).add (t.ocsp) 5 (statusW)).add (decide (0 < t.curves.length)) 10 (Wr.vector 2 (wordsW t.curves))).add (decide (0 < t.pts.length)) 11 (Wr.vector 1 (Wr.plain t.pts))).add (t.ticket) 35 (Wr.plain t.tick)).add (decide (0 < t.sig.length)) 13 (Wr.vector 2 (wordsW t.sig))).add (decide (0 < t.sigc.length)) 50 (Wr.vector 2 (wordsW t.sigc))).add (t.rns) 65281 (Wr.vector 1 (Wr.plain t.rn))).add (t.ems) 23 (Wr.nil)).add (decide (0 < t.alpn.length)) 16 (Wr.vector 2 (vecsW 1 t.alpn))).add (t.scts) 18 (Wr.nil)).add (decide (0 < t.sv.length)) 43 (Wr.vector 1 (wordsW t.sv))).l.length ≤ 12 := Nat.le_trans (LW.add_len _ _ _ _) (Nat.succ_le_succ hln)
  go_upto_region 14 with fail
  go_cut [] from 93 to 101 (fun wx => LSt w1 (s + 1) ((((((((((((((LW.nil).add (!t.host.isEmpty) 0 (Wr.vector 2 (hostW t.host))).add (t.ocsp) 5 (statusW)).add (decide (0 < t.curves.length)) 10 (Wr.vector 2 (wordsW t.curves))).add (decide (0 < t.pts.length)) 11 (Wr.vector 1 (Wr.plain t.pts))).add (t.ticket) 35 (Wr.plain t.tick)).add (decide (0 < t.sig.length)) 13 (Wr.vector 2 (wordsW t.sig))).add (decide (0 < t.sigc.length)) 50 (Wr.vector 2 (wordsW t.sigc))).add (t.rns) 65281 (Wr.vector 1 (Wr.plain t.rn))).add (t.ems) 23 (Wr.nil)).add (decide (0 < t.alpn.length)) 16 (Wr.vector 2 (vecsW 1 t.alpn))).add (t.scts) 18 (Wr.nil)).add (decide (0 < t.sv.length)) 43 (Wr.vector 1 (wordsW t.sv))).add (decide (0 < t.cookie.length)) 44 (Wr.vector 2 (Wr.plain t.cookie))) wx)
  case first =>
    have hU := hL.up
    have hb := hb1.upd hU (by simp)
    have x191 := Row.upd x19 hU (by simp)
    have HL := hid hL
    have HLN := hid (Nat.le_trans hln (show 12 ≤ 1000 by omega))
    clear hL hU hln
    have s19 := hb.at_ HC19.out
    go_region_held3 (fun w' => w'.cell? ⟨s, 19, none⟩ = some (.slice A19 t.cookie.length c19)) (go_keep)
      (first
        | (go_at_call 27; refine (plain_st (Row.drew x191)).mono ?_; rintro e w3 ⟨rfl, hu3⟩; have hp3 := Row.upd (Row.drew x191) hu3 (by simp); have b3 := (hb.drew).upd hu3 (by simp); have s19_3 := b3.at_ HC19.out)
        | (go_at_call 23; refine (vector_any2 hp3 _ (by have := HX19.out; omega)).mono ?_; rintro e w5 ⟨v5, rfl, hy5, hn5, ⟨A6, n6, c6, rfl⟩, hu5⟩; have b5 := b3.upd hu5 (by simp); have s19_5 := b5.at_ HC19.out)
        | (go_at_call 22; refine (HL.out.add (((Upd.refl [] _).drew).trans (hu3.trans hu5 (by simp)) (by simp)) (decide (0 < t.cookie.length)) 44 hy5 (fun _ g hg => .inr (by have := hn5 g hg; have h3 := hu3.size; simp at h3; omega)) _ HLN.out).mono ?_; rintro e w9 ⟨rfl, hL6⟩; have b9 := hb1.upd hL6.up (by simp); have s19_9 := b9.at_ HC19.out))
    all_goals
      go_wp2_with fail
      go_meet
      exact hL6
  replace hL := hcut
  clear hcut
  replace hln : ((((((((((((((LW.nil).add (!t.host.isEmpty) 0 (Wr.vector 2 (hostW t.host))).add (t.ocsp) 5 (statusW)).add (decide (0 < t.curves.length)) 10 (Wr.vector 2 (wordsW t.curves))).add (decide (0 < t.pts.length)) 11 (Wr.vector 1 (Wr.plain t.pts))).add (t.ticket) 35 (Wr.plain t.tick)).add (decide (0 < t.sig.length)) 13 (Wr.vector 2 (wordsW t.sig))).add (decide (0 < t.sigc.length)) 50 (Wr.vector 2 (wordsW t.sigc))).add (t.rns) 65281 (Wr.vector 1 (Wr.plain t.rn))).add (t.ems) 23 (Wr.nil)).add (decide (0 < t.alpn.length)) 16 (Wr.vector 2 (vecsW 1 t.alpn))).add (t.scts) 18 (Wr.nil)).add (decide (0 < t.sv.length)) 43 (Wr.vector 1 (wordsW t.sv))).add (decide (0 < t.cookie.length)) 44 (Wr.vector 2 (Wr.plain t.cookie))).l.length ≤ 13 := Nat.le_trans (LW.add_len _ _ _ _) (Nat.succ_le_succ hln)
  go_upto_region 15 with fail
  go_cut [] from 102 to 112 (fun wx => LSt w1 (s + 1) (((((((((((((((LW.nil).add (!t.host.isEmpty) 0 (Wr.vector 2 (hostW t.host))).add (t.ocsp) 5 (statusW)).add (decide (0 < t.curves.length)) 10 (Wr.vector 2 (wordsW t.curves))).add (decide (0 < t.pts.length)) 11 (Wr.vector 1 (Wr.plain t.pts))).add (t.ticket) 35 (Wr.plain t.tick)).add (decide (0 < t.sig.length)) 13 (Wr.vector 2 (wordsW t.sig))).add (decide (0 < t.sigc.length)) 50 (Wr.vector 2 (wordsW t.sigc))).add (t.rns) 65281 (Wr.vector 1 (Wr.plain t.rn))).add (t.ems) 23 (Wr.nil)).add (decide (0 < t.alpn.length)) 16 (Wr.vector 2 (vecsW 1 t.alpn))).add (t.scts) 18 (Wr.nil)).add (decide (0 < t.sv.length)) 43 (Wr.vector 1 (wordsW t.sv))).add (decide (0 < t.cookie.length)) 44 (Wr.vector 2 (Wr.plain t.cookie))).add (decide (0 < t.kg.length)) 51 (Wr.vector 2 (kshW (chKs t)))) wx)
  case first =>
    have hU := hL.up
    have hb := hb1.upd hU (by simp)
    have x201 := Row.upd x20 hU (by simp)
    have x211 := Lst.upd x21 hU (by simp)
    have HL := hid hL
    have HLN := hid (Nat.le_trans hln (show 13 ≤ 1000 by omega))
    clear hL hU hln
    have hK1 := Row.castl x201 HE1.out.symm
    have hK2 := Lst.castl x211 HE2.out.symm
    have s20 := hb.at_ HC20.out
    have s21 := hb.at_ HC21.out
    go_region_held3 (fun w' => w'.cell? ⟨s, 20, none⟩ = some (.slice A20 t.kg.length c20) ∧ w'.cell? ⟨s, 21, none⟩ = some (.slice A21 t.kd.length c21)) (go_keep)
      (first
        | (go_at_call 29; refine (keyShares_any_w (l := chKs t) (Row.drew hK1) (Lst.drewn hK2) (Nat.le_trans (kshB_cost _) (by have := HXK.out; omega))).mono ?_; rintro e w4 ⟨v4, rfl, hy4, hn4, ⟨A5, n5, c5, rfl⟩, hu4⟩; have b4 := (hb.drew).upd hu4 (by simp); have s20_4 := b4.at_ HC20.out; have s21_4 := b4.at_ HC21.out)
        | (go_at_call 23; refine (vector_any2 hy4 _ (Nat.le_trans (kshB_cost (chKs t)) (by have := HXK.out; omega))).mono ?_; rintro e w5 ⟨v5, rfl, hy5, hn5, ⟨A6, n6, c6, rfl⟩, hu5⟩; have b5 := b4.upd hu5 (by simp); have s20_5 := b5.at_ HC20.out; have s21_5 := b5.at_ HC21.out)
        | (go_at_call 22; refine (HL.out.add (((Upd.refl [] _).drew).trans (hu4.trans hu5 (by simp)) (by simp)) (decide (0 < t.kg.length)) 51 hy5 (fun _ g hg => .inr (by have := hn5 g hg; have h4 := hu4.size; simp at h4; omega)) _ HLN.out).mono ?_; rintro e w9 ⟨rfl, hL6⟩; have b9 := hb1.upd hL6.up (by simp); have s20_9 := b9.at_ HC20.out; have s21_9 := b9.at_ HC21.out))
    all_goals
      go_wp2_with fail
      go_meet
      exact hL6
  replace hL := hcut
  clear hcut
  replace hln : (((((((((((((((LW.nil).add (!t.host.isEmpty) 0 (Wr.vector 2 (hostW t.host))).add (t.ocsp) 5 (statusW)).add (decide (0 < t.curves.length)) 10 (Wr.vector 2 (wordsW t.curves))).add (decide (0 < t.pts.length)) 11 (Wr.vector 1 (Wr.plain t.pts))).add (t.ticket) 35 (Wr.plain t.tick)).add (decide (0 < t.sig.length)) 13 (Wr.vector 2 (wordsW t.sig))).add (decide (0 < t.sigc.length)) 50 (Wr.vector 2 (wordsW t.sigc))).add (t.rns) 65281 (Wr.vector 1 (Wr.plain t.rn))).add (t.ems) 23 (Wr.nil)).add (decide (0 < t.alpn.length)) 16 (Wr.vector 2 (vecsW 1 t.alpn))).add (t.scts) 18 (Wr.nil)).add (decide (0 < t.sv.length)) 43 (Wr.vector 1 (wordsW t.sv))).add (decide (0 < t.cookie.length)) 44 (Wr.vector 2 (Wr.plain t.cookie))).add (decide (0 < t.kg.length)) 51 (Wr.vector 2 (kshW (chKs t)))).l.length ≤ 14 := Nat.le_trans (LW.add_len _ _ _ _) (Nat.succ_le_succ hln)
  go_upto_region 16 with fail
  go_cut [] from 113 to 116 (fun wx => LSt w1 (s + 1) ((((((((((((((((LW.nil).add (!t.host.isEmpty) 0 (Wr.vector 2 (hostW t.host))).add (t.ocsp) 5 (statusW)).add (decide (0 < t.curves.length)) 10 (Wr.vector 2 (wordsW t.curves))).add (decide (0 < t.pts.length)) 11 (Wr.vector 1 (Wr.plain t.pts))).add (t.ticket) 35 (Wr.plain t.tick)).add (decide (0 < t.sig.length)) 13 (Wr.vector 2 (wordsW t.sig))).add (decide (0 < t.sigc.length)) 50 (Wr.vector 2 (wordsW t.sigc))).add (t.rns) 65281 (Wr.vector 1 (Wr.plain t.rn))).add (t.ems) 23 (Wr.nil)).add (decide (0 < t.alpn.length)) 16 (Wr.vector 2 (vecsW 1 t.alpn))).add (t.scts) 18 (Wr.nil)).add (decide (0 < t.sv.length)) 43 (Wr.vector 1 (wordsW t.sv))).add (decide (0 < t.cookie.length)) 44 (Wr.vector 2 (Wr.plain t.cookie))).add (decide (0 < t.kg.length)) 51 (Wr.vector 2 (kshW (chKs t)))).add (t.early) 42 (Wr.nil)) wx)
  case first =>
    have hU := hL.up
    have hb := hb1.upd hU (by simp)
    have HL := hid hL
    have HLN := hid (Nat.le_trans hln (show 14 ≤ 1000 by omega))
    clear hL hU hln
    have s22 := hb.at_ HC22.out
    go_wp2_with (first
      | (go_at_call 22; refine (HL.out.add (Upd.refl [] _) (t.early) 42 (Row.nil_ _ 0) (fun hx => absurd rfl hx) false HLN.out).mono ?_; rintro e w9 ⟨rfl, hL6⟩; have b9 := hb1.upd hL6.up (by simp); have s22_9 := b9.at_ HC22.out))
    all_goals
      go_wp2_with fail
      go_meet
      exact hL6
  replace hL := hcut
  clear hcut
  replace hln : ((((((((((((((((LW.nil).add (!t.host.isEmpty) 0 (Wr.vector 2 (hostW t.host))).add (t.ocsp) 5 (statusW)).add (decide (0 < t.curves.length)) 10 (Wr.vector 2 (wordsW t.curves))).add (decide (0 < t.pts.length)) 11 (Wr.vector 1 (Wr.plain t.pts))).add (t.ticket) 35 (Wr.plain t.tick)).add (decide (0 < t.sig.length)) 13 (Wr.vector 2 (wordsW t.sig))).add (decide (0 < t.sigc.length)) 50 (Wr.vector 2 (wordsW t.sigc))).add (t.rns) 65281 (Wr.vector 1 (Wr.plain t.rn))).add (t.ems) 23 (Wr.nil)).add (decide (0 < t.alpn.length)) 16 (Wr.vector 2 (vecsW 1 t.alpn))).add (t.scts) 18 (Wr.nil)).add (decide (0 < t.sv.length)) 43 (Wr.vector 1 (wordsW t.sv))).add (decide (0 < t.cookie.length)) 44 (Wr.vector 2 (Wr.plain t.cookie))).add (decide (0 < t.kg.length)) 51 (Wr.vector 2 (kshW (chKs t)))).add (t.early) 42 (Wr.nil)).l.length ≤ 15 := Nat.le_trans (LW.add_len _ _ _ _) (Nat.succ_le_succ hln)
  go_upto_region 17 with fail
  go_cut [] from 117 to 125 (fun wx => LSt w1 (s + 1) (((((((((((((((((LW.nil).add (!t.host.isEmpty) 0 (Wr.vector 2 (hostW t.host))).add (t.ocsp) 5 (statusW)).add (decide (0 < t.curves.length)) 10 (Wr.vector 2 (wordsW t.curves))).add (decide (0 < t.pts.length)) 11 (Wr.vector 1 (Wr.plain t.pts))).add (t.ticket) 35 (Wr.plain t.tick)).add (decide (0 < t.sig.length)) 13 (Wr.vector 2 (wordsW t.sig))).add (decide (0 < t.sigc.length)) 50 (Wr.vector 2 (wordsW t.sigc))).add (t.rns) 65281 (Wr.vector 1 (Wr.plain t.rn))).add (t.ems) 23 (Wr.nil)).add (decide (0 < t.alpn.length)) 16 (Wr.vector 2 (vecsW 1 t.alpn))).add (t.scts) 18 (Wr.nil)).add (decide (0 < t.sv.length)) 43 (Wr.vector 1 (wordsW t.sv))).add (decide (0 < t.cookie.length)) 44 (Wr.vector 2 (Wr.plain t.cookie))).add (decide (0 < t.kg.length)) 51 (Wr.vector 2 (kshW (chKs t)))).add (t.early) 42 (Wr.nil)).add (decide (0 < t.modes.length)) 45 (Wr.vector 1 (Wr.plain t.modes))) wx)
  case first =>
    have hU := hL.up
    have hb := hb1.upd hU (by simp)
    have x231 := Row.upd x23 hU (by simp)
    have HL := hid hL
    have HLN := hid (Nat.le_trans hln (show 15 ≤ 1000 by omega))
    clear hL hU hln
    have s23 := hb.at_ HC23.out
    go_region_held3 (fun w' => w'.cell? ⟨s, 23, none⟩ = some (.slice A23 t.modes.length c23)) (go_keep)
      (first
        | (go_at_call 27; refine (plain_st (Row.drew x231)).mono ?_; rintro e w3 ⟨rfl, hu3⟩; have hp3 := Row.upd (Row.drew x231) hu3 (by simp); have b3 := (hb.drew).upd hu3 (by simp); have s23_3 := b3.at_ HC23.out)
        | (go_at_call 23; refine (vector_any1 hp3 _ (by have := HX23.out; omega)).mono ?_; rintro e w5 ⟨v5, rfl, hy5, hn5, ⟨A6, n6, c6, rfl⟩, hu5⟩; have b5 := b3.upd hu5 (by simp); have s23_5 := b5.at_ HC23.out)
        | (go_at_call 22; refine (HL.out.add (((Upd.refl [] _).drew).trans (hu3.trans hu5 (by simp)) (by simp)) (decide (0 < t.modes.length)) 45 hy5 (fun _ g hg => .inr (by have := hn5 g hg; have h3 := hu3.size; simp at h3; omega)) _ HLN.out).mono ?_; rintro e w9 ⟨rfl, hL6⟩; have b9 := hb1.upd hL6.up (by simp); have s23_9 := b9.at_ HC23.out))
    all_goals
      go_wp2_with fail
      go_meet
      exact hL6
  replace hL := hcut
  clear hcut
  replace hln : (((((((((((((((((LW.nil).add (!t.host.isEmpty) 0 (Wr.vector 2 (hostW t.host))).add (t.ocsp) 5 (statusW)).add (decide (0 < t.curves.length)) 10 (Wr.vector 2 (wordsW t.curves))).add (decide (0 < t.pts.length)) 11 (Wr.vector 1 (Wr.plain t.pts))).add (t.ticket) 35 (Wr.plain t.tick)).add (decide (0 < t.sig.length)) 13 (Wr.vector 2 (wordsW t.sig))).add (decide (0 < t.sigc.length)) 50 (Wr.vector 2 (wordsW t.sigc))).add (t.rns) 65281 (Wr.vector 1 (Wr.plain t.rn))).add (t.ems) 23 (Wr.nil)).add (decide (0 < t.alpn.length)) 16 (Wr.vector 2 (vecsW 1 t.alpn))).add (t.scts) 18 (Wr.nil)).add (decide (0 < t.sv.length)) 43 (Wr.vector 1 (wordsW t.sv))).add (decide (0 < t.cookie.length)) 44 (Wr.vector 2 (Wr.plain t.cookie))).add (decide (0 < t.kg.length)) 51 (Wr.vector 2 (kshW (chKs t)))).add (t.early) 42 (Wr.nil)).add (decide (0 < t.modes.length)) 45 (Wr.vector 1 (Wr.plain t.modes))).l.length ≤ 16 := Nat.le_trans (LW.add_len _ _ _ _) (Nat.succ_le_succ hln)
  go_upto_region 18 with fail
  go_cut [] from 126 to 131 (fun wx => LSt w1 (s + 1) ((((((((((((((((((LW.nil).add (!t.host.isEmpty) 0 (Wr.vector 2 (hostW t.host))).add (t.ocsp) 5 (statusW)).add (decide (0 < t.curves.length)) 10 (Wr.vector 2 (wordsW t.curves))).add (decide (0 < t.pts.length)) 11 (Wr.vector 1 (Wr.plain t.pts))).add (t.ticket) 35 (Wr.plain t.tick)).add (decide (0 < t.sig.length)) 13 (Wr.vector 2 (wordsW t.sig))).add (decide (0 < t.sigc.length)) 50 (Wr.vector 2 (wordsW t.sigc))).add (t.rns) 65281 (Wr.vector 1 (Wr.plain t.rn))).add (t.ems) 23 (Wr.nil)).add (decide (0 < t.alpn.length)) 16 (Wr.vector 2 (vecsW 1 t.alpn))).add (t.scts) 18 (Wr.nil)).add (decide (0 < t.sv.length)) 43 (Wr.vector 1 (wordsW t.sv))).add (decide (0 < t.cookie.length)) 44 (Wr.vector 2 (Wr.plain t.cookie))).add (decide (0 < t.kg.length)) 51 (Wr.vector 2 (kshW (chKs t)))).add (t.early) 42 (Wr.nil)).add (decide (0 < t.modes.length)) 45 (Wr.vector 1 (Wr.plain t.modes))).add (t.quic) 57 (Wr.plain t.qtp)) wx)
  case first =>
    have hU := hL.up
    have hb := hb1.upd hU (by simp)
    have x281 := Row.upd x28 hU (by simp)
    have HL := hid hL
    have HLN := hid (Nat.le_trans hln (show 16 ≤ 1000 by omega))
    clear hL hU hln
    have s27 := hb.at_ HC27.out
    have s28 := hb.at_ HC28.out
    go_region_held3 (fun w' => w'.cell? ⟨s, 27, none⟩ = some (.bool t.quic) ∧ w'.cell? ⟨s, 28, none⟩ = some (.slice A28 t.qtp.length c28)) (go_keep)
      (first
        | (go_at_call 27; refine (plain_st (Row.drew x281)).mono ?_; rintro e w3 ⟨rfl, hu3⟩; have b3 := (hb.drew).upd hu3 (by simp); have s27_3 := b3.at_ HC27.out; have s28_3 := b3.at_ HC28.out)
        | (go_at_call 22; refine (HL.out.add (((Upd.refl [] _).drew).trans hu3 (by simp)) (t.quic) 57 (Row.upd (Row.drew x281) hu3 (by simp)) (fun hx g hg => .inl (by have := Byt.blk x281 hx g hg; omega)) false HLN.out).mono ?_; rintro e w9 ⟨rfl, hL6⟩; have b9 := hb1.upd hL6.up (by simp); have s27_9 := b9.at_ HC27.out; have s28_9 := b9.at_ HC28.out))
    all_goals
      go_wp2_with fail
      go_meet
      exact hL6
  replace hL := hcut
  clear hcut
  replace hln : ((((((((((((((((((LW.nil).add (!t.host.isEmpty) 0 (Wr.vector 2 (hostW t.host))).add (t.ocsp) 5 (statusW)).add (decide (0 < t.curves.length)) 10 (Wr.vector 2 (wordsW t.curves))).add (decide (0 < t.pts.length)) 11 (Wr.vector 1 (Wr.plain t.pts))).add (t.ticket) 35 (Wr.plain t.tick)).add (decide (0 < t.sig.length)) 13 (Wr.vector 2 (wordsW t.sig))).add (decide (0 < t.sigc.length)) 50 (Wr.vector 2 (wordsW t.sigc))).add (t.rns) 65281 (Wr.vector 1 (Wr.plain t.rn))).add (t.ems) 23 (Wr.nil)).add (decide (0 < t.alpn.length)) 16 (Wr.vector 2 (vecsW 1 t.alpn))).add (t.scts) 18 (Wr.nil)).add (decide (0 < t.sv.length)) 43 (Wr.vector 1 (wordsW t.sv))).add (decide (0 < t.cookie.length)) 44 (Wr.vector 2 (Wr.plain t.cookie))).add (decide (0 < t.kg.length)) 51 (Wr.vector 2 (kshW (chKs t)))).add (t.early) 42 (Wr.nil)).add (decide (0 < t.modes.length)) 45 (Wr.vector 1 (Wr.plain t.modes))).add (t.quic) 57 (Wr.plain t.qtp)).l.length ≤ 17 := Nat.le_trans (LW.add_len _ _ _ _) (Nat.succ_le_succ hln)
  go_upto_region 19 with fail
  go_cut [] from 132 to 139 (fun wx => LSt w1 (s + 1) (((((((((((((((((((LW.nil).add (!t.host.isEmpty) 0 (Wr.vector 2 (hostW t.host))).add (t.ocsp) 5 (statusW)).add (decide (0 < t.curves.length)) 10 (Wr.vector 2 (wordsW t.curves))).add (decide (0 < t.pts.length)) 11 (Wr.vector 1 (Wr.plain t.pts))).add (t.ticket) 35 (Wr.plain t.tick)).add (decide (0 < t.sig.length)) 13 (Wr.vector 2 (wordsW t.sig))).add (decide (0 < t.sigc.length)) 50 (Wr.vector 2 (wordsW t.sigc))).add (t.rns) 65281 (Wr.vector 1 (Wr.plain t.rn))).add (t.ems) 23 (Wr.nil)).add (decide (0 < t.alpn.length)) 16 (Wr.vector 2 (vecsW 1 t.alpn))).add (t.scts) 18 (Wr.nil)).add (decide (0 < t.sv.length)) 43 (Wr.vector 1 (wordsW t.sv))).add (decide (0 < t.cookie.length)) 44 (Wr.vector 2 (Wr.plain t.cookie))).add (decide (0 < t.kg.length)) 51 (Wr.vector 2 (kshW (chKs t)))).add (t.early) 42 (Wr.nil)).add (decide (0 < t.modes.length)) 45 (Wr.vector 1 (Wr.plain t.modes))).add (t.quic) 57 (Wr.plain t.qtp)).add (decide (0 < t.ech.length)) 65037 (Wr.plain t.ech)) wx)
  case first =>
    have hU := hL.up
    have hb := hb1.upd hU (by simp)
    have x291 := Row.upd x29 hU (by simp)
    have HL := hid hL
    have HLN := hid (Nat.le_trans hln (show 17 ≤ 1000 by omega))
    clear hL hU hln
    have s29 := hb.at_ HC29.out
    go_region_held3 (fun w' => w'.cell? ⟨s, 29, none⟩ = some (.slice A29 t.ech.length c29)) (go_keep)
      (first
        | (go_at_call 27; refine (plain_st (Row.drew x291)).mono ?_; rintro e w3 ⟨rfl, hu3⟩; have b3 := (hb.drew).upd hu3 (by simp); have s29_3 := b3.at_ HC29.out)
        | (go_at_call 22; refine (HL.out.add (((Upd.refl [] _).drew).trans hu3 (by simp)) (decide (0 < t.ech.length)) 65037 (Row.upd (Row.drew x291) hu3 (by simp)) (fun hx g hg => .inl (by have := Byt.blk x291 hx g hg; omega)) false HLN.out).mono ?_; rintro e w9 ⟨rfl, hL6⟩; have b9 := hb1.upd hL6.up (by simp); have s29_9 := b9.at_ HC29.out))
    all_goals
      go_wp2_with fail
      go_meet
      exact hL6
  replace hL := hcut
  clear hcut
  replace hln : (((((((((((((((((((LW.nil).add (!t.host.isEmpty) 0 (Wr.vector 2 (hostW t.host))).add (t.ocsp) 5 (statusW)).add (decide (0 < t.curves.length)) 10 (Wr.vector 2 (wordsW t.curves))).add (decide (0 < t.pts.length)) 11 (Wr.vector 1 (Wr.plain t.pts))).add (t.ticket) 35 (Wr.plain t.tick)).add (decide (0 < t.sig.length)) 13 (Wr.vector 2 (wordsW t.sig))).add (decide (0 < t.sigc.length)) 50 (Wr.vector 2 (wordsW t.sigc))).add (t.rns) 65281 (Wr.vector 1 (Wr.plain t.rn))).add (t.ems) 23 (Wr.nil)).add (decide (0 < t.alpn.length)) 16 (Wr.vector 2 (vecsW 1 t.alpn))).add (t.scts) 18 (Wr.nil)).add (decide (0 < t.sv.length)) 43 (Wr.vector 1 (wordsW t.sv))).add (decide (0 < t.cookie.length)) 44 (Wr.vector 2 (Wr.plain t.cookie))).add (decide (0 < t.kg.length)) 51 (Wr.vector 2 (kshW (chKs t)))).add (t.early) 42 (Wr.nil)).add (decide (0 < t.modes.length)) 45 (Wr.vector 1 (Wr.plain t.modes))).add (t.quic) 57 (Wr.plain t.qtp)).add (decide (0 < t.ech.length)) 65037 (Wr.plain t.ech)).l.length ≤ 18 := Nat.le_trans (LW.add_len _ _ _ _) (Nat.succ_le_succ hln)
  go_upto_region 20 with fail
  go_cut [] from 140 to 155 (fun wx => LSt w1 (s + 1) ((((((((((((((((((((LW.nil).add (!t.host.isEmpty) 0 (Wr.vector 2 (hostW t.host))).add (t.ocsp) 5 (statusW)).add (decide (0 < t.curves.length)) 10 (Wr.vector 2 (wordsW t.curves))).add (decide (0 < t.pts.length)) 11 (Wr.vector 1 (Wr.plain t.pts))).add (t.ticket) 35 (Wr.plain t.tick)).add (decide (0 < t.sig.length)) 13 (Wr.vector 2 (wordsW t.sig))).add (decide (0 < t.sigc.length)) 50 (Wr.vector 2 (wordsW t.sigc))).add (t.rns) 65281 (Wr.vector 1 (Wr.plain t.rn))).add (t.ems) 23 (Wr.nil)).add (decide (0 < t.alpn.length)) 16 (Wr.vector 2 (vecsW 1 t.alpn))).add (t.scts) 18 (Wr.nil)).add (decide (0 < t.sv.length)) 43 (Wr.vector 1 (wordsW t.sv))).add (decide (0 < t.cookie.length)) 44 (Wr.vector 2 (Wr.plain t.cookie))).add (decide (0 < t.kg.length)) 51 (Wr.vector 2 (kshW (chKs t)))).add (t.early) 42 (Wr.nil)).add (decide (0 < t.modes.length)) 45 (Wr.vector 1 (Wr.plain t.modes))).add (t.quic) 57 (Wr.plain t.qtp)).add (decide (0 < t.ech.length)) 65037 (Wr.plain t.ech)).add (decide (0 < t.pl.length)) 41 (behindW (Wr.vector 2 (identsW (chPs t))) (Wr.vector 2 (vecsW 1 t.pb)))) wx)
  case first =>
    have hU := hL.up
    have hb := hb1.upd hU (by simp)
    have x241 := Lst.upd x24 hU (by simp)
    have x251 := Row.upd x25 hU (by simp)
    have x261 := Lst.upd x26 hU (by simp)
    have HL := hid hL
    have HLN := hid (Nat.le_trans hln (show 18 ≤ 1000 by omega))
    clear hL hU hln
    have hP1 := Lst.castl x241 HE3.out.symm
    have hP2 := Row.castl x251 HE4.out.symm
    have s24 := hb.at_ HC24.out
    have s25 := hb.at_ HC25.out
    have s26 := hb.at_ HC26.out
    go_region_held3 (fun w' => w'.cell? ⟨s, 24, none⟩ = some (.slice A24 t.pl.length c24) ∧ w'.cell? ⟨s, 25, none⟩ = some (.slice A25 t.pa.length c25) ∧ w'.cell? ⟨s, 26, none⟩ = some (.slice A26 t.pb.length c26)) (go_keep)
      (first
        | (go_at_call 31; refine (identities_any_w (l := chPs t) (Lst.drewn hP1) (Row.drew hP2) (Nat.le_trans (identsB_cost _) (by have := HXP.out; omega))).mono ?_; rintro e w3 ⟨v3, rfl, hy3, hn3, ⟨A3, n3, c3, rfl⟩, hu3⟩; have x263 := Lst.upd (Lst.drewn x261) hu3 (by simp); have b3 := (hb.drew).upd hu3 (by simp); have s24_3 := b3.at_ HC24.out; have s25_3 := b3.at_ HC25.out; have s26_3 := b3.at_ HC26.out)
        | (go_at_call 23; refine (vector_any2 hy3 _ (Nat.le_trans (identsB_cost (chPs t)) (by have := HXP.out; omega))).mono ?_; rintro e w4 ⟨v4, rfl, hy4, hn4, ⟨A4, n4, c4, rfl⟩, hu4⟩; have x264 := Lst.upd x263 hu4 (by simp); have b4 := b3.upd hu4 (by simp); have s24_4 := b4.at_ HC24.out; have s25_4 := b4.at_ HC25.out; have s26_4 := b4.at_ HC26.out; clear hy3 hn3)
        | (go_at_call 28; refine (vectors_any_w 1 (.inl rfl) x264 (by have := HX26.out; have := vecsB_lst 1 t.pb; omega)).mono ?_; rintro e w5 ⟨v5, rfl, hy5, hn5, ⟨A5, n5, c5, rfl⟩, hu5⟩; have hy45 := Row.upd hy4 hu5 (by simp); have b5 := b4.upd hu5 (by simp); have s24_5 := b5.at_ HC24.out; have s25_5 := b5.at_ HC25.out; have s26_5 := b5.at_ HC26.out)
        | (go_at_call 23; refine (vector_any2 hy5 _ (by show (vecsB 1 t.pb).length ≤ _; have := HX26.out; have := vecsB_lst 1 t.pb; omega)).mono ?_; rintro e w6 ⟨v6, rfl, hy6, hn6, ⟨A6, n6, c6, rfl⟩, hu6⟩; have hy46 := Row.upd hy45 hu6 (by simp); have b6 := b5.upd hu6 (by simp); have s24_6 := b6.at_ HC24.out; have s25_6 := b6.at_ HC25.out; have s26_6 := b6.at_ HC26.out)
        | (go_at_call 30; refine (behind_any hy46 hy6 _ _ HLA.out HLB.out).mono ?_; rintro e w7 ⟨v7, rfl, hy7, hn7, ⟨A7, n7, c7, rfl⟩, hu7⟩; have b7 := b6.upd hu7 (by simp); have s24_7 := b7.at_ HC24.out; have s25_7 := b7.at_ HC25.out; have s26_7 := b7.at_ HC26.out)
        | (go_at_call 22; have hu37 : Upd [] _ w7 := (((Upd.refl [] _).drew).trans hu3 (by simp)).trans ((((hu4.trans hu5 (by simp)).trans hu6 (by simp))).trans hu7 (by simp)) (by simp); refine (HL.out.add hu37 (decide (0 < t.pl.length)) 41 hy7 (fun _ g hg => .inr (by have := hn7 g hg; have h3 := hu3.size; simp at h3; have := hu4.size; have := hu5.size; have := hu6.size; omega)) _ HLN.out).mono ?_; rintro e w9 ⟨rfl, hL6⟩; have b9 := hb1.upd hL6.up (by simp); have s24_9 := b9.at_ HC24.out; have s25_9 := b9.at_ HC25.out; have s26_9 := b9.at_ HC26.out))
    all_goals
      go_wp2_with fail
      go_meet
      exact hL6
  replace hL := hcut
  clear hcut
  replace hln : ((((((((((((((((((((LW.nil).add (!t.host.isEmpty) 0 (Wr.vector 2 (hostW t.host))).add (t.ocsp) 5 (statusW)).add (decide (0 < t.curves.length)) 10 (Wr.vector 2 (wordsW t.curves))).add (decide (0 < t.pts.length)) 11 (Wr.vector 1 (Wr.plain t.pts))).add (t.ticket) 35 (Wr.plain t.tick)).add (decide (0 < t.sig.length)) 13 (Wr.vector 2 (wordsW t.sig))).add (decide (0 < t.sigc.length)) 50 (Wr.vector 2 (wordsW t.sigc))).add (t.rns) 65281 (Wr.vector 1 (Wr.plain t.rn))).add (t.ems) 23 (Wr.nil)).add (decide (0 < t.alpn.length)) 16 (Wr.vector 2 (vecsW 1 t.alpn))).add (t.scts) 18 (Wr.nil)).add (decide (0 < t.sv.length)) 43 (Wr.vector 1 (wordsW t.sv))).add (decide (0 < t.cookie.length)) 44 (Wr.vector 2 (Wr.plain t.cookie))).add (decide (0 < t.kg.length)) 51 (Wr.vector 2 (kshW (chKs t)))).add (t.early) 42 (Wr.nil)).add (decide (0 < t.modes.length)) 45 (Wr.vector 1 (Wr.plain t.modes))).add (t.quic) 57 (Wr.plain t.qtp)).add (decide (0 < t.ech.length)) 65037 (Wr.plain t.ech)).add (decide (0 < t.pl.length)) 41 (behindW (Wr.vector 2 (identsW (chPs t))) (Wr.vector 2 (vecsW 1 t.pb)))).l.length ≤ 19 := Nat.le_trans (LW.add_len _ _ _ _) (Nat.succ_le_succ hln)
  obtain ⟨A4, n4, c4, k0, k1, hx4⟩ := hL.cells
  have HX := hid hx4
  have HU := hid (hu1.trans hL.up (by simp))
  clear hx4 hL
  go_wp2_with fail
  go_quiet (fail)
  go_wp2
  go_ret2
  exact ⟨_, rfl, (HX.out.upd ((Upd.refl [] _).drewN _) (by simp)).shrink, HU.out.drewN _⟩
end
end Go.Proofs.YtaajmfgplhfncaaGreat

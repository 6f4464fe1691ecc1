/- ServerHello: its extensions by the reference (printed by gen_shw.py). -/
import Derived.Test.YtcikeghdlolkaaaSpecW
import Derived.Test.YtcikeghdlolkaaaShV
import Derived.Test.YtcikeghdlolkaaaShMade
import Derived.Test.YtcikeghdlolkaaaShare
namespace Go.Proofs.Ytcikeghdlolkaaa
open Go.RowKit
set_option maxRecDepth 100000

section
variable {w w' : World} {B : Nat} {v : Value} {t : Sh}
/-- what the size check and the bulk say -/
structure ShSz (t : Sh) : Prop where
  random : t.random.length ≤ 2147483647
  sid : t.sid.length ≤ 2147483647
  rn : t.rn.length ≤ 2147483647
  alpn : t.alpn.length ≤ 2147483647
  sd : t.sd.length ≤ 2147483647
  pts : t.pts.length ≤ 2147483647
  ech : t.ech.length ≤ 2147483647
  cookie : t.cookie.length ≤ 2147483647
  scts : (vecsB 2 t.scts).length ≤ 4194304
theorem shExtL_eq (t : Sh) : shExtL t = ((((((((((((((LW.nil).add (t.ocsp) 5 (Wr.nil)).add (t.ticket) 35 (Wr.nil)).add (t.rns) 65281 (Wr.vector 1 (Wr.plain t.rn))).add (t.ems) 23 (Wr.nil)).add (!t.alpn.isEmpty) 16 (Wr.vector 2 (vecsW 1 [t.alpn]))).add (decide (0 < t.scts.length)) 18 (Wr.vector 2 (vecsW 2 t.scts))).add ((t.sv.toNat : Int) != 0) 43 (numberW 2 t.sv.toNat)).add ((t.sg.toNat : Int) != 0) 51 (shareW t.sg t.sd)).add ((t.selg.toNat : Int) != 0) 51 (numberW 2 t.selg.toNat)).add (t.sip) 41 (numberW 2 t.si.toNat)).add (decide (0 < t.cookie.length)) 44 (Wr.vector 2 (Wr.plain t.cookie))).add (decide (0 < t.pts.length)) 11 (Wr.vector 1 (Wr.plain t.pts))).add (decide (0 < t.ech.length)) 65037 (Wr.plain t.ech)).add (t.ack) 0 (Wr.nil) := rfl
set_option maxHeartbeats 8000000 in
theorem ServerExtensions_any (hv : ShV w B v t) (hz : ShSz t) : Calls Try.prog 12 #[v] w (ExL w (shExtL t)) := by
  rw [shExtL_eq]
  obtain ⟨A1, c1, A2, c2, A8, c8, A11, c11, A14, c14, A17, c17, A18, c18, A20, c20, rfl, -, -, x8, x11, x14, x17, x18, x20⟩ := hv
  have HX0 := hid hz.alpn
  have HX11 := hid (show (vecsB 2 t.scts).length ≤ 1099511627776 by have := hz.scts; omega)
  have HX8 := hid (show t.rn.length ≤ 1099511627776 by have := hz.rn; omega)
  have HX14 := hid (show t.sd.length ≤ 1000000000000 by have := hz.sd; omega)
  have HX17 := hid (show t.pts.length ≤ 1099511627776 by have := hz.pts; omega)
  have HX20 := hid (show t.cookie.length ≤ 1099511627776 by have := hz.cookie; omega)
  clear hz
  obtain ⟨w1, hw1⟩ : ∃ w1, w.alloc (.cells #[wv t.vers, .slice A1 t.random.length c1, .slice A2 t.sid.length c2, wv t.suite, bv t.comp, .bool t.ocsp, .bool t.ticket, .bool t.rns, .slice A8 t.rn.length c8, .bool t.ems, strv t.alpn, .slice A11 t.scts.length c11, wv t.sv, wv t.sg, .slice A14 t.sd.length c14, .bool t.sip, wv t.si, .slice A17 t.pts.length c17, .slice A18 t.ech.length c18, .bool t.ack, .slice A20 t.cookie.length c20, wv t.selg] 26) = w1 := ⟨_, rfl⟩
  obtain ⟨s, hs⟩ : ∃ s, w.heap.size = s := ⟨_, rfl⟩
  have hu1 : Upd [] w w1 := by rw [← hw1]; exact (Upd.refl _ _).alloc _
  have hs1 : w1.heap.size = s + 1 := by rw [← hw1, ← hs]; simp
  have hb1 : Blk w1 s 26 #[wv t.vers, .slice A1 t.random.length c1, .slice A2 t.sid.length c2, wv t.suite, bv t.comp, .bool t.ocsp, .bool t.ticket, .bool t.rns, .slice A8 t.rn.length c8, .bool t.ems, strv t.alpn, .slice A11 t.scts.length c11, wv t.sv, wv t.sg, .slice A14 t.sd.length c14, .bool t.sip, wv t.si, .slice A17 t.pts.length c17, .slice A18 t.ech.length c18, .bool t.ack, .slice A20 t.cookie.length c20, wv t.selg] := by rw [← hw1, ← hs]; exact Blk.new _ _ _
  obtain ⟨w2, hw2⟩ : ∃ w2, w1.alloc (.cells #[.slice none 0 0, .bool false] 61) = w2 := ⟨_, rfl⟩
  have hL : LSt w1 (s + 1) LW.nil w2 := by rw [← hw2, ← hs1]; exact LSt.new w1
  have hln : LW.nil.l.length ≤ 0 := Nat.le_refl _
  replace x8 := Row.upd x8.shrink hu1 (by simp)
  replace x11 := Lst.upd x11.shrink hu1 (by simp)
  replace x14 := Row.upd x14.shrink hu1 (by simp)
  replace x17 := Row.upd x17.shrink hu1 (by simp)
  replace x18 := Row.upd x18.shrink hu1 (by simp)
  replace x20 := Row.upd x20.shrink hu1 (by simp)
  rw [hs] at x8 x11 x14 x17 x18 x20
  have HW1 := hid hw1
  have HW2 := hid hw2
  have HS := hid hs
  clear hw1 hw2 hs1 hs
  go_enter Try.func12, Try.ntmps12
  go_upto_region 2 with fail
  rw [HW1.out, HS.out, HW2.out]
  go_cut [] (fun wx => LSt w1 (s + 1) ((LW.nil).add (t.ocsp) 5 (Wr.nil)) wx)
  case first =>
    have hU := hL.up
    have hb := hb1.upd hU (by simp)
    have x81 := Row.upd x8 hU (by simp)
    have x111 := Lst.upd x11 hU (by simp)
    have x141 := Row.upd x14 hU (by simp)
    have x171 := Row.upd x17 hU (by simp)
    have x181 := Row.upd x18 hU (by simp)
    have x201 := Row.upd x20 hU (by simp)
    have HL := hid hL
    have HLN := hid (Nat.le_trans hln (show 0 ≤ 1000 by omega))
    clear hL hU hln
    have s5 := hb.cell 5
    simp at s5
    go_wp2_with (first
      | (go_at_call 30; refine (HL.out.add (Upd.refl [] _) (t.ocsp) 5 (Row.nil_ _ 0) (fun hx => absurd rfl hx) false HLN.out).mono ?_; rintro e w9 ⟨rfl, hL6⟩; have b9 := hb1.upd hL6.up (by simp); have s5_9 := b9.cell 5; simp at s5_9))
    all_goals
      go_wp2_with fail
      go_meet
      exact hL6
  replace hL := hcut
  clear hcut
  replace hln : ((LW.nil).add (t.ocsp) 5 (Wr.nil)).l.length ≤ 1 := Nat.le_trans (LW.add_len _ _ _ _) (Nat.succ_le_succ hln)
  go_upto_region 3 with fail
  go_cut [] (fun wx => LSt w1 (s + 1) (((LW.nil).add (t.ocsp) 5 (Wr.nil)).add (t.ticket) 35 (Wr.nil)) wx)
  case first =>
    have hU := hL.up
    have hb := hb1.upd hU (by simp)
    have x81 := Row.upd x8 hU (by simp)
    have x111 := Lst.upd x11 hU (by simp)
    have x141 := Row.upd x14 hU (by simp)
    have x171 := Row.upd x17 hU (by simp)
    have x181 := Row.upd x18 hU (by simp)
    have x201 := Row.upd x20 hU (by simp)
    have HL := hid hL
    have HLN := hid (Nat.le_trans hln (show 1 ≤ 1000 by omega))
    clear hL hU hln
    have s6 := hb.cell 6
    simp at s6
    go_wp2_with (first
      | (go_at_call 30; refine (HL.out.add (Upd.refl [] _) (t.ticket) 35 (Row.nil_ _ 0) (fun hx => absurd rfl hx) false HLN.out).mono ?_; rintro e w9 ⟨rfl, hL6⟩; have b9 := hb1.upd hL6.up (by simp); have s6_9 := b9.cell 6; simp at s6_9))
    all_goals
      go_wp2_with fail
      go_meet
      exact hL6
  replace hL := hcut
  clear hcut
  replace hln : (((LW.nil).add (t.ocsp) 5 (Wr.nil)).add (t.ticket) 35 (Wr.nil)).l.length ≤ 2 := Nat.le_trans (LW.add_len _ _ _ _) (Nat.succ_le_succ hln)
  go_upto_region 4 with fail
  go_cut [] (fun wx => LSt w1 (s + 1) ((((LW.nil).add (t.ocsp) 5 (Wr.nil)).add (t.ticket) 35 (Wr.nil)).add (t.rns) 65281 (Wr.vector 1 (Wr.plain t.rn))) wx)
  case first =>
    have hU := hL.up
    have hb := hb1.upd hU (by simp)
    have x81 := Row.upd x8 hU (by simp)
    have x111 := Lst.upd x11 hU (by simp)
    have x141 := Row.upd x14 hU (by simp)
    have x171 := Row.upd x17 hU (by simp)
    have x181 := Row.upd x18 hU (by simp)
    have x201 := Row.upd x20 hU (by simp)
    have HL := hid hL
    have HLN := hid (Nat.le_trans hln (show 2 ≤ 1000 by omega))
    clear hL hU hln
    have s7 := hb.cell 7
    have s8 := hb.cell 8
    simp at s7 s8
    go_region_held3 (fun w' => w'.cell? ⟨s, 7, none⟩ = some (.bool t.rns) ∧ w'.cell? ⟨s, 8, none⟩ = some (.slice A8 t.rn.length c8)) (go_keep)
      (first
        | (go_at_call 32; refine (plain_st (Row.drew x81)).mono ?_; rintro e w3 ⟨rfl, hu3⟩; have hp3 := Row.upd (Row.drew x81) hu3 (by simp); have b3 := (hb.drew).upd hu3 (by simp); have s7_3 := b3.cell 7; have s8_3 := b3.cell 8; simp at s7_3 s8_3)
        | (go_at_call 31; refine (vector_any1 hp3 _ (by have := HX8.out; omega)).mono ?_; rintro e w5 ⟨v5, rfl, hy5, hn5, ⟨A6, n6, c6, rfl⟩, hu5⟩; have b5 := b3.upd hu5 (by simp); have s7_5 := b5.cell 7; have s8_5 := b5.cell 8; simp at s7_5 s8_5)
        | (go_at_call 30; refine (HL.out.add (((Upd.refl [] _).drew).trans (hu3.trans hu5 (by simp)) (by simp)) (t.rns) 65281 hy5 (fun _ g hg => .inr (by have := hn5 g hg; have h3 := hu3.size; simp at h3; omega)) _ HLN.out).mono ?_; rintro e w9 ⟨rfl, hL6⟩; have b9 := hb1.upd hL6.up (by simp); have s7_9 := b9.cell 7; simp at s7_9; have s8_9 := b9.cell 8; simp at s8_9))
    all_goals
      go_wp2_with fail
      go_meet
      exact hL6
  replace hL := hcut
  clear hcut
  replace hln : ((((LW.nil).add (t.ocsp) 5 (Wr.nil)).add (t.ticket) 35 (Wr.nil)).add (t.rns) 65281 (Wr.vector 1 (Wr.plain t.rn))).l.length ≤ 3 := Nat.le_trans (LW.add_len _ _ _ _) (Nat.succ_le_succ hln)
  go_upto_region 5 with fail
  go_cut [] (fun wx => LSt w1 (s + 1) (((((LW.nil).add (t.ocsp) 5 (Wr.nil)).add (t.ticket) 35 (Wr.nil)).add (t.rns) 65281 (Wr.vector 1 (Wr.plain t.rn))).add (t.ems) 23 (Wr.nil)) wx)
  case first =>
    have hU := hL.up
    have hb := hb1.upd hU (by simp)
    have x81 := Row.upd x8 hU (by simp)
    have x111 := Lst.upd x11 hU (by simp)
    have x141 := Row.upd x14 hU (by simp)
    have x171 := Row.upd x17 hU (by simp)
    have x181 := Row.upd x18 hU (by simp)
    have x201 := Row.upd x20 hU (by simp)
    have HL := hid hL
    have HLN := hid (Nat.le_trans hln (show 3 ≤ 1000 by omega))
    clear hL hU hln
    have s9 := hb.cell 9
    simp at s9
    go_wp2_with (first
      | (go_at_call 30; refine (HL.out.add (Upd.refl [] _) (t.ems) 23 (Row.nil_ _ 0) (fun hx => absurd rfl hx) false HLN.out).mono ?_; rintro e w9 ⟨rfl, hL6⟩; have b9 := hb1.upd hL6.up (by simp); have s9_9 := b9.cell 9; simp at s9_9))
    all_goals
      go_wp2_with fail
      go_meet
      exact hL6
  replace hL := hcut
  clear hcut
  replace hln : (((((LW.nil).add (t.ocsp) 5 (Wr.nil)).add (t.ticket) 35 (Wr.nil)).add (t.rns) 65281 (Wr.vector 1 (Wr.plain t.rn))).add (t.ems) 23 (Wr.nil)).l.length ≤ 4 := Nat.le_trans (LW.add_len _ _ _ _) (Nat.succ_le_succ hln)
  go_upto_region 6 with fail
  go_cut [] (fun wx => LSt w1 (s + 1) ((((((LW.nil).add (t.ocsp) 5 (Wr.nil)).add (t.ticket) 35 (Wr.nil)).add (t.rns) 65281 (Wr.vector 1 (Wr.plain t.rn))).add (t.ems) 23 (Wr.nil)).add (!t.alpn.isEmpty) 16 (Wr.vector 2 (vecsW 1 [t.alpn]))) wx)
  case first =>
    have hU := hL.up
    have hb := hb1.upd hU (by simp)
    have x81 := Row.upd x8 hU (by simp)
    have x111 := Lst.upd x11 hU (by simp)
    have x141 := Row.upd x14 hU (by simp)
    have x171 := Row.upd x17 hU (by simp)
    have x181 := Row.upd x18 hU (by simp)
    have x201 := Row.upd x20 hU (by simp)
    have HL := hid hL
    have HLN := hid (Nat.le_trans hln (show 4 ≤ 1000 by omega))
    clear hL hU hln
    have s10 := hb.cell 10
    simp at s10
    go_region_held3 (fun w' => w'.cell? ⟨s, 10, none⟩ = some (strv t.alpn)) (go_keep)
      (first
        | (go_at_call 34; refine (octets_any (ls := [t.alpn]) (Row.drew (Row.one _ 9 (strv t.alpn))) (by simp) (by simp; have := HX0.out; omega)).mono ?_; rintro e w3 ⟨v3, rfl, hy3, hu3, hn3⟩; obtain ⟨A3, c3, rfl, hy3, -, -⟩ := hy3.form; have b3 := ((hb.alloc (.cells #[strv t.alpn] 9)).drew).upd hu3 (by simp); have s10_3 := b3.cell 10; simp at s10_3)
        | (go_at_call 33; refine (vectors_any_w 1 (.inl rfl) hy3 (by simp [vecsB, be_len]; have := HX0.out; omega)).mono ?_; rintro e w4 ⟨v4, rfl, hy4, hn4, ⟨A4, n4, c4, rfl⟩, hu4⟩; have b4 := b3.upd hu4 (by simp); have s10_4 := b4.cell 10; simp at s10_4)
        | (go_at_call 31; refine (vector_any2 hy4 _ (by simp [vecsW, vecsB, be_len]; have := HX0.out; omega)).mono ?_; rintro e w5 ⟨v5, rfl, hy5, hn5, ⟨A5, n5, c5, rfl⟩, hu5⟩; have b5 := b4.upd hu5 (by simp); have s10_5 := b5.cell 10; simp at s10_5)
        | (go_at_call 30; have hu35 : Upd [] _ w5 := ((((Upd.refl [] _).alloc (.cells #[strv t.alpn] 9)).drew).trans hu3 (by simp)).trans (hu4.trans hu5 (by simp)) (by simp); refine (HL.out.add hu35 (!t.alpn.isEmpty) 16 hy5 (fun _ g hg => .inr (by have := hn5 g hg; have h3 := hu3.size; simp at h3; have := hu4.size; omega)) _ HLN.out).mono ?_; rintro e w9 ⟨rfl, hL6⟩; have b9 := hb1.upd hL6.up (by simp); have s10_9 := b9.cell 10; simp at s10_9))
    all_goals
      go_wp2_with fail
      go_meet
      exact hL6
  replace hL := hcut
  clear hcut
  replace hln : ((((((LW.nil).add (t.ocsp) 5 (Wr.nil)).add (t.ticket) 35 (Wr.nil)).add (t.rns) 65281 (Wr.vector 1 (Wr.plain t.rn))).add (t.ems) 23 (Wr.nil)).add (!t.alpn.isEmpty) 16 (Wr.vector 2 (vecsW 1 [t.alpn]))).l.length ≤ 5 := Nat.le_trans (LW.add_len _ _ _ _) (Nat.succ_le_succ hln)
  go_upto_region 7 with fail
  go_cut [] (fun wx => LSt w1 (s + 1) (((((((LW.nil).add (t.ocsp) 5 (Wr.nil)).add (t.ticket) 35 (Wr.nil)).add (t.rns) 65281 (Wr.vector 1 (Wr.plain t.rn))).add (t.ems) 23 (Wr.nil)).add (!t.alpn.isEmpty) 16 (Wr.vector 2 (vecsW 1 [t.alpn]))).add (decide (0 < t.scts.length)) 18 (Wr.vector 2 (vecsW 2 t.scts))) wx)
  case first =>
    have hU := hL.up
    have hb := hb1.upd hU (by simp)
    have x81 := Row.upd x8 hU (by simp)
    have x111 := Lst.upd x11 hU (by simp)
    have x141 := Row.upd x14 hU (by simp)
    have x171 := Row.upd x17 hU (by simp)
    have x181 := Row.upd x18 hU (by simp)
    have x201 := Row.upd x20 hU (by simp)
    have HL := hid hL
    have HLN := hid (Nat.le_trans hln (show 5 ≤ 1000 by omega))
    clear hL hU hln
    have s11 := hb.cell 11
    simp at s11
    go_region_held3 (fun w' => w'.cell? ⟨s, 11, none⟩ = some (.slice A11 t.scts.length c11)) (go_keep)
      (first
        | (go_at_call 33; refine (vectors_any_w 2 (.inr (.inl rfl)) (Lst.drewn x111) HX11.out).mono ?_; rintro e w4 ⟨v4, rfl, hy4, hn4, ⟨A5, n5, c5, rfl⟩, hu4⟩; have b4 := (hb.drew).upd hu4 (by simp); have s11_4 := b4.cell 11; simp at s11_4)
        | (go_at_call 31; refine (vector_any2 hy4 _ (by show (vecsB 2 t.scts).length ≤ _; have := HX11.out; omega)).mono ?_; rintro e w5 ⟨v5, rfl, hy5, hn5, ⟨A6, n6, c6, rfl⟩, hu5⟩; have b5 := b4.upd hu5 (by simp); have s11_5 := b5.cell 11; simp at s11_5)
        | (go_at_call 30; refine (HL.out.add (((Upd.refl [] _).drew).trans (hu4.trans hu5 (by simp)) (by simp)) (decide (0 < t.scts.length)) 18 hy5 (fun _ g hg => .inr (by have := hn5 g hg; have h4 := hu4.size; simp at h4; omega)) _ HLN.out).mono ?_; rintro e w9 ⟨rfl, hL6⟩; have b9 := hb1.upd hL6.up (by simp); have s11_9 := b9.cell 11; simp at s11_9))
    all_goals
      go_wp2_with fail
      go_meet
      exact hL6
  replace hL := hcut
  clear hcut
  replace hln : (((((((LW.nil).add (t.ocsp) 5 (Wr.nil)).add (t.ticket) 35 (Wr.nil)).add (t.rns) 65281 (Wr.vector 1 (Wr.plain t.rn))).add (t.ems) 23 (Wr.nil)).add (!t.alpn.isEmpty) 16 (Wr.vector 2 (vecsW 1 [t.alpn]))).add (decide (0 < t.scts.length)) 18 (Wr.vector 2 (vecsW 2 t.scts))).l.length ≤ 6 := Nat.le_trans (LW.add_len _ _ _ _) (Nat.succ_le_succ hln)
  go_upto_region 8 with fail
  go_cut [] (fun wx => LSt w1 (s + 1) ((((((((LW.nil).add (t.ocsp) 5 (Wr.nil)).add (t.ticket) 35 (Wr.nil)).add (t.rns) 65281 (Wr.vector 1 (Wr.plain t.rn))).add (t.ems) 23 (Wr.nil)).add (!t.alpn.isEmpty) 16 (Wr.vector 2 (vecsW 1 [t.alpn]))).add (decide (0 < t.scts.length)) 18 (Wr.vector 2 (vecsW 2 t.scts))).add ((t.sv.toNat : Int) != 0) 43 (numberW 2 t.sv.toNat)) wx)
  case first =>
    have hU := hL.up
    have hb := hb1.upd hU (by simp)
    have x81 := Row.upd x8 hU (by simp)
    have x111 := Lst.upd x11 hU (by simp)
    have x141 := Row.upd x14 hU (by simp)
    have x171 := Row.upd x17 hU (by simp)
    have x181 := Row.upd x18 hU (by simp)
    have x201 := Row.upd x20 hU (by simp)
    have HL := hid hL
    have HLN := hid (Nat.le_trans hln (show 6 ≤ 1000 by omega))
    clear hL hU hln
    have hwr : IntKind.i64.wrap (t.sv.toNat : Int) = (t.sv.toNat : Int) := by have hu := t.sv.toNat_lt; rw [IntKind.wrap_i64]; omega
    have s12 := hb.cell 12
    simp at s12
    go_region_held3 (fun w' => w'.cell? ⟨s, 12, none⟩ = some (wv t.sv)) (go_keep)
      (first
        | (go_at_call 35; refine (number_any 2 t.sv.toNat (by omega)).mono ?_; rintro e w5 ⟨v5, rfl, hy5, hn5, ⟨A6, n6, c6, rfl⟩, hu5⟩; have b5 := (hb.drew).upd hu5 (by simp); have s12_5 := b5.cell 12; simp at s12_5)
        | (go_at_call 30; refine (HL.out.add (((Upd.refl [] _).drew).trans hu5 (by simp)) ((t.sv.toNat : Int) != 0) 43 hy5 (fun _ g hg => .inr (by have := hn5 g hg; simp at this; omega)) _ HLN.out).mono ?_; rintro e w9 ⟨rfl, hL6⟩; have b9 := hb1.upd hL6.up (by simp); have s12_9 := b9.cell 12; simp at s12_9))
    all_goals
      go_wp2_with fail
      go_meet
      exact hL6
  replace hL := hcut
  clear hcut
  replace hln : ((((((((LW.nil).add (t.ocsp) 5 (Wr.nil)).add (t.ticket) 35 (Wr.nil)).add (t.rns) 65281 (Wr.vector 1 (Wr.plain t.rn))).add (t.ems) 23 (Wr.nil)).add (!t.alpn.isEmpty) 16 (Wr.vector 2 (vecsW 1 [t.alpn]))).add (decide (0 < t.scts.length)) 18 (Wr.vector 2 (vecsW 2 t.scts))).add ((t.sv.toNat : Int) != 0) 43 (numberW 2 t.sv.toNat)).l.length ≤ 7 := Nat.le_trans (LW.add_len _ _ _ _) (Nat.succ_le_succ hln)
  go_upto_region 9 with fail
  go_cut [] (fun wx => LSt w1 (s + 1) (((((((((LW.nil).add (t.ocsp) 5 (Wr.nil)).add (t.ticket) 35 (Wr.nil)).add (t.rns) 65281 (Wr.vector 1 (Wr.plain t.rn))).add (t.ems) 23 (Wr.nil)).add (!t.alpn.isEmpty) 16 (Wr.vector 2 (vecsW 1 [t.alpn]))).add (decide (0 < t.scts.length)) 18 (Wr.vector 2 (vecsW 2 t.scts))).add ((t.sv.toNat : Int) != 0) 43 (numberW 2 t.sv.toNat)).add ((t.sg.toNat : Int) != 0) 51 (shareW t.sg t.sd)) wx)
  case first =>
    have hU := hL.up
    have hb := hb1.upd hU (by simp)
    have x81 := Row.upd x8 hU (by simp)
    have x111 := Lst.upd x11 hU (by simp)
    have x141 := Row.upd x14 hU (by simp)
    have x171 := Row.upd x17 hU (by simp)
    have x181 := Row.upd x18 hU (by simp)
    have x201 := Row.upd x20 hU (by simp)
    have HL := hid hL
    have HLN := hid (Nat.le_trans hln (show 7 ≤ 1000 by omega))
    clear hL hU hln
    have s13 := hb.cell 13
    have s14 := hb.cell 14
    simp at s13 s14
    go_region_held3 (fun w' => w'.cell? ⟨s, 13, none⟩ = some (wv t.sg) ∧ w'.cell? ⟨s, 14, none⟩ = some (.slice A14 t.sd.length c14)) (go_keep)
      (first
        | (go_at_call 36; refine (share_any t.sg (Row.drew x141) (by have := HX14.out; omega)).mono ?_; rintro e w5 ⟨v5, rfl, hy5, hn5, ⟨A6, n6, c6, rfl⟩, hu5⟩; have b5 := (hb.drew).upd hu5 (by simp); have s13_5 := b5.cell 13; have s14_5 := b5.cell 14; simp at s13_5 s14_5)
        | (go_at_call 30; refine (HL.out.add (((Upd.refl [] _).drew).trans hu5 (by simp)) ((t.sg.toNat : Int) != 0) 51 hy5 (fun _ g hg => .inr (by have := hn5 g hg; simp at this; omega)) _ HLN.out).mono ?_; rintro e w9 ⟨rfl, hL6⟩; have b9 := hb1.upd hL6.up (by simp); have s13_9 := b9.cell 13; simp at s13_9; have s14_9 := b9.cell 14; simp at s14_9))
    all_goals
      go_wp2_with fail
      go_meet
      exact hL6
  replace hL := hcut
  clear hcut
  replace hln : (((((((((LW.nil).add (t.ocsp) 5 (Wr.nil)).add (t.ticket) 35 (Wr.nil)).add (t.rns) 65281 (Wr.vector 1 (Wr.plain t.rn))).add (t.ems) 23 (Wr.nil)).add (!t.alpn.isEmpty) 16 (Wr.vector 2 (vecsW 1 [t.alpn]))).add (decide (0 < t.scts.length)) 18 (Wr.vector 2 (vecsW 2 t.scts))).add ((t.sv.toNat : Int) != 0) 43 (numberW 2 t.sv.toNat)).add ((t.sg.toNat : Int) != 0) 51 (shareW t.sg t.sd)).l.length ≤ 8 := Nat.le_trans (LW.add_len _ _ _ _) (Nat.succ_le_succ hln)
  go_upto_region 10 with fail
  go_cut [] (fun wx => LSt w1 (s + 1) ((((((((((LW.nil).add (t.ocsp) 5 (Wr.nil)).add (t.ticket) 35 (Wr.nil)).add (t.rns) 65281 (Wr.vector 1 (Wr.plain t.rn))).add (t.ems) 23 (Wr.nil)).add (!t.alpn.isEmpty) 16 (Wr.vector 2 (vecsW 1 [t.alpn]))).add (decide (0 < t.scts.length)) 18 (Wr.vector 2 (vecsW 2 t.scts))).add ((t.sv.toNat : Int) != 0) 43 (numberW 2 t.sv.toNat)).add ((t.sg.toNat : Int) != 0) 51 (shareW t.sg t.sd)).add ((t.selg.toNat : Int) != 0) 51 (numberW 2 t.selg.toNat)) wx)
  case first =>
    have hU := hL.up
    have hb := hb1.upd hU (by simp)
    have x81 := Row.upd x8 hU (by simp)
    have x111 := Lst.upd x11 hU (by simp)
    have x141 := Row.upd x14 hU (by simp)
    have x171 := Row.upd x17 hU (by simp)
    have x181 := Row.upd x18 hU (by simp)
    have x201 := Row.upd x20 hU (by simp)
    have HL := hid hL
    have HLN := hid (Nat.le_trans hln (show 8 ≤ 1000 by omega))
    clear hL hU hln
    have hwr : IntKind.i64.wrap (t.selg.toNat : Int) = (t.selg.toNat : Int) := by have hu := t.selg.toNat_lt; rw [IntKind.wrap_i64]; omega
    have s21 := hb.cell 21
    simp at s21
    go_region_held3 (fun w' => w'.cell? ⟨s, 21, none⟩ = some (wv t.selg)) (go_keep)
      (first
        | (go_at_call 35; refine (number_any 2 t.selg.toNat (by omega)).mono ?_; rintro e w5 ⟨v5, rfl, hy5, hn5, ⟨A6, n6, c6, rfl⟩, hu5⟩; have b5 := (hb.drew).upd hu5 (by simp); have s21_5 := b5.cell 21; simp at s21_5)
        | (go_at_call 30; refine (HL.out.add (((Upd.refl [] _).drew).trans hu5 (by simp)) ((t.selg.toNat : Int) != 0) 51 hy5 (fun _ g hg => .inr (by have := hn5 g hg; simp at this; omega)) _ HLN.out).mono ?_; rintro e w9 ⟨rfl, hL6⟩; have b9 := hb1.upd hL6.up (by simp); have s21_9 := b9.cell 21; simp at s21_9))
    all_goals
      go_wp2_with fail
      go_meet
      exact hL6
  replace hL := hcut
  clear hcut
  replace hln : ((((((((((LW.nil).add (t.ocsp) 5 (Wr.nil)).add (t.ticket) 35 (Wr.nil)).add (t.rns) 65281 (Wr.vector 1 (Wr.plain t.rn))).add (t.ems) 23 (Wr.nil)).add (!t.alpn.isEmpty) 16 (Wr.vector 2 (vecsW 1 [t.alpn]))).add (decide (0 < t.scts.length)) 18 (Wr.vector 2 (vecsW 2 t.scts))).add ((t.sv.toNat : Int) != 0) 43 (numberW 2 t.sv.toNat)).add ((t.sg.toNat : Int) != 0) 51 (shareW t.sg t.sd)).add ((t.selg.toNat : Int) != 0) 51 (numberW 2 t.selg.toNat)).l.length ≤ 9 := Nat.le_trans (LW.add_len _ _ _ _) (Nat.succ_le_succ hln)
  go_upto_region 11 with fail
  go_cut [] (fun wx => LSt w1 (s + 1) (((((((((((LW.nil).add (t.ocsp) 5 (Wr.nil)).add (t.ticket) 35 (Wr.nil)).add (t.rns) 65281 (Wr.vector 1 (Wr.plain t.rn))).add (t.ems) 23 (Wr.nil)).add (!t.alpn.isEmpty) 16 (Wr.vector 2 (vecsW 1 [t.alpn]))).add (decide (0 < t.scts.length)) 18 (Wr.vector 2 (vecsW 2 t.scts))).add ((t.sv.toNat : Int) != 0) 43 (numberW 2 t.sv.toNat)).add ((t.sg.toNat : Int) != 0) 51 (shareW t.sg t.sd)).add ((t.selg.toNat : Int) != 0) 51 (numberW 2 t.selg.toNat)).add (t.sip) 41 (numberW 2 t.si.toNat)) wx)
  case first =>
    have hU := hL.up
    have hb := hb1.upd hU (by simp)
    have x81 := Row.upd x8 hU (by simp)
    have x111 := Lst.upd x11 hU (by simp)
    have x141 := Row.upd x14 hU (by simp)
    have x171 := Row.upd x17 hU (by simp)
    have x181 := Row.upd x18 hU (by simp)
    have x201 := Row.upd x20 hU (by simp)
    have HL := hid hL
    have HLN := hid (Nat.le_trans hln (show 9 ≤ 1000 by omega))
    clear hL hU hln
    have hwr : IntKind.i64.wrap (t.si.toNat : Int) = (t.si.toNat : Int) := by have hu := t.si.toNat_lt; rw [IntKind.wrap_i64]; omega
    have s15 := hb.cell 15
    have s16 := hb.cell 16
    simp at s15 s16
    go_region_held3 (fun w' => w'.cell? ⟨s, 15, none⟩ = some (.bool t.sip) ∧ w'.cell? ⟨s, 16, none⟩ = some (wv t.si)) (go_keep)
      (first
        | (go_at_call 35; refine (number_any 2 t.si.toNat (by omega)).mono ?_; rintro e w5 ⟨v5, rfl, hy5, hn5, ⟨A6, n6, c6, rfl⟩, hu5⟩; have b5 := (hb.drew).upd hu5 (by simp); have s15_5 := b5.cell 15; have s16_5 := b5.cell 16; simp at s15_5 s16_5)
        | (go_at_call 30; refine (HL.out.add (((Upd.refl [] _).drew).trans hu5 (by simp)) (t.sip) 41 hy5 (fun _ g hg => .inr (by have := hn5 g hg; simp at this; omega)) _ HLN.out).mono ?_; rintro e w9 ⟨rfl, hL6⟩; have b9 := hb1.upd hL6.up (by simp); have s15_9 := b9.cell 15; simp at s15_9; have s16_9 := b9.cell 16; simp at s16_9))
    all_goals
      go_wp2_with fail
      go_meet
      exact hL6
  replace hL := hcut
  clear hcut
  replace hln : (((((((((((LW.nil).add (t.ocsp) 5 (Wr.nil)).add (t.ticket) 35 (Wr.nil)).add (t.rns) 65281 (Wr.vector 1 (Wr.plain t.rn))).add (t.ems) 23 (Wr.nil)).add (!t.alpn.isEmpty) 16 (Wr.vector 2 (vecsW 1 [t.alpn]))).add (decide (0 < t.scts.length)) 18 (Wr.vector 2 (vecsW 2 t.scts))).add ((t.sv.toNat : Int) != 0) 43 (numberW 2 t.sv.toNat)).add ((t.sg.toNat : Int) != 0) 51 (shareW t.sg t.sd)).add ((t.selg.toNat : Int) != 0) 51 (numberW 2 t.selg.toNat)).add (t.sip) 41 (numberW 2 t.si.toNat)).l.length ≤ 10 := Nat.le_trans (LW.add_len _ _ _ _) (Nat.succ_le_succ hln)
  go_upto_region 12 with fail
  go_cut [] (fun wx => LSt w1 (s + 1) ((((((((((((LW.nil).add (t.ocsp) 5 (Wr.nil)).add (t.ticket) 35 (Wr.nil)).add (t.rns) 65281 (Wr.vector 1 (Wr.plain t.rn))).add (t.ems) 23 (Wr.nil)).add (!t.alpn.isEmpty) 16 (Wr.vector 2 (vecsW 1 [t.alpn]))).add (decide (0 < t.scts.length)) 18 (Wr.vector 2 (vecsW 2 t.scts))).add ((t.sv.toNat : Int) != 0) 43 (numberW 2 t.sv.toNat)).add ((t.sg.toNat : Int) != 0) 51 (shareW t.sg t.sd)).add ((t.selg.toNat : Int) != 0) 51 (numberW 2 t.selg.toNat)).add (t.sip) 41 (numberW 2 t.si.toNat)).add (decide (0 < t.cookie.length)) 44 (Wr.vector 2 (Wr.plain t.cookie))) wx)
  case first =>
    have hU := hL.up
    have hb := hb1.upd hU (by simp)
    have x81 := Row.upd x8 hU (by simp)
    have x111 := Lst.upd x11 hU (by simp)
    have x141 := Row.upd x14 hU (by simp)
    have x171 := Row.upd x17 hU (by simp)
    have x181 := Row.upd x18 hU (by simp)
    have x201 := Row.upd x20 hU (by simp)
    have HL := hid hL
    have HLN := hid (Nat.le_trans hln (show 10 ≤ 1000 by omega))
    clear hL hU hln
    have s20 := hb.cell 20
    simp at s20
    go_region_held3 (fun w' => w'.cell? ⟨s, 20, none⟩ = some (.slice A20 t.cookie.length c20)) (go_keep)
      (first
        | (go_at_call 32; refine (plain_st (Row.drew x201)).mono ?_; rintro e w3 ⟨rfl, hu3⟩; have hp3 := Row.upd (Row.drew x201) hu3 (by simp); have b3 := (hb.drew).upd hu3 (by simp); have s20_3 := b3.cell 20; simp at s20_3)
        | (go_at_call 31; refine (vector_any2 hp3 _ (by have := HX20.out; omega)).mono ?_; rintro e w5 ⟨v5, rfl, hy5, hn5, ⟨A6, n6, c6, rfl⟩, hu5⟩; have b5 := b3.upd hu5 (by simp); have s20_5 := b5.cell 20; simp at s20_5)
        | (go_at_call 30; refine (HL.out.add (((Upd.refl [] _).drew).trans (hu3.trans hu5 (by simp)) (by simp)) (decide (0 < t.cookie.length)) 44 hy5 (fun _ g hg => .inr (by have := hn5 g hg; have h3 := hu3.size; simp at h3; omega)) _ HLN.out).mono ?_; rintro e w9 ⟨rfl, hL6⟩; have b9 := hb1.upd hL6.up (by simp); have s20_9 := b9.cell 20; simp at s20_9))
    all_goals
      go_wp2_with fail
      go_meet
      exact hL6
  replace hL := hcut
  clear hcut
  replace hln : ((((((((((((LW.nil).add (t.ocsp) 5 (Wr.nil)).add (t.ticket) 35 (Wr.nil)).add (t.rns) 65281 (Wr.vector 1 (Wr.plain t.rn))).add (t.ems) 23 (Wr.nil)).add (!t.alpn.isEmpty) 16 (Wr.vector 2 (vecsW 1 [t.alpn]))).add (decide (0 < t.scts.length)) 18 (Wr.vector 2 (vecsW 2 t.scts))).add ((t.sv.toNat : Int) != 0) 43 (numberW 2 t.sv.toNat)).add ((t.sg.toNat : Int) != 0) 51 (shareW t.sg t.sd)).add ((t.selg.toNat : Int) != 0) 51 (numberW 2 t.selg.toNat)).add (t.sip) 41 (numberW 2 t.si.toNat)).add (decide (0 < t.cookie.length)) 44 (Wr.vector 2 (Wr.plain t.cookie))).l.length ≤ 11 := Nat.le_trans (LW.add_len _ _ _ _) (Nat.succ_le_succ hln)
  go_upto_region 13 with fail
  go_cut [] (fun wx => LSt w1 (s + 1) (((((((((((((LW.nil).add (t.ocsp) 5 (Wr.nil)).add (t.ticket) 35 (Wr.nil)).add (t.rns) 65281 (Wr.vector 1 (Wr.plain t.rn))).add (t.ems) 23 (Wr.nil)).add (!t.alpn.isEmpty) 16 (Wr.vector 2 (vecsW 1 [t.alpn]))).add (decide (0 < t.scts.length)) 18 (Wr.vector 2 (vecsW 2 t.scts))).add ((t.sv.toNat : Int) != 0) 43 (numberW 2 t.sv.toNat)).add ((t.sg.toNat : Int) != 0) 51 (shareW t.sg t.sd)).add ((t.selg.toNat : Int) != 0) 51 (numberW 2 t.selg.toNat)).add (t.sip) 41 (numberW 2 t.si.toNat)).add (decide (0 < t.cookie.length)) 44 (Wr.vector 2 (Wr.plain t.cookie))).add (decide (0 < t.pts.length)) 11 (Wr.vector 1 (Wr.plain t.pts))) wx)
  case first =>
    have hU := hL.up
    have hb := hb1.upd hU (by simp)
    have x81 := Row.upd x8 hU (by simp)
    have x111 := Lst.upd x11 hU (by simp)
    have x141 := Row.upd x14 hU (by simp)
    have x171 := Row.upd x17 hU (by simp)
    have x181 := Row.upd x18 hU (by simp)
    have x201 := Row.upd x20 hU (by simp)
    have HL := hid hL
    have HLN := hid (Nat.le_trans hln (show 11 ≤ 1000 by omega))
    clear hL hU hln
    have s17 := hb.cell 17
    simp at s17
    go_region_held3 (fun w' => w'.cell? ⟨s, 17, none⟩ = some (.slice A17 t.pts.length c17)) (go_keep)
      (first
        | (go_at_call 32; refine (plain_st (Row.drew x171)).mono ?_; rintro e w3 ⟨rfl, hu3⟩; have hp3 := Row.upd (Row.drew x171) hu3 (by simp); have b3 := (hb.drew).upd hu3 (by simp); have s17_3 := b3.cell 17; simp at s17_3)
        | (go_at_call 31; refine (vector_any1 hp3 _ (by have := HX17.out; omega)).mono ?_; rintro e w5 ⟨v5, rfl, hy5, hn5, ⟨A6, n6, c6, rfl⟩, hu5⟩; have b5 := b3.upd hu5 (by simp); have s17_5 := b5.cell 17; simp at s17_5)
        | (go_at_call 30; refine (HL.out.add (((Upd.refl [] _).drew).trans (hu3.trans hu5 (by simp)) (by simp)) (decide (0 < t.pts.length)) 11 hy5 (fun _ g hg => .inr (by have := hn5 g hg; have h3 := hu3.size; simp at h3; omega)) _ HLN.out).mono ?_; rintro e w9 ⟨rfl, hL6⟩; have b9 := hb1.upd hL6.up (by simp); have s17_9 := b9.cell 17; simp at s17_9))
    all_goals
      go_wp2_with fail
      go_meet
      exact hL6
  replace hL := hcut
  clear hcut
  replace hln : (((((((((((((LW.nil).add (t.ocsp) 5 (Wr.nil)).add (t.ticket) 35 (Wr.nil)).add (t.rns) 65281 (Wr.vector 1 (Wr.plain t.rn))).add (t.ems) 23 (Wr.nil)).add (!t.alpn.isEmpty) 16 (Wr.vector 2 (vecsW 1 [t.alpn]))).add (decide (0 < t.scts.length)) 18 (Wr.vector 2 (vecsW 2 t.scts))).add ((t.sv.toNat : Int) != 0) 43 (numberW 2 t.sv.toNat)).add ((t.sg.toNat : Int) != 0) 51 (shareW t.sg t.sd)).add ((t.selg.toNat : Int) != 0) 51 (numberW 2 t.selg.toNat)).add (t.sip) 41 (numberW 2 t.si.toNat)).add (decide (0 < t.cookie.length)) 44 (Wr.vector 2 (Wr.plain t.cookie))).add (decide (0 < t.pts.length)) 11 (Wr.vector 1 (Wr.plain t.pts))).l.length ≤ 12 := Nat.le_trans (LW.add_len _ _ _ _) (Nat.succ_le_succ hln)
  go_upto_region 14 with fail
  go_cut [] (fun wx => LSt w1 (s + 1) ((((((((((((((LW.nil).add (t.ocsp) 5 (Wr.nil)).add (t.ticket) 35 (Wr.nil)).add (t.rns) 65281 (Wr.vector 1 (Wr.plain t.rn))).add (t.ems) 23 (Wr.nil)).add (!t.alpn.isEmpty) 16 (Wr.vector 2 (vecsW 1 [t.alpn]))).add (decide (0 < t.scts.length)) 18 (Wr.vector 2 (vecsW 2 t.scts))).add ((t.sv.toNat : Int) != 0) 43 (numberW 2 t.sv.toNat)).add ((t.sg.toNat : Int) != 0) 51 (shareW t.sg t.sd)).add ((t.selg.toNat : Int) != 0) 51 (numberW 2 t.selg.toNat)).add (t.sip) 41 (numberW 2 t.si.toNat)).add (decide (0 < t.cookie.length)) 44 (Wr.vector 2 (Wr.plain t.cookie))).add (decide (0 < t.pts.length)) 11 (Wr.vector 1 (Wr.plain t.pts))).add (decide (0 < t.ech.length)) 65037 (Wr.plain t.ech)) wx)
  case first =>
    have hU := hL.up
    have hb := hb1.upd hU (by simp)
    have x81 := Row.upd x8 hU (by simp)
    have x111 := Lst.upd x11 hU (by simp)
    have x141 := Row.upd x14 hU (by simp)
    have x171 := Row.upd x17 hU (by simp)
    have x181 := Row.upd x18 hU (by simp)
    have x201 := Row.upd x20 hU (by simp)
    have HL := hid hL
    have HLN := hid (Nat.le_trans hln (show 12 ≤ 1000 by omega))
    clear hL hU hln
    have s18 := hb.cell 18
    simp at s18
    go_region_held3 (fun w' => w'.cell? ⟨s, 18, none⟩ = some (.slice A18 t.ech.length c18)) (go_keep)
      (first
        | (go_at_call 32; refine (plain_st (Row.drew x181)).mono ?_; rintro e w3 ⟨rfl, hu3⟩; have b3 := (hb.drew).upd hu3 (by simp); have s18_3 := b3.cell 18; simp at s18_3)
        | (go_at_call 30; refine (HL.out.add (((Upd.refl [] _).drew).trans hu3 (by simp)) (decide (0 < t.ech.length)) 65037 (Row.upd (Row.drew x181) hu3 (by simp)) (fun hx g hg => .inl (by have := Byt.blk x181 hx g hg; omega)) false HLN.out).mono ?_; rintro e w9 ⟨rfl, hL6⟩; have b9 := hb1.upd hL6.up (by simp); have s18_9 := b9.cell 18; simp at s18_9))
    all_goals
      go_wp2_with fail
      go_meet
      exact hL6
  replace hL := hcut
  clear hcut
  replace hln : ((((((((((((((LW.nil).add (t.ocsp) 5 (Wr.nil)).add (t.ticket) 35 (Wr.nil)).add (t.rns) 65281 (Wr.vector 1 (Wr.plain t.rn))).add (t.ems) 23 (Wr.nil)).add (!t.alpn.isEmpty) 16 (Wr.vector 2 (vecsW 1 [t.alpn]))).add (decide (0 < t.scts.length)) 18 (Wr.vector 2 (vecsW 2 t.scts))).add ((t.sv.toNat : Int) != 0) 43 (numberW 2 t.sv.toNat)).add ((t.sg.toNat : Int) != 0) 51 (shareW t.sg t.sd)).add ((t.selg.toNat : Int) != 0) 51 (numberW 2 t.selg.toNat)).add (t.sip) 41 (numberW 2 t.si.toNat)).add (decide (0 < t.cookie.length)) 44 (Wr.vector 2 (Wr.plain t.cookie))).add (decide (0 < t.pts.length)) 11 (Wr.vector 1 (Wr.plain t.pts))).add (decide (0 < t.ech.length)) 65037 (Wr.plain t.ech)).l.length ≤ 13 := Nat.le_trans (LW.add_len _ _ _ _) (Nat.succ_le_succ hln)
  go_upto_region 15 with fail
  go_cut [] (fun wx => LSt w1 (s + 1) (((((((((((((((LW.nil).add (t.ocsp) 5 (Wr.nil)).add (t.ticket) 35 (Wr.nil)).add (t.rns) 65281 (Wr.vector 1 (Wr.plain t.rn))).add (t.ems) 23 (Wr.nil)).add (!t.alpn.isEmpty) 16 (Wr.vector 2 (vecsW 1 [t.alpn]))).add (decide (0 < t.scts.length)) 18 (Wr.vector 2 (vecsW 2 t.scts))).add ((t.sv.toNat : Int) != 0) 43 (numberW 2 t.sv.toNat)).add ((t.sg.toNat : Int) != 0) 51 (shareW t.sg t.sd)).add ((t.selg.toNat : Int) != 0) 51 (numberW 2 t.selg.toNat)).add (t.sip) 41 (numberW 2 t.si.toNat)).add (decide (0 < t.cookie.length)) 44 (Wr.vector 2 (Wr.plain t.cookie))).add (decide (0 < t.pts.length)) 11 (Wr.vector 1 (Wr.plain t.pts))).add (decide (0 < t.ech.length)) 65037 (Wr.plain t.ech)).add (t.ack) 0 (Wr.nil)) wx)
  case first =>
    have hU := hL.up
    have hb := hb1.upd hU (by simp)
    have x81 := Row.upd x8 hU (by simp)
    have x111 := Lst.upd x11 hU (by simp)
    have x141 := Row.upd x14 hU (by simp)
    have x171 := Row.upd x17 hU (by simp)
    have x181 := Row.upd x18 hU (by simp)
    have x201 := Row.upd x20 hU (by simp)
    have HL := hid hL
    have HLN := hid (Nat.le_trans hln (show 13 ≤ 1000 by omega))
    clear hL hU hln
    have s19 := hb.cell 19
    simp at s19
    go_wp2_with (first
      | (go_at_call 30; refine (HL.out.add (Upd.refl [] _) (t.ack) 0 (Row.nil_ _ 0) (fun hx => absurd rfl hx) false HLN.out).mono ?_; rintro e w9 ⟨rfl, hL6⟩; have b9 := hb1.upd hL6.up (by simp); have s19_9 := b9.cell 19; simp at s19_9))
    all_goals
      go_wp2_with fail
      go_meet
      exact hL6
  replace hL := hcut
  clear hcut
  replace hln : (((((((((((((((LW.nil).add (t.ocsp) 5 (Wr.nil)).add (t.ticket) 35 (Wr.nil)).add (t.rns) 65281 (Wr.vector 1 (Wr.plain t.rn))).add (t.ems) 23 (Wr.nil)).add (!t.alpn.isEmpty) 16 (Wr.vector 2 (vecsW 1 [t.alpn]))).add (decide (0 < t.scts.length)) 18 (Wr.vector 2 (vecsW 2 t.scts))).add ((t.sv.toNat : Int) != 0) 43 (numberW 2 t.sv.toNat)).add ((t.sg.toNat : Int) != 0) 51 (shareW t.sg t.sd)).add ((t.selg.toNat : Int) != 0) 51 (numberW 2 t.selg.toNat)).add (t.sip) 41 (numberW 2 t.si.toNat)).add (decide (0 < t.cookie.length)) 44 (Wr.vector 2 (Wr.plain t.cookie))).add (decide (0 < t.pts.length)) 11 (Wr.vector 1 (Wr.plain t.pts))).add (decide (0 < t.ech.length)) 65037 (Wr.plain t.ech)).add (t.ack) 0 (Wr.nil)).l.length ≤ 14 := Nat.le_trans (LW.add_len _ _ _ _) (Nat.succ_le_succ hln)
  obtain ⟨A4, n4, c4, k0, k1, hx4⟩ := hL.cells
  have HX := hid hx4
  have HU := hid (hu1.trans hL.up (by simp))
  clear hx4 hL
  go_wp2_with fail
  go_quiet (fail)
  go_wp2
  go_ret2
  exact ⟨_, rfl, (HX.out.upd ((Upd.refl [] _).drewN _) (by simp)).shrink, HU.out.drewN _⟩
end
end Go.Proofs.Ytcikeghdlolkaaa

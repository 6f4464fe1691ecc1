/- CertificateRequest of TLS 1.3: its extensions by the reference (printed by gen_cqw.py). -/
import Derived.Test.YtddkjhlngofkaaaSpecW
import Derived.Test.YtddkjhlngofkaaaCqV
namespace Go.Proofs.Ytddkjhlngofkaaa
open Go.RowKit
set_option maxRecDepth 100000

section
variable {w w' : World} {B : Nat} {v : Value} {t : Cq}
theorem Lst.drew {ls : List (List UInt8)} (h : Lst w B v ls) : Lst w.drew B v ls := by
  obtain ⟨vs, h1, h2⟩ := h
  exact ⟨vs, Row.drew h1, h2.imp fun _ _ hy => Row.drew hy⟩
def cqExtL (t : Cq) : LW := (((((LW.nil).add (t.ocsp) 5 (Wr.nil)).add (t.scts) 18 (Wr.nil)).add (decide (0 < t.sig.length)) 13 (Wr.vector 2 (wordsW t.sig))).add (decide (0 < t.sigc.length)) 50 (Wr.vector 2 (wordsW t.sigc))).add (decide (0 < t.cas.length)) 47 (Wr.vector 2 (vecsW 2 t.cas))
set_option maxHeartbeats 4000000 in
theorem Request13Extensions_any (hv : CqV w B v t) (hs2 : t.sig.length ≤ 549755813888) (hs3 : t.sigc.length ≤ 549755813888) (hx4 : (vecsB 2 t.cas).length ≤ 1099511627776) : Calls Try.prog 21 #[v] w (ExL w (cqExtL t)) := by
  obtain ⟨A2, c2, A3, c3, A4, c4, rfl, y2, y3, y4, hx2, hx3⟩ := hv
  have HX2 := hid hs2
  have HX3 := hid hs3
  have HX4 := hid hx4
  clear hx2 hx3 hx4 hs2 hs3
  obtain ⟨w1, hw1⟩ : ∃ w1, w.alloc (.cells #[.bool t.ocsp, .bool t.scts, .slice A2 t.sig.length c2, .slice A3 t.sigc.length c3, .slice A4 t.cas.length c4] 35) = w1 := ⟨_, rfl⟩
  obtain ⟨s, hs⟩ : ∃ s, w.heap.size = s := ⟨_, rfl⟩
  have hu1 : Upd [] w w1 := by rw [← hw1]; exact (Upd.refl _ _).alloc _
  have hs1 : w1.heap.size = s + 1 := by rw [← hw1, ← hs]; simp
  have hb1 : Blk w1 s 35 #[.bool t.ocsp, .bool t.scts, .slice A2 t.sig.length c2, .slice A3 t.sigc.length c3, .slice A4 t.cas.length c4] := by rw [← hw1, ← hs]; exact Blk.new _ _ _
  obtain ⟨w2, hw2⟩ : ∃ w2, w1.alloc (.cells #[.slice none 0 0, .bool false] 83) = w2 := ⟨_, rfl⟩
  have hL : LSt w1 (s + 1) LW.nil w2 := by rw [← hw2, ← hs1]; exact LSt.new w1
  have hln : LW.nil.l.length ≤ 0 := Nat.le_refl _
  replace y2 := Row.upd y2.shrink hu1 (by simp)
  replace y3 := Row.upd y3.shrink hu1 (by simp)
  replace y4 := Lst.upd y4.shrink hu1 (by simp)
  rw [hs] at y2 y3 y4
  have HW1 := hid hw1
  have HW2 := hid hw2
  have HS := hid hs
  clear hw1 hw2 hs1 hs
  go_enter Try.func21, Try.ntmps21
  go_upto_region 2 with fail
  rw [HW1.out, HS.out, HW2.out]
  go_cut [] (fun wx => LSt w1 (s + 1) ((LW.nil).add (t.ocsp) 5 (Wr.nil)) wx)
  case first =>
    have hU := hL.up
    have hb := hb1.upd hU (by simp)
    have y21 := Row.upd y2 hU (by simp)
    have y31 := Row.upd y3 hU (by simp)
    have y41 := Lst.upd y4 hU (by simp)
    have HL := hid hL
    have HLN := hid (Nat.le_trans hln (show 0 ≤ 1000 by omega))
    clear hL hU hln
    have s0 := hb.cell 0
    simp at s0
    go_wp2_with (first
      | (go_at_call 53; refine (HL.out.add (Upd.refl [] _) (t.ocsp) 5 (Row.nil_ _ 0) (fun hx => absurd rfl hx) false HLN.out).mono ?_; rintro e w9 ⟨rfl, hL6⟩; have b9 := hb1.upd hL6.up (by simp); have s0_9 := b9.cell 0; simp at s0_9))
    all_goals
      go_wp2_with fail
      go_meet
      exact hL6
  replace hL := hcut
  clear hcut
  replace hln : ((LW.nil).add (t.ocsp) 5 (Wr.nil)).l.length ≤ 1 := Nat.le_trans (LW.add_len _ _ _ _) (Nat.succ_le_succ hln)
  go_upto_region 3 with fail
  go_cut [] (fun wx => LSt w1 (s + 1) (((LW.nil).add (t.ocsp) 5 (Wr.nil)).add (t.scts) 18 (Wr.nil)) wx)
  case first =>
    have hU := hL.up
    have hb := hb1.upd hU (by simp)
    have y21 := Row.upd y2 hU (by simp)
    have y31 := Row.upd y3 hU (by simp)
    have y41 := Lst.upd y4 hU (by simp)
    have HL := hid hL
    have HLN := hid (Nat.le_trans hln (show 1 ≤ 1000 by omega))
    clear hL hU hln
    have s1 := hb.cell 1
    simp at s1
    go_wp2_with (first
      | (go_at_call 53; refine (HL.out.add (Upd.refl [] _) (t.scts) 18 (Row.nil_ _ 0) (fun hx => absurd rfl hx) false HLN.out).mono ?_; rintro e w9 ⟨rfl, hL6⟩; have b9 := hb1.upd hL6.up (by simp); have s1_9 := b9.cell 1; simp at s1_9))
    all_goals
      go_wp2_with fail
      go_meet
      exact hL6
  replace hL := hcut
  clear hcut
  replace hln : (((LW.nil).add (t.ocsp) 5 (Wr.nil)).add (t.scts) 18 (Wr.nil)).l.length ≤ 2 := Nat.le_trans (LW.add_len _ _ _ _) (Nat.succ_le_succ hln)
  go_upto_region 4 with fail
  go_cut [] (fun wx => LSt w1 (s + 1) ((((LW.nil).add (t.ocsp) 5 (Wr.nil)).add (t.scts) 18 (Wr.nil)).add (decide (0 < t.sig.length)) 13 (Wr.vector 2 (wordsW t.sig))) wx)
  case first =>
    have hU := hL.up
    have hb := hb1.upd hU (by simp)
    have y21 := Row.upd y2 hU (by simp)
    have y31 := Row.upd y3 hU (by simp)
    have y41 := Lst.upd y4 hU (by simp)
    have HL := hid hL
    have HLN := hid (Nat.le_trans hln (show 2 ≤ 1000 by omega))
    clear hL hU hln
    have s2 := hb.cell 2
    simp at s2
    go_region_held3 (fun w' => w'.cell? ⟨s, 2, none⟩ = some (.slice A2 t.sig.length c2)) (go_keep)
      (first
        | (go_at_call 55; refine (words_any_w (Row.drew y21) (by have := HX2.out; omega)).mono ?_; rintro e w4 ⟨v4, rfl, hy4, hn4, ⟨A5, n5, c5, rfl⟩, hu4⟩; have b4 := (hb.drew).upd hu4 (by simp); have s2_4 := b4.cell 2; simp at s2_4)
        | (go_at_call 54; refine (vector_any2 hy4 _ (by show (wordsB t.sig).length ≤ _; rw [wordsB_len]; have := HX2.out; omega)).mono ?_; rintro e w5 ⟨v5, rfl, hy5, hn5, ⟨A6, n6, c6, rfl⟩, hu5⟩; have b5 := b4.upd hu5 (by simp); have s2_5 := b5.cell 2; simp at s2_5)
        | (go_at_call 53; have hu35 : Upd [] _ w5 := ((Upd.refl [] _).drew).trans (hu4.trans hu5 (by simp)) (by simp); refine (HL.out.add hu35 (decide (0 < t.sig.length)) 13 hy5 (fun _ g hg => .inr (by have := hn5 g hg; have h4 := hu4.size; simp at h4; omega)) _ HLN.out).mono ?_; rintro e w9 ⟨rfl, hL6⟩; have b9 := hb1.upd hL6.up (by simp); have s2_9 := b9.cell 2; simp at s2_9))
    all_goals
      go_wp2_with fail
      go_meet
      exact hL6
  replace hL := hcut
  clear hcut
  replace hln : ((((LW.nil).add (t.ocsp) 5 (Wr.nil)).add (t.scts) 18 (Wr.nil)).add (decide (0 < t.sig.length)) 13 (Wr.vector 2 (wordsW t.sig))).l.length ≤ 3 := Nat.le_trans (LW.add_len _ _ _ _) (Nat.succ_le_succ hln)
  go_upto_region 5 with fail
  go_cut [] (fun wx => LSt w1 (s + 1) (((((LW.nil).add (t.ocsp) 5 (Wr.nil)).add (t.scts) 18 (Wr.nil)).add (decide (0 < t.sig.length)) 13 (Wr.vector 2 (wordsW t.sig))).add (decide (0 < t.sigc.length)) 50 (Wr.vector 2 (wordsW t.sigc))) wx)
  case first =>
    have hU := hL.up
    have hb := hb1.upd hU (by simp)
    have y21 := Row.upd y2 hU (by simp)
    have y31 := Row.upd y3 hU (by simp)
    have y41 := Lst.upd y4 hU (by simp)
    have HL := hid hL
    have HLN := hid (Nat.le_trans hln (show 3 ≤ 1000 by omega))
    clear hL hU hln
    have s3 := hb.cell 3
    simp at s3
    go_region_held3 (fun w' => w'.cell? ⟨s, 3, none⟩ = some (.slice A3 t.sigc.length c3)) (go_keep)
      (first
        | (go_at_call 55; refine (words_any_w (Row.drew y31) (by have := HX3.out; omega)).mono ?_; rintro e w4 ⟨v4, rfl, hy4, hn4, ⟨A5, n5, c5, rfl⟩, hu4⟩; have b4 := (hb.drew).upd hu4 (by simp); have s3_4 := b4.cell 3; simp at s3_4)
        | (go_at_call 54; refine (vector_any2 hy4 _ (by show (wordsB t.sigc).length ≤ _; rw [wordsB_len]; have := HX3.out; omega)).mono ?_; rintro e w5 ⟨v5, rfl, hy5, hn5, ⟨A6, n6, c6, rfl⟩, hu5⟩; have b5 := b4.upd hu5 (by simp); have s3_5 := b5.cell 3; simp at s3_5)
        | (go_at_call 53; have hu35 : Upd [] _ w5 := ((Upd.refl [] _).drew).trans (hu4.trans hu5 (by simp)) (by simp); refine (HL.out.add hu35 (decide (0 < t.sigc.length)) 50 hy5 (fun _ g hg => .inr (by have := hn5 g hg; have h4 := hu4.size; simp at h4; omega)) _ HLN.out).mono ?_; rintro e w9 ⟨rfl, hL6⟩; have b9 := hb1.upd hL6.up (by simp); have s3_9 := b9.cell 3; simp at s3_9))
    all_goals
      go_wp2_with fail
      go_meet
      exact hL6
  replace hL := hcut
  clear hcut
  replace hln : (((((LW.nil).add (t.ocsp) 5 (Wr.nil)).add (t.scts) 18 (Wr.nil)).add (decide (0 < t.sig.length)) 13 (Wr.vector 2 (wordsW t.sig))).add (decide (0 < t.sigc.length)) 50 (Wr.vector 2 (wordsW t.sigc))).l.length ≤ 4 := Nat.le_trans (LW.add_len _ _ _ _) (Nat.succ_le_succ hln)
  go_upto_region 6 with fail
  go_cut [] (fun wx => LSt w1 (s + 1) ((((((LW.nil).add (t.ocsp) 5 (Wr.nil)).add (t.scts) 18 (Wr.nil)).add (decide (0 < t.sig.length)) 13 (Wr.vector 2 (wordsW t.sig))).add (decide (0 < t.sigc.length)) 50 (Wr.vector 2 (wordsW t.sigc))).add (decide (0 < t.cas.length)) 47 (Wr.vector 2 (vecsW 2 t.cas))) wx)
  case first =>
    have hU := hL.up
    have hb := hb1.upd hU (by simp)
    have y21 := Row.upd y2 hU (by simp)
    have y31 := Row.upd y3 hU (by simp)
    have y41 := Lst.upd y4 hU (by simp)
    have HL := hid hL
    have HLN := hid (Nat.le_trans hln (show 4 ≤ 1000 by omega))
    clear hL hU hln
    have s4 := hb.cell 4
    simp at s4
    go_region_held3 (fun w' => w'.cell? ⟨s, 4, none⟩ = some (.slice A4 t.cas.length c4)) (go_keep)
      (first
        | (go_at_call 56; refine (vectors_any_w 2 (.inr (.inl rfl)) (Lst.drew y41) HX4.out).mono ?_; rintro e w4 ⟨v4, rfl, hy4, hn4, ⟨A5, n5, c5, rfl⟩, hu4⟩; have b4 := (hb.drew).upd hu4 (by simp); have s4_4 := b4.cell 4; simp at s4_4)
        | (go_at_call 54; refine (vector_any2 hy4 _ (by show (vecsB 2 t.cas).length ≤ _; have := HX4.out; omega)).mono ?_; rintro e w5 ⟨v5, rfl, hy5, hn5, ⟨A6, n6, c6, rfl⟩, hu5⟩; have b5 := b4.upd hu5 (by simp); have s4_5 := b5.cell 4; simp at s4_5)
        | (go_at_call 53; have hu35 : Upd [] _ w5 := ((Upd.refl [] _).drew).trans (hu4.trans hu5 (by simp)) (by simp); refine (HL.out.add hu35 (decide (0 < t.cas.length)) 47 hy5 (fun _ g hg => .inr (by have := hn5 g hg; have h4 := hu4.size; simp at h4; omega)) _ HLN.out).mono ?_; rintro e w9 ⟨rfl, hL6⟩; have b9 := hb1.upd hL6.up (by simp); have s4_9 := b9.cell 4; simp at s4_9))
    all_goals
      go_wp2_with fail
      go_meet
      exact hL6
  replace hL := hcut
  clear hcut
  replace hln : ((((((LW.nil).add (t.ocsp) 5 (Wr.nil)).add (t.scts) 18 (Wr.nil)).add (decide (0 < t.sig.length)) 13 (Wr.vector 2 (wordsW t.sig))).add (decide (0 < t.sigc.length)) 50 (Wr.vector 2 (wordsW t.sigc))).add (decide (0 < t.cas.length)) 47 (Wr.vector 2 (vecsW 2 t.cas))).l.length ≤ 5 := Nat.le_trans (LW.add_len _ _ _ _) (Nat.succ_le_succ hln)
  obtain ⟨A9, n9, c9, k0, k1, hx4⟩ := hL.cells
  have HX := hid hx4
  have HU := hid (hu1.trans hL.up (by simp))
  clear hx4 hL
  go_wp2_with fail
  go_quiet (fail)
  go_wp2
  go_ret2
  exact ⟨_, rfl, (HX.out.upd ((Upd.refl [] _).drewN _) (by simp)).shrink, HU.out.drewN _⟩
end
end Go.Proofs.Ytddkjhlngofkaaa

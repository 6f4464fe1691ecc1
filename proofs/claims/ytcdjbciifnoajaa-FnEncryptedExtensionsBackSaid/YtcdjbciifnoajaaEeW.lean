/- EncryptedExtensions: its extensions by the reference (printed by gen_eew.py). -/
import Derived.Test.YtcdjbciifnoajaaSpecW
import Derived.Test.YtcdjbciifnoajaaEeV
namespace Go.Proofs.Ytcdjbciifnoajaa
open Go.RowKit
set_option maxRecDepth 100000

section
variable {w w' : World} {B : Nat} {v : Value} {t : Ee}
def eeExtL (t : Ee) : LW := (((((LW.nil).add (!t.alpn.isEmpty) 16 (Wr.vector 2 (vecsW 1 [t.alpn]))).add (t.has) 57 (Wr.plain t.quic)).add (t.early) 42 (Wr.nil)).add (decide (0 < t.ech.length)) 65037 (Wr.plain t.ech)).add (t.ack) 0 (Wr.nil)
set_option maxHeartbeats 4000000 in
theorem EncryptedExtensionsOf_any (hv : EeV w B v t) (hx0 : t.alpn.length ≤ 2147483647) : Calls Try.prog 27 #[v] w (ExL w (eeExtL t)) := by
  obtain ⟨A1, c1, A2, c2, rfl, y1, y2⟩ := hv
  have HX0 := hid hx0
  clear hx0
  obtain ⟨w1, hw1⟩ : ∃ w1, w.alloc (.cells #[strv t.alpn, .bool t.has, .slice A1 t.quic.length c1, .bool t.early, .slice A2 t.ech.length c2, .bool t.ack] 44) = w1 := ⟨_, rfl⟩
  obtain ⟨s, hs⟩ : ∃ s, w.heap.size = s := ⟨_, rfl⟩
  have hu1 : Upd [] w w1 := by rw [← hw1]; exact (Upd.refl _ _).alloc _
  have hs1 : w1.heap.size = s + 1 := by rw [← hw1, ← hs]; simp
  have hb1 : Blk w1 s 44 #[strv t.alpn, .bool t.has, .slice A1 t.quic.length c1, .bool t.early, .slice A2 t.ech.length c2, .bool t.ack] := by rw [← hw1, ← hs]; exact Blk.new _ _ _
  obtain ⟨w2, hw2⟩ : ∃ w2, w1.alloc (.cells #[.slice none 0 0, .bool false] 68) = w2 := ⟨_, rfl⟩
  have hL : LSt w1 (s + 1) LW.nil w2 := by rw [← hw2, ← hs1]; exact LSt.new w1
  have hln : LW.nil.l.length ≤ 0 := Nat.le_refl _
  replace y1 := Row.upd y1.shrink hu1 (by simp)
  replace y2 := Row.upd y2.shrink hu1 (by simp)
  rw [hs] at y1 y2
  have HW1 := hid hw1
  have HW2 := hid hw2
  have HS := hid hs
  clear hw1 hw2 hs1 hs
  go_enter Try.func27, Try.ntmps27
  go_upto_region 2 with fail
  rw [HW1.out, HS.out, HW2.out]
  go_cut [] (fun wx => LSt w1 (s + 1) ((LW.nil).add (!t.alpn.isEmpty) 16 (Wr.vector 2 (vecsW 1 [t.alpn]))) wx)
  case first =>
    have hU := hL.up
    have hb := hb1.upd hU (by simp)
    have y11 := Row.upd y1 hU (by simp)
    have y21 := Row.upd y2 hU (by simp)
    have HL := hid hL
    have HLN := hid (Nat.le_trans hln (show 0 ≤ 1000 by omega))
    clear hL hU hln
    have s0 := hb.cell 0
    simp at s0
    go_region_held3 (fun w' => w'.cell? ⟨s, 0, none⟩ = some (strv t.alpn)) (go_keep)
      (first
        | (go_at_call 57; refine (octets_any (ls := [t.alpn]) (Row.drew (Row.one _ 9 (strv t.alpn))) (by simp) (by simp; have := HX0.out; omega)).mono ?_; rintro e w3 ⟨v3, rfl, hy3, hu3, hn3⟩; obtain ⟨A3, c3, rfl, hy3, -, -⟩ := hy3.form; have b3 := ((hb.alloc (.cells #[strv t.alpn] 9)).drew).upd hu3 (by simp); have s0_3 := b3.cell 0; simp at s0_3)
        | (go_at_call 56; refine (vectors_any_w 1 (.inl rfl) hy3 (by simp [vecsB, be_len]; have := HX0.out; omega)).mono ?_; rintro e w4 ⟨v4, rfl, hy4, hn4, ⟨A4, n4, c4, rfl⟩, hu4⟩; have b4 := b3.upd hu4 (by simp); have s0_4 := b4.cell 0; simp at s0_4)
        | (go_at_call 55; refine (vector_any2 hy4 _ (by simp [vecsW, vecsB, be_len]; have := HX0.out; omega)).mono ?_; rintro e w5 ⟨v5, rfl, hy5, hn5, ⟨A5, n5, c5, rfl⟩, hu5⟩; have b5 := b4.upd hu5 (by simp); have s0_5 := b5.cell 0; simp at s0_5)
        | (go_at_call 39; have hu35 : Upd [] _ w5 := ((((Upd.refl [] _).alloc (.cells #[strv t.alpn] 9)).drew).trans hu3 (by simp)).trans (hu4.trans hu5 (by simp)) (by simp); refine (HL.out.add hu35 (!t.alpn.isEmpty) 16 hy5 (fun _ g hg => .inr (by have := hn5 g hg; have h3 := hu3.size; simp at h3; have := hu4.size; omega)) _ HLN.out).mono ?_; rintro e w9 ⟨rfl, hL6⟩; have b9 := hb1.upd hL6.up (by simp); have s0_9 := b9.cell 0; simp at s0_9))
    all_goals
      go_wp2_with fail
      go_meet
      exact hL6
  replace hL := hcut
  clear hcut
  replace hln : ((LW.nil).add (!t.alpn.isEmpty) 16 (Wr.vector 2 (vecsW 1 [t.alpn]))).l.length ≤ 1 := Nat.le_trans (LW.add_len _ _ _ _) (Nat.succ_le_succ hln)
  go_upto_region 3 with fail
  go_cut [] (fun wx => LSt w1 (s + 1) (((LW.nil).add (!t.alpn.isEmpty) 16 (Wr.vector 2 (vecsW 1 [t.alpn]))).add (t.has) 57 (Wr.plain t.quic)) wx)
  case first =>
    have hU := hL.up
    have hb := hb1.upd hU (by simp)
    have y11 := Row.upd y1 hU (by simp)
    have y21 := Row.upd y2 hU (by simp)
    have HL := hid hL
    have HLN := hid (Nat.le_trans hln (show 1 ≤ 1000 by omega))
    clear hL hU hln
    have s1 := hb.cell 1
    have s2 := hb.cell 2
    simp at s1 s2
    go_region_held3 (fun w' => w'.cell? ⟨s, 1, none⟩ = some (.bool t.has) ∧ w'.cell? ⟨s, 2, none⟩ = some (.slice A1 t.quic.length c1)) (go_keep)
      (first
        | (go_at_call 58; refine (plain_st (Row.drew y11)).mono ?_; rintro e w3 ⟨rfl, hu3⟩; have b3 := (hb.drew).upd hu3 (by simp); have s1_3 := b3.cell 1; have s2_3 := b3.cell 2; simp at s1_3 s2_3)
        | (go_at_call 39; refine (HL.out.add (((Upd.refl [] _).drew).trans hu3 (by simp)) (t.has) 57 (Row.upd (Row.drew y11) hu3 (by simp)) (fun hx g hg => .inl (by have := Byt.blk y11 hx g hg; omega)) false HLN.out).mono ?_; rintro e w9 ⟨rfl, hL6⟩; have b9 := hb1.upd hL6.up (by simp); have s1_9 := b9.cell 1; simp at s1_9; have s2_9 := b9.cell 2; simp at s2_9))
    all_goals
      go_wp2_with fail
      go_meet
      exact hL6
  replace hL := hcut
  clear hcut
  replace hln : (((LW.nil).add (!t.alpn.isEmpty) 16 (Wr.vector 2 (vecsW 1 [t.alpn]))).add (t.has) 57 (Wr.plain t.quic)).l.length ≤ 2 := Nat.le_trans (LW.add_len _ _ _ _) (Nat.succ_le_succ hln)
  go_upto_region 4 with fail
  go_cut [] (fun wx => LSt w1 (s + 1) ((((LW.nil).add (!t.alpn.isEmpty) 16 (Wr.vector 2 (vecsW 1 [t.alpn]))).add (t.has) 57 (Wr.plain t.quic)).add (t.early) 42 (Wr.nil)) wx)
  case first =>
    have hU := hL.up
    have hb := hb1.upd hU (by simp)
    have y11 := Row.upd y1 hU (by simp)
    have y21 := Row.upd y2 hU (by simp)
    have HL := hid hL
    have HLN := hid (Nat.le_trans hln (show 2 ≤ 1000 by omega))
    clear hL hU hln
    have s3 := hb.cell 3
    simp at s3
    go_wp2_with (first
      | (go_at_call 39; refine (HL.out.add (Upd.refl [] _) (t.early) 42 (Row.nil_ _ 0) (fun hx => absurd rfl hx) false HLN.out).mono ?_; rintro e w9 ⟨rfl, hL6⟩; have b9 := hb1.upd hL6.up (by simp); have s3_9 := b9.cell 3; simp at s3_9))
    all_goals
      go_wp2_with fail
      go_meet
      exact hL6
  replace hL := hcut
  clear hcut
  replace hln : ((((LW.nil).add (!t.alpn.isEmpty) 16 (Wr.vector 2 (vecsW 1 [t.alpn]))).add (t.has) 57 (Wr.plain t.quic)).add (t.early) 42 (Wr.nil)).l.length ≤ 3 := Nat.le_trans (LW.add_len _ _ _ _) (Nat.succ_le_succ hln)
  go_upto_region 5 with fail
  go_cut [] (fun wx => LSt w1 (s + 1) (((((LW.nil).add (!t.alpn.isEmpty) 16 (Wr.vector 2 (vecsW 1 [t.alpn]))).add (t.has) 57 (Wr.plain t.quic)).add (t.early) 42 (Wr.nil)).add (decide (0 < t.ech.length)) 65037 (Wr.plain t.ech)) wx)
  case first =>
    have hU := hL.up
    have hb := hb1.upd hU (by simp)
    have y11 := Row.upd y1 hU (by simp)
    have y21 := Row.upd y2 hU (by simp)
    have HL := hid hL
    have HLN := hid (Nat.le_trans hln (show 3 ≤ 1000 by omega))
    clear hL hU hln
    have s4 := hb.cell 4
    simp at s4
    go_region_held3 (fun w' => w'.cell? ⟨s, 4, none⟩ = some (.slice A2 t.ech.length c2)) (go_keep)
      (first
        | (go_at_call 58; refine (plain_st (Row.drew y21)).mono ?_; rintro e w3 ⟨rfl, hu3⟩; have b3 := (hb.drew).upd hu3 (by simp); have s4_3 := b3.cell 4; simp at s4_3)
        | (go_at_call 39; refine (HL.out.add (((Upd.refl [] _).drew).trans hu3 (by simp)) (decide (0 < t.ech.length)) 65037 (Row.upd (Row.drew y21) hu3 (by simp)) (fun hx g hg => .inl (by have := Byt.blk y21 hx g hg; omega)) false HLN.out).mono ?_; rintro e w9 ⟨rfl, hL6⟩; have b9 := hb1.upd hL6.up (by simp); have s4_9 := b9.cell 4; simp at s4_9))
    all_goals
      go_wp2_with fail
      go_meet
      exact hL6
  replace hL := hcut
  clear hcut
  replace hln : (((((LW.nil).add (!t.alpn.isEmpty) 16 (Wr.vector 2 (vecsW 1 [t.alpn]))).add (t.has) 57 (Wr.plain t.quic)).add (t.early) 42 (Wr.nil)).add (decide (0 < t.ech.length)) 65037 (Wr.plain t.ech)).l.length ≤ 4 := Nat.le_trans (LW.add_len _ _ _ _) (Nat.succ_le_succ hln)
  go_upto_region 6 with fail
  go_cut [] (fun wx => LSt w1 (s + 1) ((((((LW.nil).add (!t.alpn.isEmpty) 16 (Wr.vector 2 (vecsW 1 [t.alpn]))).add (t.has) 57 (Wr.plain t.quic)).add (t.early) 42 (Wr.nil)).add (decide (0 < t.ech.length)) 65037 (Wr.plain t.ech)).add (t.ack) 0 (Wr.nil)) wx)
  case first =>
    have hU := hL.up
    have hb := hb1.upd hU (by simp)
    have y11 := Row.upd y1 hU (by simp)
    have y21 := Row.upd y2 hU (by simp)
    have HL := hid hL
    have HLN := hid (Nat.le_trans hln (show 4 ≤ 1000 by omega))
    clear hL hU hln
    have s5 := hb.cell 5
    simp at s5
    go_wp2_with (first
      | (go_at_call 39; refine (HL.out.add (Upd.refl [] _) (t.ack) 0 (Row.nil_ _ 0) (fun hx => absurd rfl hx) false HLN.out).mono ?_; rintro e w9 ⟨rfl, hL6⟩; have b9 := hb1.upd hL6.up (by simp); have s5_9 := b9.cell 5; simp at s5_9))
    all_goals
      go_wp2_with fail
      go_meet
      exact hL6
  replace hL := hcut
  clear hcut
  replace hln : ((((((LW.nil).add (!t.alpn.isEmpty) 16 (Wr.vector 2 (vecsW 1 [t.alpn]))).add (t.has) 57 (Wr.plain t.quic)).add (t.early) 42 (Wr.nil)).add (decide (0 < t.ech.length)) 65037 (Wr.plain t.ech)).add (t.ack) 0 (Wr.nil)).l.length ≤ 5 := Nat.le_trans (LW.add_len _ _ _ _) (Nat.succ_le_succ hln)
  obtain ⟨A4, n4, c4, k0, k1, hx4⟩ := hL.cells
  have HX := hid hx4
  have HU := hid (hu1.trans hL.up (by simp))
  clear hx4 hL
  go_wp2_with fail
  go_quiet (fail)
  go_wp2
  go_ret2
  exact ⟨_, rfl, (HX.out.upd ((Upd.refl [] _).drewN _) (by simp)).shrink, HU.out.drewN _⟩
end
end Go.Proofs.Ytcdjbciifnoajaa

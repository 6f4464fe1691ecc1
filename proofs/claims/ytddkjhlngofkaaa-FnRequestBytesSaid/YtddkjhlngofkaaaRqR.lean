/- CertificateRequest up to TLS 1.2: read by the reference. -/
import Derived.Test.YtddkjhlngofkaaaRqV
import Derived.Test.YtddkjhlngofkaaaReader
import Derived.Test.YtddkjhlngofkaaaLists
namespace Go.Proofs.Ytddkjhlngofkaaa
open Go.RowKit
set_option maxRecDepth 100000

theorem vec_len16 (s : R) (size lo hi : Nat) (h : size ≤ 2) : (s.vec size lo hi).1.length ≤ 65536 := by
  unfold R.vec
  simp only
  split
  · rw [take_len]
    have h1 := beNat_lt (s.take size).1
    rw [take_len] at h1
    have h2 : 256 ^ size ≤ 65536 := by
      have : size = 0 ∨ size = 1 ∨ size = 2 := by omega
      rcases this with rfl | rfl | rfl <;> decide
    show beNat (s.take size).1 ≤ 65536
    omega
  · simp
theorem wordsOf_len' : ∀ x : List UInt8, (wordsOf x).length ≤ x.length
  | [] => Nat.le_refl _
  | [_] => Nat.le_refl _
  | _ :: _ :: t => by have := wordsOf_len' t; simp [wordsOf]; omega
theorem words_lenR (s : R) (b : List UInt8) : (s.words b).1.length ≤ b.length := by
  unfold R.words
  refine Nat.le_trans (wordsOf_len' _) ?_
  unfold R.within
  simp only
  split <;> simp
section
variable {w w' : World} {B m : Nat} {v content : Value} {xs data : List UInt8} {e : Ending}
set_option maxHeartbeats 8000000 in
theorem rf_Rq (has : Bool) (hv : Byt w w.heap.size v data) : Calls Try.prog 14 #[.bool has, v] w (RefG RqV w (rqSpec has data).1 (rqSpec has data).2.code) := by
  obtain ⟨A, c, rfl, hv, hl, hc⟩ := Byt.form hv rfl
  obtain ⟨s, hs⟩ : ∃ s, w.heap.size = s := ⟨_, rfl⟩
  obtain ⟨w1, hw1⟩ : ∃ w1, (w.alloc (.cells #[.bool false, .slice none 0 0, .slice none 0 0, .slice none 0 0] 26)).alloc (.cells #[.bool has, .slice none 0 0, .slice none 0 0, .slice none 0 0] 26) = w1 := ⟨_, rfl⟩
  have hU1 : Upd [] w w1 := by rw [← hw1]; exact ((Upd.refl _ _).alloc _).alloc _
  have hb1 : Blk w1 s 26 #[.bool false, .slice none 0 0, .slice none 0 0, .slice none 0 0] := by rw [← hw1, ← hs]; exact (Blk.new _ _ _).alloc _
  have hm1 : Blk w1 (s + 1) 26 #[.bool has, .slice none 0 0, .slice none 0 0, .slice none 0 0] := by
    rw [← hw1, ← hs]
    have := Blk.new (w.alloc (.cells #[.bool false, .slice none 0 0, .slice none 0 0, .slice none 0 0] 26)) 26 #[.bool has, .slice none 0 0, .slice none 0 0, .slice none 0 0]
    rwa [show (w.alloc (.cells #[.bool false, .slice none 0 0, .slice none 0 0, .slice none 0 0] 26)).heap.size = w.heap.size + 1 by simp] at this
  have hs1 : w1.heap.size = s + 2 := by rw [← hw1, ← hs]; simp
  have hv1 := Row.upd hv hU1 (by simp)
  rw [hs] at hv1
  have hsw : w.heap.size ≤ s := by omega
  have HW := hid hw1
  have HS := hid hs
  clear hw1 hs hl hc hv
  go_enter Try.func14, Try.ntmps14
  go_wp2_with fail
  rw [HW.out, HS.out]
  refine (body_any (w := w1) (N := s) (by omega) hv1 13).mono ?_
  rintro e w2 ⟨rfl, hu2, hr2⟩
  rw [hs1] at hr2 ⊢
  have hU2 := hU1.trans hu2 (by simp)
  have hb2 := hb1.upd hu2 (by simp)
  have hm2 := hm1.upd hu2 (by simp)
  clear hb1 hm1 hU1 hu2 hv1 hs1
  -- the types
  have H := hid (vec_any hr2 1 1 255 (by omega))
  obtain ⟨ts, hts⟩ : ∃ x, ((bodyR 13 data).vec 1 1 255).1 = x := ⟨_, rfl⟩
  obtain ⟨r3, hr3e⟩ : ∃ x, ((bodyR 13 data).vec 1 1 255).2 = x := ⟨_, rfl⟩
  have HTS := hid hts
  have HR3 := hid hr3e
  have g1 := hm2.cell 1
  have f1 := hm2.frozen 1
  simp at g1
  clear hts hr3e
  go_wp2_with fail
  refine H.out.mono ?_
  rintro e w3 ⟨u, rfl, hu3, hr3, hy3⟩
  rw [HTS.out] at hy3
  rw [HR3.out] at hr3
  obtain ⟨A1, c1, rfl, hy3, -, -⟩ := Byt.form hy3 rfl
  have hU3 := hU2.trans hu3 (by simp; omega)
  have hb3 := hb2.upd hu3 (by simp)
  have hm3 := hm2.upd hu3 (by simp)
  have g1 := hm3.cell 1
  have f1 := hm3.frozen 1
  simp at g1
  obtain ⟨w4, hw4⟩ : ∃ w4, w3.setCell ⟨s + 1, 1, none⟩ (.slice A1 ts.length c1) = w4 := ⟨_, rfl⟩
  have hu4 : Upd [s + 1] w3 w4 := by rw [← hw4]; exact (Upd.refl _ _).setCell (by simp) _
  have hm4 : Blk w4 (s + 1) 26 #[.bool has, .slice A1 ts.length c1, .slice none 0 0, .slice none 0 0] := by rw [← hw4]; exact hm3.set_ 1 _
  have hb4 := hb3.upd hu4 (by simp)
  have hr4 := hr3.upd hu4 (by simp) (by simp)
  have hU4 := hU3.trans hu4 (by simp; omega)
  have hy4 := Row.upd hy3 hu4 (by simp)
  have HW4 := hid hw4
  clear hw4 hm3 hb3 hr3 hU3 hu4 hy3 hU2 hb2 hm2 hr2 H hu3
  have hrl4 := hr4.lt
  go_upto_if 15 with fail
  rw [HW4.out]
  go_cut [] (fun wx => ∃ (A2 : Option Addr) (c2 : Nat) (sig : List UInt16) (r5 : R), rqW has data = (sig, r5) ∧ sig.length ≤ 65536 ∧ Blk wx (s + 1) 26 #[.bool has, .slice A1 ts.length c1, .slice A2 sig.length c2, .slice none 0 0] ∧ Own wx (s + 3) 85 (.slice A2 sig.length c2) (sig.map wv) ∧
    Blk wx s 26 #[.bool false, .slice none 0 0, .slice none 0 0, .slice none 0 0] ∧ Rd wx s (s + 2) r5 ∧ Byt wx s (.slice A1 ts.length c1) ts ∧ Upd [] w wx ∧ s + 3 ≤ wx.heap.size)
  case first =>
    cases has
    case false =>
      go_wp2_with fail
      go_meet
      refine ⟨none, 0, [], r3, ?_, by simp, hm4, Own.nil_ _ _ _, hb4, hr4, hy4, hU4, by omega⟩
      show ([], (rqB data).2) = _
      unfold rqB
      rw [HR3.out]
    case true =>
      have H := hid (vec_any hr4 2 2 65535 (by omega))
      have hvl := vec_len16 r3 2 2 65535 (by omega)
      obtain ⟨x5, hx5⟩ : ∃ x, (r3.vec 2 2 65535).1 = x := ⟨_, rfl⟩
      obtain ⟨r5, hr5⟩ : ∃ x, (r3.vec 2 2 65535).2 = x := ⟨_, rfl⟩
      have HX5 := hid hx5
      have HR5 := hid hr5
      rw [hx5] at hvl
      clear hx5 hr5
      go_wp2_with fail
      refine H.out.mono ?_
      rintro e w5 ⟨u, rfl, hu5, hr5, hy5⟩
      rw [HX5.out] at hy5
      rw [HR5.out] at hr5
      obtain ⟨A5, c5, rfl, hy5, -, -⟩ := Byt.form hy5 rfl
      have hU5 := hU4.trans hu5 (by simp; omega)
      have hb5 := hb4.upd hu5 (by simp)
      have hm5 := hm4.upd hu5 (by simp)
      have hyt5 := Row.upd hy4 hu5 (by simp)
      have hz5 : s + 3 ≤ w5.heap.size := by have := hu5.size; omega
      clear hU4 hb4 hm4 hy4 hr4 hu5 H HW4
      have H := hid (words_any hr5 hy5 (by omega))
      have hwl := words_lenR r5 x5
      obtain ⟨sig, hsig⟩ : ∃ x, (r5.words x5).1 = x := ⟨_, rfl⟩
      obtain ⟨r6, hr6⟩ : ∃ x, (r5.words x5).2 = x := ⟨_, rfl⟩
      have HSIG := hid hsig
      have HR6 := hid hr6
      rw [hsig] at hwl
      clear hsig hr6
      go_wp2_with fail
      refine H.out.mono ?_
      rintro e w6 ⟨u, rfl, ho6, hu6, hr6⟩
      rw [HSIG.out] at ho6
      rw [HR6.out] at hr6
      obtain ⟨A2, c2, rfl⟩ := ho6.formN (n := sig.length) (by simp)
      have hU6 := hU5.trans hu6 (by simp; omega)
      have hb6 := hb5.upd hu6 (by simp)
      have hm6 := hm5.upd hu6 (by simp)
      have hyt6 := Row.upd hyt5 hu6 (by simp)
      have g2 := hm6.cell 2
      have f2 := hm6.frozen 2
      simp at g2
      have hz6 : s + 3 ≤ w6.heap.size := by have := hu6.size; omega
      have hlo : ∀ g, (Value.slice A2 sig.length c2).ownBlock = some g → s + 3 ≤ g := fun g hg => by have := (ho6.ge hg).1; omega
      have hO : Own w6 (s + 3) 85 (.slice A2 sig.length c2) (sig.map wv) := by
        obtain ⟨k1, k2⟩ := ho6
        refine ⟨k1, ?_⟩
        rcases k2 with k2 | ⟨g, cap, cur, k3, k4, k5⟩
        · exact .inl k2
        · exact .inr ⟨g, cap, cur, k3, by omega, k5⟩
      clear hU5 hb5 hm5 hyt5 hr5 hy5 hu6 H ho6
      go_wp2_with fail
      go_meet
      have hus : Upd [s + 1] w6 (w6.setCell ⟨s + 1, 2, none⟩ (.slice A2 sig.length c2)) := (Upd.refl _ _).setCell (by simp) _
      refine ⟨A2, c2, sig, r6, ?_, by omega, hm6.set_ 2 _, hO.upd hus (fun g hg hk => by have := hlo g hg; simp at hk; omega), hb6.upd hus (by simp), hr6.upd hus (by simp) (by simp), Row.upd hyt6 hus (by simp), hU6.trans hus (by simp; omega), by simpa [World.setCell] using hz6⟩
      show (rqB data).2.wordsV 2 65535 = _
      unfold rqB R.wordsV
      rw [HR3.out, HX5.out, HR5.out, ← HSIG.out, ← HR6.out]
  obtain ⟨A2, c2, sig, r5, hW, hsl, hm5, ho5, hb5, hr5, hy5, hU5, hz5⟩ := hcut
  have HWW := hid hW
  clear hW hm4 hb4 hr4 hy4 hU4 HW4 hrl4
  -- the authorities
  have H := hid (vec_any hr5 2 0 65535 (by omega))
  have hvl := vec_len16 r5 2 0 65535 (by omega)
  obtain ⟨x6, hx6⟩ : ∃ x, (r5.vec 2 0 65535).1 = x := ⟨_, rfl⟩
  obtain ⟨r6, hr6e⟩ : ∃ x, (r5.vec 2 0 65535).2 = x := ⟨_, rfl⟩
  have HX6 := hid hx6
  have HR6 := hid hr6e
  rw [hx6] at hvl
  clear hx6 hr6e
  have hne5 : ∀ g, (Value.slice A2 sig.length c2).ownBlock = some g → s + 3 ≤ g := fun g hg => (ho5.ge hg).1
  go_wp2_with fail
  refine H.out.mono ?_
  rintro e w6 ⟨u, rfl, hu6, hr6, hy6⟩
  rw [HX6.out] at hy6
  rw [HR6.out] at hr6
  obtain ⟨A6, c6, rfl, hy6, -, -⟩ := Byt.form hy6 rfl
  have hU6 := hU5.trans hu6 (by simp; omega)
  have hb6 := hb5.upd hu6 (by simp)
  have hm6 := hm5.upd hu6 (by simp)
  have hyt6 := Row.upd hy5 hu6 (by simp)
  have ho6 := ho5.upd hu6 (fun g hg hk => by have := hne5 g hg; simp at hk; omega)
  have hz6 : s + 3 ≤ w6.heap.size := by have := hu6.size; omega
  clear hU5 hb5 hm5 hy5 hr5 ho5 hu6 H hz5
  have H := hid (vectors_any2 hr6 hy6 (by omega) 1)
  obtain ⟨cas, hcas⟩ : ∃ x, (r6.vectors x6 2 1).1 = x := ⟨_, rfl⟩
  obtain ⟨r7, hr7e⟩ : ∃ x, (r6.vectors x6 2 1).2 = x := ⟨_, rfl⟩
  have HCAS := hid hcas
  have HR7 := hid hr7e
  clear hcas hr7e
  go_wp2_with fail
  refine H.out.mono ?_
  rintro e w7 ⟨u, rfl, hl7, hu7, hr7⟩
  rw [HCAS.out] at hl7
  rw [HR7.out] at hr7
  obtain ⟨us, how7, hall7⟩ := hl7
  obtain ⟨A3, c3, rfl⟩ := how7.formN (n := cas.length) hall7.length
  have hU7 := hU6.trans hu7 (by simp; omega)
  have hb7 := hb6.upd hu7 (by simp)
  have hm7 := hm6.upd hu7 (by simp)
  have hyt7 := Row.upd hyt6 hu7 (by simp)
  have ho7 := ho6.upd hu7 (fun g hg hk => by have := hne5 g hg; simp at hk; omega)
  have hne7 : ∀ g, (Value.slice A3 cas.length c3).ownBlock = some g → s + 3 ≤ g := fun g hg => by have := (how7.ge hg).1; omega
  have g3 := hm7.cell 3
  have f3 := hm7.frozen 3
  simp at g3
  obtain ⟨w8, hw8⟩ : ∃ w8, w7.setCell ⟨s + 1, 3, none⟩ (.slice A3 cas.length c3) = w8 := ⟨_, rfl⟩
  have hu8 : Upd [s + 1] w7 w8 := by rw [← hw8]; exact (Upd.refl _ _).setCell (by simp) _
  have hm8 : Blk w8 (s + 1) 26 #[.bool has, .slice A1 ts.length c1, .slice A2 sig.length c2, .slice A3 cas.length c3] := by rw [← hw8]; exact hm7.set_ 3 _
  have hb8 := hb7.upd hu8 (by simp)
  have hr8 := hr7.upd hu8 (by simp) (by simp)
  have hU8 := hU7.trans hu8 (by simp; omega)
  have hyt8 := Row.upd hyt7 hu8 (by simp)
  have ho8 := ho7.upd hu8 (fun g hg hk => by have := hne5 g hg; simp at hk; omega)
  have how8 := how7.upd hu8 (fun g hg hk => by have := hne7 g hg; simp at hk; omega)
  have hall8 := hall7.imp fun _ _ hi => Row.upd hi hu8 (by simp)
  have HW8 := hid hw8
  clear hw8 hU7 hb7 hm7 hyt7 ho7 how7 hall7 hr7 hu8 hU6 hb6 hm6 hyt6 hr6 hy6 ho6 H hz6 hu7
  have H := hid (end_any hr8)
  go_wp2_with fail
  rw [HW8.out]
  refine H.out.mono ?_
  rintro e w9 ⟨rfl, hu9, hr9⟩
  have hb9 := hb8.upd hu9 (by simp)
  have hm9 := hm8.upd hu9 (by simp)
  have hU9 := hU8.trans hu9 (by simp; omega)
  have hyt9 := Row.upd hyt8 hu9 (by simp)
  have ho9 := ho8.upd hu9 (fun g hg hk => by have := hne5 g hg; simp at hk; omega)
  have how9 := how8.upd hu9 (fun g hg hk => by have := hne7 g hg; simp at hk; omega)
  have hall9 := hall8.imp fun _ _ hi => Row.upd hi hu9 (by simp)
  clear hU8 hb8 hm8 hyt8 ho8 how8 hall8 hr8 hu9 H
  have hfin : rqSpec has data = (⟨has, ts, sig, cas⟩, r7.fin) := by
    unfold rqSpec rqV
    rw [HWW.out]
    unfold rqB R.listsV
    rw [HTS.out, HX6.out, HR6.out, HCAS.out, HR7.out]
  have HFIN := hid hfin
  obtain ⟨Ar, cr, q0, q1, qf0, qf1, -, -⟩ := hr9.open_
  obtain ⟨k0, k1, k2, k3, -⟩ := rq_cells hm9
  obtain ⟨p0, p1, p2, p3, pf0, pf1, pf2, pf3⟩ := rq_cells hb9
  have hz : Blk ((((w9.setCell ⟨s, 0, none⟩ (.bool has)).setCell ⟨s, 1, none⟩ (.slice A1 ts.length c1)).setCell ⟨s, 2, none⟩ (.slice A2 sig.length c2)).setCell ⟨s, 3, none⟩ (.slice A3 cas.length c3)) s 26 #[.bool has, .slice A1 ts.length c1, .slice A2 sig.length c2, .slice A3 cas.length c3] := by have := (((hb9.set_ 0 (.bool has)).set_ 1 (.slice A1 ts.length c1)).set_ 2 (.slice A2 sig.length c2)).set_ 3 (.slice A3 cas.length c3); simpa using this
  have huf : Upd [s] w9 ((((w9.setCell ⟨s, 0, none⟩ (.bool has)).setCell ⟨s, 1, none⟩ (.slice A1 ts.length c1)).setCell ⟨s, 2, none⟩ (.slice A2 sig.length c2)).setCell ⟨s, 3, none⟩ (.slice A3 cas.length c3)).drew := ((((((Upd.refl [s] w9).setCell (.inl (by simp)) _).setCell (.inl (by simp)) _).setCell (.inl (by simp)) _).setCell (.inl (by simp)) _)).drew
  have HZ := hid hz
  have HF := hid huf
  have HV : Hid (RqV w9 w9.heap.size (.agg #[.bool has, .slice A1 ts.length c1, .slice A2 sig.length c2, .slice A3 cas.length c3]) ⟨has, ts, sig, cas⟩) := hid ⟨A1, c1, A2, c2, A3, c3, rfl, hyt9.shrink, ho9.row, ⟨us, how9.row, hall9.imp fun _ _ hi => Row.more hi (by have := hr9.lt; omega)⟩, by show sig.length ≤ _; omega⟩
  have HY := hid hyt9
  have HO := hid ho9
  have HOW := hid how9
  have HALL := hid hall9
  clear hz huf hfin hyt9 ho9 how9 hall9 HV
  go_wp2_with fail
  go_region_law (fail)
  all_goals go_wp2
  all_goals obtain ⟨z0, z1, z2, z3, -⟩ := rq_cells HZ.out
  all_goals
    refine bodyPost_ret (v := .tuple #[.agg #[.bool has, .slice A1 ts.length c1, .slice A2 sig.length c2, .slice A3 cas.length c3], .int .i64 (r7.fin.code : Int)]) (by simp [results, Try.results14, go_sem, z0, z1, z2, z3]) rfl ?_
    rw [HFIN.out]
    have hf := HF.out
    have o2 := HO.out.upd hf (fun g hg hk => by have := hne5 g hg; simp at hk; omega)
    have o3 := HOW.out.upd hf (fun g hg hk => by have := hne7 g hg; simp at hk; omega)
    refine ⟨_, rfl, ⟨A1, c1, A2, c2, A3, c3, rfl, (Row.upd HY.out hf (by simp)).shrink, o2.row, ⟨us, o3.row, HALL.out.imp fun _ _ hi => (Row.upd hi hf (by simp)).shrink⟩, by show sig.length ≤ _; omega⟩, hU9.trans hf (by simp; omega)⟩
end
end Go.Proofs.Ytddkjhlngofkaaa

/- The law EncryptedExtensionsRead: it answers true for every argument; nothing of what was there is changed. -/
import Derived.Test.YtcdjbciifnoajaaEeL
namespace Go.Proofs.Ytcdjbciifnoajaa
open Go.ChangeShapes Go.WideShapes Go.ChangeAt Go.RowKit
set_option maxRecDepth 100000
section
variable {w w' : World} {B C : Nat} {v content : Value} {xs data : List UInt8} {e : Ending} {t : Ee} {more : List (List UInt8)}
set_option maxHeartbeats 4000000 in
theorem law_EncryptedExtensionsRead (hv : EeV w B v t) (n : Int) (wn : (Lit.int .i64 n).wf = true) {v2 : Value} (hm : Lst w C v2 more) : Calls Try.prog 8 #[v, .int .i64 n, v2] w (LawP w) := by
  obtain ⟨cs, rfl, -⟩ := EeV.ok.agg hv
  have hb0 := EeV.ok.box hv
  obtain ⟨w0, hw0⟩ : ∃ w0, w.alloc (.cells cs 44) = w0 := ⟨_, rfl⟩
  obtain ⟨g, hg⟩ : ∃ g, w.heap.size = g := ⟨_, rfl⟩
  have hU0 : Upd [] w w0 := by rw [← hw0]; exact (Upd.refl _ _).alloc _
  rw [hw0, hg] at hb0
  obtain ⟨A9, c9, rfl, hm, -, -⟩ := hm.shrink.form
  have hm0 := hm.upd hU0 (by simp)
  have HW := hid hw0
  have HG := hid hg
  clear hw0 hg hv
  go_enter Try.func8, Try.ntmps8
  go_upto_region 1 with fail
  rw [HW.out, HG.out]
  go_wp2_with (refine wpList_load_vb EeV.ok hb0 _ rfl rfl rfl ?_)
  refine (zzFits_Ee hb0.2).mono ?_
  rintro e w1 ⟨b, rfl, hu1, hz⟩
  cases b
  case false =>
    go_wp2
    go_ret
    exact ⟨rfl, hU0.trans hu1 (by simp)⟩
  replace hz := hz rfl
  have hb1 := VB.upd EeV.ok hb0 hu1
  have hU1 := hU0.trans hu1 (by simp)
  have hm1 := hm0.upd hu1 (by simp)
  have HF2 := hid (zzFits2_any hm1)
  clear hb0 hU0 hu1 hm hm0
  go_wp2_with fail
  refine HF2.out.mono ?_
  rintro e w1' ⟨b, rfl, hu1, hzm⟩
  cases b
  case false =>
    go_wp2
    go_ret
    exact ⟨rfl, hU1.trans hu1 (by simp)⟩
  obtain ⟨-, z3⟩ := hzm rfl
  have Z3 := hid z3
  replace hb1 := VB.upd EeV.ok hb1 hu1
  replace hU1 := hU1.trans hu1 (by simp)
  replace hm1 := hm1.upd hu1 (by simp)
  clear HF2 hzm hu1 z3
  go_wp2_with (refine wpList_load_vb EeV.ok hb1 _ rfl rfl rfl ?_)
  have hr0 := Right_Ee (w := w1') hb1.2
  rcases bcase (eeRight t) with hr | hr
  rotate_left
  · rw [hr] at hr0
    refine hr0.mono ?_
    rintro e w2 ⟨rfl, hu2⟩
    go_wp2
    go_ret
    exact ⟨rfl, hU1.trans hu2 (by simp)⟩
  rw [hr] at hr0
  have HZ := hid hz
  have HR := hid hr
  clear hz hr
  by_cases hn : n < 0
  · have dn : decide (n < 0) = true := decide_eq_true hn
    clear hn
    refine hr0.mono ?_
    rintro e w2 ⟨rfl, hu2⟩
    go_wp2
    go_ret
    exact ⟨rfl, hU1.trans hu2 (by simp)⟩
  have dn : decide (n < 0) = false := decide_eq_false hn
  obtain ⟨f, rfl⟩ : ∃ f : Nat, n = (f : Int) := ⟨n.toNat, by omega⟩
  have hf : f ≤ 9223372036854775807 := by have := bounds_i64 wn; omega
  have HFB := hid hf
  clear hn wn hf
  by_cases hml : 8 < more.length
  · have dm : decide ((8 : Int) < (more.length : Int)) = true := decide_eq_true (by omega)
    clear hml
    refine hr0.mono ?_
    rintro e w2 ⟨rfl, hu2⟩
    go_wp2
    go_ret
    exact ⟨rfl, hU1.trans hu2 (by simp)⟩
  have dm : decide ((8 : Int) < (more.length : Int)) = false := decide_eq_false (by omega)
  have HML := hid hml
  clear hml
  refine hr0.mono ?_
  rintro e w2 ⟨rfl, hu2⟩
  have hb2 := VB.upd EeV.ok hb1 hu2
  have hU2 := hU1.trans hu2 (by simp)
  have hm2 := hm1.upd hu2 (by simp)
  clear hm1 hb1 hU1 hu2 hr0
  obtain ⟨q2, hq2⟩ : ∃ q, (!(eeExtL t).bad) = q := ⟨_, rfl⟩
  have HQ2 := hid hq2
  clear hq2
  go_wp2_with (refine wpList_load_vb EeV.ok hb2 _ rfl rfl rfl ?_)
  refine (Exts_Ee hb2.2 HZ.out).mono ?_
  rintro e w3 ⟨v3, rfl, hE3, hu3⟩
  rw [HQ2.out]
  obtain ⟨A3, c3, rfl, hE3, -, -⟩ := hE3.form
  have hb3 := VB.upd EeV.ok hb2 hu3
  have hU3 := hU2.trans hu3 (by simp)
  have hm3 := hm2.upd hu3 (by simp)
  clear hm2 hb2 hU2 hu3
  obtain ⟨q1, hq1⟩ : ∃ q, (!(messageW 8 (exsW (ordered (eeExtL t).l f more))).bad) = q := ⟨_, rfl⟩
  have HQ1 := hid hq1
  clear hq1
  have hol := eeExts_size t HZ.out
  have hoe : (eeExtL t).l.length ≤ 1000 := by
    have h1 := exsB_size (eeExtL t).l
    exact eeE_few t
  have HO := hid (Ordered_any hE3 f HFB.out hm3 hoe (by have := HML.out; omega))
  have hos := ordered_size (eeExtL t).l f (more := more) (by have := HML.out; omega) Z3.out
  have HOS := hid (show (exsB (ordered (eeExtL t).l f more)).length ≤ 1000000000000 by omega)
  have HL0 := hid (ordered_lists (E := (eeExtL t).l) (eeE_nodup t) (eeE_low t) f more (by have := HML.out; omega))
  clear hos hol hoe hE3
  generalize ordered (eeExtL t).l f more = OL at HO HOS HQ1 HL0
  go_wp2_with fail
  refine HO.out.mono ?_
  rintro e w3' ⟨v3', rfl, hE3', hu3'⟩
  have hE3 := hE3'.exr
  obtain ⟨A3', c3', rfl, hE3, -, -⟩ := hE3.form
  replace hb3 := VB.upd EeV.ok hb3 hu3'
  replace hU3 := hU3.trans hu3' (by simp)
  clear hu3' HO hE3' hm3
  go_wp2_with fail
  refine (Write_Ee hE3 HOS.out).mono ?_
  rintro e w4 ⟨v4, rfl, hy4, -, ⟨A4, n4, c4, rfl⟩, hu4⟩
  rw [HQ1.out]
  have hb4 := VB.upd EeV.ok hb3 hu4
  have hU4 := hU3.trans hu4 (by simp)
  rw [eeW_b] at hy4
  clear hb3 hU3 hu4 hE3
  cases q2
  case false =>
    go_wp2
    go_ret
    exact ⟨rfl, hU4⟩
  cases q1
  case false =>
    go_wp2
    go_ret
    exact ⟨rfl, hU4⟩
  have hs := ee_read t (eeRight_iff HR.out) (by simpa using HQ2.out) (L := OL) (by simpa using HQ1.out) HL0.out
  have hr := un_Ee hy4
  rw [hs] at hr
  have HUN := hid hr
  have hU5 := hU4
  have hb5 := hb4
  clear hs hr hy4 hb4 hU4
  go_wp2_with fail
  refine HUN.out.mono ?_
  rintro e w6 ⟨v6, rfl, hv6, hu6⟩
  obtain ⟨cs6, rfl, -⟩ := EeV.ok.agg hv6
  have HZ6 := hid (EeV.size hv6)
  go_wp2_with (first
    | (refine wpList_store_vb EeV.ok (Blk.new _ _ _) (EeV.ok.upd hv6 ((Upd.refl [] _).alloc _) (by simp)) (Nat.le_refl _) HZ6.out rfl _ _ rfl rfl rfl ?_; intro w7 hb7 hu7 hs7; have hU57 : Upd [] w4 w7 := hu6.trans (((Upd.refl [] _).alloc _).trans hu7 (by simp)) (by simp); have hb5' := VB.upd EeV.ok hb5 hU57; have hU7 := hU5.trans hU57 (by simp))
    | (refine wpList_load_vb EeV.ok hb7 _ rfl rfl rfl ?_)
    | (refine wpList_load_vb EeV.ok hb5' _ rfl rfl rfl ?_))
  refine (SameEe_eq (w := w7) hb7.2 hb5'.2).mono ?_
  rintro e w8 ⟨rfl, hu8⟩
  go_wp2
  go_ret
  exact ⟨rfl, hU7.trans hu8 (by simp)⟩
end
set_option maxRecDepth 100000 in
theorem lifted_EncryptedExtensionsRead (os : Os) (started : os.Started) (H : Type) (enc : TypeId × Value → H) :
    ReturnsInHanded {} Try.checked os 8 .any (Rows.fnEncryptedExtensionsReadSpec.pre6 enc Try.prog Try.f8 Rows.fnEncryptedExtensionsReadRow.domain false) (Rows.fnEncryptedExtensionsReadSpec.post enc Try.prog Try.f8 false true false false) := by
  refine returnsInHanded_of_change (C := Try.checked) own started (by kernel_rfl) Try.func8
    (ChangeSpec.witness6 (enc := enc) (C := Try.checked) false ⟨#[], #[.agg #[.string ⟨#[]⟩, .bool false, .slice none 0 0, .bool false, .slice none 0 0, .bool false], .int .i64 0, .slice none 0 0], []⟩ 8 (by kernel_rfl) (by kernel_rfl) (by kernel_rfl) (by kernel_rfl)) ?_
  intro W base args ds gs before hval0 hW hcnd _
  have hval : ∀ (j : Nat) t v, Try.f8.params[j]? = some t → args[j]? = some v → Value.okWide Try.prog W .any base t v := hval0
  have hW' := hW
  obtain ⟨p, q, hA0, hV, rfl, hfz, hnd⟩ := hW
  have hA : DataW.TrodAll enc Try.prog W 0 (fun _ => true) true Try.f8.params.toList args.toList ds p := hA0
  rw [Try.params8] at hA hval
  obtain ⟨v0, vs0, d0, ds0, p0, q0, hargs, rfl, rfl, h0, r0⟩ := trodAll_cons hA
  obtain ⟨v1, vs1, d1, ds1, p1, q1, rfl, rfl, rfl, h1, r1⟩ := trodAll_cons r0
  obtain ⟨v2, vs2, d2, ds2, p2, q2, rfl, rfl, rfl, h2, r2⟩ := trodAll_cons r1
  obtain ⟨rfl, rfl, rfl⟩ := trodAll_nil r2
  obtain rfl : args = #[v0, v1, v2] := by cases args; simp_all
  obtain ⟨m, y0⟩ := open_ee (hval 0 44 _ rfl rfl) h0
  obtain ⟨first, rfl, rfl, rfl, w1⟩ := open_int Try.underlying3 (hval 1 3 _ rfl rfl) h1
  obtain ⟨more, y2⟩ := open_lists (hval 2 26 _ rfl rfl) h2
  exact (law_EncryptedExtensionsRead y0 first w1 y2).mono fun e W' h => law_post hW' rfl rfl (by kernel_rfl) (by kernel_rfl) h
theorem EncryptedExtensionsRead_holds : Rows.FnEncryptedExtensionsReadSaid :=
  OpenClaim.holds_of_wide 8 Try.f8 rfl rfl rfl rfl rfl rfl rfl ⟨rfl, rfl, rfl, rfl, rfl⟩ rfl rfl rfl rfl rfl (by kernel_rfl) Try.func8 (by kernel_rfl)
    (of_decide_eq_true (by kernel_rfl)) (by unfold Func.isWrapper; first | (rw [if_pos (by decide +kernel)]; kernel_rfl) | (rw [if_neg (by decide +kernel)]; exact ⟨rfl, rfl⟩))
    (fun os started H enc _ => lifted_EncryptedExtensionsRead os started H enc)

end Go.Proofs.Ytcdjbciifnoajaa

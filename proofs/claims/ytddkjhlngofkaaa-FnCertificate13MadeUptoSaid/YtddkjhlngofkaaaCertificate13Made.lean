/- The law Certificate13Made, where the argument is of bulk at most 1048576: it answers true; nothing of what was there is changed. -/
import Derived.Test.YtddkjhlngofkaaaCtL
import Derived.Test.YtddkjhlngofkaaaCtR
import Derived.Test.YtddkjhlngofkaaaCtI
namespace Go.Proofs.Ytddkjhlngofkaaa
open Go.ChangeShapes Go.WideShapes Go.ChangeAt Go.RowKit
set_option maxRecDepth 100000
section
variable {w w' : World} {B C : Nat} {v content : Value} {xs data : List UInt8} {e : Ending} {t : Ct} {more : List (List UInt8)}
set_option maxHeartbeats 4000000 in
theorem law_Certificate13Made (hv : CtV w B v t) (hk : CtBulk t) : Calls Try.prog 12 #[v] w (LawP w) := by
  obtain ⟨cs, rfl, -⟩ := CtV.ok.agg hv
  have hb0 := CtV.ok.box hv
  obtain ⟨w0, hw0⟩ : ∃ w0, w.alloc (.cells cs 53) = w0 := ⟨_, rfl⟩
  obtain ⟨g, hg⟩ : ∃ g, w.heap.size = g := ⟨_, rfl⟩
  have hU0 : Upd [] w w0 := by rw [← hw0]; exact (Upd.refl _ _).alloc _
  rw [hw0, hg] at hb0
  have HW := hid hw0
  have HG := hid hg
  clear hw0 hg hv
  go_enter Try.func12, Try.ntmps12
  go_upto_region 1 with fail
  rw [HW.out, HG.out]
  go_wp2_with (refine wpList_load_vb CtV.ok hb0 _ rfl rfl rfl ?_)
  refine (zzFits_Ct hb0.2 hk).mono ?_
  rintro e w1 ⟨b, rfl, hu1, hz⟩
  cases b
  case false =>
    go_wp2
    go_ret
    exact ⟨rfl, hU0.trans hu1 (by simp)⟩
  replace hz := hz rfl
  have hb1 := VB.upd CtV.ok hb0 hu1
  have hU1 := hU0.trans hu1 (by simp)
  clear hb0 hU0 hu1
  go_wp2_with (refine wpList_load_vb CtV.ok hb1 _ rfl rfl rfl ?_)
  have hr0 := Right_Ct (w := w1) hb1.2
  rcases bcase (ctRight t) with hr | hr
  rotate_left
  · rw [hr] at hr0
    refine hr0.mono ?_
    rintro e w2 ⟨rfl, hu2⟩
    go_wp2
    go_ret
    exact ⟨rfl, hU1.trans hu2 (by simp)⟩
  rw [hr] at hr0
  have HZ := hid hz
  have HR := hid hr
  clear hz hr
  refine hr0.mono ?_
  rintro e w2 ⟨rfl, hu2⟩
  have hb2 := VB.upd CtV.ok hb1 hu2
  have hU2 := hU1.trans hu2 (by simp)
  clear hb1 hU1 hu2 hr0
  obtain ⟨q1, hq1⟩ : ∃ q, ctFits t [] = q := ⟨_, rfl⟩
  have hwz : CtWz t [] := ctWz HZ.out (Nat.le_refl _) (by simp [exsB]) (by simp)
  go_wp2_with (refine wpList_load_vb CtV.ok hb2 _ rfl rfl rfl ?_)
  refine (Write_Ct hb2.2 (Exr.nil_ _ 0 0) hwz).mono ?_
  rintro e w3 ⟨v3, rfl, -, -, ⟨A3, n3, c3, rfl⟩, hu3⟩
  rw [show (!(messageW 11 (ctW t [])).bad) = q1 from hq1]
  have hb3 := VB.upd CtV.ok hb2 hu3
  have hU3 := hU2.trans hu3 (by simp)
  have hm := Mar_Ct (w := w3) hb3.2 HR.out HZ.out
  rw [ctMake_eq, hq1] at hm
  have HQ1 := hid hq1
  clear hb2 hU2 hu3 hwz hq1
  cases q1
  case false =>
    rw [if_neg (by simp)] at hm
    go_wp2_with (refine wpList_load_vb CtV.ok hb3 _ rfl rfl rfl ?_)
    refine hm.mono ?_
    rintro e w5 ⟨hu5, rfl⟩
    go_wp2
    go_ret
    exact ⟨rfl, hU3.trans hu5 (by simp)⟩
  rw [if_pos rfl, ctW_b] at hm
  have hok := ctRight_iff HR.out
  have HS1 := hid (ct_made t hok HQ1.out)
  have HS2 := hid (ct_read t [] hok (fun e he => by cases he) HQ1.out)
  clear hok
  go_wp2_with (refine wpList_load_vb CtV.ok hb3 _ rfl rfl rfl ?_)
  refine hm.mono ?_
  rintro e w5 ⟨hu5, u, rfl, hyb, -, A5, n5, c5, rfl⟩
  have hr := rf_Ct hyb
  rw [HS1.out] at hr
  have HRD := hid hr
  have HUN := hid (fun (wx : World) (hu : Upd [] w5 wx) => (show Calls Try.prog 32 #[.slice A5 n5 c5] wx (UnG CtV wx Ct.zero (some t)) by
    have h := un_Ct (Row.upd hyb hu (by simp))
    rwa [HS2.out] at h))
  have hb5 := VB.upd CtV.ok hb3 hu5
  have hU5 := hU3.trans hu5 (by simp)
  clear hr hyb hm hb3 hU3 hu5
  go_wp2_with fail
  refine HRD.out.mono ?_
  rintro e w6 ⟨v6, rfl, hv6, hu6⟩
  obtain ⟨cs6, rfl, -⟩ := CtV.ok.agg hv6
  have HZ6 := hid (CtV.size hv6)
  go_wp2_with (refine wpList_store_vb CtV.ok (Blk.new _ _ _) (CtV.ok.upd hv6 ((Upd.refl [] _).alloc _) (by simp)) (Nat.le_refl _) HZ6.out rfl _ _ rfl rfl rfl ?_; intro w7 hb7 hu7 hs7)
  have hU57 : Upd [] w5 w7 := hu6.trans (((Upd.refl [] _).alloc _).trans hu7 (by simp)) (by simp)
  have hb5' := VB.upd CtV.ok hb5 hU57
  have hU7 := hU5.trans hU57 (by simp)
  obtain ⟨g6, hg6⟩ : ∃ g, w6.heap.size = g := ⟨_, rfl⟩
  rw [hg6] at hb7 ⊢
  have hun := HUN.out w7 hU57
  clear hg6 hu6 hu7 hs7 hv6 HZ6
  refine hun.mono ?_
  rintro e w8 ⟨v8, rfl, hv8, hu8⟩
  obtain ⟨cs8, rfl, -⟩ := CtV.ok.agg hv8
  have HZ8 := hid (CtV.size hv8)
  go_wp2_with (first
    | (refine wpList_store_vb CtV.ok (Blk.new _ _ _) (CtV.ok.upd hv8 ((Upd.refl [] _).alloc _) (by simp)) (Nat.le_refl _) HZ8.out rfl _ _ rfl rfl rfl ?_; intro w9 hb9 hu9 hs9; have hU79 : Upd [] w7 w9 := hu8.trans (((Upd.refl [] _).alloc _).trans hu9 (by simp)) (by simp); have hb5d := VB.upd CtV.ok hb5' hU79; have hb7' := VB.upd CtV.ok hb7 hU79; have hU9 := hU7.trans hU79 (by simp))
    | (refine wpList_load_vb CtV.ok hb7' _ rfl rfl rfl ?_)
    | (refine wpList_load_vb CtV.ok hb5d _ rfl rfl rfl ?_))
  obtain ⟨g8, hg8⟩ : ∃ g, w8.heap.size = g := ⟨_, rfl⟩
  rw [hg8] at hb9 ⊢
  refine (SameCt_eq (w := w9) hb7'.2 hb5d.2).mono ?_
  rintro e w10 ⟨rfl, hu10⟩
  have hb9' := VB.upd CtV.ok hb9 hu10
  have hb5t := VB.upd CtV.ok hb5d hu10
  clear hg8 hu8 hu9 hs9 hv8 HZ8 hb7' hb9 hb5d hb5' hb7
  go_wp2_with (first
    | (refine wpList_load_vb CtV.ok hb9' _ rfl rfl rfl ?_)
    | (refine wpList_load_vb CtV.ok hb5t _ rfl rfl rfl ?_))
  refine (SameCt_eq (w := w10) hb9'.2 hb5t.2).mono ?_
  rintro e w11 ⟨rfl, hu11⟩
  go_wp2
  go_ret
  exact ⟨rfl, (hU9.trans hu10 (by simp)).trans hu11 (by simp)⟩
end
set_option maxRecDepth 100000 in
theorem lifted_Certificate13Made (os : Os) (started : os.Started) (H : Type) (enc : TypeId × Value → H) (F : Stop.Interp) :
    ReturnsInHanded {} Try.checked os 12 .any ((Rows.OpenSpec.upto Rows.fnCertificate13MadeSpec).pre6 enc Try.prog Try.f12 Rows.fnCertificate13MadeUptoRow.domain false) (((Rows.OpenSpec.upto Rows.fnCertificate13MadeSpec).at F).post enc Try.prog Try.f12 false true false false) := by
  refine returnsInHanded_of_cond (C := Try.checked) (s := Rows.OpenSpec.upto Rows.fnCertificate13MadeSpec) (k := Rows.uptoSmall) rfl own started (by kernel_rfl) Try.func12
    (OpenSpec.witness (enc := enc) (C := Try.checked) (s := Rows.OpenSpec.upto Rows.fnCertificate13MadeSpec) (k := Rows.uptoSmall) rfl false ⟨#[], #[.agg #[.slice none 0 0, .bool false, .bool false, .slice none 0 0, .slice none 0 0]], []⟩ 8 (by kernel_rfl) (by kernel_rfl) (by kernel_rfl) (x := ([.agg [.nil, .lit (.bool false), .lit (.bool false), .nil, .nil]], [], [])) (by kernel_rfl) rfl (by kernel_rfl)) ?_
  intro W base args ds gs before hval0 hW hcnd hk0 _
  have hval : ∀ (j : Nat) t v, Try.f12.params[j]? = some t → args[j]? = some v → Value.okWide Try.prog W .any base t v := hval0
  have hW' := hW
  obtain ⟨p, q, hA0, hV, rfl, hfz, hnd⟩ := hW
  obtain ⟨rfl, rfl⟩ := trodVars_none hV
  rw [List.append_nil] at hk0
  have hk := uptoSmall_le hk0
  have hA : DataW.TrodAll enc Try.prog W 0 (fun _ => true) true Try.f12.params.toList args.toList ds p := hA0
  rw [Try.params12] at hA hval
  obtain ⟨v0, vs0, d0, ds0, p0, q0, hargs, rfl, rfl, h0, r0⟩ := trodAll_cons hA
  obtain ⟨rfl, rfl, rfl⟩ := trodAll_nil r0
  obtain rfl : args = #[v0] := by cases args; simp_all
  have b0 : Rows.uptoBulk d0 ≤ 1048576 := Nat.le_trans (bulk_part (by simp)) hk
  obtain ⟨m, y0, z0⟩ := open_ct (hval 0 53 _ rfl rfl) h0 b0
  exact (law_Certificate13Made y0 z0).mono fun e W' h => law_post hW' rfl rfl (by kernel_rfl) (by kernel_rfl) h
theorem Certificate13Made_holds : Rows.FnCertificate13MadeUptoSaid :=
  OpenClaim.holds_of_cond 12 Try.f12 rfl rfl rfl rfl rfl rfl rfl ⟨rfl, rfl, rfl, rfl, rfl⟩ rfl rfl rfl rfl rfl (by kernel_rfl) Try.func12 (by kernel_rfl)
    (of_decide_eq_true (by kernel_rfl)) (by unfold Func.isWrapper; first | (rw [if_pos (by decide +kernel)]; kernel_rfl) | (rw [if_neg (by decide +kernel)]; exact ⟨rfl, rfl⟩))
    (fun os started H enc _ F => lifted_Certificate13Made os started H enc F)

end Go.Proofs.Ytddkjhlngofkaaa

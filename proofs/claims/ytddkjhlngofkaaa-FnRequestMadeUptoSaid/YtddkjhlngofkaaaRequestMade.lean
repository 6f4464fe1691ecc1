/- The law RequestMade, where the argument is of bulk at most 1048576: it answers true; nothing of what was there is changed. -/
import Derived.Test.YtddkjhlngofkaaaRqM2
import Derived.Test.YtddkjhlngofkaaaRqL
import Derived.Test.YtddkjhlngofkaaaRqI
namespace Go.Proofs.Ytddkjhlngofkaaa
open Go.ChangeShapes Go.WideShapes Go.ChangeAt Go.RowKit
set_option maxRecDepth 100000
section
variable {w w' : World} {B C : Nat} {v content : Value} {xs data : List UInt8} {e : Ending} {t : Rq} {more : List (List UInt8)}
set_option maxHeartbeats 4000000 in
theorem law_RequestMade (hv : RqV w B v t) (hk : RqBulk t) : Calls Try.prog 13 #[v] w (LawP w) := by
  obtain ⟨cs, rfl, -⟩ := RqV.ok.agg hv
  have hb0 := RqV.ok.box hv
  obtain ⟨w0, hw0⟩ : ∃ w0, w.alloc (.cells cs 26) = w0 := ⟨_, rfl⟩
  obtain ⟨g, hg⟩ : ∃ g, w.heap.size = g := ⟨_, rfl⟩
  have hU0 : Upd [] w w0 := by rw [← hw0]; exact (Upd.refl _ _).alloc _
  rw [hw0, hg] at hb0
  have HW := hid hw0
  have HG := hid hg
  clear hw0 hg hv
  go_enter Try.func13, Try.ntmps13
  go_upto_region 1 with fail
  rw [HW.out, HG.out]
  go_wp2_with (refine wpList_load_vb RqV.ok hb0 _ rfl rfl rfl ?_)
  refine (zzFits_Rq hb0.2 hk).mono ?_
  rintro e w1 ⟨b, rfl, hu1, hz⟩
  cases b
  case false =>
    go_wp2
    go_ret
    exact ⟨rfl, hU0.trans hu1 (by simp)⟩
  replace hz := hz rfl
  have hb1 := VB.upd RqV.ok hb0 hu1
  have hU1 := hU0.trans hu1 (by simp)
  clear hb0 hU0 hu1
  go_wp2_with (refine wpList_load_vb RqV.ok hb1 _ rfl rfl rfl ?_)
  have hr0 := Right_Rq (w := w1) hb1.2
  rcases bcase (rqRight t) with hr | hr
  rotate_left
  · rw [hr] at hr0
    refine hr0.mono ?_
    rintro e w2 ⟨rfl, hu2⟩
    go_wp2
    go_ret
    exact ⟨rfl, hU1.trans hu2 (by simp)⟩
  rw [hr] at hr0
  have HZ := hid hz
  have HR := hid hr
  clear hz hr
  refine hr0.mono ?_
  rintro e w2 ⟨rfl, hu2⟩
  have hb2 := VB.upd RqV.ok hb1 hu2
  have hU2 := hU1.trans hu2 (by simp)
  clear hb1 hU1 hu2 hr0
  go_wp2_with (refine wpList_load_vb RqV.ok hb2 _ rfl rfl rfl ?_)
  refine (Write_Rq hb2.2 HZ.out).mono ?_
  rintro e w3 ⟨v3, rfl, hy3, -, ⟨A3, n3, c3, rfl⟩, hu3⟩
  have hb3 := VB.upd RqV.ok hb2 hu3
  have hU3 := hU2.trans hu3 (by simp)
  rcases bcase (messageW 13 (rqWr t)).bad with hbad | hbad
  · rw [hbad]
    go_wp2_with fail
    refine (alive_any (w := w3)).mono ?_
    rintro e w4 ⟨rfl, hu4⟩
    go_wp2
    go_ret
    exact ⟨rfl, hU3.trans hu4 (by simp)⟩
  rw [hbad]
  rw [rqMsg_b] at hy3
  have hsm := rq_small hbad
  have hbk := rq_back (rqRight_iff HR.out) hsm
  have hlm : (rqMsg t).length ≤ 2147483647 := by
    have h := rqBd_len hsm
    unfold rqMsg
    rw [msgB_len]
    omega
  have HSM := hid hsm
  have HBK := hid hbk
  have HY3 := hid hy3
  have HLM := hid hlm
  clear hbad hsm hbk hy3 hlm hu3 hb2 hU2
  go_wp2_with (refine wpList_load_vb RqV.ok hb3 _ rfl rfl rfl ?_)
  refine (impl_MarshalRq hb3.2 HSM.out).mono ?_
  rintro e w4 ⟨v4, rfl, hy4, hu4⟩
  obtain ⟨A4, c4, rfl, hy4, -, -⟩ := Byt.form hy4 rfl
  have hb4 := VB.upd RqV.ok hb3 hu4
  have hU4 := hU3.trans hu4 (by simp)
  have hrr := un_Rq t.has hy4 HLM.out
  rw [HBK.out] at hrr
  have HUN := hid hrr
  have HY4 := hid hy4
  have HY34 := hid (Row.upd HY3.out hu4 (by simp))
  have hc0 : w4.cell? ⟨g, 0, none⟩ = some (.bool t.has) := by
    rw [hb4.1.cell 0]
    obtain ⟨_, _, _, _, _, _, he, -⟩ := hb4.2
    injection he with he
    rw [he]; rfl
  clear hrr hy4 hb3 hU3 hu4 HSM HBK HY3
  go_wp2_with fail
  refine HUN.out.mono ?_
  rintro e w6 ⟨v6, rfl, hv6, hu6⟩
  obtain ⟨cs6, rfl, -⟩ := RqV.ok.agg hv6
  have HZ6 := hid (RqV.size hv6)
  have HS := hid (fun (wx : World) (hu : Upd [] w4 wx) => Same_any (Row.upd HY4.out hu (by simp)) (Row.upd HY34.out hu (by simp)))
  go_wp2_with (refine wpList_store_vb RqV.ok (Blk.new _ _ _) (RqV.ok.upd hv6 ((Upd.refl [] _).alloc _) (by simp)) (Nat.le_refl _) HZ6.out rfl _ _ rfl rfl rfl ?_; intro w7 hb7 hu7 hs7)
  have hU57 : Upd [] w4 w7 := hu6.trans (((Upd.refl [] _).alloc _).trans hu7 (by simp)) (by simp)
  have hb5' := VB.upd RqV.ok hb4 hU57
  have hU7 := hU4.trans hU57 (by simp)
  have h4 := HS.out w7 hU57
  rw [beq_self_eq_true] at h4
  refine h4.mono ?_
  rintro e w8 ⟨rfl, rfl⟩
  go_wp2_with (first
    | (refine wpList_load_vb RqV.ok hb7 _ rfl rfl rfl ?_)
    | (refine wpList_load_vb RqV.ok hb5' _ rfl rfl rfl ?_))
  refine (SameRq_eq (w := w7) hb7.2 hb5'.2).mono ?_
  rintro e w9 ⟨rfl, hu9⟩
  go_wp2
  go_ret
  exact ⟨rfl, hU7.trans hu9 (by simp)⟩
end
set_option maxRecDepth 100000 in
theorem lifted_RequestMade (os : Os) (started : os.Started) (H : Type) (enc : TypeId × Value → H) (F : Stop.Interp) :
    ReturnsInHanded {} Try.checked os 13 .any ((Rows.OpenSpec.upto Rows.fnRequestMadeSpec).pre6 enc Try.prog Try.f13 Rows.fnRequestMadeUptoRow.domain false) (((Rows.OpenSpec.upto Rows.fnRequestMadeSpec).at F).post enc Try.prog Try.f13 false true false false) := by
  refine returnsInHanded_of_cond (C := Try.checked) (s := Rows.OpenSpec.upto Rows.fnRequestMadeSpec) (k := Rows.uptoSmall) rfl own started (by kernel_rfl) Try.func13
    (OpenSpec.witness (enc := enc) (C := Try.checked) (s := Rows.OpenSpec.upto Rows.fnRequestMadeSpec) (k := Rows.uptoSmall) rfl false ⟨#[], #[.agg #[.bool false, .slice none 0 0, .slice none 0 0, .slice none 0 0]], []⟩ 8 (by kernel_rfl) (by kernel_rfl) (by kernel_rfl) (x := ([.agg [.lit (.bool false), .nil, .nil, .nil]], [], [])) (by kernel_rfl) rfl (by kernel_rfl)) ?_
  intro W base args ds gs before hval0 hW hcnd hk0 _
  have hval : ∀ (j : Nat) t v, Try.f13.params[j]? = some t → args[j]? = some v → Value.okWide Try.prog W .any base t v := hval0
  have hW' := hW
  obtain ⟨p, q, hA0, hV, rfl, hfz, hnd⟩ := hW
  obtain ⟨rfl, rfl⟩ := trodVars_none hV
  rw [List.append_nil] at hk0
  have hk := uptoSmall_le hk0
  have hA : DataW.TrodAll enc Try.prog W 0 (fun _ => true) true Try.f13.params.toList args.toList ds p := hA0
  rw [Try.params13] at hA hval
  obtain ⟨v0, vs0, d0, ds0, p0, q0, hargs, rfl, rfl, h0, r0⟩ := trodAll_cons hA
  obtain ⟨rfl, rfl, rfl⟩ := trodAll_nil r0
  obtain rfl : args = #[v0] := by cases args; simp_all
  have b0 : Rows.uptoBulk d0 ≤ 1048576 := Nat.le_trans (bulk_part (by simp)) hk
  obtain ⟨m, y0, z0⟩ := open_rq (hval 0 26 _ rfl rfl) h0 b0
  exact (law_RequestMade y0 z0).mono fun e W' h => law_post hW' rfl rfl (by kernel_rfl) (by kernel_rfl) h
theorem RequestMade_holds : Rows.FnRequestMadeUptoSaid :=
  OpenClaim.holds_of_cond 13 Try.f13 rfl rfl rfl rfl rfl rfl rfl ⟨rfl, rfl, rfl, rfl, rfl⟩ rfl rfl rfl rfl rfl (by kernel_rfl) Try.func13 (by kernel_rfl)
    (of_decide_eq_true (by kernel_rfl)) (by unfold Func.isWrapper; first | (rw [if_pos (by decide +kernel)]; kernel_rfl) | (rw [if_neg (by decide +kernel)]; exact ⟨rfl, rfl⟩))
    (fun os started H enc _ F => lifted_RequestMade os started H enc F)

end Go.Proofs.Ytddkjhlngofkaaa

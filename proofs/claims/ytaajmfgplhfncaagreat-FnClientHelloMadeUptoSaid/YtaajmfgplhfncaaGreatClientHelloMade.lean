/- The law ClientHelloMade, where the argument is of bulk at most 1048576: it answers true; nothing of what was there is changed. -/
import Derived.Test.YtaajmfgplhfncaaGreatB16
import Derived.Test.YtaajmfgplhfncaaGreatB12
import Derived.Test.YtaajmfgplhfncaaGreatB19
import Derived.Test.YtaajmfgplhfncaaGreatB21
import Derived.Test.YtaajmfgplhfncaaGreatB07
namespace Go.Proofs.YtaajmfgplhfncaaGreat
open Go.ChangeShapes Go.WideShapes Go.ChangeAt Go.RowKit
set_option maxRecDepth 100000
section
variable {w w' : World} {B : Nat} {v : Value} {t : Ch} {e : Ending}
set_option maxHeartbeats 16000000 in
theorem law_ClientHelloMade (hv : ChV w B v t) (hZ : ChSz t) : Calls Tryz.prog 4 #[v] w (LawP w) := by
  obtain ⟨cs1, rfl, -⟩ := ChV.ok.agg hv
  have hb0 := ChV.ok.box hv
  have HSZ := hid (ChV.size hv)
  obtain ⟨w1, hw1⟩ : ∃ w1, w.alloc (.cells cs1 29) = w1 := ⟨_, rfl⟩
  obtain ⟨s, hs⟩ : ∃ s, w.heap.size = s := ⟨_, rfl⟩
  have hu1 : Upd [] w w1 := by rw [← hw1]; exact (Upd.refl _ _).alloc _
  rw [hw1, hs] at hb0
  have HW := hid hw1
  have HS := hid hs
  have HU1 := hid hu1
  have HB0 := hid hb0
  have HZ := hid hZ
  have HF := hid (zzFits_Ch hb0.2 hZ)
  clear hw1 hs hu1 hv hZ
  go_enter Tryz.func4, Tryz.ntmps4
  go_upto_region 1 with fail
  rw [HW.out, HS.out]
  go_wp2_with (refine wpList_load_vb ChV.ok hb0 _ rfl rfl rfl ?_)
  refine HF.out.mono ?_
  rintro e w2 ⟨b, rfl, hu2, -⟩
  have hU2 : Upd [] w w2 := HU1.out.trans hu2 (by simp)
  cases b
  · clear hb0
    go_wp2
    go_ret
    exact ⟨rfl, hU2⟩
  have hb2 := VB.upd ChV.ok HB0.out hu2
  have HU2 := hid hU2
  clear hb0 hu2 hU2 HF HW HS
  have HR2 := hid (Right_Ch hb2.2 HZ.out.alpn HZ.out.host)
  go_wp2_with (refine wpList_load_vb ChV.ok hb2 _ rfl rfl rfl ?_)
  refine HR2.out.mono ?_
  rintro e w3 ⟨rfl, hu3⟩
  have hb3 := VB.upd ChV.ok hb2 hu3
  have HU3 := hid (HU2.out.trans hu3 (by simp))
  have HB3 := hid hb3
  clear HR2 hb2 hb3 hu3 HU2
  rcases bcase (chRight t) with hr | hr
  rotate_left
  · rw [hr]
    clear hr
    go_wp2
    go_ret
    exact ⟨rfl, HU3.out⟩
  have HOK := hid (chRight_iff hr)
  have HA : Hid (ChArg t) := hid ⟨HZ.out, HOK.out.ks, HOK.out.pa, HOK.out.ep⟩
  have hb3 := HB3.out
  have HE := hid (ClientExtensions_any hb3.2 HZ.out HOK.out.ks HOK.out.pa)
  rw [hr]
  clear hr
  go_wp2_with (refine wpList_load_vb ChV.ok hb3 _ rfl rfl rfl ?_)
  refine HE.out.mono ?_
  rintro e w4 ⟨vL, rfl, hL, hu4⟩
  obtain ⟨AL, cL, rfl, hL, -, -⟩ := hL.form
  have hb4 := VB.upd ChV.ok hb3 hu4
  have HU4 := hid (HU3.out.trans hu4 (by simp))
  have HWR := hid (Write_ChE hb4.2 HZ.out hL)
  have HB4 := hid hb4
  clear HE hb3 hu4 HU3 HB3 hL
  go_wp2_with (refine wpList_load_vb ChV.ok hb4 _ rfl rfl rfl ?_)
  refine HWR.out.mono ?_
  rintro e w5 ⟨vw, rfl, -, -, ⟨Aw, nw, cw, rfl⟩, hu5⟩
  have hb5 := VB.upd ChV.ok HB4.out hu5
  have HU5 := hid (HU4.out.trans hu5 (by simp))
  have HB5 := hid hb5
  clear HWR hb4 hb5 hu5 HU4 HB4
  rcases bcase (messageW 1 (chW t (chE t))).bad with b1 | b1
  · have HMK : Hid (chMake t = none) := hid (by rw [chMake_eq HOK.out, if_neg (by unfold chFits; rw [b1]; simp)])
    have HM := hid (fun (wx : World) (hb : VB 29 ChV wx s t cs1) => (HMK.out ▸ impl_MarshalCh hb.2 HA.out : Calls Tryz.prog 10 #[.agg cs1] wx (MadeP wx none)))
    rw [b1]
    clear b1
    have hb5 := HB5.out
    go_wp2_with (refine wpList_load_vb ChV.ok hb5 _ rfl rfl rfl ?_)
    refine (HM.out _ hb5).mono ?_
    rintro e w6 ⟨hu6, rfl⟩
    have HU6 := hid (HU5.out.trans hu6 (by simp))
    clear hu6 hb5
    go_wp2_with fail
    go_ret
    exact ⟨rfl, HU6.out⟩
  rcases bcase (chExtL t).bad with b2 | b2
  · have HMK : Hid (chMake t = none) := hid (by rw [chMake_eq HOK.out, if_neg (by unfold chFits; rw [b1, b2]; simp)])
    have HM := hid (fun (wx : World) (hb : VB 29 ChV wx s t cs1) => (HMK.out ▸ impl_MarshalCh hb.2 HA.out : Calls Tryz.prog 10 #[.agg cs1] wx (MadeP wx none)))
    rw [b1, b2]
    clear b1 b2
    have hb5 := HB5.out
    go_wp2_with (refine wpList_load_vb ChV.ok hb5 _ rfl rfl rfl ?_)
    refine (HM.out _ hb5).mono ?_
    rintro e w6 ⟨hu6, rfl⟩
    have HU6 := hid (HU5.out.trans hu6 (by simp))
    clear hu6 hb5
    go_wp2_with fail
    go_ret
    exact ⟨rfl, HU6.out⟩
  have HF2 : Hid (chFits t = true) := hid (by unfold chFits; rw [b1, b2]; rfl)
  obtain ⟨xs, hxs⟩ : ∃ x, chMsg t (chPE t) = x := ⟨_, rfl⟩
  have HMK : Hid (chMake t = some xs) := hid (by rw [chMake_eq HOK.out, if_pos HF2.out, hxs])
  have HM := hid (fun (wx : World) (hb : VB 29 ChV wx s t cs1) => (HMK.out ▸ impl_MarshalCh hb.2 HA.out : Calls Tryz.prog 10 #[.agg cs1] wx (MadeP wx (some xs))))
  have HFO : Hid (ChForm xs t (chPE t) { t with exs := (chPE t).map (·.1) }) := hid (hxs ▸ ch_made HOK.out HF2.out)
  rw [b1, b2]
  clear b1 b2 hxs
  have hb5 := HB5.out
  go_wp2_with (refine wpList_load_vb ChV.ok hb5 _ rfl rfl rfl ?_)
  refine (HM.out _ hb5).mono ?_
  rintro e w6 ⟨hu6, u, rfl, hy6, -, ⟨A6, n6, c6, rfl⟩⟩
  have hb6 := VB.upd ChV.ok hb5 hu6
  have HU6 := hid (HU5.out.trans hu6 (by simp))
  have HB6 := hid hb6
  have HUN := hid (rf_Ch hy6 HFO.out)
  clear hb5 hu6 hy6 hb6 HM HB5 HU5
  go_wp2_with fail
  refine HUN.out.mono ?_
  rintro e w7 ⟨v7, rfl, hv7, hu7⟩
  obtain ⟨cs7, rfl, -⟩ := ChV.ok.agg hv7
  have HZ7 := hid (ChV.size hv7)
  have HV7 := hid hv7
  have HUU := hid hu7
  clear HUN hv7 hu7
  go_wp2_with (first
    | (refine wpList_store_vb ChV.ok (Blk.new _ _ _) (ChV.ok.upd HV7.out ((Upd.refl [] _).alloc _) (by simp)) (Nat.le_refl _) HZ7.out rfl _ _ rfl rfl rfl ?_; intro w8 hb8 hu8 hs8; have hU68 : Upd [] w6 w8 := HUU.out.trans (((Upd.refl [] _).alloc _).trans hu8 (by simp)) (by simp); have hb6' := VB.upd ChV.ok HB6.out hU68; have HU8 := hid (HU6.out.trans hU68 (by simp)); clear hu8 hs8 hU68)
    | (refine wpList_load_vb ChV.ok hb8 _ rfl rfl rfl ?_)
    | (refine wpList_load_vb ChV.ok hb6' _ rfl rfl rfl ?_))
  refine (SameCh_eq hb8.2 hb6'.2 HZ.out HOK.out.pa).mono ?_
  rintro e w9 ⟨rfl, hu9⟩
  go_wp2
  go_ret
  exact ⟨rfl, HU8.out.trans hu9 (by simp)⟩
end
set_option maxRecDepth 100000 in
theorem lifted_ClientHelloMade (os : Os) (started : os.Started) (H : Type) (enc : TypeId × Value → H) (F : Stop.Interp) :
    ReturnsInHanded {} Tryz.checked os 4 .any ((Rows.OpenSpec.upto Rows.fnClientHelloMadeSpec).pre6 enc Tryz.prog Tryz.f4 Rows.fnClientHelloMadeUptoRow.domain false) (((Rows.OpenSpec.upto Rows.fnClientHelloMadeSpec).at F).post enc Tryz.prog Tryz.f4 false true false false) := by
  refine returnsInHanded_of_cond (C := Tryz.checked) (s := Rows.OpenSpec.upto Rows.fnClientHelloMadeSpec) (k := Rows.uptoSmall) rfl own started (by kernel_rfl) Tryz.func4
    (OpenSpec.witness (enc := enc) (C := Tryz.checked) (s := Rows.OpenSpec.upto Rows.fnClientHelloMadeSpec) (k := Rows.uptoSmall) rfl false ⟨#[], #[.agg #[.int .u16 0, .slice none 0 0, .slice none 0 0, .slice none 0 0, .slice none 0 0, .string ⟨#[]⟩, .bool false, .slice none 0 0, .slice none 0 0, .bool false, .slice none 0 0, .slice none 0 0, .slice none 0 0, .bool false, .slice none 0 0, .bool false, .slice none 0 0, .bool false, .slice none 0 0, .slice none 0 0, .slice none 0 0, .slice none 0 0, .bool false, .slice none 0 0, .slice none 0 0, .slice none 0 0, .slice none 0 0, .bool false, .slice none 0 0, .slice none 0 0, .slice none 0 0]], []⟩ 8 (by kernel_rfl) (by kernel_rfl) (by kernel_rfl) (x := ([.agg [.lit (.int .u16 0), .nil, .nil, .nil, .nil, .lit (.string []), .lit (.bool false), .nil, .nil, .lit (.bool false), .nil, .nil, .nil, .lit (.bool false), .nil, .lit (.bool false), .nil, .lit (.bool false), .nil, .nil, .nil, .nil, .lit (.bool false), .nil, .nil, .nil, .nil, .lit (.bool false), .nil, .nil, .nil]], [], [])) (by kernel_rfl) rfl (by kernel_rfl)) ?_
  intro W base args ds gs before hval0 hW hcnd hk0 _
  have hval : ∀ (j : Nat) t v, Tryz.f4.params[j]? = some t → args[j]? = some v → Value.okWide Tryz.prog W .any base t v := hval0
  have hW' := hW
  obtain ⟨p, q, hA0, hV, rfl, hfz, hnd⟩ := hW
  obtain ⟨rfl, rfl⟩ := trodVars_none hV
  rw [List.append_nil] at hk0
  have hk := uptoSmall_le hk0
  have hA : DataW.TrodAll enc Tryz.prog W 0 (fun _ => true) true Tryz.f4.params.toList args.toList ds p := hA0
  rw [Tryz.params4] at hA hval
  obtain ⟨v0, vs0, d0, ds0, p0, q0, hargs, rfl, rfl, h0, r0⟩ := trodAll_cons hA
  obtain ⟨rfl, rfl, rfl⟩ := trodAll_nil r0
  obtain rfl : args = #[v0] := by cases args; simp_all
  have b0 : Rows.uptoBulk d0 ≤ 1048576 := Nat.le_trans (bulk_part (by simp)) hk
  obtain ⟨m, y0, z0⟩ := open_ch (hval 0 29 _ rfl rfl) h0 b0
  exact (law_ClientHelloMade y0 z0).mono fun e W' h => law_post hW' rfl rfl (by kernel_rfl) (by kernel_rfl) h
theorem ClientHelloMade_holds : Rows.FnClientHelloMadeUptoSaid :=
  OpenClaim.holds_of_cond 4 Tryz.f4 rfl rfl rfl rfl rfl rfl rfl ⟨rfl, rfl, rfl, rfl, rfl⟩ rfl rfl rfl rfl rfl (by kernel_rfl) Tryz.func4 (by kernel_rfl)
    (of_decide_eq_true (by kernel_rfl)) (by unfold Func.isWrapper; first | (rw [if_pos (by decide +kernel)]; kernel_rfl) | (rw [if_neg (by decide +kernel)]; exact ⟨rfl, rfl⟩))
    (fun os started H enc _ F => lifted_ClientHelloMade os started H enc F)
end Go.Proofs.YtaajmfgplhfncaaGreat

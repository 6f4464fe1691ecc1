/- The law WithoutBinders, where the argument is of bulk at most 1048576: it answers true; nothing of what was there is changed. -/
import Derived.Test.YtaajmfgplhfncaaGreatChY
import Derived.Test.YtaajmfgplhfncaaGreatEmit
import Derived.Test.YtaajmfgplhfncaaGreatLift
namespace Go.Proofs.YtaajmfgplhfncaaGreat
open Go.ChangeShapes Go.WideShapes Go.ChangeAt Go.RowKit
set_option maxRecDepth 100000
section
variable {w w' : World} {B : Nat} {v : Value} {t : Ch} {e : Ending}
set_option maxHeartbeats 16000000 in
theorem law_WithoutBinders (hv : ChV w B v t) (hZ : ChSz t) : Calls Tryz.prog 5 #[v] w (LawP w) := by
  obtain ⟨cs1, rfl, -⟩ := ChV.ok.agg hv
  have hb0 := ChV.ok.box hv
  have HSZ := hid (ChV.size hv)
  obtain ⟨w1, hw1⟩ : ∃ w1, w.alloc (.cells cs1 29) = w1 := ⟨_, rfl⟩
  obtain ⟨s, hs⟩ : ∃ s, w.heap.size = s := ⟨_, rfl⟩
  have hu1 : Upd [] w w1 := by rw [← hw1]; exact (Upd.refl _ _).alloc _
  rw [hw1, hs] at hb0
  have HW := hid hw1
  have HS := hid hs
  have HU1 := hid hu1
  have HB0 := hid hb0
  have HZ := hid hZ
  have HF := hid (zzFits_Ch hb0.2 hZ)
  clear hw1 hs hu1 hv hZ
  go_enter Tryz.func5, Tryz.ntmps5
  go_upto_region 1 with fail
  rw [HW.out, HS.out]
  go_wp2_with (refine wpList_load_vb ChV.ok hb0 _ rfl rfl rfl ?_)
  refine HF.out.mono ?_
  rintro e w2 ⟨b, rfl, hu2, -⟩
  have hU2 : Upd [] w w2 := HU1.out.trans hu2 (by simp)
  cases b
  · clear hb0
    go_wp2
    go_ret
    exact ⟨rfl, hU2⟩
  have hb2 := VB.upd ChV.ok HB0.out hu2
  have HU2 := hid hU2
  clear hb0 hu2 hU2 HF HW HS
  have HR2 := hid (Right_Ch hb2.2 HZ.out.alpn HZ.out.host)
  go_wp2_with (refine wpList_load_vb ChV.ok hb2 _ rfl rfl rfl ?_)
  refine HR2.out.mono ?_
  rintro e w3 ⟨rfl, hu3⟩
  have hb3 := VB.upd ChV.ok hb2 hu3
  have HU3 := hid (HU2.out.trans hu3 (by simp))
  obtain ⟨A24, c24, a24, -⟩ := GV.lst hb3.2 (i := 24) (ls := t.pl) rfl
  have d24 := hb3.1.at_ a24
  have HB3 := hid hb3
  clear HR2 hb2 hb3 hu3 HU2 a24
  rcases bcase (chRight t) with hr | hr
  rotate_left
  · rw [hr]
    clear hr
    go_wp2_with fail
    refine (alive_any (w := w3)).mono ?_
    rintro e w7 ⟨rfl, hu7⟩
    go_wp2
    go_ret
    exact ⟨rfl, HU3.out.trans hu7 (by simp)⟩
  rcases bcase ((t.pl.length : Int) == 0) with hz | hz
  · rw [hr]
    clear hr
    go_wp2_with fail
    refine (alive_any (w := w3)).mono ?_
    rintro e w7 ⟨rfl, hu7⟩
    go_wp2
    go_ret
    exact ⟨rfl, HU3.out.trans hu7 (by simp)⟩
  have HOK := hid (chRight_iff hr)
  have HPL : Hid (t.pl ≠ []) := hid (fun e => by rw [e] at hz; exact absurd hz (by decide))
  have HA : Hid (ChArg t) := hid ⟨HZ.out, HOK.out.ks, HOK.out.pa, HOK.out.ep⟩
  have hb3 := HB3.out
  have HE := hid (ClientExtensions_any hb3.2 HZ.out HOK.out.ks HOK.out.pa)
  rw [hr]
  clear hr
  go_wp2_with (refine wpList_load_vb ChV.ok hb3 _ rfl rfl rfl ?_)
  refine HE.out.mono ?_
  rintro e w4 ⟨vL, rfl, hL, hu4⟩
  obtain ⟨AL, cL, rfl, hL, -, -⟩ := hL.form
  have hb4 := VB.upd ChV.ok hb3 hu4
  have HU4 := hid (HU3.out.trans hu4 (by simp))
  have HWR := hid (Write_ChE hb4.2 HZ.out hL)
  have HB4 := hid hb4
  clear HE hb3 d24 hz hu4 HU3 HB3 hL
  go_wp2_with (refine wpList_load_vb ChV.ok hb4 _ rfl rfl rfl ?_)
  refine HWR.out.mono ?_
  rintro e w5 ⟨vw, rfl, -, -, ⟨Aw, nw, cw, rfl⟩, hu5⟩
  have hb5 := VB.upd ChV.ok HB4.out hu5
  have HU5 := hid (HU4.out.trans hu5 (by simp))
  have HB5 := hid hb5
  clear HWR hb4 hb5 hu5 HU4 HB4
  rcases bcase (messageW 1 (chW t (chE t))).bad with b1 | b1
  · rw [b1]
    clear b1
    go_wp2_with fail
    refine (alive_any (w := w5)).mono ?_
    rintro e w7 ⟨rfl, hu7⟩
    go_wp2
    go_ret
    exact ⟨rfl, HU5.out.trans hu7 (by simp)⟩
  rcases bcase (chExtL t).bad with b2 | b2
  · rw [b1, b2]
    clear b1 b2
    go_wp2_with fail
    refine (alive_any (w := w5)).mono ?_
    rintro e w7 ⟨rfl, hu7⟩
    go_wp2
    go_ret
    exact ⟨rfl, HU5.out.trans hu7 (by simp)⟩
  have HF2 : Hid (chFits t = true) := hid (by unfold chFits; rw [b1, b2]; rfl)
  obtain ⟨xs, hxs⟩ : ∃ x, chMsg t (chPE t) = x := ⟨_, rfl⟩
  have HMK : Hid (chMake t = some xs) := hid (by rw [chMake_eq HOK.out, if_pos HF2.out, hxs])
  have HBL : Hid (chBl t ≤ xs.length) := hid (by rw [← hxs]; exact ch_binders HOK.out HPL.out)
  have HM := hid (fun (wx : World) (hb : VB 29 ChV wx s t cs1) => (HMK.out ▸ impl_MarshalCh hb.2 HA.out : Calls Tryz.prog 10 #[.agg cs1] wx (MadeP wx (some xs))))
  have HMW := hid (fun (wx : World) (hb : VB 29 ChV wx s t cs1) => impl_MarshalWB hb.2 HA.out HMK.out HBL.out)
  rw [b1, b2]
  clear b1 b2 hxs
  have hb5 := HB5.out
  obtain ⟨A26, c26, a26, x26⟩ := GV.lst hb5.2 (i := 26) (ls := t.pb) rfl
  have d26 := hb5.1.at_ a26
  have HX26 := hid x26
  have hlb : (vecsB 1 t.pb).length ≤ 2097152 := by have := vecsB_lst 1 t.pb; have := HZ.out.pb; omega
  have hln : t.pb.length ≤ 1048576 := Nat.le_trans (lstSz_len _) HZ.out.pb
  have HLB := hid hlb
  clear hb5 a26 x26 hlb
  go_wp2_with fail
  go_loopg [7, 9, 48] t.pb.length (fun gk a _ i wr => ∃ j : Nat, j + gk = t.pb.length ∧ i = .int .i64 (j : Int) ∧ a = .int .i64 ((2 + (vecsB 1 (t.pb.take j)).length : Nat) : Int) ∧ wr = w5)
  case atStart => exact ⟨0, by omega, rfl, rfl, rfl⟩
  case round =>
    obtain ⟨j, hj0, rfl, rfl, rfl⟩ := hrel
    have HJ := hid hj0
    have hj : j ≤ t.pb.length := by omega
    clear hj0
    by_cases hlt : j < t.pb.length
    · obtain ⟨b, o, rfl, hb, hj', A', c', hcell, hy, hy1, hy2⟩ := HX26.out.at_ hlt
      have HS := hid (vecsB1_take t.pb j hlt)
      have hL := vecsB1_le t.pb (j + 1)
      have hB := HLB.out
      have hle : 2 + (vecsB 1 (t.pb.take j)).length + 1 + (t.pb[j]).length ≤ 9223372036854775807 := by have := HS.out; omega
      clear hy hL hB
      go_wp2
      have hj0 := HJ.out
      have hS := HS.out
      go_roundg (t.pb.length - (j + 1))
      case measure => omega
      case rel => exact ⟨j + 1, by omega, by go_num, by rw [hS]; go_num, rfl⟩
    · obtain rfl : j = t.pb.length := by have := HJ.out; omega
      rw [List.take_length]
      have eB : 2 + (vecsB 1 t.pb).length = chBl t := rfl
      rw [eB]
      have hB : chBl t ≤ 2097160 := by have := HLB.out; omega
      have hb5 := HB5.out
      clear eB HLB HX26 d26 hlt hj
      go_wp2_with (refine wpList_load_vb ChV.ok hb5 _ rfl rfl rfl ?_)
      refine (HM.out _ hb5).mono ?_
      rintro e w6 ⟨hu6, u, rfl, hy6, -, ⟨A6, n6, c6, rfl⟩⟩
      obtain ⟨A6, c6, e6, hy6, hl6, hl6'⟩ := Byt.form hy6 rfl
      injection e6 with q1 q2 q3
      subst q1 q2 q3
      have hb6 := VB.upd ChV.ok hb5 hu6
      have HU6 := hid (HU5.out.trans hu6 (by simp))
      have HY6 := hid hy6
      clear hb5 hu6 hy6
      go_wp2_with (refine wpList_load_vb ChV.ok hb6 _ rfl rfl rfl ?_)
      refine (HMW.out _ hb6).mono ?_
      rintro e w7 ⟨hu7, u, rfl, hy7, -, ⟨A7, n7, c7, rfl⟩⟩
      have hlk : (xs.take (xs.length - chBl t)).length = xs.length - chBl t := by rw [List.length_take]; omega
      obtain ⟨A7, c7, e7, hy7, hl7, hl7'⟩ := Byt.form hy7 hlk
      injection e7 with q1 q2 q3
      subst q1 q2 q3
      have hy67 := Row.upd HY6.out hu7 (by simp)
      have HU7 := hid (HU6.out.trans hu7 (by simp))
      have hbl := HBL.out
      have hsub : ((xs.length : Int) - (chBl t : Int)) = (((xs.length - chBl t : Nat)) : Int) := by omega
      have hle : xs.length - chBl t ≤ c6 := by omega
      have hy66 := Byt.takeTo hy67 (show xs.length - chBl t ≤ xs.length by omega) hle (Nat.le_refl _) (Row.capNone hy67)
      have HSM := hid (Same_any hy7 hy66)
      clear hb6 hu7 hy7 hy67 hy66 hlk HM HMW HY6
      go_wp2_with fail
      refine HSM.out.mono ?_
      rintro e w8 ⟨rfl, rfl⟩
      rw [beq_self_eq_true]
      go_wp2
      go_ret
      exact ⟨rfl, HU7.out⟩
end
set_option maxRecDepth 100000 in
theorem lifted_WithoutBinders (os : Os) (started : os.Started) (H : Type) (enc : TypeId × Value → H) (F : Stop.Interp) :
    ReturnsInHanded {} Tryz.checked os 5 .any ((Rows.OpenSpec.upto Rows.fnWithoutBindersSpec).pre6 enc Tryz.prog Tryz.f5 Rows.fnWithoutBindersUptoRow.domain false) (((Rows.OpenSpec.upto Rows.fnWithoutBindersSpec).at F).post enc Tryz.prog Tryz.f5 false true false false) := by
  refine returnsInHanded_of_cond (C := Tryz.checked) (s := Rows.OpenSpec.upto Rows.fnWithoutBindersSpec) (k := Rows.uptoSmall) rfl own started (by kernel_rfl) Tryz.func5
    (OpenSpec.witness (enc := enc) (C := Tryz.checked) (s := Rows.OpenSpec.upto Rows.fnWithoutBindersSpec) (k := Rows.uptoSmall) rfl false ⟨#[], #[.agg #[.int .u16 0, .slice none 0 0, .slice none 0 0, .slice none 0 0, .slice none 0 0, .string ⟨#[]⟩, .bool false, .slice none 0 0, .slice none 0 0, .bool false, .slice none 0 0, .slice none 0 0, .slice none 0 0, .bool false, .slice none 0 0, .bool false, .slice none 0 0, .bool false, .slice none 0 0, .slice none 0 0, .slice none 0 0, .slice none 0 0, .bool false, .slice none 0 0, .slice none 0 0, .slice none 0 0, .slice none 0 0, .bool false, .slice none 0 0, .slice none 0 0, .slice none 0 0]], []⟩ 8 (by kernel_rfl) (by kernel_rfl) (by kernel_rfl) (x := ([.agg [.lit (.int .u16 0), .nil, .nil, .nil, .nil, .lit (.string []), .lit (.bool false), .nil, .nil, .lit (.bool false), .nil, .nil, .nil, .lit (.bool false), .nil, .lit (.bool false), .nil, .lit (.bool false), .nil, .nil, .nil, .nil, .lit (.bool false), .nil, .nil, .nil, .nil, .lit (.bool false), .nil, .nil, .nil]], [], [])) (by kernel_rfl) rfl (by kernel_rfl)) ?_
  intro W base args ds gs before hval0 hW hcnd hk0 _
  have hval : ∀ (j : Nat) t v, Tryz.f5.params[j]? = some t → args[j]? = some v → Value.okWide Tryz.prog W .any base t v := hval0
  have hW' := hW
  obtain ⟨p, q, hA0, hV, rfl, hfz, hnd⟩ := hW
  obtain ⟨rfl, rfl⟩ := trodVars_none hV
  rw [List.append_nil] at hk0
  have hk := uptoSmall_le hk0
  have hA : DataW.TrodAll enc Tryz.prog W 0 (fun _ => true) true Tryz.f5.params.toList args.toList ds p := hA0
  rw [Tryz.params5] at hA hval
  obtain ⟨v0, vs0, d0, ds0, p0, q0, hargs, rfl, rfl, h0, r0⟩ := trodAll_cons hA
  obtain ⟨rfl, rfl, rfl⟩ := trodAll_nil r0
  obtain rfl : args = #[v0] := by cases args; simp_all
  have b0 : Rows.uptoBulk d0 ≤ 1048576 := Nat.le_trans (bulk_part (by simp)) hk
  obtain ⟨m, y0, z0⟩ := open_ch (hval 0 29 _ rfl rfl) h0 b0
  exact (law_WithoutBinders y0 z0).mono fun e W' h => law_post hW' rfl rfl (by kernel_rfl) (by kernel_rfl) h
theorem WithoutBinders_holds : Rows.FnWithoutBindersUptoSaid :=
  OpenClaim.holds_of_cond 5 Tryz.f5 rfl rfl rfl rfl rfl rfl rfl ⟨rfl, rfl, rfl, rfl, rfl⟩ rfl rfl rfl rfl rfl (by kernel_rfl) Tryz.func5 (by kernel_rfl)
    (of_decide_eq_true (by kernel_rfl)) (by unfold Func.isWrapper; first | (rw [if_pos (by decide +kernel)]; kernel_rfl) | (rw [if_neg (by decide +kernel)]; exact ⟨rfl, rfl⟩))
    (fun os started H enc _ F => lifted_WithoutBinders os started H enc F)
end Go.Proofs.YtaajmfgplhfncaaGreat

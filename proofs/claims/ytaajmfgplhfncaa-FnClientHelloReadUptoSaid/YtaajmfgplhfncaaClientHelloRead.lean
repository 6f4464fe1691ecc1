/- The law ClientHelloRead, where the arguments are of bulk at most 1048576: it answers true; nothing of what was there is changed. -/
import Derived.Test.YtaajmfgplhfncaaB15
import Derived.Test.YtaajmfgplhfncaaB28
import Derived.Test.YtaajmfgplhfncaaB12
import Derived.Test.YtaajmfgplhfncaaB29
import Derived.Test.YtaajmfgplhfncaaB13
import Derived.Test.YtaajmfgplhfncaaB06
namespace Go.Proofs.Ytaajmfgplhfncaa
open Go.ChangeShapes Go.WideShapes Go.ChangeAt Go.RowKit
set_option maxRecDepth 100000
theorem exs_len (L : List Ex) : L.length ≤ (exsB L).length := by
  induction L with
  | nil => simp
  | cons x L ih => rw [exsB_cons, List.length_append, exB_len, List.length_cons]; omega
section
variable {w w' : World} {B C : Nat} {v : Value} {t : Ch} {e : Ending} {more : List (List UInt8)}
set_option maxHeartbeats 16000000 in
theorem law_ClientHelloRead (hv : ChV w B v t) (hZ : ChSz t) (n : Int) (wn : (Lit.int .i64 n).wf = true) {v2 : Value} (hm : Lst w C v2 more) : Calls Try.prog 3 #[v, .int .i64 n, v2] w (LawP w) := by
  obtain ⟨cs1, rfl, -⟩ := ChV.ok.agg hv
  have hb0 := ChV.ok.box hv
  have HSZ := hid (ChV.size hv)
  obtain ⟨w1, hw1⟩ : ∃ w1, w.alloc (.cells cs1 29) = w1 := ⟨_, rfl⟩
  obtain ⟨s, hs⟩ : ∃ s, w.heap.size = s := ⟨_, rfl⟩
  have hu1 : Upd [] w w1 := by rw [← hw1]; exact (Upd.refl _ _).alloc _
  obtain ⟨A9, c9, rfl, hm, -, -⟩ := hm.shrink.form
  have HM1 := hid (hm.upd hu1 (by simp))
  rw [hw1, hs] at hb0
  have HW := hid hw1
  have HS := hid hs
  have HU1 := hid hu1
  have HB0 := hid hb0
  have HZ := hid hZ
  have HF := hid (zzFits_Ch hb0.2 hZ)
  clear hw1 hs hu1 hv hZ hm
  go_enter Try.func3, Try.ntmps3
  go_upto_region 1 with fail
  rw [HW.out, HS.out]
  go_wp2_with (refine wpList_load_vb ChV.ok hb0 _ rfl rfl rfl ?_)
  refine HF.out.mono ?_
  rintro e w2 ⟨b, rfl, hu2, -⟩
  have hU2 : Upd [] w w2 := HU1.out.trans hu2 (by simp)
  cases b
  · clear hb0
    go_wp2
    go_ret
    exact ⟨rfl, hU2⟩
  have hb2 := VB.upd ChV.ok HB0.out hu2
  have hm2 := HM1.out.upd hu2 (by simp)
  have HU2 := hid hU2
  have HF2 := hid (zzFits2_any hm2)
  have HM2 := hid hm2
  have HB2 := hid hb2
  clear hb0 hu2 hU2 HF HW HS hm2 hb2 HM1 HB0
  go_wp2_with fail
  refine HF2.out.mono ?_
  rintro e w2' ⟨b, rfl, hu2', hzm⟩
  have hU2' := HU2.out.trans hu2' (by simp)
  cases b
  · go_wp2
    go_ret
    exact ⟨rfl, hU2'⟩
  obtain ⟨-, z3⟩ := hzm rfl
  have Z3 := hid z3
  have hb2 := VB.upd ChV.ok HB2.out hu2'
  have HM3 := hid (HM2.out.upd hu2' (by simp))
  have HU2' := hid hU2'
  have HR2 := hid (Right_Ch hb2.2 HZ.out.alpn HZ.out.host)
  have HB2' := hid hb2
  clear hu2' hU2' HF2 hzm z3 HU2 HM2 HB2
  go_wp2_with (refine wpList_load_vb ChV.ok hb2 _ rfl rfl rfl ?_)
  refine HR2.out.mono ?_
  rintro e w3 ⟨rfl, hu3⟩
  have hb3 := VB.upd ChV.ok HB2'.out hu3
  have HU3 := hid (HU2'.out.trans hu3 (by simp))
  have HM4 := hid (HM3.out.upd hu3 (by simp))
  have HB3 := hid hb3
  clear HR2 hb2 hb3 hu3 HB2' HU2' HM3
  rcases bcase (chRight t) with hr | hr
  rotate_left
  · rw [hr]
    clear hr
    go_wp2
    go_ret
    exact ⟨rfl, HU3.out⟩
  have HOK := hid (chRight_iff hr)
  have HPA := hid HOK.out.pa
  rw [hr]
  clear hr
  by_cases hn : n < 0
  · have dn : decide (n < 0) = true := decide_eq_true hn
    clear hn
    go_wp2
    go_ret
    exact ⟨rfl, HU3.out⟩
  have dn : decide (n < 0) = false := decide_eq_false hn
  obtain ⟨f, rfl⟩ : ∃ f : Nat, n = (f : Int) := ⟨n.toNat, by omega⟩
  have hf : f ≤ 9223372036854775807 := by have := bounds_i64 wn; omega
  have HFB := hid hf
  clear hn wn hf
  by_cases hml : 8 < more.length
  · have dm : decide ((8 : Int) < (more.length : Int)) = true := decide_eq_true (by omega)
    clear hml
    go_wp2
    go_ret
    exact ⟨rfl, HU3.out⟩
  have dm : decide ((8 : Int) < (more.length : Int)) = false := decide_eq_false (by omega)
  have HML := hid hml
  clear hml
  have hb3 := HB3.out
  have HE := hid (ClientExtensions_any hb3.2 HZ.out HOK.out.ks HOK.out.pa)
  go_wp2_with (refine wpList_load_vb ChV.ok hb3 _ rfl rfl rfl ?_)
  refine HE.out.mono ?_
  rintro e w4 ⟨vL, rfl, hL, hu4⟩
  obtain ⟨AL, cL, rfl, hL, -, -⟩ := hL.form
  have hb4 := VB.upd ChV.ok hb3 hu4
  have HU4 := hid (HU3.out.trans hu4 (by simp))
  have HB4 := hid hb4
  have hlen := chE_len HZ.out
  have hlen0 : (exsB (chExtL t).l).length ≤ 1000000000 := hlen
  have hos := ordered_size (chExtL t).l f (more := more) (by have := HML.out; omega) Z3.out
  have HOS := hid (show (exsB (ordered (chExtL t).l f more)).length ≤ 1000000000000 by omega)
  have HL0 := hid (ordered_lists (E := chE t) (chE_nodup t) (chE_low t) f more (by have := HML.out; omega))
  have HPL := hid (ordered_last (chE t) f more (by have := HML.out; omega) HL0.out.1)
  have HOL := hid (show (ordered (chExtL t).l f more).length ≤ 1099511627776 from Nat.le_trans (exs_len _) (by have := HOS.out; omega))
  have HO := hid (Ordered_any hL f HFB.out (HM4.out.upd hu4 (by simp)) (chE_few t) (by have := HML.out; omega))
  clear HE hb3 hu4 HU3 HB3 hL hb4 hlen hlen0 hos HM4
  have eqL : chE t = (chExtL t).l := rfl
  rw [eqL] at HL0 HPL
  clear eqL
  rcases bcase (chExtL t).bad with b2 | b2
  · rw [b2]
    clear b2
    generalize ordered (chExtL t).l f more = OL at HO HOS HL0 HPL HOL
    go_wp2_with fail
    refine HO.out.mono ?_
    rintro e w5 ⟨vO, rfl, hO, hu5⟩
    obtain ⟨AO, cO, rfl, hO, -, -⟩ := hO.exr.form
    have hb5 := VB.upd ChV.ok HB4.out hu5
    have HU5 := hid (HU4.out.trans hu5 (by simp))
    have HWR := hid (Write_Ch hb5.2 HZ.out hO HOS.out)
    clear hO hu5 HO
    go_wp2_with (refine wpList_load_vb ChV.ok hb5 _ rfl rfl rfl ?_)
    refine HWR.out.mono ?_
    rintro e w6 ⟨vw, rfl, -, -, ⟨Aw, nw, cw, rfl⟩, hu6⟩
    have HU6 := hid (HU5.out.trans hu6 (by simp))
    clear hb5 hu6 HWR
    go_wp2_with fail
    go_ret
    exact ⟨rfl, HU6.out⟩
  have HB := hid b2
  rw [b2]
  clear b2
  generalize ordered (chExtL t).l f more = OL at HO HOS HL0 HPL HOL
  go_wp2_with fail
  refine HO.out.mono ?_
  rintro e w5 ⟨vO, rfl, hO, hu5⟩
  obtain ⟨AO, cO, rfl, hO, -, -⟩ := hO.exr.form
  have hb5 := VB.upd ChV.ok HB4.out hu5
  have HU5 := hid (HU4.out.trans hu5 (by simp))
  have HWR := hid (Write_Ch hb5.2 HZ.out hO HOS.out)
  have HO5 := hid hO
  have HB5 := hid hb5
  clear hO hu5 HO HU4 HB4
  go_wp2_with (refine wpList_load_vb ChV.ok hb5 _ rfl rfl rfl ?_)
  refine HWR.out.mono ?_
  rintro e w6 ⟨vw, rfl, hy6, -, ⟨Aw, nw, cw, rfl⟩, hu6⟩
  have HU6 := hid (HU5.out.trans hu6 (by simp))
  have HB6 := hid (VB.upd ChV.ok HB5.out hu6)
  have HO6 := hid (HO5.out.upd hu6 (by simp))
  have HY6 := hid hy6
  clear hb5 hu6 HWR hy6 HU5 HB5 HO5
  rcases bcase (messageW 1 (chW t OL)).bad with b1 | b1
  · rw [b1]
    clear b1
    go_wp2_with fail
    go_ret
    exact ⟨rfl, HU6.out⟩
  have HFO := hid (ch_form HOK.out HB.out b1 HL0.out HPL.out)
  rw [b1]
  clear b1
  have hy6 := HY6.out
  rw [show (messageW 1 (chW t OL)).b = chMsg t OL by rw [messageW_msgB, chW_eq]; rfl] at hy6
  have HUN := hid (un_Ch hy6 HFO.out ⟨Nat.le_trans (lstSz_len _) HZ.out.kd, Nat.le_trans (lstSz_len _) HZ.out.pl⟩)
  clear hy6 HY6 HFO
  go_wp2_with fail
  refine HUN.out.mono ?_
  rintro e w7 ⟨v7, rfl, hv7, hu7⟩
  obtain ⟨cs7, rfl, -⟩ := ChV.ok.agg hv7
  have HZ7 := hid (ChV.size hv7)
  have HV7 := hid hv7
  have HUU := hid hu7
  obtain ⟨g7, hg7⟩ : ∃ g, w7.heap.size = g := ⟨_, rfl⟩
  have HG7 := hid hg7
  clear HUN hv7 hu7 hg7
  go_upto_region 11 with (refine wpList_store_vb ChV.ok (Blk.new _ _ _) (ChV.ok.upd HV7.out ((Upd.refl [] _).alloc _) (by simp)) (Nat.le_refl _) HZ7.out rfl _ _ rfl rfl rfl ?_; intro w8 hb8 hu8 hs8)
  have hU68 : Upd [] w6 w8 := HUU.out.trans (((Upd.refl [] _).alloc _).trans hu8 (by simp)) (by simp)
  rw [HG7.out] at hb8 ⊢
  clear hu8 hs8
  have hb7' := VB.upd ChV.ok HB6.out hU68
  have HU8 := hid (HU6.out.trans hU68 (by simp))
  have HO8 := hid (HO6.out.upd hU68 (by simp))
  clear HUU HV7 HG7 HU6 HB6 HO6 hU68 HB HOS HL0 HPL HOK HFB HML Z3 dn dm
  go_wp2_with fail
  obtain ⟨A30, c30, a30, x30⟩ := GV.row hb8.2 (i := 30) (us := (OL.map (·.1)).map wv) rfl (n := OL.length) (by simp)
  refine wp_region_held (S := fun u => (loadVar 29 ⟨g7, 0, none⟩).run Try.prog u = .ok (.agg cs7) u ∧ (loadVar 29 ⟨s, 0, none⟩).run Try.prog u = .ok (.agg cs1) u ∧ u.cell? ⟨g7, 30, none⟩ = some (.slice A30 OL.length c30)) (by kernel_rfl) ?_
  change wpAnyH _ _ _ _ _ _ _ _ (World.drew _)
  have hdr : Upd [] w8 (World.drew w8) := (Upd.refl [] w8).drew
  replace hb8 := VB.upd ChV.ok hb8 hdr
  replace hb7' := VB.upd ChV.ok hb7' hdr
  have HX := hid (Row.upd x30 hdr (by simp))
  have HO9 := hid (HO8.out.upd hdr (by simp))
  have HU9 := hid (HU8.out.trans hdr (by simp))
  clear hdr x30 HO8 HU8
  obtain ⟨w9, hw9⟩ : ∃ x, World.drew w8 = x := ⟨_, rfl⟩
  rw [hw9] at hb8 hb7' HX HO9 HU9 ⊢
  clear hw9
  have HSS := And.intro (VB.load ChV.ok hb8) (And.intro (VB.load ChV.ok hb7') (hb8.1.at_ a30))
  try simp only [Act.put, List.getElem_toArray, List.getElem_cons_zero, List.getElem_cons_succ, List.setIfInBounds_toArray, List.set_cons_zero, List.set_cons_succ]
  refine wpAnyH_take (i := 0) (v := ?vR0) rfl (by kernel_rfl) (by kernel_rfl) (by kernel_rfl) (fun _ _ _ h => h) (Or.inl ⟨by rfl, ?hR0⟩) HSS ?restR0
  case hR0 =>
    rintro u ⟨k1, k2, k3⟩
    go_simp
    try with_reducible rfl
  try simp only [Act.put, List.getElem_toArray, List.getElem_cons_zero, List.getElem_cons_succ, List.setIfInBounds_toArray, List.set_cons_zero, List.set_cons_succ]
  refine wpAnyH_take (i := 1) (v := ?vR1) rfl (by kernel_rfl) (by kernel_rfl) (by kernel_rfl) (fun _ _ _ h => h) (Or.inl ⟨by rfl, ?hR1⟩) HSS ?restR1
  case hR1 =>
    rintro u ⟨k1, k2, k3⟩
    go_simp
    try with_reducible rfl
  try simp only [Act.put, List.getElem_toArray, List.getElem_cons_zero, List.getElem_cons_succ, List.setIfInBounds_toArray, List.set_cons_zero, List.set_cons_succ]
  refine wpAnyH_take (i := 2) (v := .agg cs7) rfl (by kernel_rfl) (by kernel_rfl) (by kernel_rfl) (fun _ _ _ h => h) (yieldsIf_loadvar _ rfl rfl rfl (fun _ h => h.1)) HSS ?_
  try simp only [Act.put, List.getElem_toArray, List.getElem_cons_zero, List.getElem_cons_succ, List.setIfInBounds_toArray, List.set_cons_zero, List.set_cons_succ]
  refine wpAnyH_take (i := 3) (v := .agg cs1) rfl (by kernel_rfl) (by kernel_rfl) (by kernel_rfl) (fun _ _ _ h => h) (yieldsIf_loadvar _ rfl rfl rfl (fun _ h => h.2.1)) HSS ?_
  try simp only [Act.put, List.getElem_toArray, List.getElem_cons_zero, List.getElem_cons_succ, List.setIfInBounds_toArray, List.set_cons_zero, List.set_cons_succ]
  refine wpAnyH_all (rs := [4]) (by kernel_rfl) (by simp) (fun i hi => ?_)
  obtain rfl : i = 4 := by simpa using hi
  clear hi
  refine wpOp_enter rfl rfl 12 #[.agg cs7, .agg cs1] (by kernel_rfl) ?_
  refine (SameCh_eq hb8.2 hb7'.2 HZ.out HPA.out).mono ?_
  rintro e w10 ⟨rfl, hu10⟩
  replace hb8 := VB.upd ChV.ok hb8 hu10
  replace hb7' := VB.upd ChV.ok hb7' hu10
  have HX2 := hid (Row.upd HX.out hu10 (by simp))
  have HO10 := hid (HO9.out.upd hu10 (by simp))
  have HU10 := hid (HU9.out.trans hu10 (by simp))
  clear HX HO9 HU9 hu10 HSS
  have HSS := And.intro (VB.load ChV.ok hb8) (And.intro (VB.load ChV.ok hb7') (hb8.1.at_ a30))
  refine ⟨HSS, ?_⟩
  try simp only [Act.put, List.getElem_toArray, List.getElem_cons_zero, List.getElem_cons_succ, List.setIfInBounds_toArray, List.set_cons_zero, List.set_cons_succ]
  refine wpAnyH_take (i := 5) (v := ?vR5) rfl (by kernel_rfl) (by kernel_rfl) (by kernel_rfl) (fun _ _ _ h => h) (Or.inl ⟨by rfl, ?hR5⟩) HSS ?restR5
  case hR5 =>
    rintro u ⟨k1, k2, k3⟩
    go_simp
    try with_reducible rfl
  try simp only [Act.put, List.getElem_toArray, List.getElem_cons_zero, List.getElem_cons_succ, List.setIfInBounds_toArray, List.set_cons_zero, List.set_cons_succ]
  refine wpAnyH_take (i := 6) (v := ?vR6) rfl (by kernel_rfl) (by kernel_rfl) (by kernel_rfl) (fun _ _ _ h => h) (Or.inl ⟨by rfl, ?hR6⟩) HSS ?restR6
  case hR6 =>
    rintro u ⟨k1, k2, k3⟩
    go_simp
    try with_reducible rfl
  try simp only [Act.put, List.getElem_toArray, List.getElem_cons_zero, List.getElem_cons_succ, List.setIfInBounds_toArray, List.set_cons_zero, List.set_cons_succ]
  refine wpAnyH_take (i := 7) (v := ?vR7) rfl (by kernel_rfl) (by kernel_rfl) (by kernel_rfl) (fun _ _ _ h => h) (Or.inl ⟨by rfl, ?hR7⟩) HSS ?restR7
  case hR7 =>
    rintro u ⟨k1, k2, k3⟩
    go_simp
    try with_reducible rfl
  try simp only [Act.put, List.getElem_toArray, List.getElem_cons_zero, List.getElem_cons_succ, List.setIfInBounds_toArray, List.set_cons_zero, List.set_cons_succ]
  refine wpAnyH_take (i := 8) (v := ?vR8) rfl (by kernel_rfl) (by kernel_rfl) (by kernel_rfl) (fun _ _ _ h => h) (Or.inl ⟨by rfl, ?hR8⟩) HSS ?restR8
  case hR8 =>
    rintro u ⟨k1, k2, k3⟩
    go_simp
    try with_reducible rfl
  try simp only [Act.put, List.getElem_toArray, List.getElem_cons_zero, List.getElem_cons_succ, List.setIfInBounds_toArray, List.set_cons_zero, List.set_cons_succ]
  refine wpAnyH_take (i := 9) (v := ?vR9) rfl (by kernel_rfl) (by kernel_rfl) (by kernel_rfl) (fun _ _ _ h => h) (Or.inl ⟨by rfl, ?hR9⟩) HSS ?restR9
  case hR9 =>
    rintro u ⟨k1, k2, k3⟩
    go_simp
    try with_reducible rfl
  try simp only [Act.put, List.getElem_toArray, List.getElem_cons_zero, List.getElem_cons_succ, List.setIfInBounds_toArray, List.set_cons_zero, List.set_cons_succ]
  refine wpAnyH_all (rs := [10]) (by kernel_rfl) (by simp) (fun i hi => ?_)
  obtain rfl : i = 10 := by simpa using hi
  clear hi
  refine wpOp_enter rfl rfl 14 #[.slice AO OL.length cO] (by kernel_rfl) ?_
  refine (Types_any HO10.out HOL.out).mono ?_
  rintro e w11 ⟨vT, rfl, hT, hu11⟩
  obtain ⟨AT, cT, rfl⟩ := Own.formN (n := OL.length) hT (by simp)
  replace hb8 := VB.upd ChV.ok hb8 hu11
  replace hb7' := VB.upd ChV.ok hb7' hu11
  have HSM := hid (SameTypes_any (al := OL.map (·.1)) (bl := OL.map (·.1)) (Row.upd HX2.out hu11 (by simp)) (Own.row hT) (by simpa using HOL.out) (by simpa using HOL.out))
  have HU11 := hid (HU10.out.trans hu11 (by simp))
  clear HX2 HO10 HU10 hu11 HSS
  have HSS := And.intro (VB.load ChV.ok hb8) (And.intro (VB.load ChV.ok hb7') (hb8.1.at_ a30))
  refine ⟨HSS, ?_⟩
  try simp only [Act.put, List.getElem_toArray, List.getElem_cons_zero, List.getElem_cons_succ, List.setIfInBounds_toArray, List.set_cons_zero, List.set_cons_succ]
  refine wpAnyH_all (rs := [11]) (by kernel_rfl) (by simp) (fun i hi => ?_)
  obtain rfl : i = 11 := by simpa using hi
  clear hi
  refine wpOp_enter rfl rfl 13 #[.slice A30 OL.length c30, .slice AT OL.length cT] (by kernel_rfl) ?_
  refine HSM.out.mono ?_
  rintro e w12 ⟨rfl, hu12⟩
  rw [beq_self_eq_true]
  replace hb8 := VB.upd ChV.ok hb8 hu12
  replace hb7' := VB.upd ChV.ok hb7' hu12
  have HU12 := hid (HU11.out.trans hu12 (by simp))
  clear HSS
  have HSS := And.intro (VB.load ChV.ok hb8) (And.intro (VB.load ChV.ok hb7') (hb8.1.at_ a30))
  refine ⟨HSS, ?_⟩
  try simp only [Act.put, List.getElem_toArray, List.getElem_cons_zero, List.getElem_cons_succ, List.setIfInBounds_toArray, List.set_cons_zero, List.set_cons_succ]
  refine wpAnyH_take (i := 12) (v := ?vR12) rfl (by kernel_rfl) (by kernel_rfl) (by kernel_rfl) (fun _ _ _ h => h) (Or.inl ⟨by rfl, ?hR12⟩) HSS ?restR12
  case hR12 =>
    rintro u ⟨k1, k2, k3⟩
    go_simp
    try with_reducible rfl
  try simp only [Act.put, List.getElem_toArray, List.getElem_cons_zero, List.getElem_cons_succ, List.setIfInBounds_toArray, List.set_cons_zero, List.set_cons_succ]
  refine wpAnyH_take (i := 13) (v := ?vR13) rfl (by kernel_rfl) (by kernel_rfl) (by kernel_rfl) (fun _ _ _ h => h) (Or.inl ⟨by rfl, ?hR13⟩) HSS ?restR13
  case hR13 =>
    rintro u ⟨k1, k2, k3⟩
    go_simp
    try with_reducible rfl
  try simp only [Act.put, List.getElem_toArray, List.getElem_cons_zero, List.getElem_cons_succ, List.setIfInBounds_toArray, List.set_cons_zero, List.set_cons_succ]
  refine wpAnyH_done (by kernel_rfl) ?_ _
  go_wp2
  go_ret
  exact ⟨rfl, HU12.out⟩
end
set_option maxRecDepth 100000 in
theorem lifted_ClientHelloRead (os : Os) (started : os.Started) (H : Type) (enc : TypeId × Value → H) (F : Stop.Interp) :
    ReturnsInHanded {} Try.checked os 3 .any ((Rows.OpenSpec.upto Rows.fnClientHelloReadSpec).pre6 enc Try.prog Try.f3 Rows.fnClientHelloReadUptoRow.domain false) (((Rows.OpenSpec.upto Rows.fnClientHelloReadSpec).at F).post enc Try.prog Try.f3 false true false false) := by
  refine returnsInHanded_of_cond (C := Try.checked) (s := Rows.OpenSpec.upto Rows.fnClientHelloReadSpec) (k := Rows.uptoSmall) rfl own started (by kernel_rfl) Try.func3
    (OpenSpec.witness (enc := enc) (C := Try.checked) (s := Rows.OpenSpec.upto Rows.fnClientHelloReadSpec) (k := Rows.uptoSmall) rfl false ⟨#[], #[.agg #[.int .u16 0, .slice none 0 0, .slice none 0 0, .slice none 0 0, .slice none 0 0, .string ⟨#[]⟩, .bool false, .slice none 0 0, .slice none 0 0, .bool false, .slice none 0 0, .slice none 0 0, .slice none 0 0, .bool false, .slice none 0 0, .bool false, .slice none 0 0, .bool false, .slice none 0 0, .slice none 0 0, .slice none 0 0, .slice none 0 0, .bool false, .slice none 0 0, .slice none 0 0, .slice none 0 0, .slice none 0 0, .bool false, .slice none 0 0, .slice none 0 0, .slice none 0 0], .int .i64 0, .slice none 0 0], []⟩ 8 (by kernel_rfl) (by kernel_rfl) (by kernel_rfl) (x := ([.agg [.lit (.int .u16 0), .nil, .nil, .nil, .nil, .lit (.string []), .lit (.bool false), .nil, .nil, .lit (.bool false), .nil, .nil, .nil, .lit (.bool false), .nil, .lit (.bool false), .nil, .lit (.bool false), .nil, .nil, .nil, .nil, .lit (.bool false), .nil, .nil, .nil, .nil, .lit (.bool false), .nil, .nil, .nil], .lit (.int .i64 0), .nil], [], [])) (by kernel_rfl) rfl (by kernel_rfl)) ?_
  intro W base args ds gs before hval0 hW hcnd hk0 _
  have hval : ∀ (j : Nat) t v, Try.f3.params[j]? = some t → args[j]? = some v → Value.okWide Try.prog W .any base t v := hval0
  have hW' := hW
  obtain ⟨p, q, hA0, hV, rfl, hfz, hnd⟩ := hW
  obtain ⟨rfl, rfl⟩ := trodVars_none hV
  rw [List.append_nil] at hk0
  have hk := uptoSmall_le hk0
  have hA : DataW.TrodAll enc Try.prog W 0 (fun _ => true) true Try.f3.params.toList args.toList ds p := hA0
  rw [Try.params3] at hA hval
  obtain ⟨v0, vs0, d0, ds0, p0, q0, hargs, rfl, rfl, h0, r0⟩ := trodAll_cons hA
  obtain ⟨v1, vs1, d1, ds1, p1, q1, rfl, rfl, rfl, h1, r1⟩ := trodAll_cons r0
  obtain ⟨v2, vs2, d2, ds2, p2, q2, rfl, rfl, rfl, h2, r2⟩ := trodAll_cons r1
  obtain ⟨rfl, rfl, rfl⟩ := trodAll_nil r2
  obtain rfl : args = #[v0, v1, v2] := by cases args; simp_all
  have b0 : Rows.uptoBulk d0 ≤ 1048576 := Nat.le_trans (bulk_part (by simp)) hk
  have b1 : Rows.uptoBulk d1 ≤ 1048576 := Nat.le_trans (bulk_part (by simp)) hk
  have b2 : Rows.uptoBulk d2 ≤ 1048576 := Nat.le_trans (bulk_part (by simp)) hk
  obtain ⟨m, y0, z0⟩ := open_ch (hval 0 29 _ rfl rfl) h0 b0
  obtain ⟨first, rfl, rfl, rfl, w1⟩ := open_int Try.underlying3 (hval 1 3 _ rfl rfl) h1
  obtain ⟨more, y2⟩ := open_lists (hval 2 26 _ rfl rfl) h2
  exact (law_ClientHelloRead y0 z0 first w1 y2).mono fun e W' h => law_post hW' rfl rfl (by kernel_rfl) (by kernel_rfl) h
theorem ClientHelloRead_holds : Rows.FnClientHelloReadUptoSaid :=
  OpenClaim.holds_of_cond 3 Try.f3 rfl rfl rfl rfl rfl rfl rfl ⟨rfl, rfl, rfl, rfl, rfl⟩ rfl rfl rfl rfl rfl (by kernel_rfl) Try.func3 (by kernel_rfl)
    (of_decide_eq_true (by kernel_rfl)) (by unfold Func.isWrapper; first | (rw [if_pos (by decide +kernel)]; kernel_rfl) | (rw [if_neg (by decide +kernel)]; exact ⟨rfl, rfl⟩))
    (fun os started H enc _ F => lifted_ClientHelloRead os started H enc F)
end Go.Proofs.Ytaajmfgplhfncaa

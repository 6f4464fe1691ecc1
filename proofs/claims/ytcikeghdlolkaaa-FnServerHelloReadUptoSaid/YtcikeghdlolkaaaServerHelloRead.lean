/- The law ServerHelloRead, where the argument is of bulk at most 1048576: it answers true; nothing of what was there is changed. -/
import Derived.Test.YtcikeghdlolkaaaShL3
import Derived.Test.YtcikeghdlolkaaaRet
import Derived.Test.YtcikeghdlolkaaaShI
namespace Go.Proofs.Ytcikeghdlolkaaa
open Go.ChangeShapes Go.WideShapes Go.ChangeAt Go.RowKit
set_option maxRecDepth 100000
section
variable {w w' : World} {B C : Nat} {v content : Value} {xs data : List UInt8} {e : Ending} {t : Sh} {more : List (List UInt8)}
set_option maxHeartbeats 4000000 in
theorem law_ServerHelloRead (hv : ShV w B v t) (hk : ShBulk t) (n : Int) (wn : (Lit.int .i64 n).wf = true) {v2 : Value} (hm : Lst w C v2 more) : Calls Try.prog 3 #[v, .int .i64 n, v2] w (LawP w) := by
  obtain ⟨cs, rfl, -⟩ := ShV.ok.agg hv
  have hb0 := ShV.ok.box hv
  obtain ⟨w0, hw0⟩ : ∃ w0, w.alloc (.cells cs 26) = w0 := ⟨_, rfl⟩
  obtain ⟨g, hg⟩ : ∃ g, w.heap.size = g := ⟨_, rfl⟩
  have hU0 : Upd [] w w0 := by rw [← hw0]; exact (Upd.refl _ _).alloc _
  rw [hw0, hg] at hb0
  obtain ⟨A9, c9, rfl, hm, -, -⟩ := hm.shrink.form
  have hm0 := hm.upd hU0 (by simp)
  have HW := hid hw0
  have HG := hid hg
  clear hw0 hg hv
  go_enter Try.func3, Try.ntmps3
  go_upto_region 1 with fail
  rw [HW.out, HG.out]
  go_wp2_with (refine wpList_load_vb ShV.ok hb0 _ rfl rfl rfl ?_)
  refine (zzFits_Sh hb0.2 hk).mono ?_
  rintro e w1 ⟨b, rfl, hu1, hz⟩
  cases b
  case false =>
    go_wp2
    go_ret
    exact ⟨rfl, hU0.trans hu1 (by simp)⟩
  replace hz := hz rfl
  have hb1 := VB.upd ShV.ok hb0 hu1
  have hU1 := hU0.trans hu1 (by simp)
  have hm1 := hm0.upd hu1 (by simp)
  have HF2 := hid (zzFits2_any hm1)
  clear hb0 hU0 hu1 hm hm0
  go_wp2_with fail
  refine HF2.out.mono ?_
  rintro e w1' ⟨b, rfl, hu1, hzm⟩
  cases b
  case false =>
    go_wp2
    go_ret
    exact ⟨rfl, hU1.trans hu1 (by simp)⟩
  obtain ⟨-, z3⟩ := hzm rfl
  have Z3 := hid z3
  replace hb1 := VB.upd ShV.ok hb1 hu1
  replace hU1 := hU1.trans hu1 (by simp)
  replace hm1 := hm1.upd hu1 (by simp)
  clear HF2 hzm hu1 z3
  go_wp2_with (refine wpList_load_vb ShV.ok hb1 _ rfl rfl rfl ?_)
  have hr0 := Right_Sh (w := w1') hb1.2
  rcases bcase (shRight t) with hr | hr
  rotate_left
  · rw [hr] at hr0
    refine hr0.mono ?_
    rintro e w2 ⟨rfl, hu2⟩
    go_wp2
    go_ret
    exact ⟨rfl, hU1.trans hu2 (by simp)⟩
  rw [hr] at hr0
  have HZ := hid hz
  have HR := hid hr
  clear hz hr
  by_cases hn : n < 0
  · have dn : decide (n < 0) = true := decide_eq_true hn
    clear hn
    refine hr0.mono ?_
    rintro e w2 ⟨rfl, hu2⟩
    go_wp2
    go_ret
    exact ⟨rfl, hU1.trans hu2 (by simp)⟩
  have dn : decide (n < 0) = false := decide_eq_false hn
  obtain ⟨f, rfl⟩ : ∃ f : Nat, n = (f : Int) := ⟨n.toNat, by omega⟩
  have hf : f ≤ 9223372036854775807 := by have := bounds_i64 wn; omega
  have HFB := hid hf
  clear hn wn hf
  by_cases hml : 8 < more.length
  · have dm : decide ((8 : Int) < (more.length : Int)) = true := decide_eq_true (by omega)
    clear hml
    refine hr0.mono ?_
    rintro e w2 ⟨rfl, hu2⟩
    go_wp2
    go_ret
    exact ⟨rfl, hU1.trans hu2 (by simp)⟩
  have dm : decide ((8 : Int) < (more.length : Int)) = false := decide_eq_false (by omega)
  have HML := hid hml
  clear hml
  refine hr0.mono ?_
  rintro e w2 ⟨rfl, hu2⟩
  have hb2 := VB.upd ShV.ok hb1 hu2
  have hU2 := hU1.trans hu2 (by simp)
  have hm2 := hm1.upd hu2 (by simp)
  clear hm1 hb1 hU1 hu2 hr0
  obtain ⟨q2, hq2⟩ : ∃ q, (!(shExtL t).bad) = q := ⟨_, rfl⟩
  have HQ2 := hid hq2
  clear hq2
  go_wp2_with (refine wpList_load_vb ShV.ok hb2 _ rfl rfl rfl ?_)
  refine (Exts_Sh hb2.2 HZ.out).mono ?_
  rintro e w3 ⟨v3, rfl, hE3, hu3⟩
  rw [HQ2.out]
  obtain ⟨A3, c3, rfl, hE3, -, -⟩ := hE3.form
  have hb3 := VB.upd ShV.ok hb2 hu3
  have hU3 := hU2.trans hu3 (by simp)
  have hm3 := hm2.upd hu3 (by simp)
  clear hm2 hb2 hU2 hu3
  go_wp2_with fail
  refine wp_region_held (S := fun u => (loadVar 26 ⟨g, 0, none⟩).run Try.prog u = .ok (.agg cs) u) (by kernel_rfl) ?_
  change wpAnyH _ _ _ _ _ _ _ _ (World.drew _)
  have hdr : Upd [] w3 (World.drew w3) := (Upd.refl [] w3).drew
  replace hb3 := VB.upd ShV.ok hb3 hdr
  replace hE3 := hE3.upd hdr (by simp)
  replace hU3 := hU3.trans hdr (by simp)
  replace hm3 := hm3.upd hdr (by simp)
  clear hdr
  obtain ⟨w3d, hw3d⟩ : ∃ x, World.drew w3 = x := ⟨_, rfl⟩
  rw [hw3d] at hb3 hE3 hU3 hm3 ⊢
  clear hw3d
  have HS := VB.load ShV.ok hb3
  try simp only [Act.put, List.getElem_toArray, List.getElem_cons_zero, List.getElem_cons_succ, List.setIfInBounds_toArray, List.set_cons_zero, List.set_cons_succ]
  refine wpAnyH_take (i := 0) (v := .agg cs) rfl (by kernel_rfl) (by kernel_rfl) (by kernel_rfl) (fun _ _ _ h => h) (yieldsIf_loadvar _ rfl rfl rfl (fun _ h => h)) HS ?_
  try simp only [Act.put, List.getElem_toArray, List.getElem_cons_zero, List.getElem_cons_succ, List.setIfInBounds_toArray, List.set_cons_zero, List.set_cons_succ]
  refine wpAnyH_take (i := 1) (v := ?vR1) rfl (by kernel_rfl) (by kernel_rfl) (by kernel_rfl) (fun _ _ _ h => h) (Or.inl ⟨by rfl, ?hR1⟩) HS ?restR1
  case hR1 =>
    intro u hu
    go_simp
    try with_reducible rfl
  try simp only [Act.put, List.getElem_toArray, List.getElem_cons_zero, List.getElem_cons_succ, List.setIfInBounds_toArray, List.set_cons_zero, List.set_cons_succ]
  refine wpAnyH_take (i := 2) (v := ?vR2) rfl (by kernel_rfl) (by kernel_rfl) (by kernel_rfl) (fun _ _ _ h => h) (Or.inl ⟨by rfl, ?hR2⟩) HS ?restR2
  case hR2 =>
    intro u hu
    go_simp
    try with_reducible rfl
  try simp only [Act.put, List.getElem_toArray, List.getElem_cons_zero, List.getElem_cons_succ, List.setIfInBounds_toArray, List.set_cons_zero, List.set_cons_succ]
  refine wpAnyH_take (i := 3) (v := ?vR3) rfl (by kernel_rfl) (by kernel_rfl) (by kernel_rfl) (fun _ _ _ h => h) (Or.inl ⟨by rfl, ?hR3⟩) HS ?restR3
  case hR3 =>
    intro u hu
    go_simp
    try with_reducible rfl
  try simp only [Act.put, List.getElem_toArray, List.getElem_cons_zero, List.getElem_cons_succ, List.setIfInBounds_toArray, List.set_cons_zero, List.set_cons_succ]
  obtain ⟨q1, hq1⟩ : ∃ q, (!(messageW 2 (shW t (ordered (shExtL t).l f more))).bad) = q := ⟨_, rfl⟩
  have HQ1 := hid hq1
  clear hq1
  have hol := shExts_size t HZ.out
  have hoe : (shExtL t).l.length ≤ 1000 := shE_few t
  have HO := hid (Ordered_any hE3 f HFB.out hm3 hoe (by have := HML.out; omega))
  have hos := ordered_size (shExtL t).l f (more := more) (by have := HML.out; omega) Z3.out
  have HOS := hid (show (exsB (ordered (shExtL t).l f more)).length ≤ 1000000000000 by omega)
  have HL0 := hid (ordered_lists (E := (shExtL t).l) (shE_nodup (shRight_iff HR.out)) (shE_low t) f more (by have := HML.out; omega))
  clear hos hol hoe hE3
  generalize ordered (shExtL t).l f more = OL at HO HOS HQ1 HL0
  refine wpAnyH_all (rs := [4]) (by kernel_rfl) (by simp) (fun i hi => ?_)
  obtain rfl : i = 4 := by simpa using hi
  clear hi
  refine wpOp_enter rfl rfl 14 #[.slice A3 (shExtL t).l.length c3, .int .i64 (f : Int), .slice A9 more.length c9] (by kernel_rfl) ?_
  refine HO.out.mono ?_
  rintro e w3' ⟨v3', rfl, hE3', hu3'⟩
  have hE3 := hE3'.exr
  obtain ⟨A3', c3', rfl, hE3, -, -⟩ := hE3.form
  replace hb3 := VB.upd ShV.ok hb3 hu3'
  replace hU3 := hU3.trans hu3' (by simp)
  clear hu3' HO hE3' hm3 HS
  have HS := VB.load ShV.ok hb3
  refine ⟨HS, ?_⟩
  try simp only [Act.put, List.getElem_toArray, List.getElem_cons_zero, List.getElem_cons_succ, List.setIfInBounds_toArray, List.set_cons_zero, List.set_cons_succ]
  refine wpAnyH_all (rs := [5]) (by kernel_rfl) (by simp) (fun i hi => ?_)
  obtain rfl : i = 5 := by simpa using hi
  clear hi
  refine wpOp_enter rfl rfl 13 #[.agg cs, .slice A3' OL.length c3'] (by kernel_rfl) ?_
  refine (Write_Sh hb3.2 HZ.out hE3 HOS.out).mono ?_
  rintro e w4 ⟨v4, rfl, hy4, -, ⟨A4, n4, c4, rfl⟩, hu4⟩
  rw [HQ1.out]
  have hb4 := VB.upd ShV.ok hb3 hu4
  have hU4 := hU3.trans hu4 (by simp)
  rw [shW_b] at hy4
  clear HS
  have HS := VB.load ShV.ok hb4
  refine ⟨HS, ?_⟩
  try simp only [Act.put, List.getElem_toArray, List.getElem_cons_zero, List.getElem_cons_succ, List.setIfInBounds_toArray, List.set_cons_zero, List.set_cons_succ]
  refine wpAnyH_take (i := 6) (v := ?vR6) rfl (by kernel_rfl) (by kernel_rfl) (by kernel_rfl) (fun _ _ _ h => h) (Or.inl ⟨by rfl, ?hR6⟩) HS ?restR6
  case hR6 =>
    intro u hu
    go_simp
    try with_reducible rfl
  try simp only [Act.put, List.getElem_toArray, List.getElem_cons_zero, List.getElem_cons_succ, List.setIfInBounds_toArray, List.set_cons_zero, List.set_cons_succ]
  refine wpAnyH_take (i := 7) (v := ?vR7) rfl (by kernel_rfl) (by kernel_rfl) (by kernel_rfl) (fun _ _ _ h => h) (Or.inl ⟨by rfl, ?hR7⟩) HS ?restR7
  case hR7 =>
    intro u hu
    go_simp
    try with_reducible rfl
  try simp only [Act.put, List.getElem_toArray, List.getElem_cons_zero, List.getElem_cons_succ, List.setIfInBounds_toArray, List.set_cons_zero, List.set_cons_succ]
  refine wpAnyH_take (i := 8) (v := ?vR8) rfl (by kernel_rfl) (by kernel_rfl) (by kernel_rfl) (fun _ _ _ h => h) (Or.inl ⟨by rfl, ?hR8⟩) HS ?restR8
  case hR8 =>
    intro u hu
    go_simp
    try with_reducible rfl
  try simp only [Act.put, List.getElem_toArray, List.getElem_cons_zero, List.getElem_cons_succ, List.setIfInBounds_toArray, List.set_cons_zero, List.set_cons_succ]
  refine wpAnyH_take (i := 9) (v := ?vR9) rfl (by kernel_rfl) (by kernel_rfl) (by kernel_rfl) (fun _ _ _ h => h) (Or.inl ⟨by rfl, ?hR9⟩) HS ?restR9
  case hR9 =>
    intro u hu
    go_simp
    try with_reducible rfl
  try simp only [Act.put, List.getElem_toArray, List.getElem_cons_zero, List.getElem_cons_succ, List.setIfInBounds_toArray, List.set_cons_zero, List.set_cons_succ]
  refine wpAnyH_take (i := 10) (v := ?vR10) rfl (by kernel_rfl) (by kernel_rfl) (by kernel_rfl) (fun _ _ _ h => h) (Or.inl ⟨by rfl, ?hR10⟩) HS ?restR10
  case hR10 =>
    intro u hu
    go_simp
    try with_reducible rfl
  try simp only [Act.put, List.getElem_toArray, List.getElem_cons_zero, List.getElem_cons_succ, List.setIfInBounds_toArray, List.set_cons_zero, List.set_cons_succ]
  clear HS
  refine wpAnyH_done (by kernel_rfl) ?_ _
  clear hb3 hU3 hu4 hE3
  cases q2
  case false =>
    go_wp2
    go_ret
    exact ⟨rfl, hU4⟩
  cases q1
  case false =>
    go_wp2
    go_ret
    exact ⟨rfl, hU4⟩
  have hs := shL_read t (shRight_iff HR.out) (by simpa using HQ2.out) (L := OL) (by simpa using HQ1.out) HL0.out
  have hr := un_Sh hy4
  rw [hs] at hr
  have HUN := hid hr
  have hU5 := hU4
  have hb5 := hb4
  clear hs hr hy4 hb4 hU4
  go_wp2_with fail
  refine HUN.out.mono ?_
  rintro e w6 ⟨v6, rfl, hv6, hu6⟩
  obtain ⟨cs6, rfl, -⟩ := ShV.ok.agg hv6
  have HZ6 := hid (ShV.size hv6)
  go_wp2_with (first
    | (refine wpList_store_vb ShV.ok (Blk.new _ _ _) (ShV.ok.upd hv6 ((Upd.refl [] _).alloc _) (by simp)) (Nat.le_refl _) HZ6.out rfl _ _ rfl rfl rfl ?_; intro w7 hb7 hu7 hs7; have hU57 : Upd [] w4 w7 := hu6.trans (((Upd.refl [] _).alloc _).trans hu7 (by simp)) (by simp); have hb5' := VB.upd ShV.ok hb5 hU57; have hU7 := hU5.trans hU57 (by simp))
    | (refine wpList_load_vb ShV.ok hb7 _ rfl rfl rfl ?_)
    | (refine wpList_load_vb ShV.ok hb5' _ rfl rfl rfl ?_))
  refine (SameSh_eq (w := w7) hb7.2 hb5'.2).mono ?_
  rintro e w8 ⟨rfl, hu8⟩
  go_wp2
  go_ret
  exact ⟨rfl, hU7.trans hu8 (by simp)⟩
end
set_option maxRecDepth 100000 in
theorem lifted_ServerHelloRead (os : Os) (started : os.Started) (H : Type) (enc : TypeId × Value → H) (F : Stop.Interp) :
    ReturnsInHanded {} Try.checked os 3 .any ((Rows.OpenSpec.upto Rows.fnServerHelloReadSpec).pre6 enc Try.prog Try.f3 Rows.fnServerHelloReadUptoRow.domain false) (((Rows.OpenSpec.upto Rows.fnServerHelloReadSpec).at F).post enc Try.prog Try.f3 false true false false) := by
  refine returnsInHanded_of_cond (C := Try.checked) (s := Rows.OpenSpec.upto Rows.fnServerHelloReadSpec) (k := Rows.uptoSmall) rfl own started (by kernel_rfl) Try.func3
    (OpenSpec.witness (enc := enc) (C := Try.checked) (s := Rows.OpenSpec.upto Rows.fnServerHelloReadSpec) (k := Rows.uptoSmall) rfl false ⟨#[], #[.agg #[.int .u16 0, .slice none 0 0, .slice none 0 0, .int .u16 0, .int .u8 0, .bool false, .bool false, .bool false, .slice none 0 0, .bool false, .string ⟨#[]⟩, .slice none 0 0, .int .u16 0, .int .u16 0, .slice none 0 0, .bool false, .int .u16 0, .slice none 0 0, .slice none 0 0, .bool false, .slice none 0 0, .int .u16 0], .int .i64 0, .slice none 0 0], []⟩ 8 (by kernel_rfl) (by kernel_rfl) (by kernel_rfl) (x := ([.agg [.lit (.int .u16 0), .nil, .nil, .lit (.int .u16 0), .lit (.int .u8 0), .lit (.bool false), .lit (.bool false), .lit (.bool false), .nil, .lit (.bool false), .lit (.string []), .nil, .lit (.int .u16 0), .lit (.int .u16 0), .nil, .lit (.bool false), .lit (.int .u16 0), .nil, .nil, .lit (.bool false), .nil, .lit (.int .u16 0)], .lit (.int .i64 0), .nil], [], [])) (by kernel_rfl) rfl (by kernel_rfl)) ?_
  intro W base args ds gs before hval0 hW hcnd hk0 _
  have hval : ∀ (j : Nat) t v, Try.f3.params[j]? = some t → args[j]? = some v → Value.okWide Try.prog W .any base t v := hval0
  have hW' := hW
  obtain ⟨p, q, hA0, hV, rfl, hfz, hnd⟩ := hW
  obtain ⟨rfl, rfl⟩ := trodVars_none hV
  rw [List.append_nil] at hk0
  have hk := uptoSmall_le hk0
  have hA : DataW.TrodAll enc Try.prog W 0 (fun _ => true) true Try.f3.params.toList args.toList ds p := hA0
  rw [Try.params3] at hA hval
  obtain ⟨v0, vs0, d0, ds0, p0, q0, hargs, rfl, rfl, h0, r0⟩ := trodAll_cons hA
  obtain ⟨v1, vs1, d1, ds1, p1, q1, rfl, rfl, rfl, h1, r1⟩ := trodAll_cons r0
  obtain ⟨v2, vs2, d2, ds2, p2, q2, rfl, rfl, rfl, h2, r2⟩ := trodAll_cons r1
  obtain ⟨rfl, rfl, rfl⟩ := trodAll_nil r2
  obtain rfl : args = #[v0, v1, v2] := by cases args; simp_all
  have b0 : Rows.uptoBulk d0 ≤ 1048576 := Nat.le_trans (bulk_part (by simp)) hk
  have b1 : Rows.uptoBulk d1 ≤ 1048576 := Nat.le_trans (bulk_part (by simp)) hk
  have b2 : Rows.uptoBulk d2 ≤ 1048576 := Nat.le_trans (bulk_part (by simp)) hk
  obtain ⟨m, y0, z0⟩ := open_sh (hval 0 26 _ rfl rfl) h0 b0
  obtain ⟨first, rfl, rfl, rfl, w1⟩ := open_int Try.underlying3 (hval 1 3 _ rfl rfl) h1
  obtain ⟨more, y2⟩ := open_lists (hval 2 24 _ rfl rfl) h2
  exact (law_ServerHelloRead y0 z0 first w1 y2).mono fun e W' h => law_post hW' rfl rfl (by kernel_rfl) (by kernel_rfl) h
theorem ServerHelloRead_holds : Rows.FnServerHelloReadUptoSaid :=
  OpenClaim.holds_of_cond 3 Try.f3 rfl rfl rfl rfl rfl rfl rfl ⟨rfl, rfl, rfl, rfl, rfl⟩ rfl rfl rfl rfl rfl (by kernel_rfl) Try.func3 (by kernel_rfl)
    (of_decide_eq_true (by kernel_rfl)) (by unfold Func.isWrapper; first | (rw [if_pos (by decide +kernel)]; kernel_rfl) | (rw [if_neg (by decide +kernel)]; exact ⟨rfl, rfl⟩))
    (fun os started H enc _ F => lifted_ServerHelloRead os started H enc F)

end Go.Proofs.Ytcikeghdlolkaaa

/- The law Certificate13Read, where the arguments are of bulk at most 1048576: it answers true; nothing of what was there is changed. -/
import Derived.Test.YtddkjhlngofkaaaCtL
import Derived.Test.YtddkjhlngofkaaaCtI
import Derived.Test.YtddkjhlngofkaaaSpecW
import Derived.Test.YtddkjhlngofkaaaRetC
namespace Go.Proofs.Ytddkjhlngofkaaa
open Go.ChangeShapes Go.WideShapes Go.ChangeAt Go.RowKit
set_option maxRecDepth 100000
section
variable {w w' : World} {B C : Nat} {v content : Value} {xs data : List UInt8} {e : Ending} {t : Ct} {more : List (List UInt8)}
set_option maxHeartbeats 4000000 in
theorem law_Certificate13Read (hv : CtV w B v t) (hk : CtBulk t) {K : Nat} (hKb : CtBulkK K t) (hKK : K + lstSz more ≤ 1048576) {v2 : Value} (hm : Lst w C v2 more) : Calls Try.prog 10 #[v, v2] w (LawP w) := by
  obtain ⟨cs, rfl, -⟩ := CtV.ok.agg hv
  have hb0 := CtV.ok.box hv
  obtain ⟨w0, hw0⟩ : ∃ w0, w.alloc (.cells cs 53) = w0 := ⟨_, rfl⟩
  obtain ⟨g, hg⟩ : ∃ g, w.heap.size = g := ⟨_, rfl⟩
  have hU0 : Upd [] w w0 := by rw [← hw0]; exact (Upd.refl _ _).alloc _
  rw [hw0, hg] at hb0
  obtain ⟨A9, c9, rfl, hm, -, -⟩ := hm.shrink.form
  have hm0 := hm.upd hU0 (by simp)
  have HW := hid hw0
  have HG := hid hg
  clear hw0 hg hv
  go_enter Try.func10, Try.ntmps10
  go_upto_region 1 with fail
  rw [HW.out, HG.out]
  go_wp2_with (refine wpList_load_vb CtV.ok hb0 _ rfl rfl rfl ?_)
  refine (zzFits_Ct hb0.2 hk).mono ?_
  rintro e w1 ⟨b, rfl, hu1, hz⟩
  cases b
  case false =>
    go_wp2
    go_ret
    exact ⟨rfl, hU0.trans hu1 (by simp)⟩
  replace hz := hz rfl
  have hb1 := VB.upd CtV.ok hb0 hu1
  have hU1 := hU0.trans hu1 (by simp)
  have hm1 := hm0.upd hu1 (by simp)
  have HF2 := hid (zzFits2_any hm1)
  have HKB := hid hKb
  have HKK := hid hKK
  clear hb0 hU0 hu1 hm hm0 hKb hKK
  go_wp2_with fail
  refine HF2.out.mono ?_
  rintro e w1' ⟨b, rfl, hu1, hzm⟩
  cases b
  case false =>
    go_wp2
    go_ret
    exact ⟨rfl, hU1.trans hu1 (by simp)⟩
  replace hb1 := VB.upd CtV.ok hb1 hu1
  replace hU1 := hU1.trans hu1 (by simp)
  replace hm1 := hm1.upd hu1 (by simp)
  clear HF2 hzm hu1
  go_wp2_with (refine wpList_load_vb CtV.ok hb1 _ rfl rfl rfl ?_)
  have hr0 := Right_Ct (w := w1') hb1.2
  rcases bcase (ctRight t) with hr | hr
  rotate_left
  · rw [hr] at hr0
    refine hr0.mono ?_
    rintro e w2 ⟨rfl, hu2⟩
    go_wp2
    go_ret
    exact ⟨rfl, hU1.trans hu2 (by simp)⟩
  rw [hr] at hr0
  have HZ := hid hz
  have HR := hid hr
  clear hz hr
  by_cases hml : 8 < more.length
  · have dm : decide ((8 : Int) < (more.length : Int)) = true := decide_eq_true (by omega)
    clear hml
    refine hr0.mono ?_
    rintro e w2 ⟨rfl, hu2⟩
    go_wp2
    go_ret
    exact ⟨rfl, hU1.trans hu2 (by simp)⟩
  have dm : decide ((8 : Int) < (more.length : Int)) = false := decide_eq_false (by omega)
  have HML := hid hml
  clear hml
  refine hr0.mono ?_
  rintro e w2 ⟨rfl, hu2⟩
  have hb2 := VB.upd CtV.ok hb1 hu2
  have hU2 := hU1.trans hu2 (by simp)
  have hm2 := hm1.upd hu2 (by simp)
  clear hm1 hb1 hU1 hu2 hr0
  go_wp2_with fail
  refine wp_region_held (S := fun u => (loadVar 53 ⟨g, 0, none⟩).run Try.prog u = .ok (.agg cs) u) (by kernel_rfl) ?_
  change wpAnyH _ _ _ _ _ _ _ _ (World.drew _)
  have hdr : Upd [] w2 (World.drew w2) := (Upd.refl [] w2).drew
  replace hb2 := VB.upd CtV.ok hb2 hdr
  replace hU2 := hU2.trans hdr (by simp)
  replace hm2 := hm2.upd hdr (by simp)
  clear hdr
  obtain ⟨w2d, hw2d⟩ : ∃ x, World.drew w2 = x := ⟨_, rfl⟩
  rw [hw2d] at hb2 hU2 hm2 ⊢
  clear hw2d
  have HS := VB.load CtV.ok hb2
  try simp only [Act.put, List.getElem_toArray, List.getElem_cons_zero, List.getElem_cons_succ, List.setIfInBounds_toArray, List.set_cons_zero, List.set_cons_succ]
  refine wpAnyH_take (i := 0) (v := .agg cs) rfl (by kernel_rfl) (by kernel_rfl) (by kernel_rfl) (fun _ _ _ h => h) (yieldsIf_loadvar _ rfl rfl rfl (fun _ h => h)) HS ?_
  try simp only [Act.put, List.getElem_toArray, List.getElem_cons_zero, List.getElem_cons_succ, List.setIfInBounds_toArray, List.set_cons_zero, List.set_cons_succ]
  refine wpAnyH_take (i := 1) (v := ?vR1) rfl (by kernel_rfl) (by kernel_rfl) (by kernel_rfl) (fun _ _ _ h => h) (Or.inl ⟨by rfl, ?hR1⟩) HS ?restR1
  case hR1 =>
    intro u hu
    go_simp
    try with_reducible rfl
  try simp only [Act.put, List.getElem_toArray, List.getElem_cons_zero, List.getElem_cons_succ, List.setIfInBounds_toArray, List.set_cons_zero, List.set_cons_succ]
  have HO := hid (Unknown_any hm2 (by have := HML.out; omega))
  obtain ⟨q1, hq1⟩ : ∃ q, ctFits t (unknown more) = q := ⟨_, rfl⟩
  have hun : (unknown more).length ≤ 1000 := by rw [unknown, unknownGo_len]; have := HML.out; omega
  have hwz : CtWz t (unknown more) := ctWz HKB.out (by have := HKK.out; omega) (by
    have h1 := unknownGo_sz 0 more
    have h2 := HML.out
    have h3 := HKK.out
    show (exsB (unknownGo 0 more)).length ≤ _
    omega) hun
  refine wpAnyH_all (rs := [2]) (by kernel_rfl) (by simp) (fun i hi => ?_)
  obtain rfl : i = 2 := by simpa using hi
  clear hi
  refine wpOp_enter rfl rfl 31 #[.slice A9 more.length c9] (by kernel_rfl) ?_
  refine HO.out.mono ?_
  rintro e w3' ⟨v3', rfl, hE3', hu3'⟩
  have hE3 := hE3'.exr
  obtain ⟨A3', c3', rfl, hE3, -, -⟩ := hE3.form
  have hb3 := VB.upd CtV.ok hb2 hu3'
  have hU3 := hU2.trans hu3' (by simp)
  clear hu3' HO hE3' hm2 HS hb2 hU2
  have HS := VB.load CtV.ok hb3
  refine ⟨HS, ?_⟩
  try simp only [Act.put, List.getElem_toArray, List.getElem_cons_zero, List.getElem_cons_succ, List.setIfInBounds_toArray, List.set_cons_zero, List.set_cons_succ]
  refine wpAnyH_all (rs := [3]) (by kernel_rfl) (by simp) (fun i hi => ?_)
  obtain rfl : i = 3 := by simpa using hi
  clear hi
  refine wpOp_enter rfl rfl 30 #[.agg cs, .slice A3' (unknown more).length c3'] (by kernel_rfl) ?_
  refine (Write_Ct hb3.2 hE3 hwz).mono ?_
  rintro e w4 ⟨v4, rfl, hy4, -, ⟨A4, n4, c4, rfl⟩, hu4⟩
  rw [show (!(messageW 11 (ctW t (unknown more))).bad) = q1 from hq1]
  have hb4 := VB.upd CtV.ok hb3 hu4
  have hU4 := hU3.trans hu4 (by simp)
  rw [ctW_b] at hy4
  have HQ1 := hid hq1
  clear HS hb3 hU3 hu4 hE3 hwz hun hq1
  have HS := VB.load CtV.ok hb4
  refine ⟨HS, ?_⟩
  try simp only [Act.put, List.getElem_toArray, List.getElem_cons_zero, List.getElem_cons_succ, List.setIfInBounds_toArray, List.set_cons_zero, List.set_cons_succ]
  refine wpAnyH_take (i := 4) (v := ?vR4) rfl (by kernel_rfl) (by kernel_rfl) (by kernel_rfl) (fun _ _ _ h => h) (Or.inl ⟨by rfl, ?hR4⟩) HS ?restR4
  case hR4 =>
    intro u hu
    go_simp
    try with_reducible rfl
  try simp only [Act.put, List.getElem_toArray, List.getElem_cons_zero, List.getElem_cons_succ, List.setIfInBounds_toArray, List.set_cons_zero, List.set_cons_succ]
  refine wpAnyH_take (i := 5) (v := ?vR5) rfl (by kernel_rfl) (by kernel_rfl) (by kernel_rfl) (fun _ _ _ h => h) (Or.inl ⟨by rfl, ?hR5⟩) HS ?restR5
  case hR5 =>
    intro u hu
    go_simp
    try with_reducible rfl
  try simp only [Act.put, List.getElem_toArray, List.getElem_cons_zero, List.getElem_cons_succ, List.setIfInBounds_toArray, List.set_cons_zero, List.set_cons_succ]
  refine wpAnyH_take (i := 6) (v := ?vR6) rfl (by kernel_rfl) (by kernel_rfl) (by kernel_rfl) (fun _ _ _ h => h) (Or.inl ⟨by rfl, ?hR6⟩) HS ?restR6
  case hR6 =>
    intro u hu
    go_simp
    try with_reducible rfl
  try simp only [Act.put, List.getElem_toArray, List.getElem_cons_zero, List.getElem_cons_succ, List.setIfInBounds_toArray, List.set_cons_zero, List.set_cons_succ]
  refine wpAnyH_take (i := 7) (v := ?vR7) rfl (by kernel_rfl) (by kernel_rfl) (by kernel_rfl) (fun _ _ _ h => h) (Or.inl ⟨by rfl, ?hR7⟩) HS ?restR7
  case hR7 =>
    intro u hu
    go_simp
    try with_reducible rfl
  try simp only [Act.put, List.getElem_toArray, List.getElem_cons_zero, List.getElem_cons_succ, List.setIfInBounds_toArray, List.set_cons_zero, List.set_cons_succ]
  refine wpAnyH_take (i := 8) (v := ?vR8) rfl (by kernel_rfl) (by kernel_rfl) (by kernel_rfl) (fun _ _ _ h => h) (Or.inl ⟨by rfl, ?hR8⟩) HS ?restR8
  case hR8 =>
    intro u hu
    go_simp
    try with_reducible rfl
  try simp only [Act.put, List.getElem_toArray, List.getElem_cons_zero, List.getElem_cons_succ, List.setIfInBounds_toArray, List.set_cons_zero, List.set_cons_succ]
  clear HS
  refine wpAnyH_done (by kernel_rfl) ?_ _
  cases q1
  case false =>
    go_wp2
    go_ret
    exact ⟨rfl, hU4⟩
  have hok := ctRight_iff HR.out
  have hs := ct_read t (unknown more) hok (unknown_mute (by have := HML.out; omega)) HQ1.out
  have hr := un_Ct hy4
  rw [hs] at hr
  have HUN := hid hr
  have hU5 := hU4
  have hb5 := hb4
  clear hs hr hy4 hb4 hU4 hok
  go_wp2_with fail
  refine HUN.out.mono ?_
  rintro e w6 ⟨v6, rfl, hv6, hu6⟩
  obtain ⟨cs6, rfl, -⟩ := CtV.ok.agg hv6
  have HZ6 := hid (CtV.size hv6)
  go_wp2_with (first
    | (refine wpList_store_vb CtV.ok (Blk.new _ _ _) (CtV.ok.upd hv6 ((Upd.refl [] _).alloc _) (by simp)) (Nat.le_refl _) HZ6.out rfl _ _ rfl rfl rfl ?_; intro w7 hb7 hu7 hs7; have hU57 : Upd [] w4 w7 := hu6.trans (((Upd.refl [] _).alloc _).trans hu7 (by simp)) (by simp); have hb5' := VB.upd CtV.ok hb5 hU57; have hU7 := hU5.trans hU57 (by simp))
    | (refine wpList_load_vb CtV.ok hb7 _ rfl rfl rfl ?_)
    | (refine wpList_load_vb CtV.ok hb5' _ rfl rfl rfl ?_))
  refine (SameCt_eq (w := w7) hb7.2 hb5'.2).mono ?_
  rintro e w8 ⟨rfl, hu8⟩
  go_wp2
  go_ret
  exact ⟨rfl, hU7.trans hu8 (by simp)⟩
end
theorem open_listsK {H : Type} {enc : TypeId × Value → H} {W : World} {v : Value} {d : DataW H} {p : List MemPlace} {base : Nat}
    (hv : Value.okWide Try.prog W .any base 24 v) (h : DataW.Trod enc Try.prog W 0 (fun _ => true) true 24 v d p) : ∃ ls, Lst W W.heap.size v ls ∧ lstSz ls + 1 ≤ Rows.uptoBulk d := by
  obtain ⟨a0, len0, cap0, rfl⟩ := okWide_slice Try.underlying24 hv
  obtain ⟨fuel, hf⟩ := h
  exact lists_bulk (n := fuel) (x := (d, p)) (by simpa [Value.cells] using hf)
set_option maxRecDepth 100000 in
theorem lifted_Certificate13Read (os : Os) (started : os.Started) (H : Type) (enc : TypeId × Value → H) (F : Stop.Interp) :
    ReturnsInHanded {} Try.checked os 10 .any ((Rows.OpenSpec.upto Rows.fnCertificate13ReadSpec).pre6 enc Try.prog Try.f10 Rows.fnCertificate13ReadUptoRow.domain false) (((Rows.OpenSpec.upto Rows.fnCertificate13ReadSpec).at F).post enc Try.prog Try.f10 false true false false) := by
  refine returnsInHanded_of_cond (C := Try.checked) (s := Rows.OpenSpec.upto Rows.fnCertificate13ReadSpec) (k := Rows.uptoSmall) rfl own started (by kernel_rfl) Try.func10
    (OpenSpec.witness (enc := enc) (C := Try.checked) (s := Rows.OpenSpec.upto Rows.fnCertificate13ReadSpec) (k := Rows.uptoSmall) rfl false ⟨#[], #[.agg #[.slice none 0 0, .bool false, .bool false, .slice none 0 0, .slice none 0 0], .slice none 0 0], []⟩ 8 (by kernel_rfl) (by kernel_rfl) (by kernel_rfl) (x := ([.agg [.nil, .lit (.bool false), .lit (.bool false), .nil, .nil], .nil], [], [])) (by kernel_rfl) rfl (by kernel_rfl)) ?_
  intro W base args ds gs before hval0 hW hcnd hk0 _
  have hval : ∀ (j : Nat) t v, Try.f10.params[j]? = some t → args[j]? = some v → Value.okWide Try.prog W .any base t v := hval0
  have hW' := hW
  obtain ⟨p, q, hA0, hV, rfl, hfz, hnd⟩ := hW
  obtain ⟨rfl, rfl⟩ := trodVars_none hV
  rw [List.append_nil] at hk0
  have hk := uptoSmall_le hk0
  have hA : DataW.TrodAll enc Try.prog W 0 (fun _ => true) true Try.f10.params.toList args.toList ds p := hA0
  rw [Try.params10] at hA hval
  obtain ⟨v0, vs0, d0, ds0, p0, q0, hargs, rfl, rfl, h0, r0⟩ := trodAll_cons hA
  obtain ⟨v1, vs1, d1, ds1, p1, q1, rfl, rfl, rfl, h1, r1⟩ := trodAll_cons r0
  obtain ⟨rfl, rfl, rfl⟩ := trodAll_nil r1
  obtain rfl : args = #[v0, v1] := by cases args; simp_all
  have b0 : Rows.uptoBulk d0 ≤ 1048576 := Nat.le_trans (bulk_part (by simp)) hk
  have b1 : Rows.uptoBulk d1 ≤ 1048576 := Nat.le_trans (bulk_part (by simp)) hk
  obtain ⟨m, y0, z0⟩ := open_ctK (hval 0 53 _ rfl rfl) h0 (Nat.le_refl _)
  have zz0 : CtBulk m := ⟨Nat.le_trans z0.1 b0, Nat.le_trans z0.2.1 b0, Nat.le_trans z0.2.2 b0⟩
  obtain ⟨more, y1, z1⟩ := open_listsK (hval 1 24 _ rfl rfl) h1
  exact (law_Certificate13Read y0 zz0 z0 (by simp only [Rows.uptoBulkAll] at hk; omega) y1).mono fun e W' h => law_post hW' rfl rfl (by kernel_rfl) (by kernel_rfl) h
theorem Certificate13Read_holds : Rows.FnCertificate13ReadUptoSaid :=
  OpenClaim.holds_of_cond 10 Try.f10 rfl rfl rfl rfl rfl rfl rfl ⟨rfl, rfl, rfl, rfl, rfl⟩ rfl rfl rfl rfl rfl (by kernel_rfl) Try.func10 (by kernel_rfl)
    (of_decide_eq_true (by kernel_rfl)) (by unfold Func.isWrapper; first | (rw [if_pos (by decide +kernel)]; kernel_rfl) | (rw [if_neg (by decide +kernel)]; exact ⟨rfl, rfl⟩))
    (fun os started H enc _ F => lifted_Certificate13Read os started H enc F)

end Go.Proofs.Ytddkjhlngofkaaa

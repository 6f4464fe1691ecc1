/- The law ServerHelloBack, where the argument is of bulk at most 1048576: it answers true; nothing of what was there is changed. -/
import Derived.Test.YtcikeghdlolkaaaShL3
import Derived.Test.YtcikeghdlolkaaaShI
namespace Go.Proofs.Ytcikeghdlolkaaa
open Go.ChangeShapes Go.WideShapes Go.ChangeAt Go.RowKit
set_option maxRecDepth 100000
section
variable {w w' : World} {B C : Nat} {v content : Value} {xs data : List UInt8} {e : Ending} {t : Sh} {more : List (List UInt8)}
set_option maxHeartbeats 4000000 in
theorem law_ServerHelloBack (hv : ShV w B v t) (hk : ShBulk t) : Calls Try.prog 6 #[v] w (LawP w) := by
  obtain ⟨cs, rfl, -⟩ := ShV.ok.agg hv
  have hb0 := ShV.ok.box hv
  obtain ⟨w0, hw0⟩ : ∃ w0, w.alloc (.cells cs 26) = w0 := ⟨_, rfl⟩
  obtain ⟨g, hg⟩ : ∃ g, w.heap.size = g := ⟨_, rfl⟩
  have hU0 : Upd [] w w0 := by rw [← hw0]; exact (Upd.refl _ _).alloc _
  rw [hw0, hg] at hb0
  have HW := hid hw0
  have HG := hid hg
  clear hw0 hg hv
  go_enter Try.func6, Try.ntmps6
  go_upto_region 1 with fail
  rw [HW.out, HG.out]
  go_wp2_with (refine wpList_load_vb ShV.ok hb0 _ rfl rfl rfl ?_)
  refine (zzFits_Sh hb0.2 hk).mono ?_
  rintro e w1 ⟨b, rfl, hu1, hz⟩
  cases b
  case false =>
    go_wp2
    go_ret
    exact ⟨rfl, hU0.trans hu1 (by simp)⟩
  replace hz := hz rfl
  have hb1 := VB.upd ShV.ok hb0 hu1
  have hU1 := hU0.trans hu1 (by simp)
  clear hb0 hU0 hu1
  go_wp2_with (refine wpList_load_vb ShV.ok hb1 _ rfl rfl rfl ?_)
  have hr0 := Right_Sh (w := w1) hb1.2
  rcases bcase (shRight t) with hr | hr
  rotate_left
  · rw [hr] at hr0
    refine hr0.mono ?_
    rintro e w2 ⟨rfl, hu2⟩
    go_wp2
    go_ret
    exact ⟨rfl, hU1.trans hu2 (by simp)⟩
  rw [hr] at hr0
  have HZ := hid hz
  have HR := hid hr
  clear hz hr
  refine hr0.mono ?_
  rintro e w2 ⟨rfl, hu2⟩
  have hb2 := VB.upd ShV.ok hb1 hu2
  have hU2 := hU1.trans hu2 (by simp)
  clear hb1 hU1 hu2 hr0
  obtain ⟨q2, hq2⟩ : ∃ q, (!(shExtL t).bad) = q := ⟨_, rfl⟩
  have HQ2 := hid hq2
  clear hq2
  go_wp2_with (refine wpList_load_vb ShV.ok hb2 _ rfl rfl rfl ?_)
  refine (Exts_Sh hb2.2 HZ.out).mono ?_
  rintro e w3 ⟨v3, rfl, hE3, hu3⟩
  rw [HQ2.out]
  obtain ⟨A3, c3, rfl, hE3, -, -⟩ := hE3.form
  have hb3 := VB.upd ShV.ok hb2 hu3
  have hU3 := hU2.trans hu3 (by simp)
  clear hb2 hU2 hu3
  obtain ⟨q1, hq1⟩ : ∃ q, (!(messageW 2 (shW t ((shExtL t).l))).bad) = q := ⟨_, rfl⟩
  have HQ1 := hid hq1
  clear hq1
  go_wp2_with (refine wpList_load_vb ShV.ok hb3 _ rfl rfl rfl ?_)
  refine (Write_Sh hb3.2 HZ.out hE3 (by have := shExts_size t HZ.out; omega)).mono ?_
  rintro e w4 ⟨v4, rfl, -, -, ⟨A4, n4, c4, rfl⟩, hu4⟩
  rw [HQ1.out]
  have hb4 := VB.upd ShV.ok hb3 hu4
  have hU4 := hU3.trans hu4 (by simp)
  clear hb3 hU3 hu4 hE3
  have HF : Hid (shFits t = (q1 && q2)) := hid (by rw [← HQ1.out, ← HQ2.out]; rfl)
  clear HQ1 HQ2
  cases q1
  case false =>
    go_wp2
    go_ret
    exact ⟨rfl, hU4⟩
  cases q2
  case false =>
    go_wp2
    go_ret
    exact ⟨rfl, hU4⟩
  have hm := Mar_Sh (w := w4) hb4.2 HR.out HZ.out
  rw [shMake_eq (shRight_iff HR.out), HF.out] at hm
  rw [if_pos (show (true && true) = true from rfl)] at hm
  have hs := shL_back t (shRight_iff HR.out) HF.out
  go_wp2_with (refine wpList_load_vb ShV.ok hb4 _ rfl rfl rfl ?_)
  refine hm.mono ?_
  rintro e w5 ⟨hu5, u, rfl, hyb, -, A5, n5, c5, rfl⟩
  have hr := un_Sh hyb
  rw [hs] at hr
  have HUN := hid hr
  have hb5 := VB.upd ShV.ok hb4 hu5
  have hU5 := hU4.trans hu5 (by simp)
  clear hs hr hyb hm hb4 hU4 hu5 HF
  go_wp2_with fail
  refine HUN.out.mono ?_
  rintro e w6 ⟨v6, rfl, hv6, hu6⟩
  obtain ⟨cs6, rfl, -⟩ := ShV.ok.agg hv6
  have HZ6 := hid (ShV.size hv6)
  go_wp2_with (first
    | (refine wpList_store_vb ShV.ok (Blk.new _ _ _) (ShV.ok.upd hv6 ((Upd.refl [] _).alloc _) (by simp)) (Nat.le_refl _) HZ6.out rfl _ _ rfl rfl rfl ?_; intro w7 hb7 hu7 hs7; have hU57 : Upd [] w5 w7 := hu6.trans (((Upd.refl [] _).alloc _).trans hu7 (by simp)) (by simp); have hb5' := VB.upd ShV.ok hb5 hU57; have hU7 := hU5.trans hU57 (by simp))
    | (refine wpList_load_vb ShV.ok hb7 _ rfl rfl rfl ?_)
    | (refine wpList_load_vb ShV.ok hb5' _ rfl rfl rfl ?_))
  refine (SameSh_eq (w := w7) hb7.2 hb5'.2).mono ?_
  rintro e w8 ⟨rfl, hu8⟩
  go_wp2
  go_ret
  exact ⟨rfl, hU7.trans hu8 (by simp)⟩
end
set_option maxRecDepth 100000 in
theorem lifted_ServerHelloBack (os : Os) (started : os.Started) (H : Type) (enc : TypeId × Value → H) (F : Stop.Interp) :
    ReturnsInHanded {} Try.checked os 6 .any ((Rows.OpenSpec.upto Rows.fnServerHelloBackSpec).pre6 enc Try.prog Try.f6 Rows.fnServerHelloBackUptoRow.domain false) (((Rows.OpenSpec.upto Rows.fnServerHelloBackSpec).at F).post enc Try.prog Try.f6 false true false false) := by
  refine returnsInHanded_of_cond (C := Try.checked) (s := Rows.OpenSpec.upto Rows.fnServerHelloBackSpec) (k := Rows.uptoSmall) rfl own started (by kernel_rfl) Try.func6
    (OpenSpec.witness (enc := enc) (C := Try.checked) (s := Rows.OpenSpec.upto Rows.fnServerHelloBackSpec) (k := Rows.uptoSmall) rfl false ⟨#[], #[.agg #[.int .u16 0, .slice none 0 0, .slice none 0 0, .int .u16 0, .int .u8 0, .bool false, .bool false, .bool false, .slice none 0 0, .bool false, .string ⟨#[]⟩, .slice none 0 0, .int .u16 0, .int .u16 0, .slice none 0 0, .bool false, .int .u16 0, .slice none 0 0, .slice none 0 0, .bool false, .slice none 0 0, .int .u16 0]], []⟩ 8 (by kernel_rfl) (by kernel_rfl) (by kernel_rfl) (x := ([.agg [.lit (.int .u16 0), .nil, .nil, .lit (.int .u16 0), .lit (.int .u8 0), .lit (.bool false), .lit (.bool false), .lit (.bool false), .nil, .lit (.bool false), .lit (.string []), .nil, .lit (.int .u16 0), .lit (.int .u16 0), .nil, .lit (.bool false), .lit (.int .u16 0), .nil, .nil, .lit (.bool false), .nil, .lit (.int .u16 0)]], [], [])) (by kernel_rfl) rfl (by kernel_rfl)) ?_
  intro W base args ds gs before hval0 hW hcnd hk0 _
  have hval : ∀ (j : Nat) t v, Try.f6.params[j]? = some t → args[j]? = some v → Value.okWide Try.prog W .any base t v := hval0
  have hW' := hW
  obtain ⟨p, q, hA0, hV, rfl, hfz, hnd⟩ := hW
  obtain ⟨rfl, rfl⟩ := trodVars_none hV
  rw [List.append_nil] at hk0
  have hk := uptoSmall_le hk0
  have hA : DataW.TrodAll enc Try.prog W 0 (fun _ => true) true Try.f6.params.toList args.toList ds p := hA0
  rw [Try.params6] at hA hval
  obtain ⟨v0, vs0, d0, ds0, p0, q0, hargs, rfl, rfl, h0, r0⟩ := trodAll_cons hA
  obtain ⟨rfl, rfl, rfl⟩ := trodAll_nil r0
  obtain rfl : args = #[v0] := by cases args; simp_all
  have b0 : Rows.uptoBulk d0 ≤ 1048576 := Nat.le_trans (bulk_part (by simp)) hk
  obtain ⟨m, y0, z0⟩ := open_sh (hval 0 26 _ rfl rfl) h0 b0
  exact (law_ServerHelloBack y0 z0).mono fun e W' h => law_post hW' rfl rfl (by kernel_rfl) (by kernel_rfl) h
theorem ServerHelloBack_holds : Rows.FnServerHelloBackUptoSaid :=
  OpenClaim.holds_of_cond 6 Try.f6 rfl rfl rfl rfl rfl rfl rfl ⟨rfl, rfl, rfl, rfl, rfl⟩ rfl rfl rfl rfl rfl (by kernel_rfl) Try.func6 (by kernel_rfl)
    (of_decide_eq_true (by kernel_rfl)) (by unfold Func.isWrapper; first | (rw [if_pos (by decide +kernel)]; kernel_rfl) | (rw [if_neg (by decide +kernel)]; exact ⟨rfl, rfl⟩))
    (fun os started H enc _ F => lifted_ServerHelloBack os started H enc F)

end Go.Proofs.Ytcikeghdlolkaaa

/- The law Certificate13Bytes: it answers true for every argument; nothing of what was there is changed. -/
import Derived.Test.YtddkjhlngofkaaaCtR
import Derived.Test.YtddkjhlngofkaaaCtI
import Derived.Test.YtddkjhlngofkaaaLift
namespace Go.Proofs.Ytddkjhlngofkaaa
open Go.ChangeShapes Go.WideShapes Go.ChangeAt Go.RowKit
set_option maxRecDepth 100000
section
variable {w w' : World} {B C : Nat} {v content : Value} {xs data : List UInt8} {e : Ending}
set_option maxHeartbeats 4000000 in
theorem law_Certificate13Bytes (hc : Byt w B content xs) : Calls Try.prog 11 #[content] w (LawP w) := by
  obtain ⟨A, c, rfl, hc, hl, hcc⟩ := Byt.form hc rfl
  by_cases hbig : 2147483647 < xs.length
  · have hb : decide ((2147483647 : Int) < (xs.length : Int)) = true := decide_eq_true (by omega)
    clear hbig
    go_enter Try.func11, Try.ntmps11
    go_wp2
    go_ret
    exact ⟨rfl, Upd.refl _ _⟩
  have hb : decide ((2147483647 : Int) < (xs.length : Int)) = false := decide_eq_false (by omega)
  clear hbig
  have hr1 := rf_Ct hc.shrink
  obtain ⟨l1, l2⟩ := ct_law xs
  generalize (ctSpec xs).1 = M at hr1 l1
  generalize (ctSpec xs).2.code = K at hr1 l1 l2
  have G1 : ∀ w1, Upd [] w w1 → Hid (Calls Try.prog 32 #[.slice A xs.length c] w1 (UnG CtV w1 Ct.zero (ctRead xs))) := fun w1 hu => hid (un_Ct (Row.upd hc.shrink hu (by simp)))
  generalize ctRead xs = O at G1 l1 l2
  have H1 := hid hr1
  clear hr1 hl hcc hc
  have key : (K = 0 ∧ O = some M) ∨ ((K = 3) ∧ O = none) ∨ (K ≠ 0 ∧ K ≠ 3) := by
    by_cases k0 : K = 0
    · exact .inl ⟨k0, l1 k0⟩
    · by_cases k3 : K = 3
      · exact .inr (.inl ⟨k3, l2 (by omega)⟩)
      · exact .inr (.inr ⟨k0, by omega⟩)
  clear l1 l2
  rcases key with ⟨rfl, rfl⟩ | ⟨rfl, rfl⟩ | ⟨k0, k3⟩
  case' inr.inr =>
    have e0 : ((K : Int) == 0) = false := by rw [beq_eq_false_iff_ne]; omega
    have e3 : ((K : Int) == 3) = false := by rw [beq_eq_false_iff_ne]; omega
  all_goals
    go_enter Try.func11, Try.ntmps11
    go_wp2_with fail
    refine H1.out.mono ?_
    rintro e w1 ⟨v1, rfl, hv1, hu1⟩
    obtain ⟨cs1, rfl, -⟩ := CtV.ok.agg hv1
    have HZ1 := hid (CtV.size hv1)
    go_wp2_with (refine wpList_store_vb CtV.ok (Blk.new _ _ _) (CtV.ok.upd hv1 ((Upd.refl [] _).alloc _) (by simp)) (Nat.le_refl _) HZ1.out rfl _ _ rfl rfl rfl ?_; intro w2 hb2 hu2 hs2)
    have hU2 : Upd [] w w2 := hu1.trans (((Upd.refl [] _).alloc _).trans hu2 (by simp)) (by simp)
    obtain ⟨g1, hg1⟩ : ∃ g, w1.heap.size = g := ⟨_, rfl⟩
    rw [hg1] at hb2 ⊢
    have H2 := G1 _ hU2
    clear hu2 hs2 hu1 hv1 HZ1 H1 G1 hg1
    refine H2.out.mono ?_
    rintro e w3 ⟨v3, rfl, hv3, hu3⟩
    obtain ⟨cs3, rfl, -⟩ := CtV.ok.agg hv3
    have HZ3 := hid (CtV.size hv3)
    go_wp2_with (first
      | (refine wpList_store_vb CtV.ok (Blk.new _ _ _) (CtV.ok.upd hv3 ((Upd.refl [] _).alloc _) (by simp)) (Nat.le_refl _) HZ3.out rfl _ _ rfl rfl rfl ?_; intro w4 hb4 hu4 hs4; have hU34 : Upd [] w2 w4 := hu3.trans (((Upd.refl [] _).alloc _).trans hu4 (by simp)) (by simp); have hb2' := VB.upd CtV.ok hb2 hU34; have hU4 := hU2.trans hU34 (by simp))
      | (refine wpList_load_vb CtV.ok hb4 _ rfl rfl rfl ?_)
      | (refine wpList_load_vb CtV.ok hb2' _ rfl rfl rfl ?_))
    first
      | refine (alive_any (w := w4)).mono ?_
      | refine (SameCt_eq (w := w4) hb4.2 hb2'.2).mono ?_
    rintro e w5 ⟨rfl, hu5⟩
    go_wp2
    go_ret
    exact ⟨rfl, hU4.trans hu5 (by simp)⟩
end
set_option maxRecDepth 100000 in
theorem lifted_Certificate13Bytes (os : Os) (started : os.Started) (H : Type) (enc : TypeId × Value → H) :
    ReturnsInHanded {} Try.checked os 11 .any (Rows.fnCertificate13BytesSpec.pre6 enc Try.prog Try.f11 Rows.fnCertificate13BytesRow.domain false) (Rows.fnCertificate13BytesSpec.post enc Try.prog Try.f11 false true false false) := by
  refine returnsInHanded_of_change (C := Try.checked) own started (by kernel_rfl) Try.func11
    (ChangeSpec.witness6 (enc := enc) (C := Try.checked) false ⟨#[], #[.slice none 0 0], []⟩ 8 (by kernel_rfl) (by kernel_rfl) (by kernel_rfl) (by kernel_rfl)) ?_
  intro W base args ds gs before hval0 hW hcnd _
  have hval : ∀ (j : Nat) t v, Try.f11.params[j]? = some t → args[j]? = some v → Value.okWide Try.prog W .any base t v := hval0
  have hW' := hW
  obtain ⟨p, q, hA0, hV, rfl, hfz, hnd⟩ := hW
  have hA : DataW.TrodAll enc Try.prog W 0 (fun _ => true) true Try.f11.params.toList args.toList ds p := hA0
  rw [Try.params11] at hA hval
  obtain ⟨v0, vs0, d0, ds0, p0, q0, hargs, rfl, rfl, h0, r0⟩ := trodAll_cons hA
  obtain ⟨rfl, rfl, rfl⟩ := trodAll_nil r0
  obtain rfl : args = #[v0] := by cases args; simp_all
  obtain ⟨data, y0⟩ := open_bytes (hval 0 22 _ rfl rfl) h0
  exact (law_Certificate13Bytes y0).mono fun e W' h => law_post hW' rfl rfl (by kernel_rfl) (by kernel_rfl) h
theorem Certificate13Bytes_holds : Rows.FnCertificate13BytesSaid :=
  OpenClaim.holds_of_wide 11 Try.f11 rfl rfl rfl rfl rfl rfl rfl ⟨rfl, rfl, rfl, rfl, rfl⟩ rfl rfl rfl rfl rfl (by kernel_rfl) Try.func11 (by kernel_rfl)
    (of_decide_eq_true (by kernel_rfl)) (by unfold Func.isWrapper; first | (rw [if_pos (by decide +kernel)]; kernel_rfl) | (rw [if_neg (by decide +kernel)]; exact ⟨rfl, rfl⟩))
    (fun os started H enc _ => lifted_Certificate13Bytes os started H enc)

end Go.Proofs.Ytddkjhlngofkaaa

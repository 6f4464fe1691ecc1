/- The law CertificateRequest13Range: it answers true for every argument; nothing of what was there is changed. -/
import Derived.Test.YtddkjhlngofkaaaCqR
import Derived.Test.YtddkjhlngofkaaaCqI
import Derived.Test.YtddkjhlngofkaaaLift
namespace Go.Proofs.Ytddkjhlngofkaaa
open Go.ChangeShapes Go.WideShapes Go.ChangeAt Go.RowKit
set_option maxRecDepth 100000
section
variable {w w' : World} {B C : Nat} {v content : Value} {xs data : List UInt8} {e : Ending}
set_option maxHeartbeats 4000000 in
theorem law_CertificateRequest13Range (hc : Byt w B content xs) : Calls Try.prog 7 #[content] w (LawP w) := by
  obtain ⟨A, c, rfl, hc, hl, hcc⟩ := Byt.form hc rfl
  by_cases hbig : 2147483647 < xs.length
  · have hb : decide ((2147483647 : Int) < (xs.length : Int)) = true := decide_eq_true (by omega)
    clear hbig
    go_enter Try.func7, Try.ntmps7
    go_wp2
    go_ret
    exact ⟨rfl, Upd.refl _ _⟩
  have hb : decide ((2147483647 : Int) < (xs.length : Int)) = false := decide_eq_false (by omega)
  clear hbig
  have hr1 := rf_Cq hc.shrink
  obtain ⟨-, l2⟩ := cq_law xs
  generalize (cqSpec xs).1 = M at hr1
  generalize (cqSpec xs).2.code = K at hr1 l2
  have G1 : ∀ w1, Upd [] w w1 → Hid (Calls Try.prog 24 #[.slice A xs.length c] w1 (UnG CqV w1 Cq.zero (cqRead xs))) := fun w1 hu => hid (un_Cq (Row.upd hc.shrink hu (by simp)))
  generalize cqRead xs = O at G1 l2
  have H1 := hid hr1
  clear hr1 hl hcc hc
  have key : (K = 2 ∧ O = none) ∨ K ≠ 2 := by
    by_cases k : K = 2
    · exact .inl ⟨k, l2 (by omega)⟩
    · exact .inr k
  clear l2
  rcases key with ⟨rfl, rfl⟩ | k
  · go_enter Try.func7, Try.ntmps7
    go_wp2_with fail
    refine H1.out.mono ?_
    rintro e w1 ⟨v1, rfl, hv1, hu1⟩
    obtain ⟨cs1, rfl, -⟩ := CqV.ok.agg hv1
    have HZ1 := hid (CqV.size hv1)
    go_wp2_with (refine wpList_store_vb CqV.ok (Blk.new _ _ _) (CqV.ok.upd hv1 ((Upd.refl [] _).alloc _) (by simp)) (Nat.le_refl _) HZ1.out rfl _ _ rfl rfl rfl ?_; intro w2 hb2 hu2 hs2)
    have hU2 : Upd [] w w2 := hu1.trans (((Upd.refl [] _).alloc _).trans hu2 (by simp)) (by simp)
    have H2 := G1 _ hU2
    clear hv1 H1 G1 hu1 hu2 hb2 hs2
    refine H2.out.mono ?_
    rintro e w3 ⟨v3, rfl, hv3, hu3⟩
    obtain ⟨cs3, rfl, -⟩ := CqV.ok.agg hv3
    have HZ3 := hid (CqV.size hv3)
    go_wp2_with (refine wpList_store_vb CqV.ok (Blk.new _ _ _) (CqV.ok.upd hv3 ((Upd.refl [] _).alloc _) (by simp)) (Nat.le_refl _) HZ3.out rfl _ _ rfl rfl rfl ?_; intro w4 hb4 hu4 hs4)
    have hU4 : Upd [] w2 w4 := hu3.trans (((Upd.refl [] _).alloc _).trans hu4 (by simp)) (by simp)
    refine (alive_any (w := w4)).mono ?_
    rintro e w5 ⟨rfl, hu5⟩
    go_wp2
    go_ret
    exact ⟨rfl, (hU2.trans hU4 (by simp)).trans hu5 (by simp)⟩
  · have e2 : ((K : Int) != 2) = true := by rw [bne_iff_ne]; omega
    go_enter Try.func7, Try.ntmps7
    go_wp2_with fail
    refine H1.out.mono ?_
    rintro e w1 ⟨v1, rfl, hv1, hu1⟩
    obtain ⟨cs1, rfl, -⟩ := CqV.ok.agg hv1
    have HZ1 := hid (CqV.size hv1)
    go_wp2_with (refine wpList_store_vb CqV.ok (Blk.new _ _ _) (CqV.ok.upd hv1 ((Upd.refl [] _).alloc _) (by simp)) (Nat.le_refl _) HZ1.out rfl _ _ rfl rfl rfl ?_; intro w2 hb2 hu2 hs2)
    have hU2 : Upd [] w w2 := hu1.trans (((Upd.refl [] _).alloc _).trans hu2 (by simp)) (by simp)
    refine (alive_any (w := w2)).mono ?_
    rintro e w5 ⟨rfl, hu5⟩
    go_wp2
    go_ret
    exact ⟨rfl, hU2.trans hu5 (by simp)⟩
end
set_option maxRecDepth 100000 in
theorem lifted_CertificateRequest13Range (os : Os) (started : os.Started) (H : Type) (enc : TypeId × Value → H) :
    ReturnsInHanded {} Try.checked os 7 .any (Rows.fnCertificateRequest13RangeSpec.pre6 enc Try.prog Try.f7 Rows.fnCertificateRequest13RangeRow.domain false) (Rows.fnCertificateRequest13RangeSpec.post enc Try.prog Try.f7 false true false false) := by
  refine returnsInHanded_of_change (C := Try.checked) own started (by kernel_rfl) Try.func7
    (ChangeSpec.witness6 (enc := enc) (C := Try.checked) false ⟨#[], #[.slice none 0 0], []⟩ 8 (by kernel_rfl) (by kernel_rfl) (by kernel_rfl) (by kernel_rfl)) ?_
  intro W base args ds gs before hval0 hW hcnd _
  have hval : ∀ (j : Nat) t v, Try.f7.params[j]? = some t → args[j]? = some v → Value.okWide Try.prog W .any base t v := hval0
  have hW' := hW
  obtain ⟨p, q, hA0, hV, rfl, hfz, hnd⟩ := hW
  have hA : DataW.TrodAll enc Try.prog W 0 (fun _ => true) true Try.f7.params.toList args.toList ds p := hA0
  rw [Try.params7] at hA hval
  obtain ⟨v0, vs0, d0, ds0, p0, q0, hargs, rfl, rfl, h0, r0⟩ := trodAll_cons hA
  obtain ⟨rfl, rfl, rfl⟩ := trodAll_nil r0
  obtain rfl : args = #[v0] := by cases args; simp_all
  obtain ⟨data, y0⟩ := open_bytes (hval 0 22 _ rfl rfl) h0
  exact (law_CertificateRequest13Range y0).mono fun e W' h => law_post hW' rfl rfl (by kernel_rfl) (by kernel_rfl) h
theorem CertificateRequest13Range_holds : Rows.FnCertificateRequest13RangeSaid :=
  OpenClaim.holds_of_wide 7 Try.f7 rfl rfl rfl rfl rfl rfl rfl ⟨rfl, rfl, rfl, rfl, rfl⟩ rfl rfl rfl rfl rfl (by kernel_rfl) Try.func7 (by kernel_rfl)
    (of_decide_eq_true (by kernel_rfl)) (by unfold Func.isWrapper; first | (rw [if_pos (by decide +kernel)]; kernel_rfl) | (rw [if_neg (by decide +kernel)]; exact ⟨rfl, rfl⟩))
    (fun os started H enc _ => lifted_CertificateRequest13Range os started H enc)

end Go.Proofs.Ytddkjhlngofkaaa

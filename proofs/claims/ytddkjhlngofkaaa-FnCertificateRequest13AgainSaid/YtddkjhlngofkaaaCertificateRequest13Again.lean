/- The law CertificateRequest13Again: it answers true for every argument; nothing of what was there is changed. -/
import Derived.Test.YtddkjhlngofkaaaCqL
namespace Go.Proofs.Ytddkjhlngofkaaa
open Go.ChangeShapes Go.WideShapes Go.ChangeAt Go.RowKit
set_option maxRecDepth 100000
section
variable {w w' : World} {B C : Nat} {v content : Value} {xs data : List UInt8} {e : Ending}
set_option maxHeartbeats 4000000 in
theorem law_CertificateRequest13Again (hc : Byt w B content xs) : Calls Try.prog 9 #[content] w (LawP w) := by
  obtain ⟨A, c, rfl, hc, hl, hcc⟩ := Byt.form hc rfl
  by_cases hbig : 2147483647 < xs.length
  · have hb : decide ((2147483647 : Int) < (xs.length : Int)) = true := decide_eq_true (by omega)
    clear hbig
    go_enter Try.func9, Try.ntmps9
    go_wp2
    go_ret
    exact ⟨rfl, Upd.refl _ _⟩
  have hb : decide ((2147483647 : Int) < (xs.length : Int)) = false := decide_eq_false (by omega)
  clear hbig
  have hc := hc.shrink
  have hr1 := un_Cq hc
  have hsz : ∀ {t : Cq}, cqRead xs = some t → cqRight t = true ∧ CqSz t ∧ cqFits t = true := fun h => cqRead_all h
  generalize cqRead xs = O at hr1 hsz
  have H1 := hid hr1
  clear hr1 hl hcc hc
  rcases O with _ | t
  · clear hsz
    go_enter Try.func9, Try.ntmps9
    go_wp2_with fail
    refine H1.out.mono ?_
    rintro e w1 ⟨v1, rfl, hv1, hu1⟩
    obtain ⟨cs1, rfl, -⟩ := CqV.ok.agg hv1
    have HZ1 := hid (CqV.size hv1)
    go_wp2_with (refine wpList_store_vb CqV.ok (Blk.new _ _ _) (CqV.ok.upd hv1 ((Upd.refl [] _).alloc _) (by simp)) (Nat.le_refl _) HZ1.out rfl _ _ rfl rfl rfl ?_; intro w2 hb2 hu2 hs2)
    have hU2 : Upd [] w w2 := hu1.trans (((Upd.refl [] _).alloc _).trans hu2 (by simp)) (by simp)
    refine (alive_any (w := w2)).mono ?_
    rintro e w5 ⟨rfl, hu5⟩
    go_wp2
    go_ret
    exact ⟨rfl, hU2.trans hu5 (by simp)⟩
  obtain ⟨z0, z1, z2⟩ := hsz rfl
  have m2 := cq_back t (cqRight_iff z0) z2
  have Z0 := hid z0
  have Z1 := hid z1
  have Z2 := hid z2
  have M2 := hid m2
  clear hsz z0 z1 z2 m2
  go_enter Try.func9, Try.ntmps9
  go_wp2_with fail
  refine H1.out.mono ?_
  rintro e w1 ⟨v1, rfl, hv1, hu1⟩
  obtain ⟨cs1, rfl, -⟩ := CqV.ok.agg hv1
  have HZ1 := hid (CqV.size hv1)
  go_wp2_with (first
    | (refine wpList_store_vb CqV.ok (Blk.new _ _ _) (CqV.ok.upd hv1 ((Upd.refl [] _).alloc _) (by simp)) (Nat.le_refl _) HZ1.out rfl _ _ rfl rfl rfl ?_; intro w2 hb2 hu2 hs2)
    | (refine wpList_load_vb CqV.ok hb2 _ rfl rfl rfl ?_))
  have hU2 : Upd [] w w2 := hu1.trans (((Upd.refl [] _).alloc _).trans hu2 (by simp)) (by simp)
  have hb2 : VB 35 CqV w2 _ t cs1 := hb2
  generalize w1.heap.size = g1 at hb2 ⊢
  have hm := Mar_Cq (w := w2) hb2.2 Z0.out Z1.out
  rw [cqMake_eq, if_pos Z2.out] at hm
  refine hm.mono ?_
  rintro e w5 ⟨hu5, u, rfl, hyb, -, A5, n5, c5, rfl⟩
  have hr := un_Cq hyb
  rw [M2.out] at hr
  have HUN := hid hr
  have hb5 := VB.upd CqV.ok hb2 hu5
  have hU5 := hU2.trans hu5 (by simp)
  clear hr hyb hm hb2 hU2 hu5
  go_wp2_with fail
  refine HUN.out.mono ?_
  rintro e w6 ⟨v6, rfl, hv6, hu6⟩
  obtain ⟨cs6, rfl, -⟩ := CqV.ok.agg hv6
  have HZ6 := hid (CqV.size hv6)
  go_wp2_with (first
    | (refine wpList_store_vb CqV.ok (Blk.new _ _ _) (CqV.ok.upd hv6 ((Upd.refl [] _).alloc _) (by simp)) (Nat.le_refl _) HZ6.out rfl _ _ rfl rfl rfl ?_; intro w7 hb7 hu7 hs7; have hU57 : Upd [] w5 w7 := hu6.trans (((Upd.refl [] _).alloc _).trans hu7 (by simp)) (by simp); have hb5' := VB.upd CqV.ok hb5 hU57; have hU7 := hU5.trans hU57 (by simp))
    | (refine wpList_load_vb CqV.ok hb7 _ rfl rfl rfl ?_)
    | (refine wpList_load_vb CqV.ok hb5' _ rfl rfl rfl ?_))
  refine (SameCq_eq (w := w7) hb7.2 hb5'.2).mono ?_
  rintro e w8 ⟨rfl, hu8⟩
  go_wp2
  go_ret
  exact ⟨rfl, hU7.trans hu8 (by simp)⟩
end
set_option maxRecDepth 100000 in
theorem lifted_CertificateRequest13Again (os : Os) (started : os.Started) (H : Type) (enc : TypeId × Value → H) :
    ReturnsInHanded {} Try.checked os 9 .any (Rows.fnCertificateRequest13AgainSpec.pre6 enc Try.prog Try.f9 Rows.fnCertificateRequest13AgainRow.domain false) (Rows.fnCertificateRequest13AgainSpec.post enc Try.prog Try.f9 false true false false) := by
  refine returnsInHanded_of_change (C := Try.checked) own started (by kernel_rfl) Try.func9
    (ChangeSpec.witness6 (enc := enc) (C := Try.checked) false ⟨#[], #[.slice none 0 0], []⟩ 8 (by kernel_rfl) (by kernel_rfl) (by kernel_rfl) (by kernel_rfl)) ?_
  intro W base args ds gs before hval0 hW hcnd _
  have hval : ∀ (j : Nat) t v, Try.f9.params[j]? = some t → args[j]? = some v → Value.okWide Try.prog W .any base t v := hval0
  have hW' := hW
  obtain ⟨p, q, hA0, hV, rfl, hfz, hnd⟩ := hW
  have hA : DataW.TrodAll enc Try.prog W 0 (fun _ => true) true Try.f9.params.toList args.toList ds p := hA0
  rw [Try.params9] at hA hval
  obtain ⟨v0, vs0, d0, ds0, p0, q0, hargs, rfl, rfl, h0, r0⟩ := trodAll_cons hA
  obtain ⟨rfl, rfl, rfl⟩ := trodAll_nil r0
  obtain rfl : args = #[v0] := by cases args; simp_all
  obtain ⟨data, y0⟩ := open_bytes (hval 0 22 _ rfl rfl) h0
  exact (law_CertificateRequest13Again y0).mono fun e W' h => law_post hW' rfl rfl (by kernel_rfl) (by kernel_rfl) h
theorem CertificateRequest13Again_holds : Rows.FnCertificateRequest13AgainSaid :=
  OpenClaim.holds_of_wide 9 Try.f9 rfl rfl rfl rfl rfl rfl rfl ⟨rfl, rfl, rfl, rfl, rfl⟩ rfl rfl rfl rfl rfl (by kernel_rfl) Try.func9 (by kernel_rfl)
    (of_decide_eq_true (by kernel_rfl)) (by unfold Func.isWrapper; first | (rw [if_pos (by decide +kernel)]; kernel_rfl) | (rw [if_neg (by decide +kernel)]; exact ⟨rfl, rfl⟩))
    (fun os started H enc _ => lifted_CertificateRequest13Again os started H enc)

end Go.Proofs.Ytddkjhlngofkaaa

/- The law ServerHelloBytes: it answers true for every argument; nothing of what was there is changed. -/
import Derived.Test.YtcikeghdlolkaaaShR
import Derived.Test.YtcikeghdlolkaaaShI
import Derived.Test.YtcikeghdlolkaaaLift
namespace Go.Proofs.Ytcikeghdlolkaaa
open Go.ChangeShapes Go.WideShapes Go.ChangeAt Go.RowKit
set_option maxRecDepth 100000
section
variable {w w' : World} {B C : Nat} {v content : Value} {xs data : List UInt8} {e : Ending}
set_option maxHeartbeats 4000000 in
theorem law_ServerHelloBytes (hc : Byt w B content xs) : Calls Try.prog 5 #[content] w (LawP w) := by
  obtain ⟨A, c, rfl, hc, hl, hcc⟩ := Byt.form hc rfl
  by_cases hbig : 2147483647 < xs.length
  · have hb : decide ((2147483647 : Int) < (xs.length : Int)) = true := decide_eq_true (by omega)
    clear hbig
    go_enter Try.func5, Try.ntmps5
    go_wp2
    go_ret
    exact ⟨rfl, Upd.refl _ _⟩
  have hb : decide ((2147483647 : Int) < (xs.length : Int)) = false := decide_eq_false (by omega)
  clear hbig
  have hr1 := rf_Sh hc.shrink
  obtain ⟨l1, l2⟩ := sh_law xs
  generalize (shSpec xs).1 = M at hr1 l1
  generalize (shSpec xs).2.code = K at hr1 l1 l2
  have G1 : ∀ w1, Upd [] w w1 → Hid (Calls Try.prog 15 #[.slice A xs.length c] w1 (UnG ShV w1 Sh.zero (shRead xs))) := fun w1 hu => hid (un_Sh (Row.upd hc.shrink hu (by simp)))
  generalize shRead xs = O at G1 l1 l2
  have H1 := hid hr1
  clear hr1 hl hcc hc
  have key : (K = 0 ∧ O = some M) ∨ ((K = 3 ∨ K = 4) ∧ O = none) ∨ (K ≠ 0 ∧ K ≠ 3 ∧ K ≠ 4) := by
    by_cases k0 : K = 0
    · exact .inl ⟨k0, l1 k0⟩
    · by_cases k3 : K = 3 ∨ K = 4
      · exact .inr (.inl ⟨k3, l2 (by omega)⟩)
      · exact .inr (.inr ⟨k0, by omega, by omega⟩)
  clear l1 l2
  rcases key with ⟨rfl, rfl⟩ | ⟨rfl | rfl, rfl⟩ | ⟨k0, k3, k4⟩
  case' inr.inr =>
    have e0 : ((K : Int) == 0) = false := by rw [beq_eq_false_iff_ne]; omega
    have e3 : ((K : Int) == 3) = false := by rw [beq_eq_false_iff_ne]; omega
    have e4 : ((K : Int) == 4) = false := by rw [beq_eq_false_iff_ne]; omega
  all_goals
    go_enter Try.func5, Try.ntmps5
    go_wp2_with fail
    refine H1.out.mono ?_
    rintro e w1 ⟨v1, rfl, hv1, hu1⟩
    obtain ⟨cs1, rfl, -⟩ := ShV.ok.agg hv1
    have HZ1 := hid (ShV.size hv1)
    go_wp2_with (refine wpList_store_vb ShV.ok (Blk.new _ _ _) (ShV.ok.upd hv1 ((Upd.refl [] _).alloc _) (by simp)) (Nat.le_refl _) HZ1.out rfl _ _ rfl rfl rfl ?_; intro w2 hb2 hu2 hs2)
    have hU2 : Upd [] w w2 := hu1.trans (((Upd.refl [] _).alloc _).trans hu2 (by simp)) (by simp)
    obtain ⟨g1, hg1⟩ : ∃ g, w1.heap.size = g := ⟨_, rfl⟩
    rw [hg1] at hb2 ⊢
    have H2 := G1 _ hU2
    clear hu2 hs2 hu1 hv1 HZ1 H1 G1 hg1
    refine H2.out.mono ?_
    rintro e w3 ⟨v3, rfl, hv3, hu3⟩
    obtain ⟨cs3, rfl, -⟩ := ShV.ok.agg hv3
    have HZ3 := hid (ShV.size hv3)
    go_wp2_with (first
      | (refine wpList_store_vb ShV.ok (Blk.new _ _ _) (ShV.ok.upd hv3 ((Upd.refl [] _).alloc _) (by simp)) (Nat.le_refl _) HZ3.out rfl _ _ rfl rfl rfl ?_; intro w4 hb4 hu4 hs4; have hU34 : Upd [] w2 w4 := hu3.trans (((Upd.refl [] _).alloc _).trans hu4 (by simp)) (by simp); have hb2' := VB.upd ShV.ok hb2 hU34; have hU4 := hU2.trans hU34 (by simp))
      | (refine wpList_load_vb ShV.ok hb4 _ rfl rfl rfl ?_)
      | (refine wpList_load_vb ShV.ok hb2' _ rfl rfl rfl ?_))
    first
      | refine (alive_any (w := w4)).mono ?_
      | refine (SameSh_eq (w := w4) hb4.2 hb2'.2).mono ?_
    rintro e w5 ⟨rfl, hu5⟩
    go_wp2
    go_ret
    exact ⟨rfl, hU4.trans hu5 (by simp)⟩
end
set_option maxRecDepth 100000 in
theorem lifted_ServerHelloBytes (os : Os) (started : os.Started) (H : Type) (enc : TypeId × Value → H) :
    ReturnsInHanded {} Try.checked os 5 .any (Rows.fnServerHelloBytesSpec.pre6 enc Try.prog Try.f5 Rows.fnServerHelloBytesRow.domain false) (Rows.fnServerHelloBytesSpec.post enc Try.prog Try.f5 false true false false) := by
  refine returnsInHanded_of_change (C := Try.checked) own started (by kernel_rfl) Try.func5
    (ChangeSpec.witness6 (enc := enc) (C := Try.checked) false ⟨#[], #[.slice none 0 0], []⟩ 8 (by kernel_rfl) (by kernel_rfl) (by kernel_rfl) (by kernel_rfl)) ?_
  intro W base args ds gs before hval0 hW hcnd _
  have hval : ∀ (j : Nat) t v, Try.f5.params[j]? = some t → args[j]? = some v → Value.okWide Try.prog W .any base t v := hval0
  have hW' := hW
  obtain ⟨p, q, hA0, hV, rfl, hfz, hnd⟩ := hW
  have hA : DataW.TrodAll enc Try.prog W 0 (fun _ => true) true Try.f5.params.toList args.toList ds p := hA0
  rw [Try.params5] at hA hval
  obtain ⟨v0, vs0, d0, ds0, p0, q0, hargs, rfl, rfl, h0, r0⟩ := trodAll_cons hA
  obtain ⟨rfl, rfl, rfl⟩ := trodAll_nil r0
  obtain rfl : args = #[v0] := by cases args; simp_all
  obtain ⟨data, y0⟩ := open_bytes (hval 0 23 _ rfl rfl) h0
  exact (law_ServerHelloBytes y0).mono fun e W' h => law_post hW' rfl rfl (by kernel_rfl) (by kernel_rfl) h
theorem ServerHelloBytes_holds : Rows.FnServerHelloBytesSaid :=
  OpenClaim.holds_of_wide 5 Try.f5 rfl rfl rfl rfl rfl rfl rfl ⟨rfl, rfl, rfl, rfl, rfl⟩ rfl rfl rfl rfl rfl (by kernel_rfl) Try.func5 (by kernel_rfl)
    (of_decide_eq_true (by kernel_rfl)) (by unfold Func.isWrapper; first | (rw [if_pos (by decide +kernel)]; kernel_rfl) | (rw [if_neg (by decide +kernel)]; exact ⟨rfl, rfl⟩))
    (fun os started H enc _ => lifted_ServerHelloBytes os started H enc)

end Go.Proofs.Ytcikeghdlolkaaa

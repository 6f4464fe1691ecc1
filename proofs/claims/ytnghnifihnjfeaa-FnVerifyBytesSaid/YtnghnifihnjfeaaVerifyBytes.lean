/- The law VerifyBytes. -/
import Derived.Test.YtnghnifihnjfeaaVerifyR
namespace Go.Proofs.Ytnghnifihnjfeaa
open Go.ChangeShapes Go.WideShapes Go.ChangeAt Go.RowKit
set_option maxRecDepth 100000
section
variable {w w' : World} {v content : Value} {xs data : List UInt8} {e : Ending}
theorem law_VerifyBytes {B : Nat} (has : Bool) (hc : Byt w B content xs) : Calls Try.prog 11 #[.bool has, content] w (LawP w) := by
  obtain ⟨A, c, rfl, hc, hl, hcc⟩ := Byt.form hc rfl
  by_cases hbig : 2147483647 < xs.length
  · have hb : decide ((2147483647 : Int) < (xs.length : Int)) = true := decide_eq_true (by omega)
    clear hbig
    go_enter Try.func11, Try.ntmps11
    go_wp2
    go_ret
    exact ⟨rfl, Upd.refl _ _⟩
  have hb : decide ((2147483647 : Int) < (xs.length : Int)) = false := decide_eq_false (by omega)
  clear hbig
  have hr1 := ReadVerify_any has hc
  obtain ⟨l1, l2⟩ := ver_law has xs
  generalize hO : readVerify has xs = O at l1 l2
  have G1 : ∀ w1 : World, Upd [] w w1 → Hid (Calls Try.prog 35 #[.bool has, .slice A xs.length c] w1 (UnV w1 O)) := by
    intro w1 hu
    have := impl_UnmarshalVerify has (Row.upd (Row.shrink hc) hu (by simp))
    rw [hO] at this
    exact this
  have H1 := hid hr1
  clear hr1 hO hc hl hcc
  go_enter Try.func11, Try.ntmps11
  go_wp2_with fail
  refine H1.out.mono ?_
  rintro e w1 ⟨v1, C, ⟨A1, n1, c1, rfl⟩, hC, rfl, hu1, hb1⟩
  rw [hC] at l1 l2
  generalize UInt16.ofNat (verN has xs) = al at l1
  have H2 := G1 _ hu1
  clear G1 hC H1
  go_wp2_with fail
  refine H2.out.mono ?_
  rintro e w2 ⟨u2, a2, ⟨A2, n2, c2, rfl⟩, rfl, hu2, hb2⟩
  have hu := hu1.trans hu2 (by simp)
  have HA := hid (alive_any (w := w2))
  have key : (C = 0 ∧ O = some (al, (verV has xs).1)) ∨ (C = 3 ∧ O = none) ∨ (C ≠ 0 ∧ C ≠ 3) := by
    by_cases k0 : C = 0
    · exact .inl ⟨k0, l1 k0⟩
    · by_cases k3 : C = 3
      · exact .inr (.inl ⟨k3, l2 k3⟩)
      · exact .inr (.inr ⟨k0, k3⟩)
  clear l1 l2 H2
  rcases key with ⟨rfl, rfl⟩ | ⟨rfl, rfl⟩ | ⟨k0, k3⟩
  · obtain ⟨ha, hy⟩ := hb2 _ rfl
    have ha : al = a2 := ha
    subst ha
    have h5 := Same_any hy (Row.upd hb1 hu2 (by simp))
    rw [beq_self_eq_true] at h5
    have H5 := hid h5
    clear h5 hb2 hy
    go_wp2_with fail
    refine H5.out.mono ?_
    rintro e w5 ⟨rfl, rfl⟩
    go_wp2
    go_ret
    exact ⟨rfl, hu⟩
  · clear hb2
    go_wp2_with fail
    refine HA.out.mono ?_
    rintro e w3 ⟨rfl, hu3⟩
    go_wp2
    go_ret
    exact ⟨rfl, hu.trans hu3 (by simp)⟩
  · have e0 : ((C : Int) == 0) = false := by rw [beq_eq_false_iff_ne]; omega
    have e3 : ((C : Int) == 3) = false := by rw [beq_eq_false_iff_ne]; omega
    clear hb2
    go_wp2_with fail
    refine HA.out.mono ?_
    rintro e w3 ⟨rfl, hu3⟩
    go_wp2
    go_ret
    exact ⟨rfl, hu.trans hu3 (by simp)⟩
end
set_option maxRecDepth 100000 in
theorem lifted_VerifyBytes (os : Os) (started : os.Started) (H : Type) (enc : TypeId × Value → H) :
    ReturnsInHanded {} Try.checked os 11 .any (Rows.fnVerifyBytesSpec.pre6 enc Try.prog Try.f11 Rows.fnVerifyBytesRow.domain false) (Rows.fnVerifyBytesSpec.post enc Try.prog Try.f11 false true false false) := by
  refine returnsInHanded_of_change (C := Try.checked) own started (by kernel_rfl) Try.func11
    (ChangeSpec.witness6 (enc := enc) (C := Try.checked) false ⟨#[], #[.bool false, .slice none 0 0], []⟩ 8 (by kernel_rfl) (by kernel_rfl) (by kernel_rfl) (by kernel_rfl)) ?_
  intro W base args ds gs before hval0 hW hcnd _
  have hval : ∀ (j : Nat) t v, Try.f11.params[j]? = some t → args[j]? = some v → Value.okWide Try.prog W .any base t v := hval0
  have hW' := hW
  obtain ⟨p, q, hA0, hV, rfl, hfz, hnd⟩ := hW
  have hA : DataW.TrodAll enc Try.prog W 0 (fun _ => true) true Try.f11.params.toList args.toList ds p := hA0
  rw [Try.params11] at hA hval
  obtain ⟨v0, vs0, d0, ds0, p0, q0, hargs, rfl, rfl, h0, r0⟩ := trodAll_cons hA
  obtain ⟨v1, vs1, d1, ds1, p1, q1, rfl, rfl, rfl, h1, r1⟩ := trodAll_cons r0
  obtain ⟨rfl, rfl, rfl⟩ := trodAll_nil r1
  obtain rfl : args = #[v0, v1] := by cases args; simp_all
  obtain ⟨has, rfl, rfl, rfl⟩ := open_bool Try.underlying4 (hval 0 4 _ rfl rfl) h0
  obtain ⟨data, y1⟩ := open_bytes (hval 1 22 _ rfl rfl) h1
  exact (law_VerifyBytes has y1).mono fun e W' h => law_post hW' rfl rfl (by kernel_rfl) (by kernel_rfl) h
theorem VerifyBytes_holds : Rows.FnVerifyBytesSaid :=
  OpenClaim.holds_of_wide 11 Try.f11 rfl rfl rfl rfl rfl rfl rfl ⟨rfl, rfl, rfl, rfl, rfl⟩ rfl rfl rfl rfl rfl (by kernel_rfl) Try.func11 (by kernel_rfl)
    (of_decide_eq_true (by kernel_rfl)) (by unfold Func.isWrapper; first | (rw [if_pos (by decide +kernel)]; kernel_rfl) | (rw [if_neg (by decide +kernel)]; exact ⟨rfl, rfl⟩))
    (fun os started H enc _ => lifted_VerifyBytes os started H enc)
end Go.Proofs.Ytnghnifihnjfeaa

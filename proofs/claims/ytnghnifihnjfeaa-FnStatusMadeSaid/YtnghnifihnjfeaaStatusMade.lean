/- The law StatusMade. -/
import Derived.Test.YtnghnifihnjfeaaStatusU
namespace Go.Proofs.Ytnghnifihnjfeaa
open Go.ChangeShapes Go.WideShapes Go.ChangeAt Go.RowKit
set_option maxRecDepth 100000

theorem staple_eq (xs : List UInt8) : stapleW xs = ⟨1 :: be 3 xs.length ++ xs, decide (16777216 ≤ xs.length)⟩ := by
  simp [stapleW, Wr.vec, Wr.num, Wr.nil, be]

theorem status_plain (xs : List UInt8) (hne : xs ≠ []) : ((messageW 22 (stapleW xs)).bad = true ∧ app (some [UInt8.ofNat 22]) (lpOut 3 (app (some [UInt8.ofNat 1]) (lpOut 3 (some xs)))) = none) ∨
    ((messageW 22 (stapleW xs)).bad = false ∧ app (some [UInt8.ofNat 22]) (lpOut 3 (app (some [UInt8.ofNat 1]) (lpOut 3 (some xs)))) = some (messageW 22 (stapleW xs)).b ∧ readCertificateStatus (messageW 22 (stapleW xs)).b = some xs) := by
  rw [message_eq, staple_eq]
  by_cases h : xs.length < 16777216
  · have e1 : lpOut 3 (some xs) = some (be 3 xs.length ++ xs) := by simp [lpOut, h]
    rw [e1]
    have e2 : app (some [UInt8.ofNat 1]) (some (be 3 xs.length ++ xs)) = some (1 :: be 3 xs.length ++ xs) := rfl
    rw [e2]
    have hl : (1 :: be 3 xs.length ++ xs : List UInt8).length = xs.length + 4 := by simp [be_len]; omega
    by_cases h2 : xs.length + 4 < 16777216
    · right
      refine ⟨by simp only [hl]; simp; omega, ?_, ?_⟩
      · unfold lpOut
        simp only [hl]
        rw [if_pos (by omega)]
        rfl
      · rcases xs with _ | ⟨y, ys⟩
        · exact absurd rfl hne
        · have hd : (be 1 22 ++ be 3 (1 :: be 3 (y :: ys).length ++ (y :: ys) : List UInt8).length ++ (1 :: be 3 (y :: ys).length ++ (y :: ys))).drop 4 = 1 :: (be 3 (y :: ys).length ++ (y :: ys) ++ []) := by
            simp [be]
          have hk : lp 3 (be 3 (y :: ys).length ++ (y :: ys) ++ []) = some (y :: ys, []) := lp_be 3 (y :: ys) [] (beNat_be3 _ h)
          unfold readCertificateStatus
          rw [if_neg (by simp [be_len]; omega), hd]
          simp only [if_true, statIn, hk]
    · left
      refine ⟨by simp only [hl]; simp; omega, ?_⟩
      unfold lpOut
      simp only [hl]
      rw [if_neg (by omega)]
      rfl
  · left
    have e1 : lpOut 3 (some xs) = none := by simp [lpOut, h]
    refine ⟨by simp; omega, ?_⟩
    rw [e1]
    rfl

section
variable {w w' : World} {B : Nat} {v content : Value} {xs data : List UInt8} {e : Ending}
theorem law_StatusMade {B : Nat}  (hc : Byt w B content xs) : Calls Try.prog 10 #[content] w (LawP w) := by
  obtain ⟨A, c, rfl, hc, hl, hcc⟩ := Byt.form hc rfl
  by_cases hbig : 2147483647 < xs.length
  · have hb : decide ((2147483647 : Int) < (xs.length : Int)) = true := decide_eq_true (by omega)
    clear hbig
    go_enter Try.func10, Try.ntmps10
    go_wp2
    go_ret
    exact ⟨rfl, Upd.refl _ _⟩
  have hb : decide ((2147483647 : Int) < (xs.length : Int)) = false := decide_eq_false (by omega)
  have hx : xs.length ≤ 2147483647 := by omega
  clear hbig

  by_cases hne : xs = []
  · subst hne
    have HA := hid (alive_any (w := w))
    go_enter Try.func10, Try.ntmps10
    go_wp2_with fail
    refine HA.out.mono ?_
    rintro e w1 ⟨rfl, hu⟩
    go_wp2
    go_ret
    exact ⟨rfl, hu⟩
  have hn0 : ((xs.length : Int) == 0) = false := by
    rw [beq_eq_false_iff_ne]
    intro h
    exact hne (List.length_eq_zero_iff.1 (by omega))
  have hw1 := WriteStatus_any (w := w) hc hx
  rcases status_plain xs hne with ⟨p1, p2⟩ | ⟨p1, p2, p3⟩
  · have HP2 := hid p2
    have HP1 := hid p1
    have H1 := hid hw1
    have HX := hid hx
    clear p1 p2 hx hw1
    go_enter Try.func10, Try.ntmps10
    go_wp2_with fail
    refine H1.out.mono ?_
    rintro e w1 ⟨v1, rfl, hb1, -, ⟨A1, n1, c1, rfl⟩, hu1⟩
    rw [HP1.out]
    have h2 := impl_MarshalCertificateStatus  (Row.upd (Row.shrink hc) hu1 (by simp)) HX.out
    rw [HP2.out] at h2
    have H2 := hid h2
    clear h2
    go_wp2_with fail
    refine H2.out.mono ?_
    rintro e w2 ⟨hu2, rfl⟩
    go_wp2
    go_ret
    exact ⟨rfl, hu1.trans hu2 (by simp)⟩
  · have HP1 := hid p1
    have HP2 := hid p2
    have HP3 := hid p3
    have H1 := hid hw1
    have HX := hid hx
    clear p1 p2 p3 hx hw1
    go_enter Try.func10, Try.ntmps10
    go_wp2_with fail
    refine H1.out.mono ?_
    rintro e w1 ⟨v1, rfl, hb1, -, ⟨A1, n1, c1, rfl⟩, hu1⟩
    rw [HP1.out]
    have h2 := impl_MarshalCertificateStatus  (Row.upd (Row.shrink hc) hu1 (by simp)) HX.out
    rw [HP2.out] at h2
    have H2 := hid h2
    clear h2
    go_wp2_with fail
    refine H2.out.mono ?_
    rintro e w2 ⟨hu2, u, rfl, hb2, -, A2, n2, c2, rfl⟩
    have h3 := impl_UnmarshalCertificateStatus hb2
    rw [HP3.out] at h3
    have H3 := hid h3
    clear h3
    go_wp2_with fail
    refine H3.out.mono ?_
    rintro e w3 ⟨u3, ⟨A3, n3, c3, rfl⟩, rfl, hu3, hx3⟩
    have hy3 := hx3 _ rfl
    have hu12 := hu1.trans hu2 (by simp)
    have hu23 := hu2.trans hu3 (by simp)
    have hu123 := hu12.trans hu3 (by simp)
    have h4 := Same_any (Row.upd hb2 hu3 (by simp)) (Row.upd hb1 hu23 (by simp))
    have h5 := Same_any hy3 (Row.upd (Row.shrink hc) hu123 (by simp))
    rw [beq_self_eq_true] at h4 h5
    have H4 := hid h4
    have H5 := hid h5
    clear h4 h5 hx3
    go_wp2_with fail
    refine H4.out.mono ?_
    rintro e w4 ⟨rfl, rfl⟩
    go_wp2_with fail
    refine H5.out.mono ?_
    rintro e w5 ⟨rfl, rfl⟩
    go_wp2
    go_ret
    exact ⟨rfl, hu123⟩
end
set_option maxRecDepth 100000 in
theorem lifted_StatusMade (os : Os) (started : os.Started) (H : Type) (enc : TypeId × Value → H) :
    ReturnsInHanded {} Try.checked os 10 .any (Rows.fnStatusMadeSpec.pre6 enc Try.prog Try.f10 Rows.fnStatusMadeRow.domain false) (Rows.fnStatusMadeSpec.post enc Try.prog Try.f10 false true false false) := by
  refine returnsInHanded_of_change (C := Try.checked) own started (by kernel_rfl) Try.func10
    (ChangeSpec.witness6 (enc := enc) (C := Try.checked) false ⟨#[], #[.slice none 0 0], []⟩ 8 (by kernel_rfl) (by kernel_rfl) (by kernel_rfl) (by kernel_rfl)) ?_
  intro W base args ds gs before hval0 hW hcnd _
  have hval : ∀ (j : Nat) t v, Try.f10.params[j]? = some t → args[j]? = some v → Value.okWide Try.prog W .any base t v := hval0
  have hW' := hW
  obtain ⟨p, q, hA0, hV, rfl, hfz, hnd⟩ := hW
  have hA : DataW.TrodAll enc Try.prog W 0 (fun _ => true) true Try.f10.params.toList args.toList ds p := hA0
  rw [Try.params10] at hA hval
  obtain ⟨v0, vs0, d0, ds0, p0, q0, hargs, rfl, rfl, h0, r0⟩ := trodAll_cons hA
  obtain ⟨rfl, rfl, rfl⟩ := trodAll_nil r0
  obtain rfl : args = #[v0] := by cases args; simp_all
  obtain ⟨response, y0⟩ := open_bytes (hval 0 22 _ rfl rfl) h0
  exact (law_StatusMade y0).mono fun e W' h => law_post hW' rfl rfl (by kernel_rfl) (by kernel_rfl) h
theorem StatusMade_holds : Rows.FnStatusMadeSaid :=
  OpenClaim.holds_of_wide 10 Try.f10 rfl rfl rfl rfl rfl rfl rfl ⟨rfl, rfl, rfl, rfl, rfl⟩ rfl rfl rfl rfl rfl (by kernel_rfl) Try.func10 (by kernel_rfl)
    (of_decide_eq_true (by kernel_rfl)) (by unfold Func.isWrapper; first | (rw [if_pos (by decide +kernel)]; kernel_rfl) | (rw [if_neg (by decide +kernel)]; exact ⟨rfl, rfl⟩))
    (fun os started H enc _ => lifted_StatusMade os started H enc)
end Go.Proofs.Ytnghnifihnjfeaa

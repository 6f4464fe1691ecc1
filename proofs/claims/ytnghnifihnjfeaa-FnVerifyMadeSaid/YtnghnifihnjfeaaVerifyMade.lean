/- The law VerifyMade. -/
import Derived.Test.YtnghnifihnjfeaaVerify
namespace Go.Proofs.Ytnghnifihnjfeaa
open Go.ChangeShapes Go.WideShapes Go.ChangeAt Go.RowKit
set_option maxRecDepth 100000

theorem verW_eq (has : Bool) (n : Nat) (xs : List UInt8) : verW has n xs = ⟨algB has n ++ be 2 xs.length ++ xs, decide (65536 ≤ xs.length)⟩ := by
  simp [verW, Wr.vec]
theorem algB_len (has : Bool) (n : Nat) : (algB has n).length ≤ 2 := by
  unfold algB; split
  · rw [be_len]; omega
  · exact Nat.zero_le _

theorem ver_plain (has : Bool) (n : Nat) (hn : n < 65536) (xs : List UInt8) : ((messageW 15 (verW has n xs)).bad = true ∧ app (some [UInt8.ofNat 15]) (lpOut 3 (app (some (algB has n)) (lpOut 2 (some xs)))) = none) ∨
    ((messageW 15 (verW has n xs)).bad = false ∧ app (some [UInt8.ofNat 15]) (lpOut 3 (app (some (algB has n)) (lpOut 2 (some xs)))) = some (messageW 15 (verW has n xs)).b ∧
      readVerify has (messageW 15 (verW has n xs)).b = some (if has then UInt16.ofNat n else 0, xs)) := by
  rw [message_eq, verW_eq]
  have ha := algB_len has n
  by_cases h : xs.length < 65536
  · right
    have e1 : lpOut 2 (some xs) = some (be 2 xs.length ++ xs) := by simp [lpOut, h]
    rw [e1]
    have e2 : app (some (algB has n)) (some (be 2 xs.length ++ xs)) = some (algB has n ++ be 2 xs.length ++ xs) := by simp [app]
    rw [e2]
    have hl : (algB has n ++ be 2 xs.length ++ xs : List UInt8).length = (algB has n).length + 2 + xs.length := by simp [be_len]; omega
    refine ⟨by simp only [hl]; simp; omega, ?_, ?_⟩
    · unfold lpOut
      simp only [hl]
      rw [if_pos (by omega)]
      rfl
    · unfold readVerify
      rw [if_neg (by simp [be_len]; omega)]
      have hd : (be 1 15 ++ be 3 (algB has n ++ be 2 xs.length ++ xs : List UInt8).length ++ (algB has n ++ be 2 xs.length ++ xs)).drop 4 = algB has n ++ (be 2 xs.length ++ xs ++ []) := by
        simp [be]
      rw [hd]
      have hk : lp 2 (be 2 xs.length ++ xs ++ []) = some (xs, []) := lp_be 2 xs [] (beNat_be2 _ h)
      cases has
      · show verSig 0 (be 2 xs.length ++ xs ++ []) = _
        unfold verSig
        rw [hk]
        rfl
      · have e3 : algB true n = [UInt8.ofNat (n / 256), UInt8.ofNat n] := by simp [algB, be]
        rw [e3]
        show verSig (UInt16.ofNat ((UInt8.ofNat (n / 256)).toNat * 256 + (UInt8.ofNat n).toNat)) (be 2 xs.length ++ xs ++ []) = _
        have e4 : (UInt8.ofNat (n / 256)).toNat * 256 + (UInt8.ofNat n).toNat = n := by simp; omega
        rw [e4]
        unfold verSig
        rw [hk]
        rfl
  · left
    have e1 : lpOut 2 (some xs) = none := by simp [lpOut, h]
    refine ⟨by simp; omega, ?_⟩
    rw [e1]
    rfl

section
variable {w w' : World} {B : Nat} {v content : Value} {xs data : List UInt8} {e : Ending}
theorem law_VerifyMadeN {B : Nat} (has : Bool) {n : Nat} (hn : n < 65536) (hc : Byt w B content xs) : Calls Try.prog 12 #[.bool has, .int .u16 (n : Int), content] w (LawP w) := by
  obtain ⟨A, c, rfl, hc, hl, hcc⟩ := Byt.form hc rfl
  by_cases hbig : 2147483647 < xs.length
  · have hb : decide ((2147483647 : Int) < (xs.length : Int)) = true := decide_eq_true (by omega)
    clear hbig
    go_enter Try.func12, Try.ntmps12
    go_wp2
    go_ret
    exact ⟨rfl, Upd.refl _ _⟩
  have hb : decide ((2147483647 : Int) < (xs.length : Int)) = false := decide_eq_false (by omega)
  have hx : xs.length ≤ 2147483647 := by omega
  clear hbig
  have hw1 := WriteVerify_any (w := w) has hn hc hx
  have hp := ver_plain has n hn xs
  have HPN := hid hn
  generalize messageW 15 (verW has n xs) = W at hw1 hp
  generalize hT : app (some [UInt8.ofNat 15]) (lpOut 3 (app (some (algB has n)) (lpOut 2 (some xs)))) = T at hp
  have hmk : ∀ {w1 : World}, Upd [] w w1 → Calls Try.prog 37 #[.bool has, .int .u16 (n : Int), .slice A xs.length c] w1 (MadeP w1 T) := by
    intro w1 hu
    have := impl_MarshalCertificateVerify (has := has) hn (Row.upd (Row.shrink hc) hu (by simp)) hx
    rwa [hT] at this
  have HM := hid (fun w1 (hu : Upd [] w w1) => hmk hu)
  clear hmk hT
  have H1 := hid hw1
  clear hw1
  rcases hp with ⟨p1, p2⟩ | ⟨p1, p2, p3⟩
  · subst p2
    have HP1 := hid p1
    clear p1 hx
    go_enter Try.func12, Try.ntmps12
    go_wp2_with fail
    refine H1.out.mono ?_
    rintro e w1 ⟨v1, rfl, hb1, -, ⟨A1, n1, c1, rfl⟩, hu1⟩
    rw [HP1.out]
    have H2 := hid (HM.out w1 hu1)
    go_wp2_with fail
    refine H2.out.mono ?_
    rintro e w2 ⟨hu2, rfl⟩
    go_wp2
    go_ret
    exact ⟨rfl, hu1.trans hu2 (by simp)⟩
  · subst p2
    have HP1 := hid p1
    have HP3 := hid p3
    clear p1 p3 hx
    go_enter Try.func12, Try.ntmps12
    go_wp2_with fail
    refine H1.out.mono ?_
    rintro e w1 ⟨v1, rfl, hb1, -, ⟨A1, n1, c1, rfl⟩, hu1⟩
    rw [HP1.out]
    have H2 := hid (HM.out w1 hu1)
    go_wp2_with fail
    refine H2.out.mono ?_
    rintro e w2 ⟨hu2, u, rfl, hb2, -, A2, n2, c2, rfl⟩
    have h3 := impl_UnmarshalVerify has hb2
    rw [HP3.out] at h3
    have H3 := hid h3
    clear h3
    go_wp2_with fail
    refine H3.out.mono ?_
    rintro e w3 ⟨u3, a3, ⟨A3, n3, c3, rfl⟩, rfl, hu3, hx3⟩
    obtain ⟨ha3, hy3⟩ := hx3 _ rfl
    have ha3 : (if has then UInt16.ofNat n else 0) = a3 := ha3
    have hu12 := hu1.trans hu2 (by simp)
    have hu23 := hu2.trans hu3 (by simp)
    have hu123 := hu12.trans hu3 (by simp)
    have h4 := Same_any (Row.upd hb2 hu3 (by simp)) (Row.upd hb1 hu23 (by simp))
    have h5 := Same_any hy3 (Row.upd (Row.shrink hc) hu123 (by simp))
    rw [beq_self_eq_true] at h4 h5
    have H4 := hid h4
    have H5 := hid h5
    have HA := hid ha3
    clear h4 h5 hx3 ha3
    have heq : has = true → ((a3.toNat : Int) == (n : Int)) = true := by
      intro h
      have := HA.out
      rw [if_pos h] at this
      rw [← this, beq_iff_eq, UInt16.toNat_ofNat']
      have := HPN.out
      omega
    cases has
    · clear heq
      by_cases ha : ((a3.toNat : Int) == (n : Int)) = true
      · go_wp2_with fail
        refine H4.out.mono ?_
        rintro e w4 ⟨rfl, rfl⟩
        go_wp2_with fail
        refine H5.out.mono ?_
        rintro e w5 ⟨rfl, rfl⟩
        go_wp2
        go_ret
        exact ⟨rfl, hu123⟩
      · have ha : ((a3.toNat : Int) == (n : Int)) = false := by simpa using ha
        go_wp2_with fail
        refine H4.out.mono ?_
        rintro e w4 ⟨rfl, rfl⟩
        go_wp2_with fail
        refine H5.out.mono ?_
        rintro e w5 ⟨rfl, rfl⟩
        go_wp2
        go_ret
        exact ⟨rfl, hu123⟩
    · have ha := heq rfl
      clear heq
      go_wp2_with fail
      refine H4.out.mono ?_
      rintro e w4 ⟨rfl, rfl⟩
      go_wp2_with fail
      refine H5.out.mono ?_
      rintro e w5 ⟨rfl, rfl⟩
      go_wp2
      go_ret
      exact ⟨rfl, hu123⟩
theorem law_VerifyMade {B : Nat} (has : Bool) (a : Int) (wa : (Lit.int .u16 a).wf = true) (hc : Byt w B content xs) : Calls Try.prog 12 #[.bool has, .int .u16 a, content] w (LawP w) := by
  have hb := bounds_u16 wa
  obtain ⟨n, rfl⟩ : ∃ n : Nat, a = (n : Int) := ⟨a.toNat, by omega⟩
  exact law_VerifyMadeN has (by omega) hc
end
set_option maxRecDepth 100000 in
theorem lifted_VerifyMade (os : Os) (started : os.Started) (H : Type) (enc : TypeId × Value → H) :
    ReturnsInHanded {} Try.checked os 12 .any (Rows.fnVerifyMadeSpec.pre6 enc Try.prog Try.f12 Rows.fnVerifyMadeRow.domain false) (Rows.fnVerifyMadeSpec.post enc Try.prog Try.f12 false true false false) := by
  refine returnsInHanded_of_change (C := Try.checked) own started (by kernel_rfl) Try.func12
    (ChangeSpec.witness6 (enc := enc) (C := Try.checked) false ⟨#[], #[.bool false, .int .u16 0, .slice none 0 0], []⟩ 8 (by kernel_rfl) (by kernel_rfl) (by kernel_rfl) (by kernel_rfl)) ?_
  intro W base args ds gs before hval0 hW hcnd _
  have hval : ∀ (j : Nat) t v, Try.f12.params[j]? = some t → args[j]? = some v → Value.okWide Try.prog W .any base t v := hval0
  have hW' := hW
  obtain ⟨p, q, hA0, hV, rfl, hfz, hnd⟩ := hW
  have hA : DataW.TrodAll enc Try.prog W 0 (fun _ => true) true Try.f12.params.toList args.toList ds p := hA0
  rw [Try.params12] at hA hval
  obtain ⟨v0, vs0, d0, ds0, p0, q0, hargs, rfl, rfl, h0, r0⟩ := trodAll_cons hA
  obtain ⟨v1, vs1, d1, ds1, p1, q1, rfl, rfl, rfl, h1, r1⟩ := trodAll_cons r0
  obtain ⟨v2, vs2, d2, ds2, p2, q2, rfl, rfl, rfl, h2, r2⟩ := trodAll_cons r1
  obtain ⟨rfl, rfl, rfl⟩ := trodAll_nil r2
  obtain rfl : args = #[v0, v1, v2] := by cases args; simp_all
  obtain ⟨has, rfl, rfl, rfl⟩ := open_bool Try.underlying4 (hval 0 4 _ rfl rfl) h0
  obtain ⟨algorithm, rfl, rfl, rfl, w1⟩ := open_int Try.underlying42 (hval 1 42 _ rfl rfl) h1
  obtain ⟨signature, y2⟩ := open_bytes (hval 2 22 _ rfl rfl) h2
  exact (law_VerifyMade has algorithm w1 y2).mono fun e W' h => law_post hW' rfl rfl (by kernel_rfl) (by kernel_rfl) h
theorem VerifyMade_holds : Rows.FnVerifyMadeSaid :=
  OpenClaim.holds_of_wide 12 Try.f12 rfl rfl rfl rfl rfl rfl rfl ⟨rfl, rfl, rfl, rfl, rfl⟩ rfl rfl rfl rfl rfl (by kernel_rfl) Try.func12 (by kernel_rfl)
    (of_decide_eq_true (by kernel_rfl)) (by unfold Func.isWrapper; first | (rw [if_pos (by decide +kernel)]; kernel_rfl) | (rw [if_neg (by decide +kernel)]; exact ⟨rfl, rfl⟩))
    (fun os started H enc _ => lifted_VerifyMade os started H enc)
end Go.Proofs.Ytnghnifihnjfeaa

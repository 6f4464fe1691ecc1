/- The law FinishedMade. -/
import Derived.Test.YtnghnifihnjfeaaFinished
import Derived.Test.YtnghnifihnjfeaaBody
namespace Go.Proofs.Ytnghnifihnjfeaa
open Go.ChangeShapes Go.WideShapes Go.ChangeAt Go.RowKit
set_option maxRecDepth 100000

theorem beNat_be3 (n : Nat) (h : n < 16777216) : beNat (be 3 n) = n := by
  simp [be, beNat]
  omega
theorem beNat_be2 (n : Nat) (h : n < 65536) : beNat (be 2 n) = n := by
  simp [be, beNat]
  omega
theorem lp_be (k : Nat) (x r : List UInt8) (hk : beNat (be k x.length) = x.length) : lp k (be k x.length ++ x ++ r) = some (x, r) := by
  have hl := be_len k x.length
  have e1 : (be k x.length ++ x ++ r).take k = be k x.length := by rw [List.append_assoc, List.take_append_of_le_length (by omega), List.take_of_length_le (by omega)]
  have e2 : (be k x.length ++ x ++ r).drop k = x ++ r := by
    rw [List.append_assoc]
    have := List.drop_left (l₁ := be k x.length) (l₂ := x ++ r)
    rwa [hl] at this
  unfold lp
  rw [e1, e2, hk, if_pos (by simp; omega), if_pos (by simp)]
  simp

/-- a message around a body -/
theorem message_eq (kind : Nat) (x : Wr) : messageW kind x = ⟨be 1 kind ++ be 3 x.b.length ++ x.b, x.bad || decide (256 ^ 3 ≤ x.b.length)⟩ := by
  simp [messageW, Wr.inner, Wr.vec, Wr.num, Wr.nil]

section
variable {w w' : World} {B : Nat} {v content : Value} {xs data : List UInt8} {e : Ending}

theorem WritePlain_any {B : Nat} (kind : Nat) (hc : Byt w B content xs) (hx : xs.length ≤ 1099511627776) :
    Calls Try.prog 21 #[.int .i64 kind, content] w (MsgP w (messageW kind ⟨xs, false⟩)) := by
  obtain ⟨A, c, rfl, hc, -⟩ := Byt.form hc rfl
  have H1 := hid (plain_any hc)
  have HX := hid hx
  clear hx
  go_enter Try.func21, Try.ntmps21
  go_wp2_with fail
  refine H1.out.mono ?_
  rintro e w1 ⟨rfl, hu1⟩
  have H2 := hid (message_any kind false (Row.upd (Row.shrink hc) hu1 (by simp)) HX.out)
  go_wp2_with fail
  refine H2.out.mono ?_
  rintro e w2 ⟨v2, rfl, hb2, hn2, ⟨A2, n2, c2, rfl⟩, hu2⟩
  go_wp2
  go_ret2
  exact ⟨_, rfl, hb2, fun k hk => Nat.le_trans hu1.size (hn2 k hk), ⟨_, _, _, rfl⟩, hu1.trans hu2 (by simp)⟩

theorem finished_plain (xs : List UInt8) : ((messageW 20 ⟨xs, false⟩).bad = true ∧ app (some [UInt8.ofNat 20]) (lpOut 3 (some xs)) = none) ∨
    ((messageW 20 ⟨xs, false⟩).bad = false ∧ app (some [UInt8.ofNat 20]) (lpOut 3 (some xs)) = some (messageW 20 ⟨xs, false⟩).b ∧ readFinished (messageW 20 ⟨xs, false⟩).b = some xs) := by
  rw [message_eq]
  by_cases h : xs.length < 16777216
  · right
    refine ⟨by simp; omega, ?_, ?_⟩
    · simp [lpOut, app, h]
      rfl
    · have h1 : ¬ (be 1 20 ++ be 3 xs.length ++ xs).length < 1 := by simp [be_len]
      unfold readFinished
      rw [if_neg h1]
      have e : (be 1 20 ++ be 3 xs.length ++ xs).drop 1 = be 3 xs.length ++ xs ++ [] := by simp [be]
      rw [e, lp_be 3 xs [] (beNat_be3 _ h)]
  · left
    refine ⟨by simp; omega, ?_⟩
    simp [lpOut, app, h]

theorem law_FinishedMade {B : Nat}  (hc : Byt w B content xs) : Calls Try.prog 8 #[content] w (LawP w) := by
  obtain ⟨A, c, rfl, hc, hl, hcc⟩ := Byt.form hc rfl
  by_cases hbig : 2147483647 < xs.length
  · have hb : decide ((2147483647 : Int) < (xs.length : Int)) = true := decide_eq_true (by omega)
    clear hbig
    go_enter Try.func8, Try.ntmps8
    go_wp2
    go_ret
    exact ⟨rfl, Upd.refl _ _⟩
  have hb : decide ((2147483647 : Int) < (xs.length : Int)) = false := decide_eq_false (by omega)
  have hx : xs.length ≤ 2147483647 := by omega
  clear hbig
  have hw1 := WritePlain_any (w := w) 20 hc (by omega)
  rcases finished_plain xs with ⟨p1, p2⟩ | ⟨p1, p2, p3⟩
  · have HP2 := hid p2
    have HP1 := hid p1
    have H1 := hid hw1
    have HX := hid hx
    clear p1 p2 hx hw1
    go_enter Try.func8, Try.ntmps8
    go_wp2_with fail
    refine H1.out.mono ?_
    rintro e w1 ⟨v1, rfl, hb1, -, ⟨A1, n1, c1, rfl⟩, hu1⟩
    rw [HP1.out]
    have h2 := impl_MarshalFinished  (Row.upd (Row.shrink hc) hu1 (by simp)) HX.out
    rw [HP2.out] at h2
    have H2 := hid h2
    clear h2
    go_wp2_with fail
    refine H2.out.mono ?_
    rintro e w2 ⟨hu2, rfl⟩
    go_wp2
    go_ret
    exact ⟨rfl, hu1.trans hu2 (by simp)⟩
  · have HP1 := hid p1
    have HP2 := hid p2
    have HP3 := hid p3
    have H1 := hid hw1
    have HX := hid hx
    clear p1 p2 p3 hx hw1
    go_enter Try.func8, Try.ntmps8
    go_wp2_with fail
    refine H1.out.mono ?_
    rintro e w1 ⟨v1, rfl, hb1, -, ⟨A1, n1, c1, rfl⟩, hu1⟩
    rw [HP1.out]
    have h2 := impl_MarshalFinished  (Row.upd (Row.shrink hc) hu1 (by simp)) HX.out
    rw [HP2.out] at h2
    have H2 := hid h2
    clear h2
    go_wp2_with fail
    refine H2.out.mono ?_
    rintro e w2 ⟨hu2, u, rfl, hb2, -, A2, n2, c2, rfl⟩
    have h3 := impl_UnmarshalFinished hb2
    rw [HP3.out] at h3
    have H3 := hid h3
    clear h3
    go_wp2_with fail
    refine H3.out.mono ?_
    rintro e w3 ⟨u3, ⟨A3, n3, c3, rfl⟩, rfl, hu3, hx3⟩
    have hy3 := hx3 _ rfl
    have hu12 := hu1.trans hu2 (by simp)
    have hu23 := hu2.trans hu3 (by simp)
    have hu123 := hu12.trans hu3 (by simp)
    have h4 := Same_any (Row.upd hb2 hu3 (by simp)) (Row.upd hb1 hu23 (by simp))
    have h5 := Same_any hy3 (Row.upd (Row.shrink hc) hu123 (by simp))
    rw [beq_self_eq_true] at h4 h5
    have H4 := hid h4
    have H5 := hid h5
    clear h4 h5 hx3
    go_wp2_with fail
    refine H4.out.mono ?_
    rintro e w4 ⟨rfl, rfl⟩
    go_wp2_with fail
    refine H5.out.mono ?_
    rintro e w5 ⟨rfl, rfl⟩
    go_wp2
    go_ret
    exact ⟨rfl, hu123⟩
end
set_option maxRecDepth 100000 in
theorem lifted_FinishedMade (os : Os) (started : os.Started) (H : Type) (enc : TypeId × Value → H) :
    ReturnsInHanded {} Try.checked os 8 .any (Rows.fnFinishedMadeSpec.pre6 enc Try.prog Try.f8 Rows.fnFinishedMadeRow.domain false) (Rows.fnFinishedMadeSpec.post enc Try.prog Try.f8 false true false false) := by
  refine returnsInHanded_of_change (C := Try.checked) own started (by kernel_rfl) Try.func8
    (ChangeSpec.witness6 (enc := enc) (C := Try.checked) false ⟨#[], #[.slice none 0 0], []⟩ 8 (by kernel_rfl) (by kernel_rfl) (by kernel_rfl) (by kernel_rfl)) ?_
  intro W base args ds gs before hval0 hW hcnd _
  have hval : ∀ (j : Nat) t v, Try.f8.params[j]? = some t → args[j]? = some v → Value.okWide Try.prog W .any base t v := hval0
  have hW' := hW
  obtain ⟨p, q, hA0, hV, rfl, hfz, hnd⟩ := hW
  have hA : DataW.TrodAll enc Try.prog W 0 (fun _ => true) true Try.f8.params.toList args.toList ds p := hA0
  rw [Try.params8] at hA hval
  obtain ⟨v0, vs0, d0, ds0, p0, q0, hargs, rfl, rfl, h0, r0⟩ := trodAll_cons hA
  obtain ⟨rfl, rfl, rfl⟩ := trodAll_nil r0
  obtain rfl : args = #[v0] := by cases args; simp_all
  obtain ⟨data, y0⟩ := open_bytes (hval 0 22 _ rfl rfl) h0
  exact (law_FinishedMade y0).mono fun e W' h => law_post hW' rfl rfl (by kernel_rfl) (by kernel_rfl) h
theorem FinishedMade_holds : Rows.FnFinishedMadeSaid :=
  OpenClaim.holds_of_wide 8 Try.f8 rfl rfl rfl rfl rfl rfl rfl ⟨rfl, rfl, rfl, rfl, rfl⟩ rfl rfl rfl rfl rfl (by kernel_rfl) Try.func8 (by kernel_rfl)
    (of_decide_eq_true (by kernel_rfl)) (by unfold Func.isWrapper; first | (rw [if_pos (by decide +kernel)]; kernel_rfl) | (rw [if_neg (by decide +kernel)]; exact ⟨rfl, rfl⟩))
    (fun os started H enc _ => lifted_FinishedMade os started H enc)
end Go.Proofs.Ytnghnifihnjfeaa

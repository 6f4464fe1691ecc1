/- The law TicketBytes. -/
import Derived.Test.YtnghnifihnjfeaaTicketU
import Derived.Test.YtnghnifihnjfeaaBody2
namespace Go.Proofs.Ytnghnifihnjfeaa
open Go.ChangeShapes Go.WideShapes Go.ChangeAt Go.RowKit
set_option maxRecDepth 100000

theorem readTicket_lp {data : List UInt8} (h8 : 8 ≤ data.length) (h : beNat ((data.drop 1).take 3) = data.length - 4) : readTicket data = (match lp 2 (data.drop 8) with
    | some (x, []) => some x
    | _ => none) := by
  unfold readTicket lp
  by_cases h10 : data.length < 10
  · rw [if_pos h10, if_neg (show ¬ 2 ≤ (data.drop 8).length by simp; omega)]
  · rw [if_neg h10, if_pos h, if_pos (show 2 ≤ (data.drop 8).length by simp; omega)]
    have e : (data.drop 8).drop 2 = data.drop 10 := by simp
    rw [e]
    by_cases k : beNat ((data.drop 8).take 2) = data.length - 10
    · rw [if_pos k, if_pos (show beNat ((data.drop 8).take 2) ≤ (data.drop 10).length by rw [k]; simp), k]
      have e1 : (data.drop 10).take (data.length - 10) = data.drop 10 := List.take_of_length_le (by simp)
      have e2 : (data.drop 10).drop (data.length - 10) = [] := List.drop_eq_nil_of_le (by simp)
      rw [e1, e2]
    · rw [if_neg k]
      by_cases k2 : beNat ((data.drop 8).take 2) ≤ (data.drop 10).length
      · rw [if_pos k2]
        rcases hd : (data.drop 10).drop (beNat ((data.drop 8).take 2)) with _ | ⟨y, t⟩
        · have := List.drop_eq_nil_iff.1 hd
          simp at this k2
          omega
        · rfl
      · rw [if_neg k2]

theorem tick_law (data : List UInt8) : ((tickV data).2.fin.code = 0 → readTicket data = some (tickV data).1) ∧ ((tickV data).2.fin.code = 3 → readTicket data = none) := by
  unfold tickV
  rcases bodyR_two 4 data with h | ⟨h, h4, -, hl⟩
  · have h1 := R.num_code (s := bodyR 4 data) (by rw [h]; decide) 4
    have h2 := R.vec_code (s := ((bodyR 4 data).num 4).2) (by rw [h1, h]; decide) 2 0 65535
    have h3 := R.fin_code (s := (((bodyR 4 data).num 4).2.vec 2 0 65535).2) (by rw [h2, h1, h]; decide)
    rw [h3, h2, h1, h]
    exact ⟨fun h => by omega, fun h => by omega⟩
  · rw [h]
    by_cases h8 : 8 ≤ data.length
    · have e : ((R.mk (data.drop 4) 0).num 4).2 = ⟨data.drop 8, 0⟩ := by rw [R.num_ok (by simp; omega)]; simp
      rw [readTicket_lp h8 hl, e]
      rcases hL : lp 2 (data.drop 8) with _ | ⟨x, r⟩
      · rw [R.vec_none hL]
        exact ⟨fun h => (by cases h), fun _ => rfl⟩
      · have hlen := (lp_len hL).1
        rw [R.vec_some hL, R.rng_in (Nat.zero_le _) (show x.length ≤ 65535 by omega)]
        rcases r with _ | ⟨y, t⟩
        · exact ⟨fun _ => rfl, fun h => (by cases h)⟩
        · exact ⟨fun h => (by cases h), fun _ => rfl⟩
    · rw [R.num_bad (by simp; omega)]
      have hc : ((R.mk [] 3).vec 2 0 65535).2.code = 3 := R.vec_code (by simp) 2 0 65535
      have hc2 := R.fin_code (s := ((R.mk [] 3).vec 2 0 65535).2) (by rw [hc]; decide)
      rw [hc2, hc]
      exact ⟨fun h => (by cases h), fun _ => by unfold readTicket; rw [if_pos (by omega)]⟩
section
variable {w w' : World} {B : Nat} {v content : Value} {xs data : List UInt8} {e : Ending}
theorem law_TicketBytes {B : Nat}  (hc : Byt w B content xs) : Calls Try.prog 3 #[content] w (LawP w) := by
  obtain ⟨A, c, rfl, hc, hl, hcc⟩ := Byt.form hc rfl
  by_cases hbig : 2147483647 < xs.length
  · have hb : decide ((2147483647 : Int) < (xs.length : Int)) = true := decide_eq_true (by omega)
    clear hbig
    go_enter Try.func3, Try.ntmps3
    go_wp2
    go_ret
    exact ⟨rfl, Upd.refl _ _⟩
  have hb : decide ((2147483647 : Int) < (xs.length : Int)) = false := decide_eq_false (by omega)
  have hx : xs.length ≤ 2147483647 := by omega
  clear hbig
  have hr1 := ReadTicket_any hc
  obtain ⟨l1, l2⟩ := tick_law xs
  generalize hO : readTicket xs = O at l1 l2
  have G1 : ∀ w1 : World, Upd [] w w1 → Hid (Calls Try.prog 16 #[.slice A xs.length c] w1 (UnP w1 O)) := by
    intro w1 hu
    have := impl_UnmarshalTicket (Row.upd (Row.shrink hc) hu (by simp)) hx
    rw [hO] at this
    exact this
  have H1 := hid hr1
  clear hr1 hO hx hc hl hcc
  go_enter Try.func3, Try.ntmps3
  go_wp2_with fail
  refine H1.out.mono ?_
  rintro e w1 ⟨v1, C, ⟨A1, n1, c1, rfl⟩, hC, rfl, hu1, hb1⟩
  rw [hC] at l1 l2
  have H2 := G1 _ hu1
  clear G1 hC H1
  go_wp2_with fail
  refine H2.out.mono ?_
  rintro e w2 ⟨u2, ⟨A2, n2, c2, rfl⟩, rfl, hu2, hb2⟩
  have hu := hu1.trans hu2 (by simp)
  have HA := hid (alive_any (w := w2))
  have key : (C = 0 ∧ O = some ((tickV xs).1)) ∨ (C = 3 ∧ O = none) ∨ (C ≠ 0 ∧ C ≠ 3) := by
    by_cases k0 : C = 0
    · exact .inl ⟨k0, l1 k0⟩
    · by_cases k3 : C = 3
      · exact .inr (.inl ⟨k3, l2 k3⟩)
      · exact .inr (.inr ⟨k0, k3⟩)
  clear l1 l2 H2
  rcases key with ⟨rfl, rfl⟩ | ⟨rfl, rfl⟩ | ⟨k0, k3⟩
  · have h5 := Same_any (hb2 _ rfl) (Row.upd hb1 hu2 (by simp))
    rw [beq_self_eq_true] at h5
    have H5 := hid h5
    clear h5 hb2
    go_wp2_with fail
    refine H5.out.mono ?_
    rintro e w5 ⟨rfl, rfl⟩
    go_wp2
    go_ret
    exact ⟨rfl, hu⟩
  · clear hb2
    go_wp2_with fail
    refine HA.out.mono ?_
    rintro e w3 ⟨rfl, hu3⟩
    go_wp2
    go_ret
    exact ⟨rfl, hu.trans hu3 (by simp)⟩
  · have e0 : ((C : Int) == 0) = false := by rw [beq_eq_false_iff_ne]; omega
    have e3 : ((C : Int) == 3) = false := by rw [beq_eq_false_iff_ne]; omega
    clear hb2
    go_wp2_with fail
    refine HA.out.mono ?_
    rintro e w3 ⟨rfl, hu3⟩
    go_wp2
    go_ret
    exact ⟨rfl, hu.trans hu3 (by simp)⟩
end
set_option maxRecDepth 100000 in
theorem lifted_TicketBytes (os : Os) (started : os.Started) (H : Type) (enc : TypeId × Value → H) :
    ReturnsInHanded {} Try.checked os 3 .any (Rows.fnTicketBytesSpec.pre6 enc Try.prog Try.f3 Rows.fnTicketBytesRow.domain false) (Rows.fnTicketBytesSpec.post enc Try.prog Try.f3 false true false false) := by
  refine returnsInHanded_of_change (C := Try.checked) own started (by kernel_rfl) Try.func3
    (ChangeSpec.witness6 (enc := enc) (C := Try.checked) false ⟨#[], #[.slice none 0 0], []⟩ 8 (by kernel_rfl) (by kernel_rfl) (by kernel_rfl) (by kernel_rfl)) ?_
  intro W base args ds gs before hval0 hW hcnd _
  have hval : ∀ (j : Nat) t v, Try.f3.params[j]? = some t → args[j]? = some v → Value.okWide Try.prog W .any base t v := hval0
  have hW' := hW
  obtain ⟨p, q, hA0, hV, rfl, hfz, hnd⟩ := hW
  have hA : DataW.TrodAll enc Try.prog W 0 (fun _ => true) true Try.f3.params.toList args.toList ds p := hA0
  rw [Try.params3] at hA hval
  obtain ⟨v0, vs0, d0, ds0, p0, q0, hargs, rfl, rfl, h0, r0⟩ := trodAll_cons hA
  obtain ⟨rfl, rfl, rfl⟩ := trodAll_nil r0
  obtain rfl : args = #[v0] := by cases args; simp_all
  obtain ⟨data, y0⟩ := open_bytes (hval 0 22 _ rfl rfl) h0
  exact (law_TicketBytes y0).mono fun e W' h => law_post hW' rfl rfl (by kernel_rfl) (by kernel_rfl) h
theorem TicketBytes_holds : Rows.FnTicketBytesSaid :=
  OpenClaim.holds_of_wide 3 Try.f3 rfl rfl rfl rfl rfl rfl rfl ⟨rfl, rfl, rfl, rfl, rfl⟩ rfl rfl rfl rfl rfl (by kernel_rfl) Try.func3 (by kernel_rfl)
    (of_decide_eq_true (by kernel_rfl)) (by unfold Func.isWrapper; first | (rw [if_pos (by decide +kernel)]; kernel_rfl) | (rw [if_neg (by decide +kernel)]; exact ⟨rfl, rfl⟩))
    (fun os started H enc _ => lifted_TicketBytes os started H enc)
end Go.Proofs.Ytnghnifihnjfeaa

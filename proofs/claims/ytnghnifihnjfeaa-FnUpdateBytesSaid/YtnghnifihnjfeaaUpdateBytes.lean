/- The law UpdateBytes. -/
import Derived.Test.YtnghnifihnjfeaaUpdateMade
import Derived.Test.YtnghnifihnjfeaaBody
namespace Go.Proofs.Ytnghnifihnjfeaa
open Go.ChangeShapes Go.WideShapes Go.ChangeAt Go.RowKit
set_option maxRecDepth 100000

theorem beq1 (n : Nat) : ((n : Int) == 1) = (n == 1) := by rw [Bool.eq_iff_iff]; simp; omega
/-- a KeyUpdate by the reference: what it asks, and what is found -/
def updS (data : List UInt8) : R := ((bodyR 24 data).num 1).2.fin
def updN (data : List UInt8) : Nat := ((bodyR 24 data).num 1).1
def updR (data : List UInt8) : R := if updN data ≤ 1 then updS data else (updS data).fail 2

theorem updR_law (data : List UInt8) : ((updR data).code = 0 → kuRead data = some (updN data == 1)) ∧ ((updR data).code = 2 ∨ (updR data).code = 3 → kuRead data = none) := by
  rcases bodyR_two 24 data with h | ⟨h, h4, -, -⟩
  · have hc : (updR data).code = 1 := by
      have h1 := R.num_code (s := bodyR 24 data) (by rw [h]; decide) 1
      have h2 := R.fin_code (s := ((bodyR 24 data).num 1).2) (by rw [h1, h]; decide)
      have h3 : (updS data).code = 1 := by unfold updS; rw [h2, h1, h]
      unfold updR
      split
      · exact h3
      · rw [R.fail_code (by rw [h3]; decide), h3]
    rw [hc]
    exact ⟨fun h => by omega, fun h => by omega⟩
  · have h4' : ¬ data.length < 4 := by omega
    have hk : kuRead data = kuRead (0 :: 0 :: 0 :: 0 :: data.drop 4) := by
      have e1 : kuRead data = if data.length < 4 then none else kuRead (0 :: 0 :: 0 :: 0 :: data.drop 4) := by
        have e2 : ¬ (0 :: 0 :: 0 :: 0 :: data.drop 4 : List UInt8).length < 4 := by simp
        rw [if_neg h4']
        unfold kuRead
        rw [if_neg h4', if_neg e2]
        rfl
      rw [e1, if_neg h4']
    unfold updR updS updN
    rw [h, hk]
    rcases data.drop 4 with _ | ⟨x, _ | ⟨y, t⟩⟩
    · refine ⟨fun h => ?_, fun _ => rfl⟩
      exfalso
      revert h
      decide
    · have e : (R.mk [x] 0).num 1 = (x.toNat, ⟨[], 0⟩) := by simp [R.num, R.take, beNat]
      rw [e]
      simp only
      have ef : (R.mk [] 0).fin = ⟨[], 0⟩ := rfl
      rw [ef]
      by_cases hx : x.toNat ≤ 1
      · rw [if_pos hx]
        refine ⟨fun _ => ?_, fun h => by simp at h⟩
        by_cases h0 : x = 0
        · subst h0; rfl
        · have h1 : x = 1 := by
            apply UInt8.toNat_inj.1
            have : x.toNat ≠ 0 := fun e => h0 (UInt8.toNat_inj.1 (by simpa using e))
            simp
            omega
          subst h1; rfl
      · rw [if_neg hx]
        refine ⟨fun h => by simp [R.fail] at h, fun _ => ?_⟩
        have h0 : x ≠ 0 := by rintro rfl; simp at hx
        have h1 : x ≠ 1 := by rintro rfl; simp at hx
        simp [kuRead, h0, h1]
    · have e : (R.mk (x :: y :: t) 0).num 1 = (x.toNat, ⟨y :: t, 0⟩) := by simp [R.num, R.take, beNat]
      rw [e]
      refine ⟨fun h => ?_, fun _ => rfl⟩
      exfalso
      have ef : (R.mk (y :: t) 0).fin = ⟨[], 3⟩ := rfl
      simp only [ef] at h
      split at h
      · cases h
      · cases h

section
variable {w w' : World} {B : Nat} {v : Value} {data : List UInt8} {e : Ending}

def RUP (w : World) (data : List UInt8) (e : Ending) (w' : World) : Prop := e = .returned (.tuple #[.bool (updN data == 1), .int .i64 ((updR data).code : Int)]) ∧ Upd [] w w'

theorem ReadUpdate_any (hv : Byt w B v data) : Calls Try.prog 24 #[v] w (RUP w data) := by
  obtain ⟨A, c, rfl, hv, hl, hc⟩ := Byt.form hv rfl
  have H1 := hid (body_any (Nat.le_refl _) (Row.shrink hv) 24)
  go_enter Try.func24, Try.ntmps24
  go_wp2_with fail
  refine H1.out.mono ?_
  rintro e w1 ⟨rfl, hu1, hr1⟩
  have H2 := hid (num_any hr1 1 (by omega))
  go_wp2_with fail
  refine H2.out.mono ?_
  rintro e w2 ⟨rfl, hu2, hr2⟩
  have H3 := hid (end_any hr2)
  go_wp2_with fail
  refine H3.out.mono ?_
  rintro e w3 ⟨rfl, hu3, hr3⟩
  have hu : Upd [] w w3 := ((hu1.trans hu2 (by simp)).trans hu3 (by simp))
  have HU := hid (show updR data = if updN data ≤ 1 then updS data else (updS data).fail 2 from rfl)
  have hr3' : Rd w3 w.heap.size w.heap.size (updS data) := hr3
  have HN := hid (show ((bodyR 24 data).num 1).1 = updN data from rfl)
  rw [HN.out] at *
  by_cases hx : updN data ≤ 1
  · have hx' : ¬ 1 < updN data := by omega
    obtain ⟨A2, c2, d0, d1, g0, g1, hl2, hc2⟩ := hr3'.open_
    rw [if_pos hx] at HU
    clear hx
    go_wp2_with fail
    go_quiet (fail)
    go_wp2
    go_ret2
    exact ⟨by rw [HU.out, ← beq1]; rfl, hu.drewN _⟩
  · have hx' : 1 < updN data := by omega
    rw [if_neg hx] at HU
    clear hx
    have H4 := hid (fail_any hr3' 2)
    go_wp2_with fail
    refine H4.out.mono ?_
    rintro e w4 ⟨rfl, hu4, hr4⟩
    obtain ⟨A2, c2, d0, d1, g0, g1, hl2, hc2⟩ := hr4.open_
    go_wp2_with fail
    go_quiet (fail)
    go_wp2
    go_ret2
    exact ⟨by rw [HU.out, ← beq1]; rfl, (hu.trans hu4 (by simp)).drewN _⟩

theorem law_UpdateBytes (hv : Byt w B v data) : Calls Try.prog 6 #[v] w (LawP w) := by
  obtain ⟨A, c, rfl, hv, hl, hc⟩ := Byt.form hv rfl
  by_cases hbig : 2147483647 < data.length
  · have hb : decide ((2147483647 : Int) < (data.length : Int)) = true := decide_eq_true (by omega)
    clear hbig
    go_enter Try.func6, Try.ntmps6
    go_wp2
    go_ret
    exact ⟨rfl, Upd.refl _ _⟩
  have hb : decide ((2147483647 : Int) < (data.length : Int)) = false := decide_eq_false (by omega)
  clear hbig
  have H1 := hid (ReadUpdate_any hv)
  obtain ⟨l1, l2⟩ := updR_law data
  generalize hC : (updR data).code = C at l1 l2
  generalize hO : kuRead data = O at l1 l2
  generalize hN : (updN data == 1) = b at l1
  have HC := hid hC
  have HO := hid hO
  have HN := hid hN
  clear hC hO hN
  have go1 : ∀ w1 : World, Upd [] w w1 → Calls Try.prog 25 #[.slice A data.length c] w1 fun e w' => e = .returned (.tuple #[.bool (O.getD false), .bool O.isSome]) ∧ Upd [] w1 w' := by
    intro w1 hu
    have := impl_UnmarshalKeyUpdate (Row.upd (Row.shrink hv) hu (by simp))
    rw [HO.out] at this
    exact this
  have G1 := hid go1
  clear go1
  go_enter Try.func6, Try.ntmps6
  go_wp2_with fail
  refine H1.out.mono ?_
  rintro e w1 ⟨rfl, hu1⟩
  rw [HC.out, HN.out]
  have H2 := hid (G1.out _ hu1)
  go_wp2_with fail
  refine H2.out.mono ?_
  rintro e w2 ⟨rfl, hu2⟩
  have hu := hu1.trans hu2 (by simp)
  have HA := hid (alive_any (w := w2))
  have key : (C = 0 ∧ O = some b) ∨ (C = 2 ∧ O = none) ∨ (C = 3 ∧ O = none) ∨ (C ≠ 0 ∧ C ≠ 2 ∧ C ≠ 3) := by
    by_cases k0 : C = 0
    · exact .inl ⟨k0, l1 k0⟩
    · by_cases k2 : C = 2
      · exact .inr (.inl ⟨k2, l2 (.inl k2)⟩)
      · by_cases k3 : C = 3
        · exact .inr (.inr (.inl ⟨k3, l2 (.inr k3)⟩))
        · exact .inr (.inr (.inr ⟨k0, k2, k3⟩))
  clear l1 l2 HC HO HN H1 H2 G1
  rcases key with ⟨rfl, rfl⟩ | ⟨rfl, rfl⟩ | ⟨rfl, rfl⟩ | ⟨k0, k2, k3⟩
  · go_wp2
    go_ret
    exact ⟨by simp, hu⟩
  · go_wp2_with fail
    refine HA.out.mono ?_
    rintro e w3 ⟨rfl, hu3⟩
    go_wp2
    go_ret
    exact ⟨rfl, hu.trans hu3 (by simp)⟩
  · go_wp2_with fail
    refine HA.out.mono ?_
    rintro e w3 ⟨rfl, hu3⟩
    go_wp2
    go_ret
    exact ⟨rfl, hu.trans hu3 (by simp)⟩
  · have e0 : ((C : Int) == 0) = false := by rw [beq_eq_false_iff_ne]; omega
    have e2 : ((C : Int) == 2) = false := by rw [beq_eq_false_iff_ne]; omega
    have e3 : ((C : Int) == 3) = false := by rw [beq_eq_false_iff_ne]; omega
    go_wp2_with fail
    refine HA.out.mono ?_
    rintro e w3 ⟨rfl, hu3⟩
    go_wp2
    go_ret
    exact ⟨rfl, hu.trans hu3 (by simp)⟩
end
set_option maxRecDepth 100000 in
theorem lifted_UpdateBytes (os : Os) (started : os.Started) (H : Type) (enc : TypeId × Value → H) :
    ReturnsInHanded {} Try.checked os 6 .any (Rows.fnUpdateBytesSpec.pre6 enc Try.prog Try.f6 Rows.fnUpdateBytesRow.domain false) (Rows.fnUpdateBytesSpec.post enc Try.prog Try.f6 false true false false) := by
  refine returnsInHanded_of_change (C := Try.checked) own started (by kernel_rfl) Try.func6
    (ChangeSpec.witness6 (enc := enc) (C := Try.checked) false ⟨#[], #[.slice none 0 0], []⟩ 8 (by kernel_rfl) (by kernel_rfl) (by kernel_rfl) (by kernel_rfl)) ?_
  intro W base args ds gs before hval0 hW hcnd _
  have hval : ∀ (j : Nat) t v, Try.f6.params[j]? = some t → args[j]? = some v → Value.okWide Try.prog W .any base t v := hval0
  have hW' := hW
  obtain ⟨p, q, hA0, hV, rfl, hfz, hnd⟩ := hW
  have hA : DataW.TrodAll enc Try.prog W 0 (fun _ => true) true Try.f6.params.toList args.toList ds p := hA0
  rw [Try.params6] at hA hval
  obtain ⟨v0, vs0, d0, ds0, p0, q0, hargs, rfl, rfl, h0, r0⟩ := trodAll_cons hA
  obtain ⟨rfl, rfl, rfl⟩ := trodAll_nil r0
  obtain rfl : args = #[v0] := by cases args; simp_all
  obtain ⟨data, y0⟩ := open_bytes (hval 0 22 _ rfl rfl) h0
  exact (law_UpdateBytes y0).mono fun e W' h => law_post hW' rfl rfl (by kernel_rfl) (by kernel_rfl) h
theorem UpdateBytes_holds : Rows.FnUpdateBytesSaid :=
  OpenClaim.holds_of_wide 6 Try.f6 rfl rfl rfl rfl rfl rfl rfl ⟨rfl, rfl, rfl, rfl, rfl⟩ rfl rfl rfl rfl rfl (by kernel_rfl) Try.func6 (by kernel_rfl)
    (of_decide_eq_true (by kernel_rfl)) (by unfold Func.isWrapper; first | (rw [if_pos (by decide +kernel)]; kernel_rfl) | (rw [if_neg (by decide +kernel)]; exact ⟨rfl, rfl⟩))
    (fun os started H enc _ => lifted_UpdateBytes os started H enc)
end Go.Proofs.Ytnghnifihnjfeaa

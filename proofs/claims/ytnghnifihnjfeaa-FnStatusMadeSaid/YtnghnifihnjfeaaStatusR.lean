/- The CertificateStatus message: read by the package and by the reference. -/
import Derived.Test.YtnghnifihnjfeaaStatus
import Derived.Test.YtnghnifihnjfeaaBody2
namespace Go.Proofs.Ytnghnifihnjfeaa
open Go.RowKit
set_option maxRecDepth 100000

def statN (data : List UInt8) : Nat := ((bodyR 22 data).num 1).1
def statS (data : List UInt8) : R := if statN data = 1 then ((bodyR 22 data).num 1).2 else ((bodyR 22 data).num 1).2.fail 1
def statV (data : List UInt8) : List UInt8 × R := (statS data).vec 3 1 16777215
def statIn (r : List UInt8) : Option (List UInt8) := match lp 3 r with
  | some (y :: ys, []) => some (y :: ys)
  | _ => none
def readCertificateStatus (data : List UInt8) : Option (List UInt8) := if data.length < 4 then none else match data.drop 4 with
  | [] => none
  | x :: r => if x = 1 then statIn r else none

theorem status_law (data : List UInt8) : ((statV data).2.fin.code = 0 → readCertificateStatus data = some (statV data).1) ∧ ((statV data).2.fin.code = 3 → readCertificateStatus data = none) := by
  unfold statV statS statN
  rcases bodyR_two 22 data with h | ⟨h, h4, -, hl⟩
  · have h1 := R.num_code (s := bodyR 22 data) (by rw [h]; decide) 1
    have h1' : (if ((bodyR 22 data).num 1).1 = 1 then ((bodyR 22 data).num 1).2 else ((bodyR 22 data).num 1).2.fail 1).code = 1 := by
      split
      · rw [h1, h]
      · rw [R.fail_code (by rw [h1, h]; decide), h1, h]
    have h2 := R.vec_code (s := (if ((bodyR 22 data).num 1).1 = 1 then ((bodyR 22 data).num 1).2 else ((bodyR 22 data).num 1).2.fail 1)) (by rw [h1']; decide) 3 1 16777215
    have h3 := R.fin_code (s := ((if ((bodyR 22 data).num 1).1 = 1 then ((bodyR 22 data).num 1).2 else ((bodyR 22 data).num 1).2.fail 1).vec 3 1 16777215).2) (by rw [h2, h1']; decide)
    rw [h3, h2, h1']
    exact ⟨fun h => by omega, fun h => by omega⟩
  · rw [h]
    unfold readCertificateStatus
    rw [if_neg (show ¬ data.length < 4 by omega)]
    rcases data.drop 4 with _ | ⟨x, r⟩
    · have hn := R.num_bad (bs := []) (k := 1) (by simp)
      have hs : (if ((R.mk [] 0).num 1).1 = 1 then ((R.mk [] 0).num 1).2 else ((R.mk [] 0).num 1).2.fail 1).code = 3 := by
        rw [hn]; split <;> rfl
      have h2 := R.vec_code (s := (if ((R.mk [] 0).num 1).1 = 1 then ((R.mk [] 0).num 1).2 else ((R.mk [] 0).num 1).2.fail 1)) (by rw [hs]; decide) 3 1 16777215
      have h3 := R.fin_code (s := ((if ((R.mk [] 0).num 1).1 = 1 then ((R.mk [] 0).num 1).2 else ((R.mk [] 0).num 1).2.fail 1).vec 3 1 16777215).2) (by rw [h2, hs]; decide)
      rw [h3, h2, hs]
      exact ⟨fun h => by omega, fun _ => rfl⟩
    · have e : (R.mk (x :: r) 0).num 1 = (x.toNat, ⟨r, 0⟩) := by simp [R.num, R.take, beNat]
      rw [e]
      by_cases hx : x.toNat = 1
      · have hx1 : x = 1 := UInt8.toNat_inj.1 hx
        subst hx1
        have e2 : (if ((1 : UInt8).toNat, R.mk r 0).1 = 1 then ((1 : UInt8).toNat, R.mk r 0).2 else ((1 : UInt8).toNat, R.mk r 0).2.fail 1) = R.mk r 0 := rfl
        rw [e2]
        rcases hL : lp 3 r with _ | ⟨y, t⟩
        · rw [R.vec_none hL]
          exact ⟨fun h => (by cases h), fun _ => (by simp [statIn, hL])⟩
        · have hlen := (lp_len hL).1
          rw [R.vec_some hL]
          rcases y with _ | ⟨y, ys⟩
          · rw [R.rng_out (by simp)]
            exact ⟨fun h => (by cases h), fun h => (by cases h)⟩
          · rw [R.rng_in (by simp) (by omega)]
            rcases t with _ | ⟨z, t⟩
            · exact ⟨fun _ => (by simp [statIn, hL]), fun h => (by cases h)⟩
            · exact ⟨fun h => (by cases h), fun _ => (by simp [statIn, hL])⟩
      · have hx1 : ¬ x = 1 := by rintro rfl; exact hx rfl
        have e2 : (if (x.toNat, R.mk r 0).1 = 1 then (x.toNat, R.mk r 0).2 else (x.toNat, R.mk r 0).2.fail 1) = R.mk [] 1 := by rw [if_neg hx]; rfl
        rw [e2]
        have h2 := R.vec_code (s := R.mk [] 1) (by simp) 3 1 16777215
        have h3 := R.fin_code (s := ((R.mk [] 1).vec 3 1 16777215).2) (by rw [h2]; simp)
        rw [h3, h2]
        exact ⟨fun h => (by cases h), fun h => (by cases h)⟩

section
variable {w w0 w' : World} {v content : Value} {xs data : List UInt8} {m B : Nat} {e : Ending}

theorem ReadStatus_any (hv : Byt w B v data) : Calls Try.prog 30 #[v] w (RefP w (statV data).1 (statV data).2.fin.code) := by
  obtain ⟨A, c, rfl, hv, hl, hc⟩ := Byt.form hv rfl
  have H1 := hid (body_any (Nat.le_refl _) (Row.shrink hv) 22)
  have tail : ∀ w3, Upd [] w w3 → Rd w3 w.heap.size w.heap.size (statS data) → Hid (Calls Try.prog 46 #[.pointer (some ⟨w.heap.size, 0, none⟩), .int .i64 3, .int .i64 1, .int .i64 16777215] w3 (VecP w3 w.heap.size w.heap.size (statS data) 3 1 16777215)) :=
    fun w3 _ hr => vec_any hr 3 1 16777215 (by omega)
  have hN : statN data = ((bodyR 22 data).num 1).1 := rfl
  have HS := hid (show statS data = if statN data = 1 then ((bodyR 22 data).num 1).2 else ((bodyR 22 data).num 1).2.fail 1 from rfl)
  have fin : ∀ w3 w4 w5 u A3 c3, Upd [] w w3 → u = .slice A3 (statV data).1.length c3 → Byt w4 w.heap.size u (statV data).1 → Upd [w.heap.size] w3 w4 → Upd [w.heap.size] w4 w5 → ∀ n, RefP w (statV data).1 (statV data).2.fin.code (.returned (.tuple #[u, .int .i64 ((statV data).2.fin.code : Int)])) (w5.drewN n) := by
    intro w3 w4 w5 u A3 c3 h1 h2 h3 h4 h5 n
    exact ⟨u, _, ⟨_, _, _, h2⟩, rfl, rfl, ((h1.trans h4 (by simp)).trans h5 (by simp)).drewN _, Row.shrink (Row.drewN (Row.upd h3 h5 (by simp)) _)⟩
  have FIN := hid fin
  clear fin
  by_cases h1 : statN data = 1
  · have hb1 : (((statN data : Nat) : Int) != 1) = false := by rw [bne_eq_false_iff_eq]; omega
    rw [if_pos h1] at HS
    clear h1
    rw [hN] at hb1
    go_enter Try.func30, Try.ntmps30
    go_wp2_with fail
    refine H1.out.mono ?_
    rintro e w1 ⟨rfl, hu1, hr1⟩
    have H2 := hid (num_any hr1 1 (by omega))
    go_wp2_with fail
    refine H2.out.mono ?_
    rintro e w2 ⟨rfl, hu2, hr2⟩
    rw [← HS.out] at hr2
    have hu := hu1.trans hu2 (by simp)
    have H3 := tail w2 hu hr2
    go_wp2_with fail
    refine H3.out.mono ?_
    rintro e w3 ⟨u, rfl, hu3, hr3, hb3⟩
    obtain ⟨A3, c3, rfl, hb3, -⟩ := Byt.form hb3 rfl
    have H4 := hid (end_any hr3)
    go_wp2_with fail
    refine H4.out.mono ?_
    rintro e w4 ⟨rfl, hu4, hr4⟩
    obtain ⟨A2, c2, d0, d1, g0, g1, hl2, hc2⟩ := hr4.open_
    go_wp2_with fail
    go_quiet (fail)
    go_wp2
    go_ret2
    exact FIN.out w2 w3 w4 _ A3 c3 hu rfl hb3 hu3 hu4 _
  · have hb1 : (((statN data : Nat) : Int) != 1) = true := by rw [bne_iff_ne]; omega
    rw [if_neg h1] at HS
    clear h1
    rw [hN] at hb1
    go_enter Try.func30, Try.ntmps30
    go_wp2_with fail
    refine H1.out.mono ?_
    rintro e w1 ⟨rfl, hu1, hr1⟩
    have H2 := hid (num_any hr1 1 (by omega))
    go_wp2_with fail
    refine H2.out.mono ?_
    rintro e w2 ⟨rfl, hu2, hr2⟩
    have hu := hu1.trans hu2 (by simp)
    have H2' := hid (fail_any hr2 1)
    go_wp2_with fail
    refine H2'.out.mono ?_
    rintro e w2' ⟨rfl, hu2', hr2'⟩
    rw [← HS.out] at hr2'
    have hu' := hu.trans hu2' (by simp)
    have H3 := tail w2' hu' hr2'
    go_wp2_with fail
    refine H3.out.mono ?_
    rintro e w3 ⟨u, rfl, hu3, hr3, hb3⟩
    obtain ⟨A3, c3, rfl, hb3, -⟩ := Byt.form hb3 rfl
    have H4 := hid (end_any hr3)
    go_wp2_with fail
    refine H4.out.mono ?_
    rintro e w4 ⟨rfl, hu4, hr4⟩
    obtain ⟨A2, c2, d0, d1, g0, g1, hl2, hc2⟩ := hr4.open_
    go_wp2_with fail
    go_quiet (fail)
    go_wp2
    go_ret2
    exact FIN.out w2' w3 w4 _ A3 c3 hu' rfl hb3 hu3 hu4 _
end
end Go.Proofs.Ytnghnifihnjfeaa

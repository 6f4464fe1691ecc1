/- The CertificateVerify message: read by the reference. -/
import Derived.Test.YtnghnifihnjfeaaVerifyU
namespace Go.Proofs.Ytnghnifihnjfeaa
open Go.RowKit
set_option maxRecDepth 100000

def verN (has : Bool) (data : List UInt8) : Nat := if has then ((bodyR 15 data).num 2).1 else 0
def verS (has : Bool) (data : List UInt8) : R := if has then ((bodyR 15 data).num 2).2 else bodyR 15 data
def verV (has : Bool) (data : List UInt8) : List UInt8 × R := (verS has data).vec 2 0 65535
theorem verN_lt (has : Bool) (data : List UInt8) : verN has data < 65536 := by
  unfold verN
  split
  · have h1 := beNat_lt ((bodyR 15 data).take 2).1
    rw [take_len] at h1
    exact h1
  · omega

theorem ver_tail (a : UInt16) (r : List UInt8) : (((R.mk r 0).vec 2 0 65535).2.fin.code = 0 → verSig a r = some (a, ((R.mk r 0).vec 2 0 65535).1)) ∧ (((R.mk r 0).vec 2 0 65535).2.fin.code = 3 → verSig a r = none) := by
  rcases hL : lp 2 r with _ | ⟨x, t⟩
  · rw [R.vec_none hL]
    exact ⟨fun h => (by cases h), fun _ => (by simp [verSig, hL])⟩
  · have hlen := (lp_len hL).1
    rw [R.vec_some hL, R.rng_in (Nat.zero_le _) (show x.length ≤ 65535 by omega)]
    rcases t with _ | ⟨y, t⟩
    · exact ⟨fun _ => (by simp [verSig, hL]), fun h => (by cases h)⟩
    · exact ⟨fun h => (by cases h), fun _ => (by simp [verSig, hL])⟩

theorem ver_law (has : Bool) (data : List UInt8) : ((verV has data).2.fin.code = 0 → readVerify has data = some (UInt16.ofNat (verN has data), (verV has data).1)) ∧ ((verV has data).2.fin.code = 3 → readVerify has data = none) := by
  unfold verV verS verN
  rcases bodyR_two 15 data with h | ⟨h, h4, -, hl⟩
  · have h1 := R.num_code (s := bodyR 15 data) (by rw [h]; decide) 2
    have h1' : (if has then ((bodyR 15 data).num 2).2 else bodyR 15 data).code = 1 := by
      split
      · rw [h1, h]
      · exact h
    have h2 := R.vec_code (s := if has then ((bodyR 15 data).num 2).2 else bodyR 15 data) (by rw [h1']; decide) 2 0 65535
    have h3 := R.fin_code (s := ((if has then ((bodyR 15 data).num 2).2 else bodyR 15 data).vec 2 0 65535).2) (by rw [h2, h1']; decide)
    rw [h3, h2, h1']
    exact ⟨fun h => by omega, fun h => by omega⟩
  · rw [h]
    unfold readVerify
    rw [if_neg (show ¬ data.length < 4 by omega)]
    cases has
    · exact ver_tail 0 _
    · rcases data.drop 4 with _ | ⟨x, _ | ⟨y, r⟩⟩
      · have hn := R.num_bad (bs := []) (k := 2) (by simp)
        simp only [if_true, hn]
        have h2 := R.vec_code (s := R.mk [] 3) (by simp) 2 0 65535
        have h3 := R.fin_code (s := ((R.mk [] 3).vec 2 0 65535).2) (by rw [h2]; simp)
        rw [h3, h2]
        exact ⟨fun h => (by cases h), fun _ => rfl⟩
      · have hn := R.num_bad (bs := [x]) (k := 2) (by simp)
        simp only [if_true, hn]
        have h2 := R.vec_code (s := R.mk [] 3) (by simp) 2 0 65535
        have h3 := R.fin_code (s := ((R.mk [] 3).vec 2 0 65535).2) (by rw [h2]; simp)
        rw [h3, h2]
        exact ⟨fun h => (by cases h), fun _ => rfl⟩
      · have hn : (R.mk (x :: y :: r) 0).num 2 = (x.toNat * 256 + y.toNat, ⟨r, 0⟩) := by
          rw [R.num_ok (by simp)]
          simp [beNat]
        simp only [if_true, hn]
        exact ver_tail _ r

section
variable {w w0 w' : World} {v content : Value} {xs data : List UInt8} {m B : Nat} {e : Ending}

def RefV (w : World) (n : Nat) (x : List UInt8) (code : Nat) (e : Ending) (w' : World) : Prop :=
  ∃ u C, isSlice u ∧ code = C ∧ e = .returned (.tuple #[wv (UInt16.ofNat n), u, .int .i64 (C : Int)]) ∧ Upd [] w w' ∧ Byt w' w'.heap.size u x

theorem ReadVerify_any (has : Bool) (hv : Byt w B v data) : Calls Try.prog 34 #[.bool has, v] w (RefV w (verN has data) (verV has data).1 (verV has data).2.fin.code) := by
  obtain ⟨A, c, rfl, hv, hl, hc⟩ := Byt.form hv rfl
  have H1 := hid (body_any (Nat.le_refl _) (Row.shrink hv) 15)
  have hwv := wv_ofNat _ (verN_lt has data)
  have fin : ∀ w3 w4 w5 u A3 c3, Upd [] w w3 → u = .slice A3 (verV has data).1.length c3 → Byt w4 w.heap.size u (verV has data).1 → Upd [w.heap.size] w3 w4 → Upd [w.heap.size] w4 w5 → ∀ n, RefV w (verN has data) (verV has data).1 (verV has data).2.fin.code (.returned (.tuple #[.int .u16 (verN has data : Int), u, .int .i64 ((verV has data).2.fin.code : Int)])) (w5.drewN n) := by
    intro w3 w4 w5 u A3 c3 h1 h2 h3 h4 h5 n
    rw [hwv]
    exact ⟨u, _, ⟨_, _, _, h2⟩, rfl, rfl, ((h1.trans h4 (by simp)).trans h5 (by simp)).drewN _, Row.shrink (Row.drewN (Row.upd h3 h5 (by simp)) _)⟩
  have FIN := hid fin
  have hlt := verN_lt has data
  clear fin hwv
  cases has
  · go_enter Try.func34, Try.ntmps34
    go_wp2_with fail
    refine H1.out.mono ?_
    rintro e w1 ⟨rfl, hu1, hr1⟩
    have hr1' : Rd w1 w.heap.size w.heap.size (verS false data) := hr1
    have H3 := hid (vec_any hr1' 2 0 65535 (by omega))
    go_wp2_with fail
    refine H3.out.mono ?_
    rintro e w3 ⟨u, rfl, hu3, hr3, hb3⟩
    obtain ⟨A3, c3, rfl, hb3, -⟩ := Byt.form hb3 rfl
    have H4 := hid (end_any hr3)
    go_wp2_with fail
    refine H4.out.mono ?_
    rintro e w4 ⟨rfl, hu4, hr4⟩
    obtain ⟨A2, c2, d0, d1, g0, g1, hl2, hc2⟩ := hr4.open_
    go_wp2_with fail
    go_quiet (fail)
    go_wp2
    go_ret3
    exact FIN.out w1 w3 w4 _ A3 c3 hu1 rfl hb3 hu3 hu4 _
  · have HN := hid (show ((bodyR 15 data).num 2).1 = verN true data from rfl)
    go_enter Try.func34, Try.ntmps34
    go_wp2_with fail
    refine H1.out.mono ?_
    rintro e w1 ⟨rfl, hu1, hr1⟩
    have H2 := hid (num_any hr1 2 (by omega))
    go_wp2_with fail
    refine H2.out.mono ?_
    rintro e w2 ⟨rfl, hu2, hr2⟩
    rw [HN.out]
    have hu := hu1.trans hu2 (by simp)
    have hr2' : Rd w2 w.heap.size w.heap.size (verS true data) := hr2
    have H3 := hid (vec_any hr2' 2 0 65535 (by omega))
    go_wp2_with fail
    refine H3.out.mono ?_
    rintro e w3 ⟨u, rfl, hu3, hr3, hb3⟩
    obtain ⟨A3, c3, rfl, hb3, -⟩ := Byt.form hb3 rfl
    have H4 := hid (end_any hr3)
    go_wp2_with fail
    refine H4.out.mono ?_
    rintro e w4 ⟨rfl, hu4, hr4⟩
    obtain ⟨A2, c2, d0, d1, g0, g1, hl2, hc2⟩ := hr4.open_
    have hmod : ((verN true data : Int) % 65536) = (verN true data : Int) := by omega
    go_wp2_with fail
    go_quiet (fail)
    go_wp2
    go_ret3
    have := FIN.out w2 w3 w4 _ A3 c3 hu rfl hb3 hu3 hu4
    first | exact this _ | (rw [hmod]; exact this _)
end
end Go.Proofs.Ytnghnifihnjfeaa

/- Contract of the reference's reader: body, the head of a message. -/
import Derived.Test.YtcdjbciifnoajaaReader4
namespace Go.Proofs.Ytcdjbciifnoajaa
open Go.RowKit

section
variable {w w' : World} {N r : Nat} {s : R} {S : List Nat}

theorem neq_true {a b : Nat} (h : a ≠ b) : (((a : Int) != (b : Int)) = true) := by rw [bne_iff_ne]; omega
theorem neq_false {a b : Nat} (h : a = b) : (((a : Int) != (b : Int)) = false) := by subst h; simp

/-- what 'body' leaves behind its number -/
def bodyK (kind : Nat) (data : List UInt8) : R := if ((R.mk data 0).num 1).1 = kind then ((R.mk data 0).num 1).2 else ((R.mk data 0).num 1).2.fail 1
theorem bodyR_eq (kind : Nat) (data : List UInt8) (h : ¬ data.length < 4) :
    bodyR kind data = if ((bodyK kind data).num 3).1 = ((bodyK kind data).num 3).2.bs.length then ((bodyK kind data).num 3).2 else ((bodyK kind data).num 3).2.fail 1 := by
  unfold bodyR
  simp only [if_neg h]
  rfl

def BodyMid (w : World) (N : Nat) (kind : Nat) (data : List UInt8) (w' : World) : Prop :=
  Upd [] w w' ∧ Rd w' N w.heap.size (bodyK kind data)

set_option maxHeartbeats 1000000 in
theorem body_any {N : Nat} (hN : N ≤ w.heap.size) {v : Value} {data : List UInt8} (hv : Byt w N v data) (kind : Nat) :
    Calls Try.prog 44 #[.int .i64 kind, v] w (WithinP w N (bodyR kind data)) := by
  obtain ⟨A, c, rfl, hv, hl, hc⟩ := Byt.form hv rfl
  have hr0 : Rd (w.alloc (.cells #[.slice A data.length c, .int .i64 0] 87)) N w.heap.size ⟨data, 0⟩ := ⟨hN, _, Blk.new _ _ _, hv.alloc _⟩
  by_cases h4 : data.length < 4
  · have H := hid (show bodyR kind data = (R.mk data 0).fail 1 by simp [bodyR, h4])
    go_enter Try.func44, Try.ntmps44
    go_wp2_with fail
    refine (fail_any hr0 1).mono ?_
    rintro e w1 ⟨rfl, hu1, hr1⟩
    go_wp2
    go_ret
    rw [H.out]
    exact ⟨rfl, ((Upd.refl [] w).alloc _).trans hu1 (by simp), hr1⟩
  · have H := hid (bodyR_eq kind data h4)
    have hn1 := num_any hr0 1 (by omega)
    go_enter Try.func44, Try.ntmps44
    go_wp2_with fail
    refine hn1.mono ?_
    rintro e w1 ⟨rfl, hu1, hr1⟩
    have hmid : ∀ w2, Upd [] w w2 → Rd w2 N w.heap.size (bodyK kind data) → True := fun _ _ _ => trivial
    by_cases hk : ((R.mk data 0).num 1).1 = kind
    · have Hk := hid (show bodyK kind data = ((R.mk data 0).num 1).2 by unfold bodyK; rw [if_pos hk])
      have hne := neq_false hk
      clear hk
      rw [← Hk.out] at hr1
      go_wp2_with fail
      refine (num_any hr1 3 (by omega)).mono ?_
      rintro e w2 ⟨rfl, hu2, hr2⟩
      obtain ⟨A2, c2, d0, d1, g0, g1, hl2, hc2⟩ := hr2.open_
      by_cases hL : ((bodyK kind data).num 3).1 = ((bodyK kind data).num 3).2.bs.length
      · have hne2 := neq_false hL
        rw [if_pos hL] at H
        clear hL
        go_wp2
        go_ret
        rw [H.out]
        exact ⟨rfl, (((Upd.refl [] w).alloc _).trans hu1 (by simp)).trans hu2 (by simp), hr2⟩
      · have hne2 := neq_true hL
        rw [if_neg hL] at H
        clear hL
        go_wp2_with fail
        refine (fail_any hr2 1).mono ?_
        rintro e w3 ⟨rfl, hu3, hr3⟩
        go_wp2
        go_ret
        rw [H.out]
        exact ⟨rfl, ((((Upd.refl [] w).alloc _).trans hu1 (by simp)).trans hu2 (by simp)).trans hu3 (by simp), hr3⟩
    · have Hk := hid (show bodyK kind data = ((R.mk data 0).num 1).2.fail 1 by unfold bodyK; rw [if_neg hk])
      have hne := neq_true hk
      clear hk
      go_wp2_with fail
      refine (fail_any hr1 1).mono ?_
      rintro e w1' ⟨rfl, hu1', hr1'⟩
      rw [← Hk.out] at hr1'
      go_wp2_with fail
      refine (num_any hr1' 3 (by omega)).mono ?_
      rintro e w2 ⟨rfl, hu2, hr2⟩
      obtain ⟨A2, c2, d0, d1, g0, g1, hl2, hc2⟩ := hr2.open_
      by_cases hL : ((bodyK kind data).num 3).1 = ((bodyK kind data).num 3).2.bs.length
      · have hne2 := neq_false hL
        rw [if_pos hL] at H
        clear hL
        go_wp2
        go_ret
        rw [H.out]
        exact ⟨rfl, ((((Upd.refl [] w).alloc _).trans hu1 (by simp)).trans hu1' (by simp)).trans hu2 (by simp), hr2⟩
      · have hne2 := neq_true hL
        rw [if_neg hL] at H
        clear hL
        go_wp2_with fail
        refine (fail_any hr2 1).mono ?_
        rintro e w3 ⟨rfl, hu3, hr3⟩
        go_wp2
        go_ret
        rw [H.out]
        exact ⟨rfl, (((((Upd.refl [] w).alloc _).trans hu1 (by simp)).trans hu1' (by simp)).trans hu2 (by simp)).trans hu3 (by simp), hr3⟩
end
end Go.Proofs.Ytcdjbciifnoajaa

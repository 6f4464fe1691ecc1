/- Plain laws on the reader's model: numbers and vectors where nothing was found. -/
import Derived.Test.YtcdjbciifnoajaaBody
import Derived.Test.YtcdjbciifnoajaaString2
namespace Go.Proofs.Ytcdjbciifnoajaa
set_option maxRecDepth 20000

namespace R
theorem num_ok {bs : List UInt8} {k : Nat} (h : k ≤ bs.length) : (R.mk bs 0).num k = (beNat (bs.take k), ⟨bs.drop k, 0⟩) := by
  simp [num, take, show ¬ bs.length < k by omega]
theorem num_bad {bs : List UInt8} {k : Nat} (h : bs.length < k) : ((R.mk bs 0).num k).2 = ⟨[], 3⟩ := by
  simp [num, take, h, fail]
theorem vec_none {bs : List UInt8} {size : Nat} (h : lp size bs = none) (lo hi : Nat) : (R.mk bs 0).vec size lo hi = ([], ⟨[], 3⟩) := by
  unfold lp at h
  unfold vec
  by_cases h1 : size ≤ bs.length
  · rw [if_pos h1] at h
    rw [num_ok h1]
    by_cases h2 : beNat (bs.take size) ≤ (bs.drop size).length
    · rw [if_pos h2] at h; cases h
    · have e : (R.mk (bs.drop size) 0).long (beNat (bs.take size)) = ⟨[], 3⟩ := by
        unfold long
        rw [if_pos ⟨rfl, by show (bs.drop size).length < _; omega⟩]
        rfl
      simp only [e]
      rfl
  · have e := num_bad (bs := bs) (k := size) (by omega)
    have e2 : ((R.mk bs 0).num size).2.long ((R.mk bs 0).num size).1 = ⟨[], 3⟩ := by
      rw [e]
      unfold long
      rw [if_neg (by simp)]
    simp only [e2]
    rfl
theorem vec_some {bs x r : List UInt8} {size : Nat} (h : lp size bs = some (x, r)) (lo hi : Nat) : (R.mk bs 0).vec size lo hi = (x, (R.mk r 0).rng x.length lo hi) := by
  unfold lp at h
  by_cases h1 : size ≤ bs.length
  · rw [if_pos h1] at h
    by_cases h2 : beNat (bs.take size) ≤ (bs.drop size).length
    · rw [if_pos h2] at h
      injection h with h
      injection h with hx hr
      have e : (R.mk (bs.drop size) 0).long (beNat (bs.take size)) = ⟨bs.drop size, 0⟩ := by
        unfold long
        rw [if_neg (by simp at h2 ⊢; omega)]
      have hxl : x.length = beNat (bs.take size) := by rw [← hx, List.length_take]; omega
      unfold vec
      rw [num_ok h1]
      simp only [e]
      have et : (R.mk (bs.drop size) 0).take (beNat (bs.take size)) = (x, ⟨r, 0⟩) := by
        unfold take
        rw [if_neg (by simp at h2 ⊢; omega), hx, hr]
      rw [et, hxl]
      rfl
    · rw [if_neg h2] at h; cases h
  · rw [if_neg h1] at h; cases h
theorem rng_in {r : List UInt8} {n lo hi : Nat} (h : lo ≤ n) (h2 : n ≤ hi) : (R.mk r 0).rng n lo hi = ⟨r, 0⟩ := by
  unfold rng; rw [if_neg (by omega)]
theorem rng_out {r : List UInt8} {n lo hi : Nat} (h : n < lo ∨ hi < n) : (R.mk r 0).rng n lo hi = ⟨[], 2⟩ := by
  unfold rng; rw [if_pos h]; rfl
theorem fin_nil (c : Nat) : (R.mk [] c).fin = ⟨[], c⟩ := rfl
theorem fin_cons (x : UInt8) (t : List UInt8) : (R.mk (x :: t) 0).fin = ⟨[], 3⟩ := rfl
end R
/-- how long a length-prefixed vector can be -/
theorem lp_len {bs x r : List UInt8} {size : Nat} (h : lp size bs = some (x, r)) : x.length < 256 ^ size ∧ size + x.length + r.length = bs.length := by
  unfold lp at h
  by_cases h1 : size ≤ bs.length
  · rw [if_pos h1] at h
    by_cases h2 : beNat (bs.take size) ≤ (bs.drop size).length
    · rw [if_pos h2] at h
      injection h with h
      injection h with hx hr
      have h3 := beNat_lt (bs.take size)
      have h4 : (bs.take size).length = size := by simp; omega
      rw [h4] at h3
      have h5 : x.length = beNat (bs.take size) := by rw [← hx, List.length_take]; omega
      have h6 : r.length = (bs.drop size).length - beNat (bs.take size) := by rw [← hr, List.length_drop]
      simp at h2 h6
      omega
    · rw [if_neg h2] at h; cases h
  · rw [if_neg h1] at h; cases h
end Go.Proofs.Ytcdjbciifnoajaa

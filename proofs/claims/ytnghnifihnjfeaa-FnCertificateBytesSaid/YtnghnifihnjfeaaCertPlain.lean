/- Certificate up to TLS 1.2: what the package reads, and the plain law. -/
import Derived.Test.YtnghnifihnjfeaaBody2
namespace Go.Proofs.Ytnghnifihnjfeaa
set_option maxRecDepth 20000

/-- certificates, one behind the other, as the package reads them -/
def certsGo : Nat → List UInt8 → Option (List (List UInt8))
  | 0, _ => none
  | f + 1, d => if d = [] then some [] else if d.length < 4 then none else match lp 3 d with
    | some (x, r) => (certsGo f r).map (x :: ·)
    | none => none
def certs (d : List UInt8) : Option (List (List UInt8)) := certsGo (d.length + 1) d
theorem certsGo_eq (f g : Nat) (d : List UInt8) (hf : d.length < f) (hg : d.length < g) : certsGo f d = certsGo g d := by
  induction f generalizing g d with
  | zero => omega
  | succ f ih =>
    cases g with
    | zero => omega
    | succ g =>
      unfold certsGo
      by_cases h0 : d = []
      · rw [if_pos h0, if_pos h0]
      · rw [if_neg h0, if_neg h0]
        by_cases h4 : d.length < 4
        · rw [if_pos h4, if_pos h4]
        · rw [if_neg h4, if_neg h4]
          rcases hL : lp 3 d with _ | ⟨x, r⟩
          · rfl
          · have := (lp_len hL).2
            show (certsGo f r).map (x :: ·) = (certsGo g r).map (x :: ·)
            rw [ih g r (by omega) (by omega)]
theorem certs_nil : certs [] = some [] := rfl
theorem certs_step {d : List UInt8} (h4 : 4 ≤ d.length) {x r : List UInt8} (hL : lp 3 d = some (x, r)) : certs d = (certs r).map (x :: ·) := by
  have hl := (lp_len hL).2
  have h0 : d ≠ [] := by intro h; rw [h] at h4; simp at h4
  unfold certs
  rw [show certsGo (d.length + 1) d = (certsGo d.length r).map (x :: ·) by
    conv => lhs; unfold certsGo
    rw [if_neg h0, if_neg (by omega), hL]]
  rw [certsGo_eq d.length (r.length + 1) r (by omega) (by omega)]
theorem certs_short {d : List UInt8} (h : d.length < 4) (h0 : d ≠ []) : certs d = none := by
  unfold certs certsGo
  rw [if_neg h0, if_pos h]
theorem certs_none {d : List UInt8} (hL : lp 3 d = none) (h0 : d ≠ []) : certs d = none := by
  unfold certs certsGo
  rw [if_neg h0, hL]
  split <;> rfl

theorem certs_inv {d y : List UInt8} {l : List (List UInt8)} (h : certs d = some (y :: l)) : 4 ≤ d.length ∧ ∃ r, lp 3 d = some (y, r) ∧ certs r = some l := by
  by_cases h0 : d = []
  · subst h0
    rw [certs_nil] at h
    cases h
  · by_cases h4 : d.length < 4
    · rw [certs_short h4 h0] at h; cases h
    · rcases hL : lp 3 d with _ | ⟨x, r⟩
      · rw [certs_none hL h0] at h; cases h
      · rw [certs_step (by omega) hL] at h
        rcases hc : certs r with _ | l'
        · rw [hc] at h; cases h
        · rw [hc] at h
          simp at h
          obtain ⟨rfl, rfl⟩ := h
          exact ⟨by omega, r, rfl, hc⟩

def readCertificate (data : List UInt8) : Option (List (List UInt8)) :=
  if data.length < 7 then none else if data.length = beNat ((data.drop 4).take 3) + 7 then certs (data.drop 7) else none

/-- the reference's reader of them, and what the package reads -/
theorem vecsGo_certs (f : Nat) (d : List UInt8) (hf : d.length ≤ f) :
    ((R.vecsGo 3 1 f ⟨d, 0⟩).2.code = 0 → certs d = some (R.vecsGo 3 1 f ⟨d, 0⟩).1) ∧ ((R.vecsGo 3 1 f ⟨d, 0⟩).2.code = 3 → certs d = none) ∧ (R.vecsGo 3 1 f ⟨d, 0⟩).2.bs = [] := by
  induction f generalizing d with
  | zero =>
    have : d = [] := List.eq_nil_of_length_eq_zero (by omega)
    subst this
    exact ⟨fun _ => rfl, fun h => (by cases h), rfl⟩
  | succ f ih =>
    by_cases h0 : d = []
    · subst h0
      exact ⟨fun _ => rfl, fun h => (by cases h), rfl⟩
    · have hstop : ∀ (g : Nat) (c : Nat), R.vecsGo 3 1 g ⟨[], c⟩ = ([], ⟨[], c⟩) := by
        intro g c
        cases g with
        | zero => rfl
        | succ g => unfold R.vecsGo; simp
      have hu : R.vecsGo 3 1 (f + 1) ⟨d, 0⟩ = (((R.mk d 0).vec 3 1 (256 ^ 3 - 1)).1 :: (R.vecsGo 3 1 f ((R.mk d 0).vec 3 1 (256 ^ 3 - 1)).2).1, (R.vecsGo 3 1 f ((R.mk d 0).vec 3 1 (256 ^ 3 - 1)).2).2) := by
        conv => lhs; unfold R.vecsGo
        rw [if_neg h0]
      rw [hu]
      rcases hL : lp 3 d with _ | ⟨x, r⟩
      · rw [R.vec_none hL, hstop]
        exact ⟨fun h => (by cases h), fun _ => certs_none hL h0, rfl⟩
      · have hlen := lp_len hL
        rw [R.vec_some hL]
        rcases x with _ | ⟨x0, xt⟩
        · rw [R.rng_out (by simp), hstop]
          exact ⟨fun h => (by cases h), fun h => (by cases h), rfl⟩
        · rw [R.rng_in (by simp) (by have := hlen.1; omega)]
          have h4 : 4 ≤ d.length := by have := hlen.2; simp at this; omega
          obtain ⟨i1, i2, i3⟩ := ih r (by have := hlen.2; simp at this; omega)
          rw [certs_step h4 hL]
          refine ⟨fun h => ?_, fun h => ?_, i3⟩
          · rw [i1 h]; rfl
          · rw [i2 h]; rfl
end Go.Proofs.Ytnghnifihnjfeaa

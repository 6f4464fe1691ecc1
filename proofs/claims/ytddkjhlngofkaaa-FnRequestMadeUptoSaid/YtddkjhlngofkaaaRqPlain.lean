/- CertificateRequest up to TLS 1.2, plainly: what the package reads, what the reference reads. No program is named here. -/
import Derived.Test.YtddkjhlngofkaaaListsB
namespace Go.Proofs.Ytddkjhlngofkaaa
set_option maxRecDepth 20000

/-- a CertificateRequest up to TLS 1.2 -/
structure Rq where
  has : Bool
  types : List UInt8
  sig : List UInt16
  cas : List (List UInt8)
def Rq.zero : Rq := ⟨false, [], [], []⟩
/-- authorities, one behind the other, as the package reads them: empty ones, too -/
def casGo : Nat → List UInt8 → Option (List (List UInt8))
  | 0, _ => none
  | f + 1, d => if d = [] then some [] else match lp 2 d with
    | some (x, r) => (casGo f r).map (x :: ·)
    | none => none
def casP (d : List UInt8) : Option (List (List UInt8)) := casGo (d.length + 1) d
theorem casGo_eq (f g : Nat) (d : List UInt8) (hf : d.length < f) (hg : d.length < g) : casGo f d = casGo g d := by
  induction f generalizing g d with
  | zero => omega
  | succ f ih =>
    cases g with
    | zero => omega
    | succ g =>
      unfold casGo
      by_cases h0 : d = []
      · rw [if_pos h0, if_pos h0]
      · rw [if_neg h0, if_neg h0]
        rcases hL : lp 2 d with _ | ⟨x, r⟩
        · rfl
        · have := (lp_len hL).2
          show (casGo f r).map (x :: ·) = (casGo g r).map (x :: ·)
          rw [ih g r (by omega) (by omega)]
theorem casP_nil : casP [] = some [] := rfl
theorem casP_step {d x r : List UInt8} (hL : lp 2 d = some (x, r)) : casP d = (casP r).map (x :: ·) := by
  have hl := (lp_len hL).2
  have h0 : d ≠ [] := by intro h; rw [h] at hl; simp at hl
  unfold casP
  rw [show casGo (d.length + 1) d = (casGo d.length r).map (x :: ·) by
    conv => lhs; unfold casGo
    rw [if_neg h0, hL]]
  rw [casGo_eq d.length (r.length + 1) r (by omega) (by omega)]
theorem casP_none {d : List UInt8} (hL : lp 2 d = none) (h0 : d ≠ []) : casP d = none := by
  unfold casP casGo
  rw [if_neg h0, hL]
def rqCas : Option (List UInt8 × List UInt8) → Option (List (List UInt8))
  | some (c, []) => casP c
  | _ => none
theorem rqCas_some (c : List UInt8) : rqCas (some (c, [])) = casP c := rfl
theorem rqCas_more (c t : List UInt8) (y : UInt8) : rqCas (some (c, y :: t)) = none := rfl
theorem rqCas_bad (c r : List UInt8) (h : casP c = none) : rqCas (some (c, r)) = none := by
  cases r with
  | nil => exact h
  | cons y t => rfl
def rqSig (ts : List UInt8) : Option (List UInt8 × List UInt8) → Option Rq
  | some (x, r) => if x = [] ∨ x.length % 2 = 1 then none else (rqCas (lp 2 r)).map fun l => ⟨true, ts, wordsOf x, l⟩
  | none => none
theorem rqSig_some (ts x r : List UInt8) : rqSig ts (some (x, r)) = if x = [] ∨ x.length % 2 = 1 then none else (rqCas (lp 2 r)).map fun l => ⟨true, ts, wordsOf x, l⟩ := rfl
def rqRest (has : Bool) (ts : List UInt8) (d : List UInt8) : Option Rq := match has with
  | true => rqSig ts (lp 2 d)
  | false => (rqCas (lp 2 d)).map fun l => ⟨false, ts, [], l⟩
def rqBody (has : Bool) : Option (List UInt8 × List UInt8) → Option Rq
  | some (y :: ts, d) => rqRest has (y :: ts) d
  | _ => none
def rqRead (has : Bool) (data : List UInt8) : Option Rq := if data.length < 5 then none else if beNat ((data.drop 1).take 3) = data.length - 4 then rqBody has (lp 1 (data.drop 4)) else none

/-- what the reference reads -/
def rqB (data : List UInt8) : List UInt8 × R := (bodyR 13 data).vec 1 1 255
def rqW (has : Bool) (data : List UInt8) : List UInt16 × R := match has with
  | true => (rqB data).2.wordsV 2 65535
  | false => ([], (rqB data).2)
def rqV (has : Bool) (data : List UInt8) : List (List UInt8) × R := (rqW has data).2.listsV 2 0 65535 2
def rqSpec (has : Bool) (data : List UInt8) : Rq × R := (⟨has, (rqB data).1, (rqW has data).1, (rqV has data).1⟩, (rqV has data).2.fin)

theorem R.wordsV_code {s : R} (h : s.code ≠ 0) (size most : Nat) : (s.wordsV size most).2.code = s.code := by
  have h1 := R.vec_code h size 2 most
  unfold R.wordsV
  rw [R.words_code (by rw [h1]; exact h), h1]
theorem R.listsV_code {s : R} (h : s.code ≠ 0) (n low most size : Nat) : (s.listsV n low most size).2.code = s.code := by
  have h1 := R.vec_code h n low most
  unfold R.listsV
  rw [R.vectors_code (by rw [h1]; exact h), h1]
theorem vecsGo_cas (f : Nat) (d : List UInt8) (hf : d.length ≤ f) :
    ((R.vecsGo 2 1 f ⟨d, 0⟩).2.code = 0 → casP d = some (R.vecsGo 2 1 f ⟨d, 0⟩).1) ∧ ((R.vecsGo 2 1 f ⟨d, 0⟩).2.code = 3 → casP d = none) ∧ (R.vecsGo 2 1 f ⟨d, 0⟩).2.bs = [] := by
  induction f generalizing d with
  | zero =>
    have : d = [] := List.eq_nil_of_length_eq_zero (by omega)
    subst this
    exact ⟨fun _ => rfl, fun h => (by cases h), rfl⟩
  | succ f ih =>
    by_cases h0 : d = []
    · subst h0
      exact ⟨fun _ => rfl, fun h => (by cases h), rfl⟩
    · have hstop : ∀ (g : Nat) (c : Nat), R.vecsGo 2 1 g ⟨[], c⟩ = ([], ⟨[], c⟩) := by
        intro g c
        cases g with
        | zero => rfl
        | succ g => unfold R.vecsGo; simp
      have hu : R.vecsGo 2 1 (f + 1) ⟨d, 0⟩ = (((R.mk d 0).vec 2 1 (256 ^ 2 - 1)).1 :: (R.vecsGo 2 1 f ((R.mk d 0).vec 2 1 (256 ^ 2 - 1)).2).1, (R.vecsGo 2 1 f ((R.mk d 0).vec 2 1 (256 ^ 2 - 1)).2).2) := by
        conv => lhs; unfold R.vecsGo
        rw [if_neg h0]
      rw [hu]
      rcases hL : lp 2 d with _ | ⟨x, r⟩
      · rw [R.vec_none hL, hstop]
        exact ⟨fun h => (by cases h), fun _ => casP_none hL h0, rfl⟩
      · have hlen := lp_len hL
        rw [R.vec_some hL]
        rcases x with _ | ⟨x0, xt⟩
        · rw [R.rng_out (by simp), hstop]
          exact ⟨fun h => (by cases h), fun h => (by cases h), rfl⟩
        · rw [R.rng_in (by simp) (by have := hlen.1; omega)]
          obtain ⟨i1, i2, i3⟩ := ih r (by have := hlen.2; simp at this; omega)
          rw [casP_step hL]
          refine ⟨fun h => ?_, fun h => ?_, i3⟩
          · rw [i1 h]; rfl
          · rw [i2 h]; rfl
theorem cas_law (d : List UInt8) : (((R.mk d 0).listsV 2 0 65535 2).2.fin.code = 0 → rqCas (lp 2 d) = some ((R.mk d 0).listsV 2 0 65535 2).1) ∧ (((R.mk d 0).listsV 2 0 65535 2).2.fin.code = 3 → rqCas (lp 2 d) = none) := by
  rcases hL : lp 2 d with _ | ⟨x, r⟩
  · have hv : (R.mk d 0).vec 2 0 65535 = ([], ⟨[], 3⟩) := R.vec_none hL _ _
    unfold R.listsV
    rw [hv]
    exact ⟨fun h => (by cases h), fun _ => rfl⟩
  · have hlen := (lp_len hL).1
    have hv : (R.mk d 0).vec 2 0 65535 = (x, ⟨r, 0⟩) := by rw [R.vec_some hL, R.rng_in (Nat.zero_le _) (show x.length ≤ 65535 by omega)]
    unfold R.listsV
    rw [hv]
    obtain ⟨g1, g2, g3⟩ := vecsGo_cas x.length x (Nat.le_refl _)
    have hv : (R.mk r 0).vectors x 2 1 = ((R.vecsGo 2 1 x.length ⟨x, 0⟩).1, (R.mk r 0).done (R.vecsGo 2 1 x.length ⟨x, 0⟩).2) := rfl
    show (((R.mk r 0).vectors x 2 1).2.fin.code = 0 → _) ∧ (((R.mk r 0).vectors x 2 1).2.fin.code = 3 → _)
    rw [hv]
    generalize R.vecsGo 2 1 x.length ⟨x, 0⟩ = g at g1 g2 g3
    obtain ⟨l, ⟨gb, gc⟩⟩ := g
    have g3 : gb = [] := g3
    subst g3
    have g1 : gc = 0 → casP x = some l := g1
    have g2 : gc = 3 → casP x = none := g2
    by_cases k0 : gc = 0
    · subst k0
      have hd : (R.mk r 0).done ⟨[], 0⟩ = ⟨r, 0⟩ := rfl
      rw [hd]
      rcases r with _ | ⟨y, t⟩
      · exact ⟨fun _ => g1 rfl, fun h => (by cases h)⟩
      · exact ⟨fun h => (by cases h), fun _ => rfl⟩
    · have hd : (R.mk r 0).done ⟨[], gc⟩ = ⟨[], gc⟩ := by
        unfold R.done
        have : (R.mk [] gc).fin = ⟨[], gc⟩ := rfl
        rw [this, if_neg k0]
        rfl
      rw [hd]
      have hf : (R.mk [] gc).fin = ⟨[], gc⟩ := rfl
      rw [hf]
      exact ⟨fun h => absurd h k0, fun h => rqCas_bad _ _ (g2 h)⟩
/-- numbers out of a vector that need not be the last -/
theorem wordsV_cases (d : List UInt8) : (lp 2 d = none ∧ ((R.mk d 0).wordsV 2 65535).2.code = 3) ∨ (∃ x r, lp 2 d = some (x, r) ∧ x.length < 2 ∧ ((R.mk d 0).wordsV 2 65535).2.code = 2) ∨
    (∃ x r, lp 2 d = some (x, r) ∧ x.length % 2 = 1 ∧ ((R.mk d 0).wordsV 2 65535).2.code = 3) ∨ (∃ x r, lp 2 d = some (x, r) ∧ x ≠ [] ∧ x.length % 2 = 0 ∧ (R.mk d 0).wordsV 2 65535 = (wordsOf x, ⟨r, 0⟩)) := by
  rcases hL : lp 2 d with _ | ⟨x, r⟩
  · refine .inl ⟨rfl, ?_⟩
    have hv : (R.mk d 0).vec 2 2 65535 = ([], ⟨[], 3⟩) := R.vec_none hL _ _
    unfold R.wordsV
    rw [hv]
    exact R.words_code (by decide) _
  · have hlen := (lp_len hL).1
    by_cases h2 : x.length < 2
    · refine .inr (.inl ⟨x, r, rfl, h2, ?_⟩)
      have hv : (R.mk d 0).vec 2 2 65535 = (x, ⟨[], 2⟩) := by rw [R.vec_some hL, R.rng_out (.inl h2)]
      unfold R.wordsV
      rw [hv]
      exact R.words_code (s := ⟨[], 2⟩) (show (2 : Nat) ≠ 0 by decide) _
    · have hv : (R.mk d 0).vec 2 2 65535 = (x, ⟨r, 0⟩) := by rw [R.vec_some hL, R.rng_in (by omega) (by omega)]
      have hw : (R.mk d 0).wordsV 2 65535 = (wordsOf x, (R.mk r 0).done (R.mk x 0).wEnd) := by
        unfold R.wordsV
        rw [hv]
        rfl
      rw [hw]
      rcases Nat.mod_two_eq_zero_or_one x.length with he | he
      · refine .inr (.inr (.inr ⟨x, r, rfl, by intro h; rw [h] at h2; simp at h2, he, ?_⟩))
        have : (R.mk x 0).wEnd = ⟨[], 0⟩ := by unfold R.wEnd; rw [if_pos he]
        rw [this]
        rfl
      · refine .inr (.inr (.inl ⟨x, r, rfl, he, ?_⟩))
        have : (R.mk x 0).wEnd = ⟨[], 3⟩ := by unfold R.wEnd; rw [if_neg (by show ¬ x.length % 2 = 0; omega)]; rfl
        rw [this]
        rfl
theorem rq_law (has : Bool) (data : List UInt8) : ((rqSpec has data).2.code = 0 → rqRead has data = some (rqSpec has data).1) ∧ ((rqSpec has data).2.code = 3 → rqRead has data = none) := by
  have stop : ∀ c, (rqB data).2.code = c → c ≠ 0 → (rqSpec has data).2.code = c := by
    intro c h hc
    have h1 : (rqW has data).2.code = c := by
      cases has with
      | true => exact (R.wordsV_code (by rw [h]; exact hc) _ _).trans h
      | false => exact h
    have h2 : (rqV has data).2.code = c := (R.listsV_code (by rw [h1]; exact hc) _ _ _ _).trans h1
    exact (R.fin_code (by rw [h2]; exact hc)).trans h2
  have stopW : ∀ c, (rqW has data).2.code = c → c ≠ 0 → (rqSpec has data).2.code = c := by
    intro c h1 hc
    have h2 : (rqV has data).2.code = c := (R.listsV_code (by rw [h1]; exact hc) _ _ _ _).trans h1
    exact (R.fin_code (by rw [h2]; exact hc)).trans h2
  rcases bodyR_two 13 data with h | ⟨h, h4, -, hl⟩
  · have h1 : (rqB data).2.code = 1 := (R.vec_code (by rw [h]; decide) _ _ _).trans h
    rw [stop 1 h1 (by decide)]
    exact ⟨fun h => by omega, fun h => by omega⟩
  · have hk : rqRead has data = rqBody has (lp 1 (data.drop 4)) := by
      unfold rqRead
      by_cases h5 : data.length < 5
      · rw [if_pos h5]
        have : data.drop 4 = [] := List.drop_eq_nil_of_le (by omega)
        rw [this]
        rfl
      · rw [if_neg h5, if_pos hl]
    rw [hk]
    generalize data.drop 4 = d at h
    rcases hL : lp 1 d with _ | ⟨x, r⟩
    · have h1 : (rqB data).2.code = 3 := by unfold rqB; rw [h, R.vec_none hL]
      rw [stop 3 h1 (by decide)]
      exact ⟨fun h => by omega, fun _ => rfl⟩
    · have hlen := (lp_len hL).1
      rcases x with _ | ⟨y, ts⟩
      · have h1 : (rqB data).2.code = 2 := by unfold rqB; rw [h, R.vec_some hL, R.rng_out (.inl (by simp))]
        rw [stop 2 h1 (by decide)]
        exact ⟨fun h => by omega, fun h => by omega⟩
      · have h1 : rqB data = (y :: ts, ⟨r, 0⟩) := by unfold rqB; rw [h, R.vec_some hL, R.rng_in (by simp) (by omega)]
        show (_ → rqRest has (y :: ts) r = _) ∧ (_ → rqRest has (y :: ts) r = _)
        cases has with
        | false =>
          have hw : rqW false data = ([], ⟨r, 0⟩) := by unfold rqW; rw [h1]
          have hs : rqSpec false data = (⟨false, y :: ts, [], ((R.mk r 0).listsV 2 0 65535 2).1⟩, ((R.mk r 0).listsV 2 0 65535 2).2.fin) := by
            unfold rqSpec rqV; rw [hw, h1]
          obtain ⟨c1, c2⟩ := cas_law r
          rw [hs]
          refine ⟨fun h => ?_, fun h => ?_⟩
          · show (rqCas (lp 2 r)).map _ = _
            rw [c1 h]; rfl
          · show (rqCas (lp 2 r)).map _ = _
            rw [c2 h]; rfl
        | true =>
          have hw : rqW true data = (R.mk r 0).wordsV 2 65535 := by unfold rqW; rw [h1]
          show (_ → rqSig (y :: ts) (lp 2 r) = _) ∧ (_ → rqSig (y :: ts) (lp 2 r) = _)
          rcases wordsV_cases r with ⟨k1, k2⟩ | ⟨x, r2, k1, k2, k3⟩ | ⟨x, r2, k1, k2, k3⟩ | ⟨x, r2, k1, k2, k3, k4⟩
          · rw [stopW 3 (by rw [hw]; exact k2) (by decide), k1]
            exact ⟨fun h => by omega, fun _ => rfl⟩
          · rw [stopW 2 (by rw [hw]; exact k3) (by decide)]
            exact ⟨fun h => by omega, fun h => by omega⟩
          · rw [stopW 3 (by rw [hw]; exact k3) (by decide), k1, rqSig_some, if_pos (.inr k2)]
            exact ⟨fun h => by omega, fun _ => rfl⟩
          · rw [k1, rqSig_some, if_neg (by intro hh; rcases hh with hh | hh; exact k2 hh; omega)]
            have hs : rqSpec true data = (⟨true, y :: ts, wordsOf x, ((R.mk r2 0).listsV 2 0 65535 2).1⟩, ((R.mk r2 0).listsV 2 0 65535 2).2.fin) := by
              unfold rqSpec rqV; rw [hw, h1, k4]
            obtain ⟨c1, c2⟩ := cas_law r2
            rw [hs]
            refine ⟨fun h => ?_, fun h => ?_⟩
            · rw [c1 h]; rfl
            · rw [c2 h]; rfl
end Go.Proofs.Ytddkjhlngofkaaa

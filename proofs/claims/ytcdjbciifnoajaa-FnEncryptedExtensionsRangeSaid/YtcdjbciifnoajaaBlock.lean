/- Plain laws: a block of extensions at a message's end, read by the reference and by the package. No program is named here. -/
import Derived.Test.YtcdjbciifnoajaaExtW
namespace Go.Proofs.Ytcdjbciifnoajaa
set_option maxRecDepth 20000

/-- the package: the block is the last thing -/
def lastB {σ : Type} (stp : σ → Ex → Option σ) (m : σ) (d : List UInt8) : Option σ := match lp 2 d with
  | some (x, []) => blockE stp x m
  | _ => none
/-- the same, each number once -/
def lastO {σ : Type} (stp : σ → Ex → Option σ) (m : σ) (d : List UInt8) : Option σ := match lp 2 d with
  | some (x, []) => (blockE (once stp) x (m, [])).map Prod.fst
  | _ => none
theorem lastB_none {σ : Type} {stp : σ → Ex → Option σ} {m : σ} {d : List UInt8} (h : lp 2 d = none) : lastB stp m d = none := by unfold lastB; rw [h]
theorem lastB_some {σ : Type} {stp : σ → Ex → Option σ} {m : σ} {d x : List UInt8} (h : lp 2 d = some (x, [])) : lastB stp m d = blockE stp x m := by unfold lastB; rw [h]
theorem lastB_more {σ : Type} {stp : σ → Ex → Option σ} {m : σ} {d x t : List UInt8} {y : UInt8} (h : lp 2 d = some (x, y :: t)) : lastB stp m d = none := by unfold lastB; rw [h]
theorem lastO_none {σ : Type} {stp : σ → Ex → Option σ} {m : σ} {d : List UInt8} (h : lp 2 d = none) : lastO stp m d = none := by unfold lastO; rw [h]
theorem lastO_some {σ : Type} {stp : σ → Ex → Option σ} {m : σ} {d x : List UInt8} (h : lp 2 d = some (x, [])) : lastO stp m d = (blockE (once stp) x (m, [])).map Prod.fst := by unfold lastO; rw [h]
theorem lastO_more {σ : Type} {stp : σ → Ex → Option σ} {m : σ} {d x t : List UInt8} {y : UInt8} (h : lp 2 d = some (x, y :: t)) : lastO stp m d = none := by unfold lastO; rw [h]
theorem blockE_once {σ : Type} (stp : σ → Ex → Option σ) (x : List UInt8) (m : σ) :
    (blockE (once stp) x (m, [])).map Prod.fst = (exts x).bind fun l => if (l.map (·.1)).Nodup then runE stp l m else none := by
  unfold blockE
  rcases exts x with _ | l
  · rfl
  · show (runE (once stp) l (m, [])).map Prod.fst = _
    rw [runE_once]
    show _ = if _ then _ else _
    by_cases h : (l.map (·.1)).Nodup
    · rw [if_pos h, if_pos ⟨by simp, h⟩]
    · rw [if_neg h, if_neg fun hh => h hh.2]

theorem R.exts_code {s : R} (h : s.code ≠ 0) : s.exts.2.code = s.code := by
  have h1 := R.vec_code h 2 0 65535
  have : s.exts.2 = (s.vec 2 0 65535).2.done (R.extsGo s.block.bs.length s.block []).2 := rfl
  rw [this, R.done_code (by rw [h1]; exact h), h1]
/-- a fault that was found before the block stays -/
theorem block_code {σ : Type} (rd : σ → UInt16 → R → σ × R) (m : σ) {s : R} (h : s.code ≠ 0) : (specE rd s.exts.1 (m, s.exts.2.fin)).2.code = s.code := by
  have h1 := R.exts_code h
  have h2 := R.fin_code (s := s.exts.2) (by rw [h1]; exact h)
  rw [specE_code rd _ _ (by show R.code _ ≠ 0; rw [h2, h1]; exact h)]
  show s.exts.2.fin.code = _
  rw [h2, h1]
/-- what comes of a block -/
theorem block_cases {σ : Type} (rd : σ → UInt16 → R → σ × R) (m : σ) (d : List UInt8) :
    ((specE rd (R.mk d 0).exts.1 (m, (R.mk d 0).exts.2.fin)).2.code = 3 ∧ (lp 2 d = none ∨ (∃ x y t, lp 2 d = some (x, y :: t)) ∨ ∃ x t, lp 2 d = some (x, t) ∧ exts x = none)) ∨
    ((specE rd (R.mk d 0).exts.1 (m, (R.mk d 0).exts.2.fin)).2.code = 4 ∧ ∃ x t, lp 2 d = some (x, t) ∧ ∀ l, exts x = some l → ¬ (l.map (·.1)).Nodup) ∨
    ∃ x l, lp 2 d = some (x, []) ∧ exts x = some l ∧ (l.map (·.1)).Nodup ∧ specE rd (R.mk d 0).exts.1 (m, (R.mk d 0).exts.2.fin) = specE rd l (m, ⟨[], 0⟩) := by
  have hex1 : (R.mk d 0).exts.1 = (R.extsGo (R.mk d 0).block.bs.length (R.mk d 0).block []).1 := rfl
  have hex2 : (R.mk d 0).exts.2 = ((R.mk d 0).vec 2 0 65535).2.done (R.extsGo (R.mk d 0).block.bs.length (R.mk d 0).block []).2 := rfl
  rcases hL : lp 2 d with _ | ⟨x, t⟩
  · left
    refine ⟨?_, .inl rfl⟩
    have hv : ((R.mk d 0).vec 2 0 65535).2 = ⟨[], 3⟩ := by rw [vec2_none hL]
    have h1 : (R.mk d 0).exts.2.code = 3 := by rw [hex2, R.done_code (by rw [hv]; decide), hv]
    have h2 := R.fin_code (s := (R.mk d 0).exts.2) (by rw [h1]; decide)
    rw [specE_code rd _ _ (by show R.code _ ≠ 0; rw [h2, h1]; decide)]
    show (R.mk d 0).exts.2.fin.code = 3
    rw [h2, h1]
  · have hv : (R.mk d 0).vec 2 0 65535 = (x, ⟨t, 0⟩) := vec2_some hL
    have hb : (R.mk d 0).block = ⟨x, 0⟩ := by unfold R.block; rw [hv]; rfl
    rw [hex1, hex2, hb, hv]
    obtain ⟨g1, g2⟩ := R.extsGo_law x.length x [] (Nat.le_refl _) (by simp)
    show ((specE rd (R.extsGo x.length ⟨x, 0⟩ []).1 (m, ((R.mk t 0).done (R.extsGo x.length ⟨x, 0⟩ []).2).fin)).2.code = 3 ∧ _) ∨ ((specE rd (R.extsGo x.length ⟨x, 0⟩ []).1 (m, ((R.mk t 0).done (R.extsGo x.length ⟨x, 0⟩ []).2).fin)).2.code = 4 ∧ _) ∨
      ∃ x' l, _ ∧ _ ∧ _ ∧ specE rd (R.extsGo x.length ⟨x, 0⟩ []).1 (m, ((R.mk t 0).done (R.extsGo x.length ⟨x, 0⟩ []).2).fin) = _
    generalize R.extsGo x.length ⟨x, 0⟩ [] = g at g1 g2
    obtain ⟨l, ⟨gb, gc⟩⟩ := g
    have g1 : gb = [] := g1
    subst g1
    have hfin : ∀ c, (R.mk [] c).fin = ⟨[], c⟩ := fun c => rfl
    rcases g2 with ⟨c0, l', hl', ho, hnd⟩ | ⟨c3, hl'⟩ | ⟨c4, hl'⟩
    · have c0 : gc = 0 := c0
      subst c0
      have ho : l = l' := by simpa using ho
      subst ho
      have hd : (R.mk t 0).done ⟨[], 0⟩ = ⟨t, 0⟩ := rfl
      rw [hd]
      rcases t with _ | ⟨y, t⟩
      · right; right
        exact ⟨x, l, rfl, hl', by simpa using hnd, rfl⟩
      · left
        refine ⟨?_, .inr (.inl ⟨x, y, t, rfl⟩)⟩
        rw [specE_code rd _ _ (show (3 : Nat) ≠ 0 by decide)]
        rfl
    · have c3 : gc = 3 := c3
      subst c3
      left
      refine ⟨?_, .inr (.inr ⟨x, t, rfl, hl'⟩)⟩
      have hd : (R.mk t 0).done ⟨[], 3⟩ = ⟨[], 3⟩ := rfl
      rw [hd, specE_code rd _ _ (show (3 : Nat) ≠ 0 by decide)]
      rfl
    · have c4 : gc = 4 := c4
      subst c4
      right; left
      refine ⟨?_, x, t, rfl, fun l hl => by simpa using hl' l hl⟩
      have hd : (R.mk t 0).done ⟨[], 4⟩ = ⟨[], 4⟩ := rfl
      rw [hd, specE_code rd _ _ (show (4 : Nat) ≠ 0 by decide)]
      rfl
/-- the block, where extensions may stand twice -/
theorem lastB_law {σ : Type} (rd : σ → UInt16 → R → σ × R) (stp : σ → Ex → Option σ) (bad : Nat → Prop) (hb0 : ¬ bad 0) (hb4 : ¬ bad 4)
    (h : ∀ m k d, ((rd m k ⟨d, 0⟩).2.fin.code = 0 → stp m (k, d) = some (rd m k ⟨d, 0⟩).1) ∧ (bad (rd m k ⟨d, 0⟩).2.fin.code → stp m (k, d) = none))
    (m : σ) (d : List UInt8) :
    ((specE rd (R.mk d 0).exts.1 (m, (R.mk d 0).exts.2.fin)).2.code = 0 → lastB stp m d = some (specE rd (R.mk d 0).exts.1 (m, (R.mk d 0).exts.2.fin)).1) ∧
    (bad (specE rd (R.mk d 0).exts.1 (m, (R.mk d 0).exts.2.fin)).2.code → lastB stp m d = none) := by
  rcases block_cases rd m d with ⟨c, h1 | ⟨x, y, t, h1⟩ | ⟨x, t, h1, h2⟩⟩ | ⟨c, _⟩ | ⟨x, l, h1, h2, _, h3⟩
  · rw [c]; exact ⟨fun h => (by cases h), fun _ => lastB_none h1⟩
  · rw [c]; exact ⟨fun h => (by cases h), fun _ => lastB_more h1⟩
  · rw [c]
    refine ⟨fun h => (by cases h), fun _ => ?_⟩
    cases t with
    | nil => rw [lastB_some h1]; unfold blockE; rw [h2]; rfl
    | cons y t => exact lastB_more h1
  · rw [c]; exact ⟨fun h => (by cases h), fun h => absurd h hb4⟩
  · rw [h3, lastB_some h1]
    unfold blockE
    rw [h2]
    exact specE_law rd stp bad hb0 h l m []
/-- the block, where each number stands once -/
theorem lastO_law {σ : Type} (rd : σ → UInt16 → R → σ × R) (stp : σ → Ex → Option σ) (bad : Nat → Prop) (hb0 : ¬ bad 0)
    (h : ∀ m k d, ((rd m k ⟨d, 0⟩).2.fin.code = 0 → stp m (k, d) = some (rd m k ⟨d, 0⟩).1) ∧ (bad (rd m k ⟨d, 0⟩).2.fin.code → stp m (k, d) = none))
    (m : σ) (d : List UInt8) :
    ((specE rd (R.mk d 0).exts.1 (m, (R.mk d 0).exts.2.fin)).2.code = 0 → lastO stp m d = some (specE rd (R.mk d 0).exts.1 (m, (R.mk d 0).exts.2.fin)).1) ∧
    (bad (specE rd (R.mk d 0).exts.1 (m, (R.mk d 0).exts.2.fin)).2.code → lastO stp m d = none) := by
  rcases block_cases rd m d with ⟨c, h1 | ⟨x, y, t, h1⟩ | ⟨x, t, h1, h2⟩⟩ | ⟨c, x, t, h1, h2⟩ | ⟨x, l, h1, h2, hn, h3⟩
  · rw [c]; exact ⟨fun h => (by cases h), fun _ => lastO_none h1⟩
  · rw [c]; exact ⟨fun h => (by cases h), fun _ => lastO_more h1⟩
  · rw [c]
    refine ⟨fun h => (by cases h), fun _ => ?_⟩
    cases t with
    | nil => rw [lastO_some h1, blockE_once, h2]; rfl
    | cons y t => exact lastO_more h1
  · rw [c]
    refine ⟨fun h => (by cases h), fun _ => ?_⟩
    cases t with
    | nil =>
      rw [lastO_some h1, blockE_once]
      rcases hx : exts x with _ | l
      · rfl
      · show (if _ then _ else _) = _
        rw [if_neg (h2 l hx)]
    | cons y t => exact lastO_more h1
  · rw [h3, lastO_some h1, blockE_once, h2]
    show (_ → (if _ then _ else _) = _) ∧ (_ → (if _ then _ else _) = _)
    rw [if_pos hn]
    exact specE_law rd stp bad hb0 h l m []
end Go.Proofs.Ytcdjbciifnoajaa

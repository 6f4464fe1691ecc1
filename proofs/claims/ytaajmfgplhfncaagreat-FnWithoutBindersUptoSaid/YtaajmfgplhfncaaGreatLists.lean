/- Lists within extensions, plainly: words and vectors, read by the package and by the reference. No program is named here. -/
import Derived.Test.YtaajmfgplhfncaaGreatBody
namespace Go.Proofs.YtaajmfgplhfncaaGreat
set_option maxRecDepth 20000

/-- the reference's loop and the package's, side by side, over numbers each of which stands once: 'fresh m k' says that m has nothing yet of the number k -/
theorem specE_lawF {σ : Type} (rd : σ → UInt16 → R → σ × R) (stp : σ → Ex → Option σ) (bad : Nat → Prop) (fresh : σ → UInt16 → Prop) (hb0 : ¬ bad 0)
    (h : ∀ m k d, fresh m k → ((rd m k ⟨d, 0⟩).2.fin.code = 0 → stp m (k, d) = some (rd m k ⟨d, 0⟩).1) ∧ (bad (rd m k ⟨d, 0⟩).2.fin.code → stp m (k, d) = none))
    (hf : ∀ m k d k', k' ≠ k → fresh m k' → fresh (rd m k ⟨d, 0⟩).1 k')
    (l : List Ex) (hn : (l.map (·.1)).Nodup) (m : σ) (hm : ∀ e ∈ l, fresh m e.1) (t : List UInt8) :
    ((specE rd l (m, ⟨t, 0⟩)).2.code = 0 → runE stp l m = some (specE rd l (m, ⟨t, 0⟩)).1) ∧ (bad (specE rd l (m, ⟨t, 0⟩)).2.code → runE stp l m = none) := by
  induction l generalizing m t with
  | nil => exact ⟨fun _ => rfl, fun hb => absurd hb hb0⟩
  | cons e l ih =>
    rw [List.map_cons, List.nodup_cons] at hn
    have hfr : ∀ x ∈ l, fresh (rd m e.1 ⟨e.2, 0⟩).1 x.1 := fun x hx => hf m e.1 e.2 x.1 (fun he => hn.1 (by rw [← he]; exact List.mem_map_of_mem hx)) (hm x (List.mem_cons_of_mem _ hx))
    obtain ⟨h1, h2⟩ := h m e.1 e.2 (hm e (by simp))
    have hsp : specE rd (e :: l) (m, ⟨t, 0⟩) = specE rd l ((rd m e.1 ⟨e.2, 0⟩).1, (R.mk t 0).done (rd m e.1 ⟨e.2, 0⟩).2) := rfl
    rw [hsp]
    generalize rd m e.1 ⟨e.2, 0⟩ = q at h1 h2 hfr
    by_cases h0 : q.2.fin.code = 0
    · have hd : (R.mk t 0).done q.2 = ⟨t, 0⟩ := by unfold R.done; rw [if_pos h0]
      rw [hd]
      have : runE stp (e :: l) m = runE stp l q.1 := by
        show (stp m e).bind _ = _
        rw [show stp m e = some q.1 from h1 h0]; rfl
      rw [this]
      exact ih hn.2 q.1 hfr t
    · have hd : ((R.mk t 0).done q.2).code = q.2.fin.code := by unfold R.done; rw [if_neg h0]; exact R.fail_code0 rfl _
      have hc := specE_code rd l (q.1, (R.mk t 0).done q.2) (by show R.code _ ≠ 0; rw [hd]; exact h0)
      rw [hc, hd]
      refine ⟨fun h => absurd h h0, fun hb => ?_⟩
      show (stp m e).bind _ = none
      rw [show stp m e = none from h2 hb]; rfl
theorem lastB_lawF {σ : Type} (rd : σ → UInt16 → R → σ × R) (stp : σ → Ex → Option σ) (bad : Nat → Prop) (fresh : σ → UInt16 → Prop) (hb0 : ¬ bad 0) (hb4 : ¬ bad 4)
    (h : ∀ m k d, fresh m k → ((rd m k ⟨d, 0⟩).2.fin.code = 0 → stp m (k, d) = some (rd m k ⟨d, 0⟩).1) ∧ (bad (rd m k ⟨d, 0⟩).2.fin.code → stp m (k, d) = none))
    (hf : ∀ m k d k', k' ≠ k → fresh m k' → fresh (rd m k ⟨d, 0⟩).1 k') (m : σ) (hm : ∀ k, fresh m k) (d : List UInt8) :
    ((specE rd (R.mk d 0).exts.1 (m, (R.mk d 0).exts.2.fin)).2.code = 0 → lastB stp m d = some (specE rd (R.mk d 0).exts.1 (m, (R.mk d 0).exts.2.fin)).1) ∧
    (bad (specE rd (R.mk d 0).exts.1 (m, (R.mk d 0).exts.2.fin)).2.code → lastB stp m d = none) := by
  rcases block_cases rd m d with ⟨c, h1 | ⟨x, y, t, h1⟩ | ⟨x, t, h1, h2⟩⟩ | ⟨c, _⟩ | ⟨x, l, h1, h2, hn, h3⟩
  · rw [c]; exact ⟨fun h => (by cases h), fun _ => lastB_none h1⟩
  · rw [c]; exact ⟨fun h => (by cases h), fun _ => lastB_more h1⟩
  · rw [c]
    refine ⟨fun h => (by cases h), fun _ => ?_⟩
    cases t with
    | nil => rw [lastB_some h1]; unfold blockE; rw [h2]; rfl
    | cons y t => exact lastB_more h1
  · rw [c]; exact ⟨fun h => (by cases h), fun h => absurd h hb4⟩
  · rw [h3, lastB_some h1]
    unfold blockE
    rw [h2]
    exact specE_lawF rd stp bad fresh hb0 h hf l hn m (fun e _ => hm e.1) []
theorem lastO_lawF {σ : Type} (rd : σ → UInt16 → R → σ × R) (stp : σ → Ex → Option σ) (bad : Nat → Prop) (fresh : σ → UInt16 → Prop) (hb0 : ¬ bad 0)
    (h : ∀ m k d, fresh m k → ((rd m k ⟨d, 0⟩).2.fin.code = 0 → stp m (k, d) = some (rd m k ⟨d, 0⟩).1) ∧ (bad (rd m k ⟨d, 0⟩).2.fin.code → stp m (k, d) = none))
    (hf : ∀ m k d k', k' ≠ k → fresh m k' → fresh (rd m k ⟨d, 0⟩).1 k') (m : σ) (hm : ∀ k, fresh m k) (d : List UInt8) :
    ((specE rd (R.mk d 0).exts.1 (m, (R.mk d 0).exts.2.fin)).2.code = 0 → lastO stp m d = some (specE rd (R.mk d 0).exts.1 (m, (R.mk d 0).exts.2.fin)).1) ∧
    (bad (specE rd (R.mk d 0).exts.1 (m, (R.mk d 0).exts.2.fin)).2.code → lastO stp m d = none) := by
  have once : ∀ {x : List UInt8}, lp 2 d = some (x, []) → lastO stp m d = (exts x).bind fun l => if (l.map (·.1)).Nodup then runE stp l m else none := fun hx => by
    rw [lastO_some hx, blockE_once]
  rcases block_cases rd m d with ⟨c, h1 | ⟨x, y, t, h1⟩ | ⟨x, t, h1, h2⟩⟩ | ⟨c, x, t, h1, h2⟩ | ⟨x, l, h1, h2, hn, h3⟩
  · rw [c]; exact ⟨fun h => (by cases h), fun _ => lastO_none h1⟩
  · rw [c]; exact ⟨fun h => (by cases h), fun _ => lastO_more h1⟩
  · rw [c]
    refine ⟨fun h => (by cases h), fun _ => ?_⟩
    cases t with
    | nil => rw [once h1, h2]; rfl
    | cons y t => exact lastO_more h1
  · rw [c]
    refine ⟨fun h => (by cases h), fun _ => ?_⟩
    cases t with
    | nil =>
      rw [once h1]
      rcases hx : exts x with _ | l
      · rfl
      · show (if _ then _ else _) = none
        rw [if_neg (h2 l hx)]
    | cons y t => exact lastO_more h1
  · rw [h3, once h1, h2]
    show (_ → (if _ then _ else _) = _) ∧ (_ → (if _ then _ else _) = _)
    rw [if_pos hn]
    exact specE_lawF rd stp bad fresh hb0 h hf l hn m (fun e _ => hm e.1) []
/-- what the package reads, the reference reads -/
theorem specE_convF {σ : Type} (rd : σ → UInt16 → R → σ × R) (stp : σ → Ex → Option σ) (fresh : σ → UInt16 → Prop) (l : List Ex) (hn : (l.map (·.1)).Nodup)
    (h : ∀ e ∈ l, ∀ m m', fresh m e.1 → stp m e = some m' → (rd m e.1 ⟨e.2, 0⟩).1 = m' ∧ (rd m e.1 ⟨e.2, 0⟩).2.fin.code = 0)
    (hf : ∀ m k d k', k' ≠ k → fresh m k' → fresh (rd m k ⟨d, 0⟩).1 k') (m m' : σ) (hm : ∀ e ∈ l, fresh m e.1) (t : List UInt8) (hr : runE stp l m = some m') :
    specE rd l (m, ⟨t, 0⟩) = (m', ⟨t, 0⟩) := by
  induction l generalizing m with
  | nil => injection hr with hr; rw [hr]; rfl
  | cons e l ih =>
    rw [List.map_cons, List.nodup_cons] at hn
    have hr : (stp m e).bind (runE stp l) = some m' := hr
    rcases hs : stp m e with _ | m1
    · rw [hs] at hr; cases hr
    · rw [hs] at hr
      have hr : runE stp l m1 = some m' := hr
      obtain ⟨h1, h2⟩ := h e (by simp) m m1 (hm e (by simp)) hs
      have hfr : ∀ x ∈ l, fresh (rd m e.1 ⟨e.2, 0⟩).1 x.1 := fun x hx => hf m e.1 e.2 x.1 (fun he => hn.1 (by rw [← he]; exact List.mem_map_of_mem hx)) (hm x (List.mem_cons_of_mem _ hx))
      have hsp : specE rd (e :: l) (m, ⟨t, 0⟩) = specE rd l ((rd m e.1 ⟨e.2, 0⟩).1, (R.mk t 0).done (rd m e.1 ⟨e.2, 0⟩).2) := rfl
      have hd : (R.mk t 0).done (rd m e.1 ⟨e.2, 0⟩).2 = ⟨t, 0⟩ := by unfold R.done; rw [if_pos h2]
      rw [hsp, hd, h1]
      rw [h1] at hfr
      exact ih hn.2 (fun x hx => h x (List.mem_cons_of_mem _ hx)) m1 hfr hr

/-- a vector of words, as the package reads it -/
def wordsIn : Option (List UInt8 × List UInt8) → Option (List UInt16)
  | some (y :: x, []) => if (y :: x).length % 2 = 0 then some (wordsOf (y :: x)) else none
  | _ => none
def wordsP (size : Nat) (d : List UInt8) : Option (List UInt16) := wordsIn (lp size d)
theorem wordsIn_nil (t : List UInt8) : wordsIn (some ([], t)) = none := by cases t <;> rfl
theorem wordsIn_more (x t : List UInt8) (y : UInt8) : wordsIn (some (x, y :: t)) = none := by cases x <;> rfl
theorem wordsIn_odd {x : List UInt8} (t : List UInt8) (h : x.length % 2 = 1) : wordsIn (some (x, t)) = none := by
  cases x with
  | nil => exact wordsIn_nil t
  | cons y x =>
    cases t with
    | nil => show (if _ then _ else _) = none; rw [if_neg (by omega)]
    | cons z t => rfl
theorem wordsIn_even {x : List UInt8} (h0 : x ≠ []) (h : x.length % 2 = 0) : wordsIn (some (x, [])) = some (wordsOf x) := by
  cases x with
  | nil => exact absurd rfl h0
  | cons y x => show (if _ then _ else _) = _; rw [if_pos h]
/-- 'x.words(x.vec(size, 2, most))' -/
def R.wordsV (x : R) (size most : Nat) : List UInt16 × R := (x.vec size 2 most).2.words (x.vec size 2 most).1
theorem R.words_code {s : R} (h : s.code ≠ 0) (b : List UInt8) : (s.words b).2.code = s.code := R.done_code h _
theorem wordsV_law (size most : Nat) (hm : 256 ^ size ≤ most + 1) (d : List UInt8) :
    (((R.mk d 0).wordsV size most).2.fin.code = 0 → wordsP size d = some ((R.mk d 0).wordsV size most).1) ∧
    (((R.mk d 0).wordsV size most).2.fin.code = 2 ∨ ((R.mk d 0).wordsV size most).2.fin.code = 3 → wordsP size d = none) ∧ ((R.mk d 0).wordsV size most).2.fin.code ≠ 1 ∧ ((R.mk d 0).wordsV size most).2.fin.code ≠ 4 := by
  unfold wordsP
  rcases ha : lp size d with _ | ⟨x, r⟩
  · have hv : (R.mk d 0).vec size 2 most = ([], ⟨[], 3⟩) := R.vec_none ha _ _
    have hc : ((R.mk d 0).wordsV size most).2.code = 3 := by unfold R.wordsV; rw [hv]; exact R.words_code (by decide) _
    rw [R.fin_code (by rw [hc]; decide), hc]
    exact ⟨fun h => (by cases h), fun _ => rfl, by decide, by decide⟩
  have hl := lp_len ha
  by_cases hx : x.length < 2
  · have hv : (R.mk d 0).vec size 2 most = (x, ⟨[], 2⟩) := by rw [R.vec_some ha, R.rng_out (.inl hx)]
    have hc : ((R.mk d 0).wordsV size most).2.code = 2 := by unfold R.wordsV; rw [hv]; exact R.words_code (s := ⟨[], 2⟩) (show (2 : Nat) ≠ 0 by decide) _
    rw [R.fin_code (by rw [hc]; decide), hc]
    refine ⟨fun h => (by cases h), fun _ => ?_, by decide, by decide⟩
    match x, hx with
    | [], _ => exact wordsIn_nil r
    | [y], _ => exact wordsIn_odd r rfl
  have hv : (R.mk d 0).vec size 2 most = (x, ⟨r, 0⟩) := by rw [R.vec_some ha, R.rng_in (by omega) (by omega)]
  have hw : (R.mk d 0).wordsV size most = (wordsOf x, (R.mk r 0).done (R.mk x 0).wEnd) := by unfold R.wordsV; rw [hv]; rfl
  rw [hw]
  by_cases he : x.length % 2 = 0
  · have hE : (R.mk x 0).wEnd = ⟨[], 0⟩ := by unfold R.wEnd; rw [if_pos he]
    have hD : (R.mk r 0).done ⟨[], 0⟩ = ⟨r, 0⟩ := rfl
    rw [hE, hD]
    cases r with
    | nil => exact ⟨fun _ => wordsIn_even (by intro h; rw [h] at hx; simp at hx) he, fun h => (by rcases h with h | h <;> cases h), by show (0 : Nat) ≠ 1; decide, by show (0 : Nat) ≠ 4; decide⟩
    | cons y r => exact ⟨fun h => (by cases h), fun _ => wordsIn_more _ _ _, by show (3 : Nat) ≠ 1; decide, by show (3 : Nat) ≠ 4; decide⟩
  · have hE : (R.mk x 0).wEnd = ⟨[], 3⟩ := by unfold R.wEnd; rw [if_neg he]; rfl
    have hD : (R.mk r 0).done ⟨[], 3⟩ = ⟨[], 3⟩ := rfl
    rw [hE, hD]
    exact ⟨fun h => (by cases h), fun _ => wordsIn_odd r (by omega), by show (3 : Nat) ≠ 1; decide, by show (3 : Nat) ≠ 4; decide⟩

/-- vectors, one behind the other, none of them empty, as the package reads them -/
def lpsGo (size : Nat) : Nat → List UInt8 → Option (List (List UInt8))
  | 0, _ => none
  | f + 1, d => if d = [] then some [] else match lp size d with
    | some (y :: x, r) => (lpsGo size f r).map ((y :: x) :: ·)
    | _ => none
def lps (size : Nat) (d : List UInt8) : Option (List (List UInt8)) := lpsGo size (d.length + 1) d
theorem lpsGo_eq (size : Nat) (f g : Nat) (d : List UInt8) (hf : d.length < f) (hg : d.length < g) : lpsGo size f d = lpsGo size g d := by
  induction f generalizing g d with
  | zero => omega
  | succ f ih =>
    cases g with
    | zero => omega
    | succ g =>
      unfold lpsGo
      by_cases h0 : d = []
      · rw [if_pos h0, if_pos h0]
      · rw [if_neg h0, if_neg h0]
        rcases hL : lp size d with _ | ⟨_ | ⟨y, x⟩, r⟩
        · rfl
        · rfl
        · have := (lp_len hL).2
          simp only [List.length_cons] at this
          show (lpsGo size f r).map _ = (lpsGo size g r).map _
          rw [ih g r (by omega) (by omega)]
theorem lps_nil (size : Nat) : lps size [] = some [] := rfl
theorem lps_step {size : Nat} {d x r : List UInt8} (hL : lp size d = some (x, r)) (hx : x ≠ []) : lps size d = (lps size r).map (x :: ·) := by
  cases x with
  | nil => exact absurd rfl hx
  | cons y x =>
    have hl := (lp_len hL).2
    simp only [List.length_cons] at hl
    have h0 : d ≠ [] := by intro h; rw [h] at hl; simp at hl
    unfold lps
    rw [show lpsGo size (d.length + 1) d = (lpsGo size d.length r).map ((y :: x) :: ·) by
      conv => lhs; unfold lpsGo
      rw [if_neg h0, hL]]
    rw [lpsGo_eq size d.length (r.length + 1) r (by omega) (by omega)]
theorem lps_none {size : Nat} {d : List UInt8} (h0 : d ≠ []) (h : ∀ y x r, lp size d ≠ some (y :: x, r)) : lps size d = none := by
  unfold lps lpsGo
  rw [if_neg h0]
  rcases hL : lp size d with _ | ⟨_ | ⟨y, x⟩, r⟩
  · rfl
  · rfl
  · exact absurd hL (h y x r)
def lpsIn (size : Nat) : Option (List UInt8 × List UInt8) → Option (List (List UInt8))
  | some (y :: x, []) => lps size (y :: x)
  | _ => none
/-- a vector of vectors -/
def listsP (n size : Nat) (d : List UInt8) : Option (List (List UInt8)) := lpsIn size (lp n d)
theorem lpsIn_nil (size : Nat) (t : List UInt8) : lpsIn size (some ([], t)) = none := by cases t <;> rfl
theorem lpsIn_more (size : Nat) (x t : List UInt8) (y : UInt8) : lpsIn size (some (x, y :: t)) = none := by cases x <;> rfl
theorem lpsIn_some (size : Nat) {x : List UInt8} (h0 : x ≠ []) : lpsIn size (some (x, [])) = lps size x := by
  cases x with
  | nil => exact absurd rfl h0
  | cons y x => rfl
theorem lpsIn_bad (size : Nat) {x : List UInt8} (t : List UInt8) (h : lps size x = none) : lpsIn size (some (x, t)) = none := by
  cases x with
  | nil => exact lpsIn_nil size t
  | cons y x =>
    cases t with
    | nil => exact h
    | cons z t => rfl
theorem vecsGo_lps (size : Nat) (hs : 1 ≤ size) (f : Nat) (d : List UInt8) (hf : d.length ≤ f) :
    (∃ l, (R.vecsGo size 1 f ⟨d, 0⟩) = (l, ⟨[], 0⟩) ∧ lps size d = some l) ∨ (((R.vecsGo size 1 f ⟨d, 0⟩).2.code = 2 ∨ (R.vecsGo size 1 f ⟨d, 0⟩).2.code = 3) ∧ (R.vecsGo size 1 f ⟨d, 0⟩).2.bs = [] ∧ lps size d = none) := by
  have stop : ∀ f c, (R.vecsGo size 1 f ⟨[], c⟩) = ([], ⟨[], c⟩) := by intro f c; cases f <;> simp [R.vecsGo]
  induction f generalizing d with
  | zero =>
    have : d = [] := List.eq_nil_of_length_eq_zero (by omega)
    subst this
    exact .inl ⟨[], rfl, rfl⟩
  | succ f ih =>
    by_cases h0 : d = []
    · subst h0; exact .inl ⟨[], rfl, rfl⟩
    · unfold R.vecsGo
      rw [if_neg h0]
      rcases hL : lp size d with _ | ⟨x, r⟩
      · have hv : (R.mk d 0).vec size 1 (256 ^ size - 1) = ([], ⟨[], 3⟩) := R.vec_none hL _ _
        rw [hv]
        dsimp only
        rw [stop]
        exact .inr ⟨.inr rfl, rfl, lps_none h0 (fun y x r h => (by rw [hL] at h; cases h))⟩
      · have hl := lp_len hL
        have hpow : 0 < 256 ^ size := Nat.pow_pos (by decide)
        by_cases hx : x = []
        · subst hx
          have hv : (R.mk d 0).vec size 1 (256 ^ size - 1) = ([], ⟨[], 2⟩) := by rw [R.vec_some hL, R.rng_out (.inl (by simp))]
          rw [hv]
          dsimp only
          rw [stop]
          exact .inr ⟨.inl rfl, rfl, lps_none h0 (fun y x r h => (by rw [hL] at h; cases h))⟩
        · have hxl : 0 < x.length := List.length_pos_iff.2 hx
          have hv : (R.mk d 0).vec size 1 (256 ^ size - 1) = (x, ⟨r, 0⟩) := by rw [R.vec_some hL, R.rng_in (by omega) (by omega)]
          simp only [hv]
          rw [lps_step hL hx]
          rcases ih r (by omega) with ⟨l, h1, h2⟩ | ⟨h1, h2, h3⟩
          · rw [h1, h2]; exact .inl ⟨x :: l, rfl, rfl⟩
          · rw [h3]; exact .inr ⟨h1, h2, rfl⟩
/-- 'x.vectors(x.vec(n, low, most), size, 1)' -/
def R.listsV (x : R) (n low most size : Nat) : List (List UInt8) × R := (x.vec n low most).2.vectors (x.vec n low most).1 size 1
theorem R.vectors_code {s : R} (h : s.code ≠ 0) (b : List UInt8) (size low : Nat) : (s.vectors b size low).2.code = s.code := R.done_code h _
theorem lps_low {size : Nat} {x : List UInt8} {l : List (List UInt8)} (h : lps size x = some l) (h0 : x ≠ []) : size + 1 ≤ x.length := by
  rcases hL : lp size x with _ | ⟨_ | ⟨y, z⟩, r⟩
  · rw [lps_none h0 (fun y x r h => (by rw [hL] at h; cases h))] at h; cases h
  · rw [lps_none h0 (fun y x r h => (by rw [hL] at h; cases h))] at h; cases h
  · have := lp_len hL
    simp at this
    omega
theorem listsV_law (n low most size : Nat) (hs : 1 ≤ size) (hlow : 1 ≤ low) (hlow2 : low ≤ size + 1) (hm : 256 ^ n ≤ most + 1) (d : List UInt8) :
    (((R.mk d 0).listsV n low most size).2.fin.code = 0 → listsP n size d = some ((R.mk d 0).listsV n low most size).1) ∧
    (((R.mk d 0).listsV n low most size).2.fin.code = 2 ∨ ((R.mk d 0).listsV n low most size).2.fin.code = 3 → listsP n size d = none) ∧ ((R.mk d 0).listsV n low most size).2.fin.code ≠ 1 ∧ ((R.mk d 0).listsV n low most size).2.fin.code ≠ 4 := by
  unfold listsP
  rcases ha : lp n d with _ | ⟨x, r⟩
  · have hv : (R.mk d 0).vec n low most = ([], ⟨[], 3⟩) := R.vec_none ha _ _
    have hc : ((R.mk d 0).listsV n low most size).2.code = 3 := by unfold R.listsV; rw [hv]; exact R.vectors_code (by decide) _ _ _
    rw [R.fin_code (by rw [hc]; decide), hc]
    exact ⟨fun h => (by cases h), fun _ => rfl, by decide, by decide⟩
  have hl := lp_len ha
  by_cases hx : x.length < low
  · have hv : (R.mk d 0).vec n low most = (x, ⟨[], 2⟩) := by rw [R.vec_some ha, R.rng_out (.inl hx)]
    have hc : ((R.mk d 0).listsV n low most size).2.code = 2 := by unfold R.listsV; rw [hv]; exact R.vectors_code (s := ⟨[], 2⟩) (show (2 : Nat) ≠ 0 by decide) _ _ _
    rw [R.fin_code (by rw [hc]; decide), hc]
    refine ⟨fun h => (by cases h), fun _ => ?_, by decide, by decide⟩
    by_cases h0 : x = []
    · rw [h0]; exact lpsIn_nil _ _
    · refine lpsIn_bad _ _ ?_
      rcases hL : lps size x with _ | l
      · rfl
      · have := lps_low hL h0; omega
  have hv : (R.mk d 0).vec n low most = (x, ⟨r, 0⟩) := by rw [R.vec_some ha, R.rng_in (by omega) (by omega)]
  have hx0 : x ≠ [] := by intro h; rw [h] at hx; simp at hx; omega
  have hw : (R.mk d 0).listsV n low most size = ((R.vecsGo size 1 x.length ⟨x, 0⟩).1, (R.mk r 0).done (R.vecsGo size 1 x.length ⟨x, 0⟩).2) := by unfold R.listsV; rw [hv]; rfl
  rw [hw]
  rcases vecsGo_lps size hs x.length x (Nat.le_refl _) with ⟨l, h1, h2⟩ | ⟨h1, h2, h3⟩
  · rw [h1]
    have hD : (R.mk r 0).done ⟨[], 0⟩ = ⟨r, 0⟩ := rfl
    rw [hD]
    cases r with
    | nil => exact ⟨fun _ => by rw [lpsIn_some _ hx0, h2], fun h => (by rcases h with h | h <;> cases h), by show (0 : Nat) ≠ 1; decide, by show (0 : Nat) ≠ 4; decide⟩
    | cons y r => exact ⟨fun h => (by cases h), fun _ => lpsIn_more _ _ _ _, by show (3 : Nat) ≠ 1; decide, by show (3 : Nat) ≠ 4; decide⟩
  · generalize (R.vecsGo size 1 x.length ⟨x, 0⟩) = q at h1 h2
    obtain ⟨l, bs, c⟩ := q
    simp only at h1 h2
    subst h2
    have hc : c ≠ 0 := by rcases h1 with h | h <;> (rw [h]; decide)
    have hD : (R.mk r 0).done ⟨[], c⟩ = ⟨[], c⟩ := by
      unfold R.done
      rw [R.fin_nil, if_neg hc]
      rfl
    rw [hD, R.fin_nil]
    exact ⟨fun h => absurd h hc, fun _ => lpsIn_bad _ _ h3, by rcases h1 with h | h <;> (show c ≠ 1; rw [h]; decide), by rcases h1 with h | h <;> (show c ≠ 4; rw [h]; decide)⟩
end Go.Proofs.YtaajmfgplhfncaaGreat

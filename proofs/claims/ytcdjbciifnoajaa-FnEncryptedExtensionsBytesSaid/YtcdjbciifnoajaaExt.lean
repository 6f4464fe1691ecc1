/- Extensions, plainly: what the reference's reader and the package's loops make of a block of them. No program is named here. -/
import Derived.Test.YtcdjbciifnoajaaBody2
namespace Go.Proofs.Ytcdjbciifnoajaa
set_option maxRecDepth 20000

/-- an extension: its number and its bytes -/
abbrev Ex := UInt16 × List UInt8

/-- the first extension of a block, and what is behind it -/
def ext1 (bs : List UInt8) : Option (Ex × List UInt8) := match bs with
  | a :: b :: t => (lp 2 t).map fun p => ((UInt16.ofNat (a.toNat * 256 + b.toNat), p.1), p.2)
  | _ => none
theorem ext1_two (a b : UInt8) (t : List UInt8) : ext1 (a :: b :: t) = (lp 2 t).map fun p => ((UInt16.ofNat (a.toNat * 256 + b.toNat), p.1), p.2) := rfl
theorem ext1_short {bs : List UInt8} (h : bs.length < 2) : ext1 bs = none := by
  match bs, h with
  | [], _ => rfl
  | [_], _ => rfl
  | _ :: _ :: _, h => simp at h; omega
theorem ext1_len {bs : List UInt8} {e : Ex} {r : List UInt8} (h : ext1 bs = some (e, r)) : 4 + e.2.length + r.length = bs.length ∧ e.2.length < 65536 := by
  match bs, h with
  | a :: b :: t, h =>
    rw [ext1_two] at h
    rcases hL : lp 2 t with _ | ⟨x, r'⟩
    · rw [hL] at h; cases h
    · rw [hL] at h
      injection h with h
      injection h with h1 h2
      subst h1 h2
      have := lp_len hL
      simp only [List.length_cons]
      omega

/-- all extensions of a block -/
def extsGo : Nat → List UInt8 → Option (List Ex)
  | 0, _ => none
  | f + 1, bs => if bs = [] then some [] else match ext1 bs with
    | some (e, r) => (extsGo f r).map (e :: ·)
    | none => none
def exts (bs : List UInt8) : Option (List Ex) := extsGo (bs.length + 1) bs
theorem extsGo_eq (f g : Nat) (d : List UInt8) (hf : d.length < f) (hg : d.length < g) : extsGo f d = extsGo g d := by
  induction f generalizing g d with
  | zero => omega
  | succ f ih =>
    cases g with
    | zero => omega
    | succ g =>
      unfold extsGo
      by_cases h0 : d = []
      · rw [if_pos h0, if_pos h0]
      · rw [if_neg h0, if_neg h0]
        rcases hL : ext1 d with _ | ⟨e, r⟩
        · rfl
        · have := (ext1_len hL).1
          show (extsGo f r).map (e :: ·) = (extsGo g r).map (e :: ·)
          rw [ih g r (by omega) (by omega)]
theorem exts_nil : exts [] = some [] := rfl
theorem exts_none {d : List UInt8} (hL : ext1 d = none) (h0 : d ≠ []) : exts d = none := by
  unfold exts extsGo
  rw [if_neg h0, hL]
theorem exts_step {d r : List UInt8} {e : Ex} (hL : ext1 d = some (e, r)) : exts d = (exts r).map (e :: ·) := by
  have hl := (ext1_len hL).1
  have h0 : d ≠ [] := by intro h; rw [h] at hL; cases hL
  unfold exts
  rw [show extsGo (d.length + 1) d = (extsGo d.length r).map (e :: ·) by
    conv => lhs; unfold extsGo
    rw [if_neg h0, hL]]
  rw [extsGo_eq d.length (r.length + 1) r (by omega) (by omega)]

/-- the package's loop, over extensions -/
def runE {σ : Type} (stp : σ → Ex → Option σ) : List Ex → σ → Option σ
  | [], m => some m
  | e :: l, m => (stp m e).bind (runE stp l)
/-- the package's loop, over a block -/
def blockE {σ : Type} (stp : σ → Ex → Option σ) (bs : List UInt8) (m : σ) : Option σ := (exts bs).bind fun l => runE stp l m
section
variable {σ : Type} {stp : σ → Ex → Option σ}
theorem blockE_nil (m : σ) : blockE stp [] m = some m := rfl
theorem blockE_none {bs : List UInt8} (h : ext1 bs = none) (h0 : bs ≠ []) (m : σ) : blockE stp bs m = none := by
  unfold blockE; rw [exts_none h h0]; rfl
theorem blockE_step {bs r : List UInt8} {e : Ex} (h : ext1 bs = some (e, r)) (m : σ) : blockE stp bs m = (stp m e).bind (blockE stp r) := by
  unfold blockE
  rw [exts_step h]
  rcases exts r with _ | l
  · cases stp m e <;> rfl
  · rfl
theorem blockE_stop {bs r : List UInt8} {e : Ex} (h : ext1 bs = some (e, r)) {m : σ} (hs : stp m e = none) : blockE stp bs m = none := by
  rw [blockE_step h, hs]; rfl
theorem blockE_go {bs r : List UInt8} {e : Ex} (h : ext1 bs = some (e, r)) {m m' : σ} (hs : stp m e = some m') : blockE stp bs m = blockE stp r m' := by
  rw [blockE_step h, hs]; rfl
theorem runE_append (a b : List Ex) (m : σ) : runE stp (a ++ b) m = (runE stp a m).bind (runE stp b) := by
  induction a generalizing m with
  | nil => rfl
  | cons e a ih =>
    show (stp m e).bind (runE stp (a ++ b)) = ((stp m e).bind (runE stp a)).bind (runE stp b)
    cases stp m e with
    | none => rfl
    | some m' => exact ih m'
end

/-- a loop that refuses an extension that it has met -/
def once {σ : Type} (stp : σ → Ex → Option σ) (s : σ × List UInt16) (e : Ex) : Option (σ × List UInt16) := if e.1 ∈ s.2 then none else (stp s.1 e).map (·, e.1 :: s.2)
theorem runE_once {σ : Type} (stp : σ → Ex → Option σ) (l : List Ex) (m : σ) (seen : List UInt16) :
    (runE (once stp) l (m, seen)).map Prod.fst = if (∀ e ∈ l, e.1 ∉ seen) ∧ (l.map (·.1)).Nodup then runE stp l m else none := by
  induction l generalizing m seen with
  | nil => simp [runE]
  | cons e l ih =>
    show ((once stp (m, seen) e).bind (runE (once stp) l)).map Prod.fst = _
    unfold once
    by_cases h : e.1 ∈ seen
    · rw [if_pos h, if_neg (by intro hh; exact hh.1 e (by simp) h)]; rfl
    · rw [if_neg h]
      show Option.map Prod.fst (((stp m e).map (·, e.1 :: seen)).bind _) = ite _ ((stp m e).bind (runE stp l)) none
      cases hs : stp m e with
      | none => simp
      | some m' =>
        show (runE (once stp) l (m', e.1 :: seen)).map Prod.fst = ite _ (runE stp l m') none
        rw [ih]
        have hiff : ((∀ e' ∈ l, e'.1 ∉ e.1 :: seen) ∧ (l.map (·.1)).Nodup) ↔ ((∀ e' ∈ e :: l, e'.1 ∉ seen) ∧ ((e :: l).map (·.1)).Nodup) := by
          simp only [List.map_cons, List.nodup_cons, List.mem_cons, not_or, List.mem_map, not_exists, not_and]
          constructor
          · rintro ⟨h1, h2⟩
            refine ⟨?_, fun x hx he => (h1 x hx).1 he, h2⟩
            rintro e' (rfl | he')
            · exact h
            · exact (h1 e' he').2
          · rintro ⟨h1, h2, h3⟩
            exact ⟨fun e' he' => ⟨fun he => h2 e' he' he, h1 e' (.inr he')⟩, h3⟩
        by_cases hc : (∀ e' ∈ l, e'.1 ∉ e.1 :: seen) ∧ (l.map (·.1)).Nodup
        · rw [if_pos hc, if_pos (hiff.1 hc)]
        · rw [if_neg hc, if_neg (fun hh => hc (hiff.2 hh))]

/-- a found fault, where there is one -/
def R.twice (x : R) : Bool → R
  | true => x.fail 4
  | false => x
theorem R.twice_three (c : Bool) : (R.mk [] 3).twice c = ⟨[], 3⟩ := by cases c <;> rfl
/-- the reference's reader of extensions -/
def R.extsGo : Nat → R → List Ex → List Ex × R
  | 0, x, out => (out, x)
  | f + 1, x, out => if x.bs = [] then (out, x) else
    R.extsGo f (((x.num 2).2.vec 2 0 65535).2.twice (out.any (·.1 == UInt16.ofNat (x.num 2).1))) (out ++ [(UInt16.ofNat (x.num 2).1, ((x.num 2).2.vec 2 0 65535).1)])
/-- the reader of the block -/
def R.block (s : R) : R := (s.vec 2 0 65535).2.within (s.vec 2 0 65535).1
def R.exts (s : R) : List Ex × R := ((R.extsGo s.block.bs.length s.block []).1, (s.vec 2 0 65535).2.done (R.extsGo s.block.bs.length s.block []).2)

theorem rng_all {r : List UInt8} {n c : Nat} (h : n ≤ 65535) : (R.mk r c).rng n 0 65535 = ⟨r, c⟩ := by
  unfold R.rng; rw [if_neg (by omega)]
theorem vec2_none {bs : List UInt8} (h : lp 2 bs = none) : (R.mk bs 0).vec 2 0 65535 = ([], ⟨[], 3⟩) := R.vec_none h _ _
theorem vec2_some {bs x r : List UInt8} (h : lp 2 bs = some (x, r)) : (R.mk bs 0).vec 2 0 65535 = (x, ⟨r, 0⟩) := by
  rw [R.vec_some h, rng_all (by have := (lp_len h).1; omega)]
theorem num2_two (a b : UInt8) (t : List UInt8) (c : Nat) : (R.mk (a :: b :: t) c).num 2 = (a.toNat * 256 + b.toNat, ⟨t, c⟩) := by
  unfold R.num R.take
  rw [if_neg (by simp)]
  simp [beNat]
theorem num2_one (a : UInt8) : (R.mk [a] 0).num 2 = (0, ⟨[], 3⟩) := rfl

/-- what the reference finds of a block -/
theorem R.extsGo_law (f : Nat) (d : List UInt8) (out : List Ex) (hf : d.length ≤ f) (hn : (out.map (·.1)).Nodup) :
    (R.extsGo f ⟨d, 0⟩ out).2.bs = [] ∧
    (((R.extsGo f ⟨d, 0⟩ out).2.code = 0 ∧ ∃ l, Go.Proofs.Ytcdjbciifnoajaa.exts d = some l ∧ (R.extsGo f ⟨d, 0⟩ out).1 = out ++ l ∧ ((out ++ l).map (·.1)).Nodup) ∨
     ((R.extsGo f ⟨d, 0⟩ out).2.code = 3 ∧ Go.Proofs.Ytcdjbciifnoajaa.exts d = none) ∨
     ((R.extsGo f ⟨d, 0⟩ out).2.code = 4 ∧ ∀ l, Go.Proofs.Ytcdjbciifnoajaa.exts d = some l → ¬ ((out ++ l).map (·.1)).Nodup)) := by
  have hstop : ∀ (g : Nat) (c : Nat) (out : List Ex), R.extsGo g ⟨[], c⟩ out = (out, ⟨[], c⟩) := by
    intro g c out
    cases g with
    | zero => rfl
    | succ g => unfold R.extsGo; simp
  induction f generalizing d out with
  | zero =>
    have : d = [] := List.eq_nil_of_length_eq_zero (by omega)
    subst this
    exact ⟨rfl, .inl ⟨rfl, [], rfl, by simp [R.extsGo], by simpa using hn⟩⟩
  | succ f ih =>
    match d, hf with
    | [], _ =>
      rw [hstop]
      exact ⟨rfl, .inl ⟨rfl, [], rfl, by simp, by simpa using hn⟩⟩
    | [a], _ =>
      have hE : Go.Proofs.Ytcdjbciifnoajaa.exts [a] = none := exts_none rfl (by simp)
      unfold R.extsGo
      rw [if_neg (by simp)]
      simp only [num2_one]
      have hv : (R.mk [] 3).vec 2 0 65535 = ([], ⟨[], 3⟩) := rfl
      rw [hv]
      dsimp only; rw [R.twice_three, hstop]
      exact ⟨rfl, .inr (.inl ⟨rfl, hE⟩)⟩
    | a :: b :: t, hf =>
      unfold R.extsGo
      rw [if_neg (by simp)]
      simp only [num2_two]
      have h1 := ext1_two a b t
      rcases hL : lp 2 t with _ | ⟨x, r⟩
      · rw [hL] at h1
        have hE : Go.Proofs.Ytcdjbciifnoajaa.exts (a :: b :: t) = none := exts_none h1 (by simp)
        rw [vec2_none hL]
        dsimp only; rw [R.twice_three, hstop]
        exact ⟨rfl, .inr (.inl ⟨rfl, hE⟩)⟩
      · rw [hL] at h1
        have hlen := (lp_len hL).2
        rw [vec2_some hL]
        have hE : Go.Proofs.Ytcdjbciifnoajaa.exts (a :: b :: t) = (Go.Proofs.Ytcdjbciifnoajaa.exts r).map ((UInt16.ofNat (a.toNat * 256 + b.toNat), x) :: ·) := exts_step h1
        generalize UInt16.ofNat (a.toNat * 256 + b.toNat) = k at hE
        by_cases hany : out.any (·.1 == k) = true
        · have hx : (R.mk r 0).twice true = ⟨[], 4⟩ := rfl
          rw [hany, hx, hstop]
          refine ⟨rfl, .inr (.inr ⟨rfl, fun l hl => ?_⟩)⟩
          rw [hE] at hl
          rcases hr : Go.Proofs.Ytcdjbciifnoajaa.exts r with _ | l'
          · rw [hr] at hl; cases hl
          · rw [hr] at hl
            cases hl
            intro hnd
            rw [List.map_append, List.nodup_append] at hnd
            obtain ⟨e, he, hk⟩ := List.any_eq_true.1 hany
            have hk : e.1 = k := by simpa using hk
            exact hnd.2.2 k (by rw [← hk]; exact List.mem_map_of_mem he) k (by simp) rfl
        · have hany' : (out.any (·.1 == k)) = false := Bool.eq_false_iff.2 hany
          have hs : (R.mk r 0).twice false = ⟨r, 0⟩ := rfl
          rw [hany', hs]
          have hk : k ∉ out.map (·.1) := by
            intro hm
            obtain ⟨e, he, hk⟩ := List.mem_map.1 hm
            have := List.any_eq_false.1 hany' e he
            simp [hk] at this
          have hn' : ((out ++ [(k, x)]).map (·.1)).Nodup := by
            rw [List.map_append, List.nodup_append]
            refine ⟨hn, by simp, ?_⟩
            intro a ha b hb hab
            simp at hb
            subst hb hab
            exact hk ha
          obtain ⟨i1, i2⟩ := ih r (out ++ [(k, x)]) (by simp at hf hlen; omega) hn'
          refine ⟨i1, ?_⟩
          rcases i2 with ⟨c0, l, hl, ho, hnd⟩ | ⟨c3, hl⟩ | ⟨c4, hl⟩
          · exact .inl ⟨c0, (k, x) :: l, by rw [hE, hl]; rfl, by rw [ho]; simp, by simpa using hnd⟩
          · exact .inr (.inl ⟨c3, by rw [hE, hl]; rfl⟩)
          · refine .inr (.inr ⟨c4, fun l hl' => ?_⟩)
            rw [hE] at hl'
            rcases hr : Go.Proofs.Ytcdjbciifnoajaa.exts r with _ | l'
            · rw [hr] at hl'; cases hl'
            · rw [hr] at hl'
              cases hl'
              have := hl l' hr
              simpa using this

/-- the reference's loop over extensions -/
def specE {σ : Type} (rd : σ → UInt16 → R → σ × R) : List Ex → σ × R → σ × R
  | [], s => s
  | e :: l, s => specE rd l ((rd s.1 e.1 (s.2.within e.2)).1, s.2.done (rd s.1 e.1 (s.2.within e.2)).2)
theorem specE_append {σ : Type} (rd : σ → UInt16 → R → σ × R) (a b : List Ex) (s : σ × R) : specE rd (a ++ b) s = specE rd b (specE rd a s) := by
  induction a generalizing s with
  | nil => rfl
  | cons e a ih => exact ih _
theorem specE_code {σ : Type} (rd : σ → UInt16 → R → σ × R) (l : List Ex) (s : σ × R) (h : s.2.code ≠ 0) : (specE rd l s).2.code = s.2.code := by
  induction l generalizing s with
  | nil => rfl
  | cons e l ih =>
    have hd : (s.2.done (rd s.1 e.1 (s.2.within e.2)).2).code = s.2.code := R.done_code h _
    have := ih ((rd s.1 e.1 (s.2.within e.2)).1, s.2.done (rd s.1 e.1 (s.2.within e.2)).2) (by show R.code _ ≠ 0; rw [hd]; exact h)
    exact this.trans hd
/-- the reference's loop and the package's, side by side: 'bad' are the codes at which the package refuses -/
theorem specE_law {σ : Type} (rd : σ → UInt16 → R → σ × R) (stp : σ → Ex → Option σ) (bad : Nat → Prop) (hb0 : ¬ bad 0)
    (h : ∀ m k d, ((rd m k ⟨d, 0⟩).2.fin.code = 0 → stp m (k, d) = some (rd m k ⟨d, 0⟩).1) ∧ (bad (rd m k ⟨d, 0⟩).2.fin.code → stp m (k, d) = none))
    (l : List Ex) (m : σ) (t : List UInt8) :
    ((specE rd l (m, ⟨t, 0⟩)).2.code = 0 → runE stp l m = some (specE rd l (m, ⟨t, 0⟩)).1) ∧ (bad (specE rd l (m, ⟨t, 0⟩)).2.code → runE stp l m = none) := by
  induction l generalizing m t with
  | nil => exact ⟨fun _ => rfl, fun hb => absurd hb hb0⟩
  | cons e l ih =>
    obtain ⟨h1, h2⟩ := h m e.1 e.2
    have hw : (R.mk t 0).within e.2 = ⟨e.2, 0⟩ := rfl
    have hsp : specE rd (e :: l) (m, ⟨t, 0⟩) = specE rd l ((rd m e.1 ⟨e.2, 0⟩).1, (R.mk t 0).done (rd m e.1 ⟨e.2, 0⟩).2) := rfl
    rw [hsp]
    generalize rd m e.1 ⟨e.2, 0⟩ = q at h1 h2
    by_cases h0 : q.2.fin.code = 0
    · have hd : (R.mk t 0).done q.2 = ⟨t, 0⟩ := by unfold R.done; rw [if_pos h0]
      rw [hd]
      have : runE stp (e :: l) m = runE stp l q.1 := by
        show (stp m e).bind _ = _
        rw [show stp m e = some q.1 from h1 h0]; rfl
      rw [this]
      exact ih q.1 t
    · have hd : ((R.mk t 0).done q.2).code = q.2.fin.code := by unfold R.done; rw [if_neg h0]; exact R.fail_code0 rfl _
      have hc := specE_code rd l (q.1, (R.mk t 0).done q.2) (by show R.code _ ≠ 0; rw [hd]; exact h0)
      rw [hc, hd]
      refine ⟨fun h => absurd h h0, fun hb => ?_⟩
      show (stp m e).bind _ = none
      rw [show stp m e = none from h2 hb]; rfl

end Go.Proofs.Ytcdjbciifnoajaa

/- Certificate of TLS 1.3, plainly: what the package reads, what the reference reads. No program is named here. -/
import Derived.Test.YtddkjhlngofkaaaCqPlain
namespace Go.Proofs.Ytddkjhlngofkaaa
set_option maxRecDepth 20000

/-- a Certificate of TLS 1.3 -/
structure Ct where
  certs : List (List UInt8)
  ocsp : Bool
  scts : Bool
  staple : List UInt8
  stamps : List (List UInt8)
def Ct.zero : Ct := ⟨[], false, false, [], []⟩
def Ct.add (m : Ct) (c : List UInt8) : Ct := ⟨m.certs ++ [c], m.ocsp, m.scts, m.staple, m.stamps⟩
def Ct.setStaple (m : Ct) (s : List UInt8) : Ct := ⟨m.certs, true, m.scts, s, m.stamps⟩
def Ct.setStamps (m : Ct) (l : List (List UInt8)) : Ct := ⟨m.certs, m.ocsp, true, m.staple, l⟩
/-- a staple, as the package reads it -/
def stapIn : Option (List UInt8 × List UInt8) → Option (List UInt8)
  | some (y :: x, []) => some (y :: x)
  | _ => none
def stapP : List UInt8 → Option (List UInt8)
  | k :: t => if k = 1 then stapIn (lp 3 t) else none
  | [] => none
theorem stapP_cons (k : UInt8) (t : List UInt8) : stapP (k :: t) = if k = 1 then stapIn (lp 3 t) else none := rfl
theorem stapIn_nil (t : List UInt8) : stapIn (some ([], t)) = none := by cases t <;> rfl
theorem stapIn_more (x t : List UInt8) (y : UInt8) : stapIn (some (x, y :: t)) = none := by cases x <;> rfl
theorem stapIn_some {x : List UInt8} (h : x ≠ []) : stapIn (some (x, [])) = some x := by
  cases x with
  | nil => exact absurd rfl h
  | cons y x => rfl
/-- an extension -/
def ctStep (m : Ct) (e : Ex) : Option Ct :=
  if 1 < m.certs.length then some m
  else if e.1 = 5 then (stapP e.2).map fun s => m.setStaple s
  else if e.1 = 18 then (listsP 2 2 e.2).map fun l => m.setStamps (m.stamps ++ l)
  else some m
/-- certificates, one behind the other, each with its extensions -/
def ctGo : Nat → Ct → List UInt8 → Option Ct
  | 0, _, _ => none
  | f + 1, m, d => if d = [] then some m else match lp 3 d with
    | some (c, r) => match lp 2 r with
      | some (x, r2) => (blockE ctStep x (m.add c)).bind fun m' => ctGo f m' r2
      | none => none
    | none => none
def ctL (m : Ct) (d : List UInt8) : Option Ct := ctGo (d.length + 1) m d
theorem ctGo_eq (f g : Nat) (m : Ct) (d : List UInt8) (hf : d.length < f) (hg : d.length < g) : ctGo f m d = ctGo g m d := by
  induction f generalizing g m d with
  | zero => omega
  | succ f ih =>
    cases g with
    | zero => omega
    | succ g =>
      unfold ctGo
      by_cases h0 : d = []
      · rw [if_pos h0, if_pos h0]
      · rw [if_neg h0, if_neg h0]
        rcases hL : lp 3 d with _ | ⟨c, r⟩
        · rfl
        · rcases hL2 : lp 2 r with _ | ⟨x, r2⟩
          · simp only [hL2]
          · simp only [hL2]
            have h1 := (lp_len hL).2
            have h2 := (lp_len hL2).2
            congr 1
            funext m'
            exact ih g m' r2 (by omega) (by omega)
theorem ctL_nil (m : Ct) : ctL m [] = some m := rfl
theorem ctL_none {m : Ct} {d : List UInt8} (h0 : d ≠ []) (h : lp 3 d = none) : ctL m d = none := by
  unfold ctL ctGo
  rw [if_neg h0, h]
theorem ctL_none2 {m : Ct} {d c r : List UInt8} (h : lp 3 d = some (c, r)) (h2 : lp 2 r = none) : ctL m d = none := by
  have hl := (lp_len h).2
  have h0 : d ≠ [] := by intro e; rw [e] at hl; simp at hl
  unfold ctL ctGo
  rw [if_neg h0, h]
  simp only [h2]
theorem ctL_step {m : Ct} {d c r x r2 : List UInt8} (h : lp 3 d = some (c, r)) (h2 : lp 2 r = some (x, r2)) : ctL m d = (blockE ctStep x (m.add c)).bind fun m' => ctL m' r2 := by
  have hl := (lp_len h).2
  have hl2 := (lp_len h2).2
  have h0 : d ≠ [] := by intro e; rw [e] at hl; simp at hl
  unfold ctL
  rw [show ctGo (d.length + 1) m d = (blockE ctStep x (m.add c)).bind fun m' => ctGo d.length m' r2 by
    conv => lhs; unfold ctGo
    rw [if_neg h0, h]
    simp only [h2]]
  congr 1
  funext m'
  exact ctGo_eq _ _ _ _ (by omega) (by omega)
def ctIn : Option (List UInt8 × List UInt8) → Option Ct
  | some (d, []) => ctL Ct.zero d
  | _ => none
theorem ctIn_some (d : List UInt8) : ctIn (some (d, [])) = ctL Ct.zero d := rfl
theorem ctIn_more (d t : List UInt8) (y : UInt8) : ctIn (some (d, y :: t)) = none := rfl
theorem ctIn_bad (d t : List UInt8) (h : ctL Ct.zero d = none) : ctIn (some (d, t)) = none := by
  cases t with
  | nil => exact h
  | cons y t => rfl
def ctCtx : Option (List UInt8 × List UInt8) → Option Ct
  | some ([], d) => ctIn (lp 3 d)
  | _ => none
theorem ctCtx_some (d : List UInt8) : ctCtx (some ([], d)) = ctIn (lp 3 d) := rfl
theorem ctCtx_more (x d : List UInt8) (y : UInt8) : ctCtx (some (y :: x, d)) = none := rfl
def ctRead (data : List UInt8) : Option Ct := if data.length < 4 then none else ctCtx (lp 1 (data.drop 4))

/-- what the reference reads -/
def R.late (x : R) (m : Ct) : R := if 1 < m.certs.length then x.fail 1 else x
def R.one (x : R) : R := if (x.num 1).1 = 1 then (x.num 1).2 else (x.num 1).2.fail 1
def R.stapV (x : R) : List UInt8 × R := x.one.vec 3 1 16777215
def ctRd (m : Ct) (k : UInt16) (x : R) : Ct × R :=
  if k = 18 then (m.setStamps ((x.late m).listsV 2 1 65535 2).1, ((x.late m).listsV 2 1 65535 2).2)
  else if k = 5 then (m.setStaple (x.late m).stapV.1, (x.late m).stapV.2)
  else (m, (x.take x.bs.length).2)
def ctRound (s : Ct × R) : Ct × R := specE ctRd (s.2.vec 3 1 16777215).2.exts.1 (s.1.add (s.2.vec 3 1 16777215).1, (s.2.vec 3 1 16777215).2.exts.2)
def ctGoR : Nat → Ct × R → Ct × R
  | 0, s => s
  | f + 1, s => if s.2.bs = [] then s else ctGoR f (ctRound s)
def ctB (data : List UInt8) : List UInt8 × R := (bodyR 11 data).context.vec 3 0 16777215
def ctG (data : List UInt8) : Ct × R := ctGoR ((ctB data).2.within (ctB data).1).bs.length (Ct.zero, (ctB data).2.within (ctB data).1)
def ctSpec (data : List UInt8) : Ct × R := ((ctG data).1, ((ctB data).2.done (ctG data).2).fin)

theorem ctGoR_stop (f : Nat) (m : Ct) (c : Nat) : ctGoR f (m, ⟨[], c⟩) = (m, ⟨[], c⟩) := by
  cases f with
  | zero => rfl
  | succ f => unfold ctGoR; rw [if_pos rfl]
theorem R.mk_eta (s : R) (h : s.bs = []) : s = ⟨[], s.code⟩ := by
  obtain ⟨b, c⟩ := s
  have h : b = [] := h
  rw [h]
theorem R.done_bs {s x : R} (h : s.bs = []) : (s.done x).bs = [] := by
  unfold R.done
  split
  · exact h
  · rfl
theorem specE_bs {σ : Type} (rd : σ → UInt16 → R → σ × R) (l : List Ex) (s : σ × R) (h : s.2.bs = []) : (specE rd l s).2.bs = [] := by
  induction l generalizing s with
  | nil => exact h
  | cons e l ih => exact ih _ (R.done_bs h)
/-- where a fault was found, nothing is left -/
theorem specE_ok {σ : Type} (rd : σ → UInt16 → R → σ × R) (l : List Ex) (m : σ) (t : List UInt8) : (specE rd l (m, ⟨t, 0⟩)).2 = ⟨t, 0⟩ ∨ ((specE rd l (m, ⟨t, 0⟩)).2.bs = [] ∧ (specE rd l (m, ⟨t, 0⟩)).2.code ≠ 0) := by
  induction l generalizing m with
  | nil => exact .inl rfl
  | cons e l ih =>
    have hsp : specE rd (e :: l) (m, ⟨t, 0⟩) = specE rd l ((rd m e.1 ⟨e.2, 0⟩).1, (R.mk t 0).done (rd m e.1 ⟨e.2, 0⟩).2) := rfl
    rw [hsp]
    by_cases h0 : (rd m e.1 ⟨e.2, 0⟩).2.fin.code = 0
    · have hd : (R.mk t 0).done (rd m e.1 ⟨e.2, 0⟩).2 = ⟨t, 0⟩ := by unfold R.done; rw [if_pos h0]
      rw [hd]
      exact ih _
    · have hd : (R.mk t 0).done (rd m e.1 ⟨e.2, 0⟩).2 = ⟨[], (rd m e.1 ⟨e.2, 0⟩).2.fin.code⟩ := by
        unfold R.done; rw [if_neg h0]; rfl
      rw [hd]
      right
      refine ⟨specE_bs rd l _ rfl, ?_⟩
      rw [specE_code rd l _ (by exact h0)]
      exact h0
theorem specE_stop {σ : Type} (rd : σ → UInt16 → R → σ × R) (l : List Ex) (m : σ) (c : Nat) (h : c ≠ 0) : (specE rd l (m, ⟨[], c⟩)).2 = ⟨[], c⟩ := by
  have h1 := specE_bs rd l (m, ⟨[], c⟩) rfl
  have h2 := specE_code rd l (m, ⟨[], c⟩) h
  rw [R.mk_eta _ h1, h2]
theorem R.exts_bs {c : Nat} (h : c ≠ 0) : (R.mk [] c).exts.2 = ⟨[], c⟩ := by
  have h1 := R.exts_code (s := ⟨[], c⟩) h
  have h2 : (R.mk [] c).exts.2 = ((R.mk [] c).vec 2 0 65535).2.done (R.extsGo (R.mk [] c).block.bs.length (R.mk [] c).block []).2 := rfl
  have hv : ((R.mk [] c).vec 2 0 65535).2.bs = [] := by
    have := vec_bs_len (R.mk [] c) 2 0 65535
    simp at this
    exact this
  have h3 : (R.mk [] c).exts.2.bs = [] := by rw [h2]; exact R.done_bs hv
  rw [R.mk_eta _ h3, h1]
/-- a block of extensions in the middle -/
theorem R.exts_cases (d : List UInt8) : ((R.mk d 0).exts.2 = ⟨[], 3⟩ ∧ (lp 2 d = none ∨ ∃ x t, lp 2 d = some (x, t) ∧ Go.Proofs.Ytddkjhlngofkaaa.exts x = none)) ∨ (R.mk d 0).exts.2 = ⟨[], 4⟩ ∨
    ∃ x t l, lp 2 d = some (x, t) ∧ Go.Proofs.Ytddkjhlngofkaaa.exts x = some l ∧ (l.map (·.1)).Nodup ∧ (R.mk d 0).exts = (l, ⟨t, 0⟩) := by
  have hex1 : (R.mk d 0).exts.1 = (R.extsGo (R.mk d 0).block.bs.length (R.mk d 0).block []).1 := rfl
  have hex2 : (R.mk d 0).exts.2 = ((R.mk d 0).vec 2 0 65535).2.done (R.extsGo (R.mk d 0).block.bs.length (R.mk d 0).block []).2 := rfl
  rcases hL : lp 2 d with _ | ⟨x, t⟩
  · left
    refine ⟨?_, .inl rfl⟩
    have hv : ((R.mk d 0).vec 2 0 65535).2 = ⟨[], 3⟩ := by rw [vec2_none hL]
    have h1 : (R.mk d 0).exts.2.code = 3 := by rw [hex2, R.done_code (by rw [hv]; decide), hv]
    have h2 : (R.mk d 0).exts.2.bs = [] := by rw [hex2]; exact R.done_bs (by rw [hv])
    rw [R.mk_eta _ h2, h1]
  · have hv : (R.mk d 0).vec 2 0 65535 = (x, ⟨t, 0⟩) := vec2_some hL
    have hb : (R.mk d 0).block = ⟨x, 0⟩ := by unfold R.block; rw [hv]; rfl
    have hE : (R.mk d 0).exts = ((R.extsGo x.length ⟨x, 0⟩ []).1, (R.mk t 0).done (R.extsGo x.length ⟨x, 0⟩ []).2) := by
      rw [← Prod.eta (R.mk d 0).exts, hex1, hex2, hb, hv]
    obtain ⟨g1, g2⟩ := R.extsGo_law x.length x [] (Nat.le_refl _) (by simp)
    rw [hE]
    generalize R.extsGo x.length ⟨x, 0⟩ [] = g at g1 g2
    obtain ⟨l, ⟨gb, gc⟩⟩ := g
    have g1 : gb = [] := g1
    subst g1
    rcases g2 with ⟨c0, l', hl', ho, hnd⟩ | ⟨c3, hl'⟩ | ⟨c4, hl'⟩
    · have c0 : gc = 0 := c0
      subst c0
      have ho : l = l' := by simpa using ho
      subst ho
      exact .inr (.inr ⟨x, t, l, rfl, hl', by simpa using hnd, rfl⟩)
    · have c3 : gc = 3 := c3
      subst c3
      exact .inl ⟨rfl, .inr ⟨x, t, rfl, hl'⟩⟩
    · have c4 : gc = 4 := c4
      subst c4
      exact .inr (.inl rfl)
def ctFresh (m : Ct) (k : UInt16) : Prop := k = 18 → m.certs.length ≤ 1 → m.stamps = []
theorem R.one_code {s : R} (h : s.code ≠ 0) : s.one.code = s.code := by
  have h1 := R.num_code h 1
  unfold R.one
  split
  · exact h1
  · rw [R.fail_code (by rw [h1]; exact h), h1]
theorem stapV_law (d : List UInt8) : ((R.mk d 0).stapV.2.fin.code = 0 → stapP d = some (R.mk d 0).stapV.1) ∧ ((R.mk d 0).stapV.2.fin.code = 3 → stapP d = none) := by
  cases d with
  | nil =>
    refine ⟨fun h => ?_, fun _ => rfl⟩
    have h1 : (R.mk [] 0).one.code = 3 := rfl
    have h2 := R.vec_code (s := (R.mk [] 0).one) (by rw [h1]; decide) 3 1 16777215
    have h3 : (R.mk [] 0).stapV.2.code = 3 := h2.trans h1
    rw [R.fin_code (by rw [h3]; decide), h3] at h
    cases h
  | cons k t =>
    have hn : (R.mk (k :: t) 0).num 1 = (k.toNat, ⟨t, 0⟩) := by
      unfold R.num R.take
      rw [if_neg (by simp)]
      simp [beNat]
    rw [stapP_cons]
    by_cases hk : k = 1
    · subst hk
      have h1 : (R.mk (1 :: t) 0).one = ⟨t, 0⟩ := by
        unfold R.one; rw [hn]; rfl
      have h2 : (R.mk (1 :: t) 0).stapV = (R.mk t 0).vec 3 1 16777215 := by unfold R.stapV; rw [h1]
      rw [h2, if_pos rfl]
      rcases hL : lp 3 t with _ | ⟨x, r⟩
      · rw [R.vec_none hL]; exact ⟨fun h => (by cases h), fun _ => rfl⟩
      · have hl := lp_len hL
        by_cases hx : x = []
        · rw [R.vec_some hL, R.rng_out (.inl (by rw [hx]; simp))]
          exact ⟨fun h => (by cases h), fun h => (by cases h)⟩
        · have hxl : 0 < x.length := List.length_pos_iff.2 hx
          rw [R.vec_some hL, R.rng_in (by omega) (by omega)]
          cases r with
          | nil => exact ⟨fun _ => stapIn_some hx, fun h => (by cases h)⟩
          | cons y r => exact ⟨fun h => (by cases h), fun _ => stapIn_more _ _ _⟩
    · rw [if_neg hk]
      have h1 : (R.mk (k :: t) 0).one.code = 1 := by
        unfold R.one
        rw [hn, if_neg (by intro h; exact hk (UInt8.toNat_inj.1 h))]
        rfl
      have h2 := R.vec_code (s := (R.mk (k :: t) 0).one) (by rw [h1]; decide) 3 1 16777215
      have h3 : (R.mk (k :: t) 0).stapV.2.code = 1 := h2.trans h1
      rw [R.fin_code (by rw [h3]; decide), h3]
      exact ⟨fun h => (by cases h), fun h => (by cases h)⟩
theorem ct_step_law (m : Ct) (k : UInt16) (d : List UInt8) (hf : ctFresh m k) : ((ctRd m k ⟨d, 0⟩).2.fin.code = 0 → ctStep m (k, d) = some (ctRd m k ⟨d, 0⟩).1) ∧ ((ctRd m k ⟨d, 0⟩).2.fin.code = 3 → ctStep m (k, d) = none) := by
  unfold ctRd ctStep
  dsimp only
  by_cases hm : 1 < m.certs.length
  · have hL : (R.mk d 0).late m = ⟨[], 1⟩ := by unfold R.late; rw [if_pos hm]; rfl
    rw [hL, if_pos hm]
    by_cases h18 : k = 18
    · rw [if_pos h18]
      dsimp only
      have h1 : ((R.mk [] 1).listsV 2 1 65535 2).2.code = 1 := by
        have h2 := R.vec_code (s := ⟨[], 1⟩) (show (1 : Nat) ≠ 0 by decide) 2 1 65535
        unfold R.listsV
        rw [R.vectors_code (by rw [h2]; decide), h2]
      rw [R.fin_code (by rw [h1]; decide), h1]
      exact ⟨fun h => (by cases h), fun h => (by cases h)⟩
    rw [if_neg h18]
    by_cases h5 : k = 5
    · rw [if_pos h5]
      dsimp only
      have h1 : (R.mk [] 1).stapV.2.code = 1 := by
        have h2 := R.one_code (s := ⟨[], 1⟩) (show (1 : Nat) ≠ 0 by decide)
        unfold R.stapV
        rw [R.vec_code (by rw [h2]; decide), h2]
      rw [R.fin_code (by rw [h1]; decide), h1]
      exact ⟨fun h => (by cases h), fun h => (by cases h)⟩
    rw [if_neg h5]
    show (((R.mk d 0).take d.length).2.fin.code = 0 → _) ∧ (((R.mk d 0).take d.length).2.fin.code = 3 → _)
    rw [cq_take]
    exact ⟨fun _ => rfl, fun h => (by cases h)⟩
  · have hL : (R.mk d 0).late m = ⟨d, 0⟩ := by unfold R.late; rw [if_neg hm]
    rw [hL, if_neg hm]
    by_cases h18 : k = 18
    · have h5 : k ≠ 5 := by rw [h18]; decide
      rw [if_pos h18, if_neg h5, if_pos h18]
      obtain ⟨l1, l2, -⟩ := listsV_law 2 1 65535 2 (by decide) (by decide) (by decide) (by decide) d
      dsimp only
      generalize (R.mk d 0).listsV 2 1 65535 2 = q at l1 l2
      rw [hf h18 (by omega)]
      exact ⟨fun h => by rw [l1 h]; rfl, fun h => by rw [l2 (.inr h)]; rfl⟩
    rw [if_neg h18]
    by_cases h5 : k = 5
    · rw [if_pos h5, if_pos h5]
      obtain ⟨l1, l2⟩ := stapV_law d
      dsimp only
      generalize (R.mk d 0).stapV = q at l1 l2
      exact ⟨fun h => by rw [l1 h]; rfl, fun h => by rw [l2 h]; rfl⟩
    rw [if_neg h5, if_neg h5, if_neg h18]
    show (((R.mk d 0).take d.length).2.fin.code = 0 → _) ∧ (((R.mk d 0).take d.length).2.fin.code = 3 → _)
    rw [cq_take]
    exact ⟨fun _ => rfl, fun h => (by cases h)⟩
theorem ct_fresh (m : Ct) (k : UInt16) (d : List UInt8) (k' : UInt16) (hk : k' ≠ k) (h : ctFresh m k') : ctFresh (ctRd m k ⟨d, 0⟩).1 k' := by
  unfold ctRd
  split
  · rename_i h2; exact fun e => absurd (e.trans h2.symm) hk
  · split
    · exact h
    · exact h
theorem ctStep_certs {m m' : Ct} {e : Ex} (h : ctStep m e = some m') : m'.certs = m.certs := by
  unfold ctStep at h
  split at h
  · injection h with h; rw [h]
  · split at h
    · rcases hw : stapP e.2 with _ | s
      · rw [hw] at h; cases h
      · rw [hw] at h; injection h with h; subst h; rfl
    · split at h
      · rcases hw : listsP 2 2 e.2 with _ | s
        · rw [hw] at h; cases h
        · rw [hw] at h; injection h with h; subst h; rfl
      · injection h with h; rw [h]
theorem runE_certs : ∀ {l : List Ex} {m m' : Ct}, runE ctStep l m = some m' → m'.certs = m.certs
  | [], m, m', h => by injection h with h; rw [h]
  | e :: l, m, m', h => by
    have h : (ctStep m e).bind (runE ctStep l) = some m' := h
    rcases hs : ctStep m e with _ | m1
    · rw [hs] at h; cases h
    · rw [hs] at h
      exact (runE_certs (l := l) h).trans (ctStep_certs hs)
theorem ctGoR_law (f : Nat) (d : List UInt8) (m : Ct) (hf : d.length ≤ f) (hi : m.certs = [] → m.stamps = []) :
    (ctGoR f (m, ⟨d, 0⟩)).2.bs = [] ∧ ((ctGoR f (m, ⟨d, 0⟩)).2.code = 0 → ctL m d = some (ctGoR f (m, ⟨d, 0⟩)).1) ∧ ((ctGoR f (m, ⟨d, 0⟩)).2.code = 3 → ctL m d = none) := by
  induction f generalizing d m with
  | zero =>
    have : d = [] := List.eq_nil_of_length_eq_zero (by omega)
    subst this
    exact ⟨rfl, fun _ => rfl, fun h => (by cases h)⟩
  | succ f ih =>
    by_cases h0 : d = []
    · subst h0
      rw [ctGoR_stop]
      exact ⟨rfl, fun _ => rfl, fun h => (by cases h)⟩
    have hu : ctGoR (f + 1) (m, ⟨d, 0⟩) = ctGoR f (ctRound (m, ⟨d, 0⟩)) := by
      conv => lhs; unfold ctGoR
      rw [if_neg h0]
    rw [hu]
    have stop : ∀ {v : List UInt8} {c : Nat}, (R.mk d 0).vec 3 1 16777215 = (v, ⟨[], c⟩) → c ≠ 0 → ∃ m', ctGoR f (ctRound (m, ⟨d, 0⟩)) = (m', ⟨[], c⟩) := by
      intro v c hv hc
      unfold ctRound
      dsimp only
      rw [hv]
      dsimp only
      rw [R.exts_bs hc]
      generalize (R.mk [] c).exts.1 = l
      have := specE_stop ctRd l (m.add v) c hc
      generalize specE ctRd l (m.add v, ⟨[], c⟩) = q at this
      obtain ⟨m', r⟩ := q
      have this : r = ⟨[], c⟩ := this
      subst this
      exact ⟨m', ctGoR_stop _ _ _⟩
    rcases hL : lp 3 d with _ | ⟨c, r⟩
    · obtain ⟨m', h1⟩ := stop (R.vec_none hL _ _) (by decide)
      rw [h1]
      exact ⟨rfl, fun h => (by cases h), fun _ => ctL_none h0 hL⟩
    have hl := lp_len hL
    by_cases hc : c = []
    · obtain ⟨m', h1⟩ := stop (by rw [R.vec_some hL, R.rng_out (.inl (by rw [hc]; simp))]) (show (2 : Nat) ≠ 0 by decide)
      rw [h1]
      exact ⟨rfl, fun h => (by cases h), fun h => (by cases h)⟩
    have hcl : 0 < c.length := List.length_pos_iff.2 hc
    have hv : (R.mk d 0).vec 3 1 16777215 = (c, ⟨r, 0⟩) := by rw [R.vec_some hL, R.rng_in (by omega) (by omega)]
    have hR : ctRound (m, ⟨d, 0⟩) = specE ctRd (R.mk r 0).exts.1 (m.add c, (R.mk r 0).exts.2) := by
      unfold ctRound
      dsimp only
      rw [hv]
    rw [hR]
    have stop2 : ∀ {k : Nat}, (R.mk r 0).exts.2 = ⟨[], k⟩ → k ≠ 0 → ∃ m', ctGoR f (specE ctRd (R.mk r 0).exts.1 (m.add c, (R.mk r 0).exts.2)) = (m', ⟨[], k⟩) := by
      intro k hk h
      rw [hk]
      generalize (R.mk r 0).exts.1 = l
      have := specE_stop ctRd l (m.add c) k h
      generalize specE ctRd l (m.add c, ⟨[], k⟩) = q at this
      obtain ⟨m', r⟩ := q
      have this : r = ⟨[], k⟩ := this
      subst this
      exact ⟨m', ctGoR_stop _ _ _⟩
    rcases R.exts_cases r with ⟨h1, h2⟩ | h1 | ⟨x, t, l, h1, h2, h3, h4⟩
    · obtain ⟨m', h5⟩ := stop2 h1 (by decide)
      rw [h5]
      refine ⟨rfl, fun h => (by cases h), fun _ => ?_⟩
      rcases h2 with h2 | ⟨x, t, h2, h3⟩
      · exact ctL_none2 hL h2
      · rw [ctL_step hL h2]
        unfold blockE
        rw [h3]
        rfl
    · obtain ⟨m', h5⟩ := stop2 h1 (by decide)
      rw [h5]
      exact ⟨rfl, fun h => (by cases h), fun h => (by cases h)⟩
    · rw [h4]
      dsimp only
      have hb : ctL m d = (runE ctStep l (m.add c)).bind fun m' => ctL m' t := by
        rw [ctL_step hL h1]
        unfold blockE
        rw [h2]
        rfl
      rw [hb]
      have hfr : ∀ e ∈ l, ctFresh (m.add c) e.1 := by
        intro e _ _ hle
        have hle : (m.certs ++ [c]).length ≤ 1 := hle
        rw [List.length_append] at hle
        simp at hle
        exact hi hle
      obtain ⟨k1, k2⟩ := specE_lawF ctRd ctStep (· = 3) ctFresh (by decide) ct_step_law ct_fresh l h3 (m.add c) hfr t
      have hok := specE_ok ctRd l (m.add c) t
      generalize specE ctRd l (m.add c, ⟨t, 0⟩) = q at k1 k2 hok
      obtain ⟨m', s⟩ := q
      rcases hok with hok | ⟨o1, o2⟩
      · have hok : s = ⟨t, 0⟩ := hok
        subst hok
        have k1 := k1 rfl
        rw [k1]
        have hcs := runE_certs k1
        have := (lp_len h1).2
        refine ih t m' (by omega) fun h => ?_
        have hcs : m'.certs = m.certs ++ [c] := hcs
        have h : m'.certs = [] := h
        rw [h] at hcs
        simp at hcs
      · have hs : s = ⟨[], s.code⟩ := R.mk_eta s o1
        rw [hs, ctGoR_stop]
        refine ⟨rfl, fun h => absurd h o2, fun h => ?_⟩
        rw [k2 h]
        rfl
theorem ctSpec_2 (data : List UInt8) : (ctSpec data).2 = ((ctB data).2.done (ctG data).2).fin := by
  unfold ctSpec
  dsimp only
theorem ct_law (data : List UInt8) : ((ctSpec data).2.code = 0 → ctRead data = some (ctSpec data).1) ∧ ((ctSpec data).2.code = 3 → ctRead data = none) := by
  have stop : ∀ c, (ctB data).2.code = c → c ≠ 0 → (ctSpec data).2.code = c := fun c h hc => by
    have h2 : ((ctB data).2.done (ctG data).2).code = c := by rw [R.done_code (by rw [h]; exact hc), h]
    rw [ctSpec_2, R.fin_code (by rw [h2]; exact hc), h2]
  have stopC : ∀ c, (bodyR 11 data).context.code = c → c ≠ 0 → (ctSpec data).2.code = c := fun c h hc => by
    refine stop c ?_ hc
    unfold ctB
    rw [R.vec_code (by rw [h]; exact hc), h]
  rcases bodyR_two 11 data with h | ⟨h, h4, -, -⟩
  · have h1 : (bodyR 11 data).context.code = 1 := by rw [R.context_code (by rw [h]; decide), h]
    rw [stopC 1 h1 (by decide)]
    exact ⟨fun h => by omega, fun h => by omega⟩
  · have hk : ctRead data = ctCtx (lp 1 (data.drop 4)) := by unfold ctRead; rw [if_neg (by omega)]
    rw [hk]
    generalize data.drop 4 = d at h
    rcases ha : lp 1 d with _ | ⟨x, r⟩
    · have h1 : (bodyR 11 data).context.code = 3 := by
        unfold R.context; rw [h, R.vec_none ha]; rfl
      rw [stopC 3 h1 (by decide)]
      exact ⟨fun h => (by cases h), fun _ => rfl⟩
    · have hl := lp_len ha
      have hv : (R.mk d 0).vec 1 0 255 = (x, ⟨r, 0⟩) := by rw [R.vec_some ha, R.rng_in (by omega) (by omega)]
      cases x with
      | cons y x =>
        have h1 : (bodyR 11 data).context.code = 1 := by
          unfold R.context; rw [h, hv]; rw [if_pos (by simp)]; rfl
        rw [stopC 1 h1 (by decide)]
        exact ⟨fun h => by omega, fun h => by omega⟩
      | nil =>
        have h1 : (bodyR 11 data).context = ⟨r, 0⟩ := by
          unfold R.context; rw [h, hv]; rfl
        have hB : ctB data = (R.mk r 0).vec 3 0 16777215 := by unfold ctB; rw [h1]
        rw [ctCtx_some]
        rcases hL : lp 3 r with _ | ⟨x, t⟩
        · have h3 : (ctB data).2.code = 3 := by rw [hB, R.vec_none hL]
          rw [stop 3 h3 (by decide)]
          exact ⟨fun h => (by cases h), fun _ => rfl⟩
        · have hlx := lp_len hL
          have hB : ctB data = (x, ⟨t, 0⟩) := by rw [hB, R.vec_some hL, R.rng_in (Nat.zero_le _) (by omega)]
          have hW : (R.mk t 0).within x = ⟨x, 0⟩ := rfl
          have hS : ctSpec data = ((ctGoR x.length (Ct.zero, ⟨x, 0⟩)).1, ((R.mk t 0).done (ctGoR x.length (Ct.zero, ⟨x, 0⟩)).2).fin) := by
            unfold ctSpec ctG
            rw [hB]
            rfl
          rw [hS]
          obtain ⟨g1, g2, g3⟩ := ctGoR_law x.length x Ct.zero (Nat.le_refl _) (fun _ => rfl)
          generalize ctGoR x.length (Ct.zero, ⟨x, 0⟩) = g at g1 g2 g3
          obtain ⟨M, ⟨gb, gc⟩⟩ := g
          have g1 : gb = [] := g1
          subst g1
          have g2 : gc = 0 → ctL Ct.zero x = some M := g2
          have g3 : gc = 3 → ctL Ct.zero x = none := g3
          by_cases k0 : gc = 0
          · subst k0
            have hd : (R.mk t 0).done ⟨[], 0⟩ = ⟨t, 0⟩ := rfl
            dsimp only
            rw [hd]
            cases t with
            | nil => exact ⟨fun _ => g2 rfl, fun h => (by cases h)⟩
            | cons y t => exact ⟨fun h => (by cases h), fun _ => rfl⟩
          · have hd : (R.mk t 0).done ⟨[], gc⟩ = ⟨[], gc⟩ := by
              unfold R.done
              rw [R.fin_nil, if_neg k0]
              rfl
            dsimp only
            rw [hd, R.fin_nil]
            exact ⟨fun h => absurd h k0, fun h => ctIn_bad _ _ (g3 h)⟩
/-- the flags of what is read -/
def Ct.Ok (m : Ct) : Prop := (m.ocsp = true ↔ m.staple ≠ []) ∧ (m.scts = true ↔ m.stamps ≠ [])
theorem Ct.zero_ok : Ct.zero.Ok := ⟨by simp [Ct.zero], by simp [Ct.zero]⟩
end Go.Proofs.Ytddkjhlngofkaaa

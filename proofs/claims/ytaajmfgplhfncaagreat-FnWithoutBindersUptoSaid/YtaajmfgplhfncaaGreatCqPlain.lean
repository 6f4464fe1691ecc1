/- CertificateRequest of TLS 1.3, plainly: what the package reads, what the reference reads. No program is named here. -/
import Derived.Test.YtaajmfgplhfncaaGreatLists
namespace Go.Proofs.YtaajmfgplhfncaaGreat
set_option maxRecDepth 20000

/-- a CertificateRequest of TLS 1.3 -/
structure Cq where
  ocsp : Bool
  scts : Bool
  sig : List UInt16
  sigc : List UInt16
  cas : List (List UInt8)
def Cq.zero : Cq := ⟨false, false, [], [], []⟩
def Cq.setOcsp (m : Cq) : Cq := ⟨true, m.scts, m.sig, m.sigc, m.cas⟩
def Cq.setScts (m : Cq) : Cq := ⟨m.ocsp, true, m.sig, m.sigc, m.cas⟩
def Cq.setSig (m : Cq) (l : List UInt16) : Cq := ⟨m.ocsp, m.scts, l, m.sigc, m.cas⟩
def Cq.setSigc (m : Cq) (l : List UInt16) : Cq := ⟨m.ocsp, m.scts, m.sig, l, m.cas⟩
def Cq.setCas (m : Cq) (l : List (List UInt8)) : Cq := ⟨m.ocsp, m.scts, m.sig, m.sigc, l⟩
/-- an extension -/
def cqStep (m : Cq) (e : Ex) : Option Cq :=
  if e.1 = 5 then (if e.2 = [] then some m.setOcsp else none)
  else if e.1 = 18 then (if e.2 = [] then some m.setScts else none)
  else if e.1 = 13 then (wordsP 2 e.2).map fun l => m.setSig (m.sig ++ l)
  else if e.1 = 50 then (wordsP 2 e.2).map fun l => m.setSigc (m.sigc ++ l)
  else if e.1 = 47 then (listsP 2 2 e.2).map fun l => m.setCas (m.cas ++ l)
  else some m
def cqCtx : Option (List UInt8 × List UInt8) → Option Cq
  | some ([], d) => lastB cqStep Cq.zero d
  | _ => none
def cqRead (data : List UInt8) : Option Cq := if data.length < 4 then none else cqCtx (lp 1 (data.drop 4))
/-- 'context' -/
def R.context (x : R) : R := if 0 < (x.vec 1 0 255).1.length then (x.vec 1 0 255).2.fail 1 else (x.vec 1 0 255).2
def cqRd (m : Cq) (k : UInt16) (x : R) : Cq × R :=
  if k = 5 then (m.setOcsp, x)
  else if k = 18 then (m.setScts, x)
  else if k = 13 then (m.setSig (x.wordsV 2 65535).1, (x.wordsV 2 65535).2)
  else if k = 50 then (m.setSigc (x.wordsV 2 65535).1, (x.wordsV 2 65535).2)
  else if k = 47 then (m.setCas (x.listsV 2 3 65535 2).1, (x.listsV 2 3 65535 2).2)
  else (m, (x.take x.bs.length).2)
def cqS (data : List UInt8) : R := (bodyR 13 data).context
def cqSpec (data : List UInt8) : Cq × R := specE cqRd (cqS data).exts.1 (Cq.zero, (cqS data).exts.2.fin)

def cqFresh (m : Cq) (k : UInt16) : Prop := (k = 13 → m.sig = []) ∧ (k = 50 → m.sigc = []) ∧ (k = 47 → m.cas = [])
theorem cq_take (d : List UInt8) : ((R.mk d 0).take d.length).2 = ⟨[], 0⟩ := by
  unfold R.take
  rw [if_neg (show ¬ d.length < d.length by omega)]
  simp
theorem cq_step_law (m : Cq) (k : UInt16) (d : List UInt8) (hf : cqFresh m k) : ((cqRd m k ⟨d, 0⟩).2.fin.code = 0 → cqStep m (k, d) = some (cqRd m k ⟨d, 0⟩).1) ∧ ((cqRd m k ⟨d, 0⟩).2.fin.code = 2 ∨ (cqRd m k ⟨d, 0⟩).2.fin.code = 3 → cqStep m (k, d) = none) := by
  have h0 : (R.mk d 0).fin.code = 0 ∧ d = [] ∨ (R.mk d 0).fin.code = 3 ∧ d ≠ [] := by
    cases d with
    | nil => exact .inl ⟨rfl, rfl⟩
    | cons y t => exact .inr ⟨rfl, by simp⟩
  obtain ⟨f1, f2, f3⟩ := hf
  unfold cqRd cqStep
  dsimp only
  by_cases h5 : k = 5
  · rw [if_pos h5, if_pos h5]
    dsimp only
    rcases h0 with ⟨h1, h2⟩ | ⟨h1, h2⟩
    · rw [h1, if_pos h2]; exact ⟨fun _ => rfl, fun h => (by rcases h with h | h <;> cases h)⟩
    · rw [h1, if_neg h2]; exact ⟨fun h => (by cases h), fun _ => rfl⟩
  rw [if_neg h5, if_neg h5]
  by_cases h18 : k = 18
  · rw [if_pos h18, if_pos h18]
    dsimp only
    rcases h0 with ⟨h1, h2⟩ | ⟨h1, h2⟩
    · rw [h1, if_pos h2]; exact ⟨fun _ => rfl, fun h => (by rcases h with h | h <;> cases h)⟩
    · rw [h1, if_neg h2]; exact ⟨fun h => (by cases h), fun _ => rfl⟩
  rw [if_neg h18, if_neg h18]
  by_cases h13 : k = 13
  · rw [if_pos h13, if_pos h13]
    obtain ⟨l1, l2, -⟩ := wordsV_law 2 65535 (by decide) d
    dsimp only
    generalize (R.mk d 0).wordsV 2 65535 = q at l1 l2
    rw [f1 h13]
    exact ⟨fun h => by rw [l1 h]; rfl, fun h => by rw [l2 h]; rfl⟩
  rw [if_neg h13, if_neg h13]
  by_cases h50 : k = 50
  · rw [if_pos h50, if_pos h50]
    obtain ⟨l1, l2, -⟩ := wordsV_law 2 65535 (by decide) d
    dsimp only
    generalize (R.mk d 0).wordsV 2 65535 = q at l1 l2
    rw [f2 h50]
    exact ⟨fun h => by rw [l1 h]; rfl, fun h => by rw [l2 h]; rfl⟩
  rw [if_neg h50, if_neg h50]
  by_cases h47 : k = 47
  · rw [if_pos h47, if_pos h47]
    obtain ⟨l1, l2, -⟩ := listsV_law 2 3 65535 2 (by decide) (by decide) (by decide) (by decide) d
    dsimp only
    generalize (R.mk d 0).listsV 2 3 65535 2 = q at l1 l2
    rw [f3 h47]
    exact ⟨fun h => by rw [l1 h]; rfl, fun h => by rw [l2 h]; rfl⟩
  rw [if_neg h47, if_neg h47]
  show (((R.mk d 0).take d.length).2.fin.code = 0 → _) ∧ (((R.mk d 0).take d.length).2.fin.code = 2 ∨ ((R.mk d 0).take d.length).2.fin.code = 3 → _)
  rw [cq_take]
  exact ⟨fun _ => rfl, fun h => (by rcases h with h | h <;> cases h)⟩
theorem cq_fresh (m : Cq) (k : UInt16) (d : List UInt8) (k' : UInt16) (hk : k' ≠ k) (h : cqFresh m k') : cqFresh (cqRd m k ⟨d, 0⟩).1 k' := by
  obtain ⟨f1, f2, f3⟩ := h
  unfold cqRd
  split
  · exact ⟨f1, f2, f3⟩
  · split
    · exact ⟨f1, f2, f3⟩
    · split
      · rename_i h; exact ⟨fun e => absurd (e.trans h.symm) hk, f2, f3⟩
      · split
        · rename_i h; exact ⟨f1, fun e => absurd (e.trans h.symm) hk, f3⟩
        · split
          · rename_i h; exact ⟨f1, f2, fun e => absurd (e.trans h.symm) hk⟩
          · exact ⟨f1, f2, f3⟩
theorem cq_zero (k : UInt16) : cqFresh Cq.zero k := ⟨fun _ => rfl, fun _ => rfl, fun _ => rfl⟩
theorem R.context_code {s : R} (h : s.code ≠ 0) : s.context.code = s.code := by
  have h1 := R.vec_code h 1 0 255
  unfold R.context
  split
  · rw [R.fail_code (by rw [h1]; exact h), h1]
  · exact h1
theorem cq_law (data : List UInt8) : ((cqSpec data).2.code = 0 → cqRead data = some (cqSpec data).1) ∧ ((cqSpec data).2.code = 2 ∨ (cqSpec data).2.code = 3 → cqRead data = none) := by
  have stop : ∀ c, (cqS data).code = c → c ≠ 0 → (cqSpec data).2.code = c := fun c h hc => by
    unfold cqSpec
    rw [block_code cqRd _ (by rw [h]; exact hc), h]
  rcases bodyR_two 13 data with h | ⟨h, h4, -, -⟩
  · have h1 : (cqS data).code = 1 := by unfold cqS; rw [R.context_code (by rw [h]; decide), h]
    rw [stop 1 h1 (by decide)]
    exact ⟨fun h => by omega, fun h => by omega⟩
  · have hk : cqRead data = cqCtx (lp 1 (data.drop 4)) := by unfold cqRead; rw [if_neg (by omega)]
    rw [hk]
    generalize data.drop 4 = d at h
    rcases ha : lp 1 d with _ | ⟨x, r⟩
    · have h1 : (cqS data).code = 3 := by
        unfold cqS R.context; rw [h, R.vec_none ha]; rfl
      rw [stop 3 h1 (by decide)]
      exact ⟨fun h => (by cases h), fun _ => rfl⟩
    · have hl := lp_len ha
      have hv : (R.mk d 0).vec 1 0 255 = (x, ⟨r, 0⟩) := by rw [R.vec_some ha, R.rng_in (by omega) (by omega)]
      cases x with
      | cons y x =>
        have h1 : (cqS data).code = 1 := by
          unfold cqS R.context; rw [h, hv]; rw [if_pos (by simp)]; rfl
        rw [stop 1 h1 (by decide)]
        exact ⟨fun h => by omega, fun h => by omega⟩
      | nil =>
        have h1 : cqS data = ⟨r, 0⟩ := by
          unfold cqS R.context; rw [h, hv]; rfl
        unfold cqSpec
        rw [h1]
        exact lastB_lawF cqRd cqStep (fun c => c = 2 ∨ c = 3) cqFresh (by decide) (by decide) cq_step_law cq_fresh _ cq_zero r
theorem wordsOf_le : ∀ x : List UInt8, (wordsOf x).length ≤ x.length
  | [] => Nat.le_refl _
  | [_] => Nat.le_refl _
  | _ :: _ :: t => by have := wordsOf_le t; simp [wordsOf]; omega
theorem wordsP_len {n : Nat} {d : List UInt8} {l : List UInt16} (h : wordsP n d = some l) : 2 * l.length + n = d.length ∧ l ≠ [] ∧ 2 * l.length < 256 ^ n := by
  have hw : ∀ x : List UInt8, x.length % 2 = 0 → 2 * (wordsOf x).length = x.length := by
    intro x
    induction x using wordsOf.induct with
    | case1 a b t ih => intro h; simp only [wordsOf, List.length_cons] at h ⊢; have := ih (by omega); omega
    | case2 a => intro h; simp at h
    | case3 => intro _; rfl
  unfold wordsP at h
  rcases ha : lp n d with _ | ⟨_ | ⟨y, x⟩, _ | ⟨z, t⟩⟩
  · rw [ha] at h; cases h
  · rw [ha] at h; cases h
  · rw [ha] at h; cases h
  · rw [ha] at h
    have h : (if (y :: x).length % 2 = 0 then some (wordsOf (y :: x)) else none) = some l := h
    split at h
    · rename_i he
      injection h with h
      have h1 := hw _ he
      have h2 := lp_len ha
      rw [h] at h1
      refine ⟨by simp at h2; simp at h1; omega, ?_, by omega⟩
      intro h0; rw [h0] at h1; simp at h1
    · cases h
  · rw [ha] at h; cases h
/-- how long extensions are -/
def exsB' : List Ex → Nat
  | [] => 0
  | e :: l => 4 + e.2.length + exsB' l
theorem exsB'_len : ∀ (f : Nat) (d : List UInt8) (l : List Ex), extsGo f d = some l → exsB' l = d.length
  | 0, _, _, h => by cases h
  | f + 1, d, l, h => by
    unfold extsGo at h
    split at h
    · rename_i h0; injection h with h; subst h; subst h0; rfl
    · split at h
      · rename_i e r hL
        rcases hr : extsGo f r with _ | l'
        · rw [hr] at h; cases h
        · rw [hr] at h
          injection h with h
          subst h
          have h1 := exsB'_len f r l' hr
          have h2 := (ext1_len hL).1
          show 4 + e.2.length + exsB' l' = d.length
          omega
      · cases h
theorem exts_blk : ∀ (f : Nat) (d : List UInt8) (l : List Ex), extsGo f d = some l → ∀ e ∈ l, e.2.length ≤ d.length
  | 0, _, _, h => by cases h
  | f + 1, d, l, h => by
    unfold extsGo at h
    split at h
    · injection h with h; subst h; intro e he; cases he
    · split at h
      · rename_i e r hL
        rcases hr : extsGo f r with _ | l'
        · rw [hr] at h; cases h
        · rw [hr] at h
          injection h with h
          subst h
          have h2 := (ext1_len hL).1
          intro e' he'
          rcases List.mem_cons.1 he' with he' | he'
          · rw [he']; omega
          · have := exts_blk f r l' hr e' he'; omega
      · cases h
theorem cqRead_sizes {data : List UInt8} {t : Cq} (h : cqRead data = some t) : t.sig.length ≤ 1099511627776 ∧ t.sigc.length ≤ 1099511627776 := by
  have key : ∀ (l : List Ex) (m m' : Cq), runE cqStep l m = some m' → m'.sig.length ≤ m.sig.length + (exsB' l) ∧ m'.sigc.length ≤ m.sigc.length + (exsB' l) := by
    intro l
    induction l with
    | nil => intro m m' h; injection h with h; rw [h]; exact ⟨by omega, by omega⟩
    | cons e l ih =>
      intro m m' h
      have h : (cqStep m e).bind (runE cqStep l) = some m' := h
      rcases hs : cqStep m e with _ | m1
      · rw [hs] at h; cases h
      · rw [hs] at h
        obtain ⟨a, b⟩ := ih m1 m' h
        have hm : m1.sig.length ≤ m.sig.length + e.2.length ∧ m1.sigc.length ≤ m.sigc.length + e.2.length := by
          unfold cqStep at hs
          split at hs
          · split at hs
            · injection hs with hs; subst hs; exact ⟨Nat.le_add_right _ _, Nat.le_add_right _ _⟩
            · cases hs
          · split at hs
            · split at hs
              · injection hs with hs; subst hs; exact ⟨Nat.le_add_right _ _, Nat.le_add_right _ _⟩
              · cases hs
            · split at hs
              · rcases hw : wordsP 2 e.2 with _ | ws
                · rw [hw] at hs; cases hs
                · rw [hw] at hs; injection hs with hs; subst hs
                  have := (wordsP_len hw).1
                  exact ⟨by simp [Cq.setSig]; omega, Nat.le_add_right _ _⟩
              · split at hs
                · rcases hw : wordsP 2 e.2 with _ | ws
                  · rw [hw] at hs; cases hs
                  · rw [hw] at hs; injection hs with hs; subst hs
                    have := (wordsP_len hw).1
                    exact ⟨Nat.le_add_right _ _, by simp [Cq.setSigc]; omega⟩
                · split at hs
                  · rcases hw : listsP 2 2 e.2 with _ | ws
                    · rw [hw] at hs; cases hs
                    · rw [hw] at hs; injection hs with hs; subst hs; exact ⟨Nat.le_add_right _ _, Nat.le_add_right _ _⟩
                  · injection hs with hs; subst hs; exact ⟨Nat.le_add_right _ _, Nat.le_add_right _ _⟩
        have : exsB' (e :: l) = 4 + e.2.length + exsB' l := rfl
        omega
  unfold cqRead at h
  split at h
  · cases h
  · rcases ha : lp 1 (data.drop 4) with _ | ⟨_ | ⟨y, x⟩, d⟩
    · rw [ha] at h; cases h
    · rw [ha] at h
      have h : lastB cqStep Cq.zero d = some t := h
      rcases hL : lp 2 d with _ | ⟨x, _ | ⟨y, tl⟩⟩
      · rw [lastB_none hL] at h; cases h
      · rw [lastB_some hL] at h
        unfold blockE at h
        rcases hx : exts x with _ | l
        · rw [hx] at h; cases h
        · rw [hx] at h
          obtain ⟨a, b⟩ := key l _ _ h
          have := exsB'_len _ _ _ hx
          have := (lp_len hL).1
          have z1 : Cq.zero.sig.length = 0 := rfl
          have z2 : Cq.zero.sigc.length = 0 := rfl
          omega
      · rw [lastB_more hL] at h; cases h
    · rw [ha] at h; cases h
end Go.Proofs.YtaajmfgplhfncaaGreat

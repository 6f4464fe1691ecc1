/- CertificateRequest up to TLS 1.2, plainly: what is written is read. No program is named here. -/
import Derived.Test.YtddkjhlngofkaaaRqPlain
import Derived.Test.YtddkjhlngofkaaaOuts
import Derived.Test.YtddkjhlngofkaaaSpecW
namespace Go.Proofs.Ytddkjhlngofkaaa
set_option maxRecDepth 20000

def rqSigB (t : Rq) : List UInt8 := if t.has = true then be 2 (wordsB t.sig).length ++ wordsB t.sig else []
def rqBd (t : Rq) : List UInt8 := be 1 t.types.length ++ (t.types ++ (rqSigB t ++ (be 2 (vecsB 2 t.cas).length ++ vecsB 2 t.cas)))
def rqMsg (t : Rq) : List UInt8 := msgB 13 (rqBd t)
/-- what the reference writes -/
def rqW1 (t : Rq) : Wr := Wr.nil.vec 1 t.types
def rqW2 (t : Rq) : Wr := if t.has = true then (rqW1 t).inner 2 (wordsW t.sig) else rqW1 t
def rqWr (t : Rq) : Wr := (rqW2 t).inner 2 (vecsW 2 t.cas)
/-- the sizes of what fits -/
structure RqSm (t : Rq) : Prop where
  ts : t.types.length < 256
  sg : t.has = true → (wordsB t.sig).length < 65536
  ca : (vecsB 2 t.cas).length < 65536
  cx : ∀ x ∈ t.cas, x.length < 65536
theorem rqWr_b (t : Rq) : (rqWr t).b = rqBd t := by
  unfold rqWr rqW2 rqW1 rqBd rqSigB
  cases t.has <;> simp [Wr.inner, Wr.vec, Wr.nil, wordsW, vecsW]
theorem rqMsg_b (t : Rq) : (messageW 13 (rqWr t)).b = rqMsg t := by
  rw [messageW_msgB, rqWr_b]; rfl
theorem rq_small {t : Rq} (h : (messageW 13 (rqWr t)).bad = false) : RqSm t := by
  rw [messageW_msgB] at h
  have h := (Bool.or_eq_false_iff.1 h).1
  unfold rqWr at h
  simp only [Wr.inner, Wr.vec, vecsW, Bool.or_eq_false_iff] at h
  obtain ⟨⟨h1, h2⟩, h3⟩ := h
  have h3 : ¬ 65536 ≤ (vecsB 2 t.cas).length := of_decide_eq_false h3
  have hx : ∀ x ∈ t.cas, x.length < 65536 := by
    intro x hx
    unfold vecsBad at h2
    rw [List.any_eq_false] at h2
    have := h2 x hx
    simp only [decide_eq_true_eq] at this
    omega
  unfold rqW2 at h1
  cases hh : t.has with
  | true =>
    rw [hh, if_pos rfl] at h1
    simp only [rqW1, Wr.inner, Wr.vec, Wr.nil, wordsW, Bool.or_eq_false_iff] at h1
    obtain ⟨⟨⟨-, h4⟩, -⟩, h5⟩ := h1
    have h4 : ¬ 256 ≤ t.types.length := of_decide_eq_false h4
    have h5 : ¬ 65536 ≤ (wordsB t.sig).length := of_decide_eq_false h5
    exact ⟨by omega, fun _ => by omega, by omega, hx⟩
  | false =>
    rw [hh, if_neg (by decide)] at h1
    simp only [rqW1, Wr.vec, Wr.nil, Bool.or_eq_false_iff] at h1
    have h4 : ¬ 256 ≤ t.types.length := of_decide_eq_false h1.2
    exact ⟨by omega, fun e => absurd (hh.symm.trans e) (by decide), by omega, hx⟩
structure RqOk (t : Rq) : Prop where
  ts : t.types ≠ []
  sg : t.has = true ↔ t.sig ≠ []
  ca : ∀ x ∈ t.cas, x ≠ []
def rqRight (t : Rq) : Bool := (!t.types.isEmpty && (t.has == !t.sig.isEmpty)) && t.cas.all fun x => !x.isEmpty
theorem rqRight_iff {t : Rq} (h : rqRight t = true) : RqOk t := by
  unfold rqRight at h
  simp only [Bool.and_eq_true, beq_iff_eq, List.all_eq_true] at h
  obtain ⟨⟨h1, h2⟩, h3⟩ := h
  refine ⟨fun e => by rw [e] at h1; simp at h1, ?_, fun x hx e => by have := h3 x hx; rw [e] at this; simp at this⟩
  rw [h2]
  cases t.sig <;> simp
theorem rqBd_len {t : Rq} (h : RqSm t) : (rqBd t).length < 16777216 := by
  have h1 := h.ts
  have h3 := h.ca
  have h4 : (rqSigB t).length ≤ 65537 := by
    unfold rqSigB
    split
    · rename_i hh
      have := h.sg hh
      simp [be_len]; omega
    · simp
  unfold rqBd
  simp only [List.length_append, be_len]
  omega
theorem casP_vecsB : ∀ {ls : List (List UInt8)}, (∀ x ∈ ls, x.length < 65536) → casP (vecsB 2 ls) = some ls
  | [], _ => rfl
  | x :: ls, h => by
    have e : vecsB 2 (x :: ls) = be 2 x.length ++ x ++ vecsB 2 ls := by simp [vecsB]
    have hl : lp 2 (vecsB 2 (x :: ls)) = some (x, vecsB 2 ls) := by rw [e]; exact lp_be 2 x _ (beNat_be2 _ (h x (by simp)))
    rw [casP_step hl, casP_vecsB (fun y hy => h y (by simp [hy]))]
    rfl
theorem rq_back {t : Rq} (h : RqOk t) (hs : RqSm t) : rqRead t.has (rqMsg t) = some t := by
  have hl := rqBd_len hs
  have h1 : ((rqMsg t).drop 1).take 3 = be 3 (rqBd t).length := by unfold rqMsg msgB; simp [be]
  have hlen : (rqMsg t).length = 4 + (rqBd t).length := msgB_len 13 _
  have hp : 0 < (rqBd t).length := by unfold rqBd; simp [be_len]; omega
  unfold rqRead
  rw [if_neg (by omega), h1, beNat_be3 _ hl, if_pos (by omega)]
  have hd : (rqMsg t).drop 4 = rqBd t := msgB_drop 13 _
  rw [hd]
  have hL : lp 1 (rqBd t) = some (t.types, rqSigB t ++ (be 2 (vecsB 2 t.cas).length ++ vecsB 2 t.cas)) := by
    have := lp_be1 t.types (rqSigB t ++ (be 2 (vecsB 2 t.cas).length ++ vecsB 2 t.cas)) hs.ts
    rw [List.append_assoc] at this
    exact this
  rw [hL]
  have hc : rqCas (lp 2 (be 2 (vecsB 2 t.cas).length ++ vecsB 2 t.cas)) = some t.cas := by
    rw [lp_be2' _ hs.ca, rqCas_some, casP_vecsB hs.cx]
  obtain ⟨has, types, sig, cas⟩ := t
  cases types with
  | nil => exact absurd rfl h.ts
  | cons y ts =>
    show rqRest has (y :: ts) _ = _
    cases has with
    | false =>
      have hsg : sig = [] := by
        by_cases e : sig = []
        · exact e
        · exact absurd (h.sg.2 e) (by simp)
      show (rqCas (lp 2 _)).map _ = _
      have e : rqSigB ⟨false, y :: ts, sig, cas⟩ = [] := rfl
      rw [e, List.nil_append, hc, hsg]
      rfl
    | true =>
      have hs2 : (wordsB sig).length < 65536 := hs.sg rfl
      have e : rqSigB ⟨true, y :: ts, sig, cas⟩ = be 2 (wordsB sig).length ++ wordsB sig := rfl
      show rqSig (y :: ts) (lp 2 _) = _
      rw [e, lp_be 2 (wordsB sig) _ (beNat_be2 _ hs2), rqSig_some]
      have hne : sig ≠ [] := h.sg.1 rfl
      have hw : (wordsB sig).length = 2 * sig.length := wordsB_len sig
      have hpos := List.length_pos_iff.2 hne
      rw [if_neg (by
        intro hh
        rcases hh with hh | hh
        · rw [hh] at hw; simp at hw; omega
        · omega), hc, wordsOf_wordsB]
      rfl
end Go.Proofs.Ytddkjhlngofkaaa

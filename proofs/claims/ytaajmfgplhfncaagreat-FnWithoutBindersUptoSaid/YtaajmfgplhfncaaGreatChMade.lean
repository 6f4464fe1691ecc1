/- ClientHello, plainly: what the reference writes, and what the package makes. No function of the program is walked here. -/
import Derived.Test.YtaajmfgplhfncaaGreatChPlain
import Derived.Test.YtaajmfgplhfncaaGreatAddVal
namespace Go.Proofs.YtaajmfgplhfncaaGreat
set_option maxRecDepth 20000

/-- what the reference writes -/
def chHeadW (t : Ch) : Wr := ((((⟨(Wr.nil.num 2 t.vers.toNat).b ++ t.random, false⟩ : Wr).vec 1 t.sid).inner 2 (wordsW t.suites)).vec 1 t.comps)
def chW (t : Ch) (L : List Ex) : Wr := if L = [] then chHeadW t else behindW (chHeadW t) (exsW L)
theorem chHeadW_eq (t : Ch) : chHeadW t = ⟨chHeadB t, decide (256 ≤ t.sid.length) || decide (65536 ≤ (wordsB t.suites).length) || decide (256 ≤ t.comps.length)⟩ := by
  simp [chHeadW, chHeadB, Wr.num, Wr.vec, Wr.inner, Wr.nil, wordsW]
  rfl
theorem chW_eq (t : Ch) (L : List Ex) : chW t L = ⟨chBodyB t L, (decide (256 ≤ t.sid.length) || decide (65536 ≤ (wordsB t.suites).length) || decide (256 ≤ t.comps.length)) || decide (65536 ≤ (exsB L).length)⟩ := by
  unfold chW chBodyB
  by_cases h : L = []
  · rw [if_pos h, if_pos h, chHeadW_eq, h]; simp [exsB]
  · rw [if_neg h, if_neg h, chHeadW_eq]
    unfold behindW
    rw [exsW_short, exsW_eq]
    rfl
def chFits (t : Ch) : Bool := !(messageW 1 (chW t (chE t))).bad && !(chExtL t).bad
theorem chW_fine {t : Ch} (h : ChOk t) {L : List Ex} : (messageW 1 (chW t L)).bad = false ↔ (wordsB t.suites).length < 65536 ∧ t.comps.length < 256 ∧ (exsB L).length < 65536 := by
  have hb := chBodyB_len t L
  have h1 := h.r
  have h2 := h.s
  rw [messageW_msgB, chW_eq]
  simp only [Bool.or_eq_false_iff, decide_eq_false_iff_not]
  constructor
  · rintro ⟨⟨⟨⟨h3, h4⟩, h5⟩, h6⟩, h7⟩; exact ⟨by omega, by omega, by omega⟩
  · rintro ⟨h3, h4, h5⟩; exact ⟨⟨⟨⟨by omega, by omega⟩, by omega⟩, by omega⟩, by omega⟩
theorem chFits_iff {t : Ch} (h : ChOk t) : chFits t = true ↔ (chExtL t).bad = false ∧ (wordsB t.suites).length < 65536 ∧ t.comps.length < 256 ∧ (exsB (chE t)).length < 65536 := by
  unfold chFits
  rw [Bool.and_eq_true, Bool.not_eq_true', Bool.not_eq_true', chW_fine h]
  exact ⟨fun ⟨h1, h2⟩ => ⟨h2, h1⟩, fun ⟨h1, h2⟩ => ⟨h2, h1⟩⟩
theorem ChOk.head {t : Ch} (h : ChOk t) (h1 : (wordsB t.suites).length < 65536) (h2 : t.comps.length < 256) : ChHead t := ⟨h.r, h.s, h.u, h1, h.c, h2, h.sg⟩
/-- what is written is read, in whatever right order -/
theorem ch_form {t : Ch} (h : ChOk t) (hb : (chExtL t).bad = false) {L : List Ex} (hW : (messageW 1 (chW t L)).bad = false) (hL : ListsE (chE t) L) (hp : PskLast L) : ChForm (chMsg t L) t L { t with exs := L.map (·.1) } := by
  obtain ⟨h1, h2, h3⟩ := (chW_fine h).1 hW
  exact ⟨rfl, h.head h1 h2, h3, ch_run h (ch_small hb) hL hp⟩
theorem ch_made {t : Ch} (h : ChOk t) (hf : chFits t = true) : ChForm (chMsg t (chPE t)) t (chPE t) { t with exs := (chPE t).map (·.1) } := by
  obtain ⟨h1, h2, h3, h4⟩ := (chFits_iff h).1 hf
  exact ⟨rfl, h.head h2 h3, by rw [chPE_len]; exact h4, ch_run h (ch_small h1) ((ListsE.self (chE_nodup t)).perm (chPE_perm t)) (chPE_last t)⟩
/-- what the package makes -/
def chOut (t : Ch) : Option (List UInt8) := itemsOut (chPkg t) (some [])
def chBodyO (t : Ch) (xs : List UInt8) : Option (List UInt8) := app (some (be 2 t.vers.toNat)) (app (ablOut 32 t.random) (app (lpOut 1 (some t.sid)) (app (lpOut 2 (some (wordsB t.suites))) (app (lpOut 1 (some t.comps)) (condOut (decide (0 < xs.length)) (lpOut 2 (some xs)))))))
def chMake (t : Ch) : Option (List UInt8) := (chOut t).bind fun xs => app (some [UInt8.ofNat 1]) (lpOut 3 (chBodyO t xs))
theorem chOut_eq (t : Ch) : chOut t = if itemsBad (chItems t) || exsBad (chPE t) then none else some (exsB (chPE t)) := by
  unfold chOut
  rw [← outL_nil, itemsOut_outL]
  unfold outL ofW
  rw [adds_l, adds_bad, itemsBad_perm (chPkg_perm t)]
  rfl
theorem lpOut_in {n : Nat} {x : List UInt8} (h : x.length < 256 ^ n) : lpOut n (some x) = some (be n x.length ++ x) := by show (if _ then _ else _) = _; rw [if_pos h]
theorem lpOut_out {n : Nat} {x : List UInt8} (h : ¬ x.length < 256 ^ n) : lpOut n (some x) = none := by show (if _ then _ else _) = _; rw [if_neg h]
theorem app_none_l (o : Option (List UInt8)) : app none o = none := by cases o <;> rfl
theorem app_none_r (o : Option (List UInt8)) : app o none = none := by cases o <;> rfl
theorem chBodyO_eq (t : Ch) (h : ChOk t) (xs : List UInt8) : chBodyO t xs = if (wordsB t.suites).length < 65536 ∧ t.comps.length < 256 ∧ xs.length < 65536 then some (chHeadB t ++ (if xs = [] then [] else be 2 xs.length ++ xs)) else none := by
  have hs := h.s
  have hr : ablOut 32 t.random = some t.random := ablOut_ok h.r
  unfold chBodyO
  rw [lpOut_in (n := 1) (x := t.sid) (by omega), hr]
  by_cases h1 : (wordsB t.suites).length < 65536
  · rw [lpOut_in (n := 2) (x := wordsB t.suites) (by omega)]
    by_cases h2 : t.comps.length < 256
    · rw [lpOut_in (n := 1) (x := t.comps) (by omega)]
      by_cases h0 : xs = []
      · subst h0
        rw [if_pos ⟨h1, h2, by simp⟩, if_pos rfl]
        simp [condOut, app, chHeadB]
      · have hp : decide (0 < xs.length) = true := decide_eq_true (List.length_pos_iff.2 h0)
        rw [hp, if_neg h0, condOut_true]
        by_cases hx : xs.length < 65536
        · rw [if_pos ⟨h1, h2, hx⟩, lpOut_in (n := 2) (x := xs) (by omega)]
          simp [app, chHeadB]
        · rw [if_neg (fun h => hx h.2.2), lpOut_out (n := 2) (x := xs) (by omega)]
          simp [app]
    · rw [if_neg (fun h => h2 h.2.1), lpOut_out (n := 1) (x := t.comps) (by omega)]
      simp [app]
  · rw [if_neg (fun h => h1 h.1), lpOut_out (n := 2) (x := wordsB t.suites) (by omega)]
    simp [app]
theorem lpOut_none (n : Nat) : lpOut n none = none := rfl
theorem chMake_eq {t : Ch} (h : ChOk t) : chMake t = if chFits t then some (chMsg t (chPE t)) else none := by
  have hl := chPE_len t
  have h1 := h.r
  have h2 := h.s
  have key : ∀ xs, xs = exsB (chPE t) → (wordsB t.suites).length < 65536 → t.comps.length < 256 → xs.length < 65536 → app (some [UInt8.ofNat 1]) (lpOut 3 (chBodyO t xs)) = some (chMsg t (chPE t)) := by
    intro xs hx h3 h4 hlt
    rw [chBodyO_eq t h, if_pos ⟨h3, h4, hlt⟩]
    have hb : chHeadB t ++ (if xs = [] then [] else be 2 xs.length ++ xs) = chBodyB t (chPE t) := by
      unfold chBodyB
      congr 1
      have hn := exsB_nil_iff (chPE t)
      rw [← hx] at hn
      by_cases h0 : xs = []
      · rw [if_pos h0, if_pos (hn.1 (by rw [h0]; rfl))]
      · rw [if_neg h0, if_neg (fun hh => h0 (List.eq_nil_of_length_eq_zero (hn.2 hh)))]
        unfold blkB
        rw [hx]
    rw [hb]
    have hlen := chBodyB_len t (chPE t)
    rw [← hx] at hlen
    rw [lpOut_in (n := 3) (by omega)]
    simp [app, chMsg, msgB, be]
  unfold chMake
  rw [chOut_eq]
  by_cases hf : chFits t = true
  · rw [if_pos hf]
    obtain ⟨h3, h4, h5, h6⟩ := (chFits_iff h).1 hf
    rw [chBad_eq] at h3
    rw [h3, exsB_short _ (by omega)]
    exact key _ rfl h4 h5 (by omega)
  · rw [if_neg hf]
    by_cases h3 : itemsBad (chItems t) = true
    · rw [h3]; rfl
    · have h3 : itemsBad (chItems t) = false := by simpa using h3
      by_cases h4 : exsBad (chPE t) = true
      · rw [h3, h4]; rfl
      · have h4 : exsBad (chPE t) = false := by simpa using h4
        rw [h3, h4]
        show app (some [UInt8.ofNat 1]) (lpOut 3 (chBodyO t (exsB (chPE t)))) = none
        rw [chBodyO_eq t h, if_neg (fun hh => hf ((chFits_iff h).2 ⟨by rw [chBad_eq]; exact h3, hh.1, hh.2.1, by omega⟩))]
        simp [lpOut, app]
/-- a random of another length -/
theorem chMake_random {t : Ch} (h : t.random.length ≠ 32) : chMake t = none := by
  unfold chMake
  cases chOut t with
  | none => rfl
  | some xs =>
    show app _ (lpOut 3 (chBodyO t xs)) = none
    have : chBodyO t xs = none := by
      unfold chBodyO
      have hr : ablOut 32 t.random = none := by unfold ablOut; rw [if_neg h]
      rw [hr, app_none_l, app_none_r]
    rw [this, lpOut_none, app_none_r]
/-- the binders stand within what is made -/
theorem ch_binders {t : Ch} (h : ChOk t) (hp : t.pl ≠ []) : 2 + (vecsB 1 t.pb).length ≤ (chMsg t (chPE t)).length := by
  have hm : (41, (behindW (Wr.vector 2 (identsW (chPs t))) (Wr.vector 2 (vecsW 1 t.pb))).b) ∈ chE t := (chE_mem t _).2 (.inr (.inr (.inr (.inr (.inr (.inr (.inr (.inr (.inr (.inr (.inr (.inr (.inr (.inr (.inr (.inr (.inr (.inr ⟨hp, rfl⟩))))))))))))))))))
  have hmp := (chPE_perm t).mem_iff.2 hm
  have hne : chPE t ≠ [] := fun e => by rw [e] at hmp; cases hmp
  have h1 : ∀ (L : List Ex) (e : Ex), e ∈ L → e.2.length ≤ (exsB L).length := by
    intro L e he
    induction L with
    | nil => cases he
    | cons x L ih =>
      rw [exsB_cons, List.length_append, exB_len]
      rcases List.mem_cons.1 he with rfl | he
      · omega
      · have := ih he; omega
  have h2 := h1 _ _ hmp
  have h3 : ((behindW (Wr.vector 2 (identsW (chPs t))) (Wr.vector 2 (vecsW 1 t.pb))).b).length = (Wr.vector 2 (identsW (chPs t))).b.length + (2 + (vecsB 1 t.pb).length) := by
    show ((Wr.vector 2 _).b ++ (Wr.vector 2 _).b).length = _
    rw [List.length_append, vector_b 2 (vecsW 1 t.pb), List.length_append, be_len]
    rfl
  have h3 : (Wr.vector 2 (identsW (chPs t))).b.length + (2 + (vecsB 1 t.pb).length) ≤ (exsB (chPE t)).length := by rw [← h3]; exact h2
  unfold chMsg
  rw [msgB_len]
  unfold chBodyB
  rw [if_neg hne, List.length_append]
  unfold blkB
  rw [List.length_append]
  omega
end Go.Proofs.YtaajmfgplhfncaaGreat

/- CertificateRequest of TLS 1.3, plainly: what is made is read; what is read can be made. -/
import Derived.Test.YtddkjhlngofkaaaCqW
import Derived.Test.YtddkjhlngofkaaaCqM2
import Derived.Test.YtddkjhlngofkaaaListsB
namespace Go.Proofs.Ytddkjhlngofkaaa
set_option maxRecDepth 20000

/-- its extensions -/
def cqE (t : Cq) : List Ex := (cqExtL t).l
def cqMsg (L : List Ex) : List UInt8 := msgB 13 (0 :: blkB L)
/-- what the reference writes -/
def cqW (L : List Ex) : Wr := behindW ⟨[0], false⟩ (exsW L)
theorem ofW_words (l : List UInt16) : ofW (wordsW l) = some (wordsB l) := rfl
theorem cqOut_eq (t : Cq) : cqOut t = outL (cqExtL t) := by
  unfold cqOut cqExtL
  simp only [outL_add, outL_nil, app_assoc]
  simp only [← lpOut_ofW, ofW_words, ofW_nil]
  show _ = app (some []) _
  have h0 : ∀ o, app (some []) o = o := by intro o; cases o <;> simp [app]
  rw [h0]
  rfl
def cqFits (t : Cq) : Bool := !(messageW 13 (cqW (cqE t))).bad && !(cqExtL t).bad
theorem cqW_eq (L : List Ex) : cqW L = ⟨0 :: blkB L, decide (65536 ≤ (exsB L).length)⟩ := by
  unfold cqW behindW
  rw [Bool.false_or, exsW_short, exsW_eq]
  rfl
theorem cqFits_iff (t : Cq) : cqFits t = true ↔ (cqExtL t).bad = false ∧ (exsB (cqE t)).length < 65536 := by
  unfold cqFits
  rw [messageW_msgB, cqW_eq]
  simp only [blkB, List.length_cons, List.length_append, be_len, Bool.and_eq_true, Bool.not_eq_true', Bool.or_eq_false_iff, decide_eq_false_iff_not]
  constructor
  · rintro ⟨⟨h1, h2⟩, h3⟩; exact ⟨h3, by omega⟩
  · rintro ⟨h1, h2⟩; exact ⟨⟨by omega, by omega⟩, h1⟩
theorem cqMake_eq (t : Cq) : cqMake t = if cqFits t then some (cqMsg (cqE t)) else none := by
  unfold cqMake
  have h0 : (some [UInt8.ofNat 0] : Option (List UInt8)) = ofW ⟨[0], false⟩ := rfl
  rw [cqOut_eq, lp2_outL, h0, app_ofW, message_out]
  have hb : behindW ⟨[0], false⟩ ⟨(exsW (cqExtL t).l).b, (exsW (cqExtL t).l).bad || (cqExtL t).bad⟩ = ⟨0 :: blkB (cqE t), decide (65536 ≤ (exsB (cqE t)).length) || (cqExtL t).bad⟩ := by
    unfold behindW
    rw [Bool.false_or, exsW_short, exsW_eq]
    rfl
  rw [hb, messageW_msgB]
  by_cases hf : cqFits t = true
  · rw [if_pos hf]
    obtain ⟨h1, h2⟩ := (cqFits_iff t).1 hf
    rw [ofW_some]
    · rfl
    · simp only [h1, blkB, List.length_cons, List.length_append, be_len, Bool.or_false, Bool.or_eq_false_iff, decide_eq_false_iff_not]
      omega
  · rw [if_neg hf, ofW_none]
    simp only [Bool.or_eq_true, decide_eq_true_eq]
    by_cases h1 : (cqExtL t).bad = true
    · exact .inl (.inr h1)
    · by_cases h2 : (exsB (cqE t)).length < 65536
      · exact absurd ((cqFits_iff t).2 ⟨by simpa using h1, h2⟩) hf
      · exact .inl (.inl (by omega))
theorem cqE_keys (t : Cq) : ((cqE t).map (·.1)).Sublist [5, 18, 13, 50, 47] :=
  keys_add (keys_add (keys_add (keys_add (keys_add (s := LW.nil) (ks := []) (List.Sublist.refl _) _ _ _) _ _ _) _ _ _) _ _ _) _ _ _
theorem cqE_nodup (t : Cq) : ((cqE t).map (·.1)).Nodup := (cqE_keys t).nodup (by decide)
theorem cqE_low (t : Cq) (e : Ex) (he : e ∈ (cqExtL t).l) : e.1.toNat < 43520 ∨ 44520 ≤ e.1.toNat := by
  have h := (cqE_keys t).subset (List.mem_map_of_mem he)
  simp only [List.mem_cons, List.not_mem_nil, or_false] at h
  rcases h with h | h | h | h | h <;> rw [h] <;> decide
theorem exsB_sub : ∀ (E L : List Ex), E.Nodup → (∀ e ∈ E, e ∈ L) → (exsB E).length ≤ (exsB L).length
  | [], L, _, _ => by simp [exsB]
  | e :: E, L, hn, h => by
    rw [List.nodup_cons] at hn
    have hp := List.perm_cons_erase (h e (by simp))
    have ih := exsB_sub E (L.erase e) hn.2 (fun x hx => (List.mem_erase_of_ne (by rintro rfl; exact hn.1 hx)).2 (h x (by simp [hx])))
    rw [exsB_perm hp, exsB_cons, exsB_cons, List.length_append, List.length_append]
    omega
theorem ListsE.size {E L : List Ex} (hn : (E.map (·.1)).Nodup) (h : ListsE E L) : (exsB E).length ≤ (exsB L).length :=
  exsB_sub E L (List.Pairwise.of_map _ (fun a b hab e => hab (by rw [e])) hn) h.2.2
theorem cq_wb (l : List UInt16) : (Wr.vector 2 (wordsW l)).b = be 2 (wordsB l).length ++ wordsB l := by
  simp [Wr.vector, Wr.inner, Wr.vec, Wr.nil, wordsW]
theorem cq_vb (ls : List (List UInt8)) : (Wr.vector 2 (vecsW 2 ls)).b = be 2 (vecsB 2 ls).length ++ vecsB 2 ls := by
  simp [Wr.vector, Wr.inner, Wr.vec, Wr.nil, vecsW]
theorem cqE_mem (t : Cq) (e : Ex) : e ∈ cqE t ↔ (((((t.ocsp = true ∧ e = (5, [])) ∨ (t.scts = true ∧ e = (18, []))) ∨ (decide (0 < t.sig.length) = true ∧ e = (13, (Wr.vector 2 (wordsW t.sig)).b))) ∨ (decide (0 < t.sigc.length) = true ∧ e = (50, (Wr.vector 2 (wordsW t.sigc)).b))) ∨ (decide (0 < t.cas.length) = true ∧ e = (47, (Wr.vector 2 (vecsW 2 t.cas)).b))) := by
  unfold cqE cqExtL
  simp only [mem_add, mem_nil, false_or]
  rfl
theorem cqSz (t : Cq) : (exsB (cqE t)).length = bz t.ocsp 4 + bz t.scts 4 + bz (decide (0 < t.sig.length)) (6 + 2 * t.sig.length) + bz (decide (0 < t.sigc.length)) (6 + 2 * t.sigc.length) + bz (decide (0 < t.cas.length)) (6 + (vecsB 2 t.cas).length) := by
  unfold cqE cqExtL
  simp only [size_add, cq_wb, cq_vb, wordsB_len, List.length_append, be_len, Wr.nil, List.length_nil, LW.nil, exsB_nil, Nat.add_zero]
  have h1 : ∀ n, 4 + (2 + n) = 6 + n := by omega
  rw [h1, h1, h1]
  omega
/-- what the law calls right -/
def cqRight (t : Cq) : Bool := t.cas.all fun x => !x.isEmpty
theorem cqRight_iff {t : Cq} (h : cqRight t = true) : ∀ x ∈ t.cas, x ≠ [] := by
  intro x hx e
  have := List.all_eq_true.1 h x hx
  rw [e] at this
  cases this
/-- the vectors of a message that fits -/
theorem cq_vecs (t : Cq) (hr : ∀ x ∈ t.cas, x ≠ []) (hz : (exsB (cqE t)).length < 65536) :
    (0 < t.sig.length → wordsP 2 (Wr.vector 2 (wordsW t.sig)).b = some t.sig) ∧ (0 < t.sigc.length → wordsP 2 (Wr.vector 2 (wordsW t.sigc)).b = some t.sigc) ∧ (0 < t.cas.length → listsP 2 2 (Wr.vector 2 (vecsW 2 t.cas)).b = some t.cas) := by
  rw [cqSz] at hz
  refine ⟨fun h => ?_, fun h => ?_, fun h => ?_⟩
  · rw [decide_eq_true h, bz_true] at hz
    rw [cq_wb]
    exact wordsP_be (List.length_pos_iff.1 h) (by omega)
  · rw [show decide (0 < t.sigc.length) = true from decide_eq_true h, bz_true] at hz
    rw [cq_wb]
    exact wordsP_be (List.length_pos_iff.1 h) (by omega)
  · rw [show decide (0 < t.cas.length) = true from decide_eq_true h, bz_true] at hz
    rw [cq_vb]
    exact listsP_be (List.length_pos_iff.1 h) hr (by omega)
/-- right extensions give the message -/
theorem cq_run (t : Cq) (hr : ∀ x ∈ t.cas, x ≠ []) (hz : (exsB (cqE t)).length < 65536) {L : List Ex} (hL : ListsE (cqE t) L) : runE cqStep L Cq.zero = some t := by
  obtain ⟨v2, v3, v4⟩ := cq_vecs t hr hz
  refine runE_rightF cqStep (cqE t) (fun S => ⟨S 5 && t.ocsp, S 18 && t.scts, if S 13 then t.sig else [], if S 50 then t.sigc else [], if S 47 then t.cas else []⟩) t ?_ ?_ ?_ hL
  · intro S e he hS
    rcases (cqE_mem t e).1 he with (((⟨h, rfl⟩ | ⟨h, rfl⟩) | ⟨h, rfl⟩) | ⟨h, rfl⟩) | ⟨h, rfl⟩
    · unfold cqStep
      simp [Cq.setOcsp, h]
    · unfold cqStep
      simp [Cq.setScts, h]
    · have hS : S 13 = false := hS
      unfold cqStep
      simp [v2 (of_decide_eq_true h), Cq.setSig, hS]
    · have hS : S 50 = false := hS
      unfold cqStep
      simp [v3 (of_decide_eq_true h), Cq.setSigc, hS]
    · have hS : S 47 = false := hS
      unfold cqStep
      simp [v4 (of_decide_eq_true h), Cq.setCas, hS]
  · intro S e h1 h2
    have hne : ∀ k : UInt16, k.toNat < 43520 ∨ 44520 ≤ k.toNat → ¬ e.1 = k := by
      intro k hk he; rw [he] at h1 h2; omega
    unfold cqStep
    rw [if_neg (hne 5 (by decide)), if_neg (hne 18 (by decide)), if_neg (hne 13 (by decide)), if_neg (hne 50 (by decide)), if_neg (hne 47 (by decide))]
  · intro S hS
    have s1 : t.ocsp = true → S 5 = true := fun h => hS (5, _) ((cqE_mem t _).2 (.inl (.inl (.inl (.inl ⟨h, rfl⟩)))))
    have s2 : t.scts = true → S 18 = true := fun h => hS (18, _) ((cqE_mem t _).2 (.inl (.inl (.inl (.inr ⟨h, rfl⟩)))))
    have s3 : t.sig ≠ [] → S 13 = true := fun h => hS (13, _) ((cqE_mem t _).2 (.inl (.inl (.inr ⟨decide_eq_true (List.length_pos_iff.2 h), rfl⟩))))
    have s4 : t.sigc ≠ [] → S 50 = true := fun h => hS (50, _) ((cqE_mem t _).2 (.inl (.inr ⟨decide_eq_true (List.length_pos_iff.2 h), rfl⟩)))
    have s5 : t.cas ≠ [] → S 47 = true := fun h => hS (47, _) ((cqE_mem t _).2 (.inr ⟨decide_eq_true (List.length_pos_iff.2 h), rfl⟩))
    obtain ⟨a, b, c, d, e⟩ := t
    simp only at s1 s2 s3 s4 s5
    have e1 : (S 5 && a) = a := by cases a <;> simp_all
    have e2 : (S 18 && b) = b := by cases b <;> simp_all
    have e3 : (if S 13 = true then c else []) = c := by
      by_cases h : c = []
      · subst h; simp
      · rw [if_pos (s3 h)]
    have e4 : (if S 50 = true then d else []) = d := by
      by_cases h : d = []
      · subst h; simp
      · rw [if_pos (s4 h)]
    have e5 : (if S 47 = true then e else []) = e := by
      by_cases h : e = []
      · subst h; simp
      · rw [if_pos (s5 h)]
    simp only [e1, e2, e3, e4, e5]
theorem cqRead_msg (L : List Ex) (h : (exsB L).length < 65536) : cqRead (cqMsg L) = runE cqStep L Cq.zero := by
  unfold cqRead cqMsg
  rw [if_neg (by rw [msgB_len]; omega), msgB_drop]
  have h1 : lp 1 (0 :: blkB L) = some ([], blkB L) := lp_be 1 [] (blkB L) rfl
  rw [h1]
  exact lastB_blkB _ _ _ h
/-- a message that is made is read back -/
theorem cq_back (t : Cq) (hr : ∀ x ∈ t.cas, x ≠ []) (hf : cqFits t = true) : cqRead (cqMsg (cqE t)) = some t := by
  obtain ⟨h1, h2⟩ := (cqFits_iff t).1 hf
  rw [cqRead_msg _ h2]
  exact cq_run t hr h2 (ListsE.self (cqE_nodup t))
theorem cq_conv (e : Ex) (m m' : Cq) (hk : e.1 = 5 ∨ e.1 = 18 ∨ e.1 = 13 ∨ e.1 = 50 ∨ e.1 = 47) (hf : cqFresh m e.1) (h : cqStep m e = some m') : (cqRd m e.1 ⟨e.2, 0⟩).1 = m' ∧ (cqRd m e.1 ⟨e.2, 0⟩).2.fin.code = 0 := by
  obtain ⟨k, d⟩ := e
  obtain ⟨f1, f2, f3⟩ := hf
  dsimp only at hk f1 f2 f3 ⊢
  rcases hk with rfl | rfl | rfl | rfl | rfl
  · have h : (if d = [] then some m.setOcsp else none) = some m' := h
    split at h
    · rename_i hd; injection h with h; rw [hd]; exact ⟨h, rfl⟩
    · cases h
  · have h : (if d = [] then some m.setScts else none) = some m' := h
    split at h
    · rename_i hd; injection h with h; rw [hd]; exact ⟨h, rfl⟩
    · cases h
  · have h : (wordsP 2 d).map (fun l => m.setSig (m.sig ++ l)) = some m' := h
    rcases hw : wordsP 2 d with _ | l
    · rw [hw] at h; cases h
    · rw [hw] at h; injection h with h
      have e : cqRd m 13 ⟨d, 0⟩ = (m.setSig ((R.mk d 0).wordsV 2 65535).1, ((R.mk d 0).wordsV 2 65535).2) := rfl
      rw [e, wordsV_ok (by decide) hw]
      rw [f1 rfl] at h
      exact ⟨h, rfl⟩
  · have h : (wordsP 2 d).map (fun l => m.setSigc (m.sigc ++ l)) = some m' := h
    rcases hw : wordsP 2 d with _ | l
    · rw [hw] at h; cases h
    · rw [hw] at h; injection h with h
      have e : cqRd m 50 ⟨d, 0⟩ = (m.setSigc ((R.mk d 0).wordsV 2 65535).1, ((R.mk d 0).wordsV 2 65535).2) := rfl
      rw [e, wordsV_ok (by decide) hw]
      rw [f2 rfl] at h
      exact ⟨h, rfl⟩
  · have h : (listsP 2 2 d).map (fun l => m.setCas (m.cas ++ l)) = some m' := h
    rcases hw : listsP 2 2 d with _ | l
    · rw [hw] at h; cases h
    · rw [hw] at h; injection h with h
      have e : cqRd m 47 ⟨d, 0⟩ = (m.setCas ((R.mk d 0).listsV 2 3 65535 2).1, ((R.mk d 0).listsV 2 3 65535 2).2) := rfl
      rw [e, listsV_ok (by decide) (by decide) (by decide) hw]
      rw [f3 rfl] at h
      exact ⟨h, rfl⟩
theorem cqSpec_msg (L : List Ex) (h : (exsB L).length < 65536) (hn : (L.map (·.1)).Nodup) : cqSpec (cqMsg L) = specE cqRd L (Cq.zero, ⟨[], 0⟩) := by
  have hS : cqS (cqMsg L) = ⟨blkB L, 0⟩ := by
    unfold cqS cqMsg R.context
    rw [msgB_body 13 (by omega) _ (by unfold blkB; simp [be_len]; omega)]
    have h1 : lp 1 (0 :: blkB L) = some ([], blkB L) := lp_be 1 [] (blkB L) rfl
    rw [R.vec_some h1, R.rng_in (by simp) (by simp)]
    rfl
  unfold cqSpec
  rw [hS]
  exact spec_blkB cqRd _ L h hn
/-- what is made is, by the reference, this message -/
theorem cq_made (t : Cq) (hr : ∀ x ∈ t.cas, x ≠ []) (hf : cqFits t = true) : cqSpec (cqMsg (cqE t)) = (t, ⟨[], 0⟩) := by
  obtain ⟨h1, h2⟩ := (cqFits_iff t).1 hf
  rw [cqSpec_msg _ h2 (cqE_nodup t)]
  refine specE_convF cqRd cqStep cqFresh _ (cqE_nodup t) ?_ cq_fresh _ _ (fun e _ => cq_zero e.1) _ (cq_run t hr h2 (ListsE.self (cqE_nodup t)))
  intro e he m m' hf hs
  have hk := (cqE_keys t).subset (List.mem_map_of_mem he)
  simp only [List.mem_cons, List.not_mem_nil, or_false] at hk
  exact cq_conv e m m' hk hf hs
theorem wr_vbad (x : Wr) : (Wr.vector 2 x).bad = (x.bad || decide (65536 ≤ x.b.length)) := by
  simp [Wr.vector, Wr.inner, Wr.vec, Wr.nil]
theorem cq_bad (t : Cq) (hz : (exsB (cqE t)).length < 65536) : (cqExtL t).bad = false := by
  rw [cqSz] at hz
  have h2 : (decide (0 < t.sig.length) && (Wr.vector 2 (wordsW t.sig)).bad) = false := by
    by_cases h : 0 < t.sig.length
    · rw [decide_eq_true h, bz_true] at hz
      rw [wr_vbad, decide_eq_true h, Bool.true_and]
      show (false || decide (65536 ≤ (wordsB t.sig).length)) = false
      rw [wordsB_len, Bool.false_or, decide_eq_false_iff_not]
      omega
    · rw [decide_eq_false h, Bool.false_and]
  have h3 : (decide (0 < t.sigc.length) && (Wr.vector 2 (wordsW t.sigc)).bad) = false := by
    by_cases h : 0 < t.sigc.length
    · rw [show decide (0 < t.sigc.length) = true from decide_eq_true h, bz_true] at hz
      rw [wr_vbad, decide_eq_true h, Bool.true_and]
      show (false || decide (65536 ≤ (wordsB t.sigc).length)) = false
      rw [wordsB_len, Bool.false_or, decide_eq_false_iff_not]
      omega
    · rw [decide_eq_false h, Bool.false_and]
  have h4 : (decide (0 < t.cas.length) && (Wr.vector 2 (vecsW 2 t.cas)).bad) = false := by
    by_cases h : 0 < t.cas.length
    · rw [show decide (0 < t.cas.length) = true from decide_eq_true h, bz_true] at hz
      rw [wr_vbad, decide_eq_true h, Bool.true_and]
      show (vecsBad 2 t.cas || decide (65536 ≤ (vecsB 2 t.cas).length)) = false
      rw [Bool.or_eq_false_iff, decide_eq_false_iff_not]
      refine ⟨?_, by omega⟩
      unfold vecsBad
      rw [List.any_eq_false]
      intro x hx
      obtain ⟨k, hk, rfl⟩ := List.getElem_of_mem hx
      have := vecsB_get 2 t.cas k hk
      simp
      omega
    · rw [decide_eq_false h, Bool.false_and]
  unfold cqExtL
  simp only [bad_add, h2, h3, h4, Wr.nil, LW.nil, Bool.and_false, Bool.or_false]
theorem pos_isEmptyG {α : Type} (xs : List α) : decide (0 < xs.length) = !xs.isEmpty := by cases xs <;> simp
theorem cqSz' (t : Cq) : (exsB (cqE t)).length = bz t.ocsp 4 + bz t.scts 4 + bz (!t.sig.isEmpty) (6 + 2 * t.sig.length) + bz (!t.sigc.isEmpty) (6 + 2 * t.sigc.length) + bz (!t.cas.isEmpty) (6 + (vecsB 2 t.cas).length) := by
  rw [cqSz, pos_isEmptyG, pos_isEmptyG, pos_isEmptyG]
theorem bz_growW (a b : List UInt16) : bz (!(a ++ b).isEmpty) (6 + 2 * (a ++ b).length) ≤ bz (!a.isEmpty) (6 + 2 * a.length) + 6 + 2 * b.length := by
  have := bz_le (!(a ++ b).isEmpty) (6 + 2 * (a ++ b).length)
  cases a with
  | nil => rw [List.nil_append] at this ⊢; omega
  | cons x a => rw [show (!(x :: a).isEmpty) = true from rfl, bz_true]; rw [List.length_append] at this ⊢; omega
theorem bz_growL (a b : List (List UInt8)) : bz (!(a ++ b).isEmpty) (6 + (vecsB 2 (a ++ b)).length) ≤ bz (!a.isEmpty) (6 + (vecsB 2 a).length) + 6 + (vecsB 2 b).length := by
  have e : (vecsB 2 (a ++ b)).length = (vecsB 2 a).length + (vecsB 2 b).length := by simp [vecsB]
  have := bz_le (!(a ++ b).isEmpty) (6 + (vecsB 2 (a ++ b)).length)
  cases a with
  | nil => rw [List.nil_append] at this ⊢; omega
  | cons x a => rw [show (!(x :: a).isEmpty) = true from rfl, bz_true]; omega
/-- what is read can be made -/
theorem cqRead_fits {data : List UInt8} {t : Cq} (h : cqRead data = some t) : (∀ x ∈ t.cas, x ≠ []) ∧ (exsB (cqE t)).length < 65536 := by
  unfold cqRead at h
  split at h
  · cases h
  rcases ha : lp 1 (data.drop 4) with _ | ⟨_ | ⟨y, x⟩, d⟩
  · rw [ha] at h; cases h
  · rw [ha] at h
    have h : lastB cqStep Cq.zero d = some t := h
    obtain ⟨l, hl, hb⟩ := lastB_run h
    have i1 := runE_inv cqStep (fun m => ∀ x ∈ m.cas, x ≠ []) (by
      rintro m ⟨k, d⟩ m' q1 hs
      unfold cqStep at hs
      simp only at hs
      split at hs
      · split at hs
        · injection hs with hs; subst hs; exact q1
        · cases hs
      · split at hs
        · split at hs
          · injection hs with hs; subst hs; exact q1
          · cases hs
        · split at hs
          · rcases hx : wordsP 2 d with _ | p
            · rw [hx] at hs; cases hs
            · rw [hx] at hs; injection hs with hs; subst hs; exact q1
          · split at hs
            · rcases hx : wordsP 2 d with _ | p
              · rw [hx] at hs; cases hs
              · rw [hx] at hs; injection hs with hs; subst hs; exact q1
            · split at hs
              · rcases hx : listsP 2 2 d with _ | p
                · rw [hx] at hs; cases hs
                · rw [hx] at hs; injection hs with hs; subst hs
                  intro x hm
                  rcases List.mem_append.1 hm with hm | hm
                  · exact q1 x hm
                  · exact (listsP_len hx).2.2 x hm
              · injection hs with hs; subst hs; exact q1) l Cq.zero t (by simp [Cq.zero]) hl
    have i2 := runE_size cqStep (fun m => (exsB (cqE m)).length) (by
      rintro m ⟨k, d⟩ m' hs
      simp only [cqSz']
      unfold cqStep at hs
      simp only at hs
      split at hs
      · split at hs
        · injection hs with hs; subst hs; simp only [Cq.setOcsp, bz_true]; omega
        · cases hs
      · split at hs
        · split at hs
          · injection hs with hs; subst hs; simp only [Cq.setScts, bz_true]; omega
          · cases hs
        · split at hs
          · rcases hx : wordsP 2 d with _ | p
            · rw [hx] at hs; cases hs
            · rw [hx] at hs; injection hs with hs; subst hs
              have := (wordsP_len hx).1
              have := bz_growW m.sig p
              simp only [Cq.setSig]
              omega
          · split at hs
            · rcases hx : wordsP 2 d with _ | p
              · rw [hx] at hs; cases hs
              · rw [hx] at hs; injection hs with hs; subst hs
                have := (wordsP_len hx).1
                have := bz_growW m.sigc p
                simp only [Cq.setSigc]
                omega
            · split at hs
              · rcases hx : listsP 2 2 d with _ | p
                · rw [hx] at hs; cases hs
                · rw [hx] at hs; injection hs with hs; subst hs
                  have := (listsP_len hx).1
                  have := bz_growL m.cas p
                  simp only [Cq.setCas]
                  omega
              · injection hs with hs; subst hs; omega) l Cq.zero t hl
    have z : (exsB (cqE Cq.zero)).length = 0 := by rw [cqSz]; rfl
    exact ⟨i1, by omega⟩
  · rw [ha] at h; cases h
/-- the sizes of which the law speaks -/
def CqSz (t : Cq) : Prop := t.sig.length ≤ 2147483647 ∧ t.sigc.length ≤ 2147483647 ∧ (vecsB 2 t.cas).length ≤ 549755813888
theorem cqRead_all {data : List UInt8} {t : Cq} (h : cqRead data = some t) : cqRight t = true ∧ CqSz t ∧ cqFits t = true := by
  obtain ⟨h1, h2⟩ := cqRead_fits h
  refine ⟨?_, ?_, (cqFits_iff t).2 ⟨cq_bad t h2, h2⟩⟩
  · unfold cqRight
    rw [List.all_eq_true]
    intro x hx
    have := h1 x hx
    cases x with
    | nil => exact absurd rfl this
    | cons y x => rfl
  · rw [cqSz] at h2
    refine ⟨?_, ?_, ?_⟩
    · by_cases h : 0 < t.sig.length
      · rw [decide_eq_true h, bz_true] at h2; omega
      · omega
    · by_cases h : 0 < t.sigc.length
      · rw [show decide (0 < t.sigc.length) = true from decide_eq_true h, bz_true] at h2; omega
      · omega
    · by_cases h : 0 < t.cas.length
      · rw [show decide (0 < t.cas.length) = true from decide_eq_true h, bz_true] at h2; omega
      · have h0 : t.cas = [] := List.eq_nil_of_length_eq_zero (by omega)
        rw [h0]; decide
end Go.Proofs.Ytddkjhlngofkaaa

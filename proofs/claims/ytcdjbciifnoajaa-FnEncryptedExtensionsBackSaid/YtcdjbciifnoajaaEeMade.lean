/- EncryptedExtensions, plainly: what is made is read; what is read can be made. -/
import Derived.Test.YtcdjbciifnoajaaEeW
import Derived.Test.YtcdjbciifnoajaaEeM2
import Derived.Test.YtcdjbciifnoajaaOuts
namespace Go.Proofs.Ytcdjbciifnoajaa
set_option maxRecDepth 20000

/-- its extensions -/
def eeE (t : Ee) : List Ex := (eeExtL t).l
def eeMsg (L : List Ex) : List UInt8 := msgB 8 (blkB L)
theorem eeOut_eq (t : Ee) : eeOut t = outL (eeExtL t) := by
  unfold eeOut eeExtL
  simp only [outL_add, outL_nil, app_assoc, pos_isEmpty]
  simp only [← lpOut_ofW, ofW_vecs_one, ofW_plain, ofW_nil]
  show _ = app (some []) _
  have h0 : ∀ o, app (some []) o = o := by intro o; cases o <;> simp [app]
  rw [h0]
  rfl
def eeFits (t : Ee) : Bool := !(messageW 8 (exsW (eeE t))).bad && !(eeExtL t).bad
theorem eeMake_eq (t : Ee) : eeMake t = if eeFits t then some (eeMsg (eeE t)) else none := by
  unfold eeMake
  rw [eeOut_eq, lp2_outL, message_out]
  unfold ofW eeFits eeE
  rw [messageW_msgB, messageW_msgB]
  simp only
  cases (eeExtL t).bad <;> cases (exsW (eeExtL t).l).bad <;> simp [eeMsg, blkB, exsW_eq]
  by_cases h : 16777216 ≤ (be 2 (exsB (eeExtL t).l).length).length + (exsB (eeExtL t).l).length
  · rw [if_pos h, if_neg (by omega)]
  · rw [if_neg h, if_pos (by omega)]
theorem eeFits_iff (t : Ee) : eeFits t = true ↔ (eeExtL t).bad = false ∧ (exsB (eeE t)).length < 65536 := by
  unfold eeFits
  rw [messageW_msgB]
  simp only [exsW_short]
  rw [show (exsW (eeE t)).b = be 2 (exsB (eeE t)).length ++ exsB (eeE t) by rw [exsW_eq]]
  simp only [List.length_append, be_len, Bool.and_eq_true, Bool.not_eq_true', Bool.or_eq_false_iff, decide_eq_false_iff_not]
  constructor
  · rintro ⟨⟨h1, h2⟩, h3⟩; exact ⟨h3, by omega⟩
  · rintro ⟨h1, h2⟩; exact ⟨⟨by omega, by omega⟩, h1⟩
theorem eeBad (t : Ee) (h : (eeExtL t).bad = false) : t.alpn.length < 256 := by
  unfold eeExtL at h
  simp only [bad_add, Bool.or_eq_false_iff] at h
  cases hx : t.alpn with
  | nil => simp
  | cons y p =>
    have h := h.1.1.1.1.2
    rw [hx] at h
    simp only [List.isEmpty_cons, Bool.not_false, Bool.true_and] at h
    simp [Wr.vector, Wr.inner, Wr.vec, Wr.nil, vecsW, vecsBad, vecsB] at h
    simp only [List.length_cons]
    omega
theorem eeE_nodup (t : Ee) : ((eeE t).map (·.1)).Nodup := by
  have h : ((eeE t).map (·.1)).Sublist [16, 57, 42, 65037, 0] :=
    keys_add (keys_add (keys_add (keys_add (keys_add (s := LW.nil) (ks := []) (List.Sublist.refl _) _ _ _) _ _ _) _ _ _) _ _ _) _ _ _
  exact h.nodup (by decide)
theorem ee_alpnB (p : List UInt8) : (Wr.vector 2 (vecsW 1 [p])).b = be 2 (be 1 p.length ++ p).length ++ (be 1 p.length ++ p) := by
  simp [Wr.vector, Wr.inner, Wr.vec, Wr.nil, vecsW, vecsB]
theorem eeAlpn_be (p : List UInt8) (h0 : p ≠ []) (h : p.length < 256) : eeAlpn (Wr.vector 2 (vecsW 1 [p])).b = some p := by
  unfold eeAlpn
  rw [ee_alpnB, lp_be2' _ (by simp [be_len]; omega)]
  show eeInner (lp 1 _) = _
  rw [lp_be1' _ h]
  cases p with
  | nil => exact absurd rfl h0
  | cons y p => rfl
theorem protocol_be (p : List UInt8) (h0 : p ≠ []) (h : p.length < 256) : (R.mk (Wr.vector 2 (vecsW 1 [p])).b 0).protocol = (p, ⟨[], 0⟩) := by
  have hp : 0 < p.length := List.length_pos_iff.2 h0
  have ha : lp 2 (Wr.vector 2 (vecsW 1 [p])).b = some (be 1 p.length ++ p, []) := by
    rw [ee_alpnB, lp_be2' _ (by simp [be_len]; omega)]
  generalize (Wr.vector 2 (vecsW 1 [p])).b = d at ha
  have hv : (R.mk d 0).vec 2 2 65535 = (be 1 p.length ++ p, ⟨[], 0⟩) := by rw [R.vec_some ha, R.rng_in (by simp [be_len]; omega) (by simp [be_len]; omega)]
  have hL : prL ⟨d, 0⟩ = ⟨be 1 p.length ++ p, 0⟩ := by unfold prL; rw [hv]; rfl
  have hx : (R.mk (be 1 p.length ++ p) 0).vec 1 1 255 = (p, ⟨[], 0⟩) := by rw [R.vec_some (lp_be1' p h), R.rng_in (by omega) (by omega)]
  have hM : prM ⟨d, 0⟩ = ⟨[], 0⟩ := by
    unfold prM; rw [hL, hx]; rw [if_neg (fun h => absurd h.2 (by simp))]
  unfold R.protocol
  rw [hL, hv, hx, hM]
  rfl
/-- right extensions give the message -/
theorem ee_run (t : Ee) (hr : t.has = true ∨ t.quic = []) (hp : t.alpn.length < 256) {L : List Ex} (hL : ListsE (eeE t) L) : runE eeStep L Ee.zero = some t := by
  refine runE_right eeStep (eeE t) (fun S => ⟨if S 16 then t.alpn else [], S 57 && t.has, if S 57 then t.quic else [], S 42 && t.early, if S 65037 then t.ech else [], S 0 && t.ack⟩) t ?_ ?_ ?_ hL
  · intro S e he
    unfold eeE eeExtL at he
    simp only [mem_add, mem_nil, false_or] at he
    rcases he with (((⟨h, rfl⟩ | ⟨h, rfl⟩) | ⟨h, rfl⟩) | ⟨h, rfl⟩) | ⟨h, rfl⟩
    · have := eeAlpn_be t.alpn (by intro e; rw [e] at h; cases h) hp
      unfold eeStep
      simp only [this]
      simp [Ee.setAlpn]
    · unfold eeStep
      simp [Ee.setQuic, h, Wr.plain]
    · unfold eeStep
      simp [Ee.setEarly, h, Wr.nil]
    · unfold eeStep
      simp [Ee.setEch, Wr.plain]
    · unfold eeStep
      simp [Ee.setAck, h, Wr.nil]
  · intro S e h1 h2
    have hne : ∀ k : UInt16, k.toNat < 43520 ∨ 44520 ≤ k.toNat → ¬ e.1 = k := by
      intro k hk he; rw [he] at h1 h2; omega
    unfold eeStep
    rw [if_neg (hne 16 (by decide)), if_neg (hne 57 (by decide)), if_neg (hne 42 (by decide)), if_neg (hne 65037 (by decide)), if_neg (hne 0 (by decide))]
  · intro S hS
    have m : ∀ (b : Bool) (e : Ex), (b = true → e ∈ eeE t) → b = true → S e.1 = true := fun b e h hb => hS e (h hb)
    have mem : ∀ e, e ∈ eeE t ↔ (((((!t.alpn.isEmpty) = true ∧ e = (16, (Wr.vector 2 (vecsW 1 [t.alpn])).b)) ∨ (t.has = true ∧ e = (57, t.quic))) ∨ (t.early = true ∧ e = (42, []))) ∨ (decide (0 < t.ech.length) = true ∧ e = (65037, t.ech))) ∨ (t.ack = true ∧ e = (0, [])) := by
      intro e
      unfold eeE eeExtL
      simp only [mem_add, mem_nil, false_or]
      rfl
    have s1 : t.alpn ≠ [] → S 16 = true := fun h => hS (16, _) ((mem _).2 (.inl (.inl (.inl (.inl ⟨by cases hx : t.alpn with | nil => exact absurd hx h | cons y p => rfl, rfl⟩)))))
    have s2 : t.has = true → S 57 = true := fun h => hS (57, _) ((mem _).2 (.inl (.inl (.inl (.inr ⟨h, rfl⟩)))))
    have s3 : t.early = true → S 42 = true := fun h => hS (42, _) ((mem _).2 (.inl (.inl (.inr ⟨h, rfl⟩))))
    have s4 : t.ech ≠ [] → S 65037 = true := fun h => hS (65037, _) ((mem _).2 (.inl (.inr ⟨decide_eq_true (List.length_pos_iff.2 h), rfl⟩)))
    have s5 : t.ack = true → S 0 = true := fun h => hS (0, _) ((mem _).2 (.inr ⟨h, rfl⟩))
    obtain ⟨a, b, c, d, e, f⟩ := t
    simp only at s1 s2 s3 s4 s5 hr
    have e1 : (if S 16 = true then a else []) = a := by
      by_cases h : a = []
      · subst h; simp
      · rw [if_pos (s1 h)]
    have e2 : (S 57 && b) = b := by cases b <;> simp_all
    have e3 : (if S 57 = true then c else []) = c := by
      rcases hr with h | h
      · rw [if_pos (s2 h)]
      · subst h; simp
    have e4 : (S 42 && d) = d := by cases d <;> simp_all
    have e5 : (if S 65037 = true then e else []) = e := by
      by_cases h : e = []
      · subst h; simp
      · rw [if_pos (s4 h)]
    have e6 : (S 0 && f) = f := by cases f <;> simp_all
    simp only [e1, e2, e3, e4, e5, e6]
theorem eeRead_msg (L : List Ex) (h : (exsB L).length < 65536) (hn : (L.map (·.1)).Nodup) : eeRead (eeMsg L) = runE eeStep L Ee.zero := by
  unfold eeRead eeMsg
  rw [if_neg (by rw [msgB_len]; omega), msgB_drop]
  exact lastO_blkB _ _ _ h hn
theorem eeSpec_msg (L : List Ex) (h : (exsB L).length < 65536) (hn : (L.map (·.1)).Nodup) : eeSpec (eeMsg L) = specE eeRd L (Ee.zero, ⟨[], 0⟩) := by
  unfold eeSpec eeMsg
  rw [msgB_body 8 (by omega) _ (by unfold blkB; simp [be_len]; omega)]
  exact spec_blkB eeRd _ L h hn
theorem ee_conv (t : Ee) (hp : t.alpn.length < 256) : ∀ e ∈ eeE t, ∀ m m', eeStep m e = some m' → (eeRd m e.1 ⟨e.2, 0⟩).1 = m' ∧ (eeRd m e.1 ⟨e.2, 0⟩).2.fin.code = 0 := by
  intro e he m m' h
  unfold eeE eeExtL at he
  simp only [mem_add, mem_nil, false_or] at he
  rcases he with (((⟨hc, rfl⟩ | ⟨hc, rfl⟩) | ⟨hc, rfl⟩) | ⟨hc, rfl⟩) | ⟨hc, rfl⟩
  · have h0 : t.alpn ≠ [] := by intro e; rw [e] at hc; cases hc
    have h1 := eeAlpn_be t.alpn h0 hp
    have h2 := protocol_be t.alpn h0 hp
    unfold eeStep at h
    simp only [h1] at h
    unfold eeRd
    simp only [h2]
    injection h with h
    exact ⟨h, rfl⟩
  · unfold eeStep at h
    injection h with h
    unfold eeRd
    simp only [all_take, Wr.plain]
    exact ⟨h, rfl⟩
  · unfold eeStep at h
    injection h with h
    exact ⟨h, rfl⟩
  · have h0 : t.ech.length ≠ 0 := by have := of_decide_eq_true hc; omega
    unfold eeStep at h
    injection h with h
    unfold eeRd
    simp only [rest_ok t.ech h0, Wr.plain]
    exact ⟨h, rfl⟩
  · unfold eeStep at h
    injection h with h
    exact ⟨h, rfl⟩
/-- a message that is made is read back; with further extensions, too -/
theorem ee_back (t : Ee) (hr : t.has = true ∨ t.quic = []) (hf : eeFits t = true) : eeRead (eeMsg (eeE t)) = some t := by
  obtain ⟨h1, h2⟩ := (eeFits_iff t).1 hf
  rw [eeRead_msg _ h2 (eeE_nodup t)]
  exact ee_run t hr (eeBad t h1) (ListsE.self (eeE_nodup t))
theorem ee_made (t : Ee) (hr : t.has = true ∨ t.quic = []) (hf : eeFits t = true) : eeSpec (eeMsg (eeE t)) = (t, ⟨[], 0⟩) := by
  obtain ⟨h1, h2⟩ := (eeFits_iff t).1 hf
  rw [eeSpec_msg _ h2 (eeE_nodup t)]
  exact specE_conv eeRd eeStep _ (ee_conv t (eeBad t h1)) _ _ _ (ee_run t hr (eeBad t h1) (ListsE.self (eeE_nodup t)))
theorem eeE_low (t : Ee) : ∀ e ∈ eeE t, e.1.toNat < 43520 ∨ 44520 ≤ e.1.toNat := by
  intro e he
  unfold eeE eeExtL at he
  simp only [mem_add, mem_nil, false_or] at he
  rcases he with (((⟨_, rfl⟩ | ⟨_, rfl⟩) | ⟨_, rfl⟩) | ⟨_, rfl⟩) | ⟨_, rfl⟩ <;> (dsimp only; decide)
theorem eeSz (t : Ee) : (exsB (eeE t)).length = bz (!t.alpn.isEmpty) (7 + t.alpn.length) + bz t.has (4 + t.quic.length) + bz t.early 4 + bz (!t.ech.isEmpty) (4 + t.ech.length) + bz t.ack 4 := by
  unfold eeE eeExtL
  simp only [size_add, ee_alpnB, List.length_append, be_len, Wr.plain, Wr.nil, List.length_nil, LW.nil, exsB_nil, pos_isEmpty, Nat.add_zero]
  have : 4 + (2 + (1 + t.alpn.length)) = 7 + t.alpn.length := by omega
  rw [this]
  omega
/-- what is read can be made -/
theorem eeRead_sizes {data : List UInt8} {t : Ee} (h : eeRead data = some t) : (t.has = true ∨ t.quic = []) ∧ eeFits t = true := by
  have hA : ∀ {d p : List UInt8}, eeAlpn d = some p → p.length < 256 ∧ 3 + p.length = d.length := by
    intro d p h
    unfold eeAlpn at h
    rcases h1 : lp 2 d with _ | ⟨x, _ | ⟨y, t⟩⟩
    · rw [h1] at h; cases h
    · rw [h1] at h
      have h : eeInner (lp 1 x) = some p := h
      rcases h2 : lp 1 x with _ | ⟨z, _ | ⟨y, t⟩⟩
      · rw [h2] at h; cases h
      · rw [h2] at h
        cases z with
        | nil => cases h
        | cons y z =>
          injection h with h
          subst h
          have a := lp_len h1
          have b := lp_len h2
          simp at a b ⊢
          omega
      · rw [h2, eeInner_more] at h; cases h
    · rw [h1] at h; cases h
  unfold eeRead at h
  split at h
  · cases h
  · obtain ⟨l, hl, hb⟩ := lastO_run h
    have i1 := runE_inv eeStep (fun m => (m.has = true ∨ m.quic = []) ∧ m.alpn.length < 256) (by
      rintro m ⟨k, d⟩ m' ⟨q1, q2⟩ hs
      unfold eeStep at hs
      simp only at hs
      split at hs
      · rcases hx : eeAlpn d with _ | p
        · rw [hx] at hs; cases hs
        · rw [hx] at hs; injection hs with hs; subst hs; exact ⟨q1, (hA hx).1⟩
      · split at hs
        · injection hs with hs; subst hs; exact ⟨.inl rfl, q2⟩
        · split at hs
          · split at hs
            · injection hs with hs; subst hs; exact ⟨q1, q2⟩
            · cases hs
          · split at hs
            · injection hs with hs; subst hs; exact ⟨q1, q2⟩
            · split at hs
              · split at hs
                · injection hs with hs; subst hs; exact ⟨q1, q2⟩
                · cases hs
              · injection hs with hs; subst hs; exact ⟨q1, q2⟩) l Ee.zero t ⟨.inr rfl, by simp [Ee.zero]⟩ hl
    have i2 := runE_size eeStep (fun m => (exsB (eeE m)).length) (by
      rintro m ⟨k, d⟩ m' hs
      simp only [eeSz]
      unfold eeStep at hs
      simp only at hs
      split at hs
      · rcases hx : eeAlpn d with _ | p
        · rw [hx] at hs; cases hs
        · rw [hx] at hs; injection hs with hs; subst hs
          have := (hA hx).2
          have := bz_le (!p.isEmpty) (7 + p.length)
          simp only [Ee.setAlpn]
          omega
      · split at hs
        · injection hs with hs; subst hs; simp only [Ee.setQuic, bz_true]; omega
        · split at hs
          · split at hs
            · injection hs with hs; subst hs; simp only [Ee.setEarly, bz_true]; omega
            · cases hs
          · split at hs
            · injection hs with hs; subst hs; have := bz_le (!d.isEmpty) (4 + d.length); simp only [Ee.setEch]; omega
            · split at hs
              · split at hs
                · injection hs with hs; subst hs; simp only [Ee.setAck, bz_true]; omega
                · cases hs
              · injection hs with hs; subst hs; omega) l Ee.zero t hl
    have z : (exsB (eeE Ee.zero)).length = 0 := by rw [eeSz]; rfl
    refine ⟨i1.1, (eeFits_iff t).2 ⟨?_, by omega⟩⟩
    unfold eeExtL
    simp only [bad_add, LW.nil, Wr.plain, Wr.nil, Bool.and_false, Bool.or_false, Bool.false_or, Bool.and_eq_false_iff]
    right
    have := i1.2
    simp [Wr.vector, Wr.inner, Wr.vec, Wr.nil, vecsW, vecsBad, vecsB, be_len]
    omega
end Go.Proofs.Ytcdjbciifnoajaa

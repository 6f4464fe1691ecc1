/- Certificate of TLS 1.3, plainly: what is made is what the reference writes, and it is read. No program is named here. -/
import Derived.Test.YtddkjhlngofkaaaCtPlain
import Derived.Test.YtddkjhlngofkaaaAdds
import Derived.Test.YtddkjhlngofkaaaWriter
import Derived.Test.YtddkjhlngofkaaaSpecW
namespace Go.Proofs.Ytddkjhlngofkaaa
set_option maxRecDepth 20000

/-- the extensions of the first certificate; of the i-th one -/
def ctExtL (t : Ct) : LW := (LW.nil.add t.ocsp 5 (stapleW t.staple)).add t.scts 18 (Wr.vector 2 (vecsW 2 t.stamps))
def ctLi (t : Ct) (i : Nat) : LW := if i = 0 then ctExtL t else LW.nil
/-- what the reference writes -/
def ctAdd (t : Ct) (F : List Ex) (i : Nat) (c : List UInt8) (a : Wr) : Wr :=
  ⟨(behindW (a.vec 3 c) (exsW ((ctLi t i).l ++ F))).b, (behindW (a.vec 3 c) (exsW ((ctLi t i).l ++ F))).bad || (ctLi t i).bad⟩
def ctAll (t : Ct) (F : List Ex) : Nat → Wr
  | 0 => Wr.nil
  | j + 1 => ctAdd t F j (t.certs[j]?.getD []) (ctAll t F j)
def ctW (t : Ct) (F : List Ex) : Wr := behindW ⟨[0], false⟩ (Wr.vector 3 (ctAll t F t.certs.length))
/-- what the package makes -/
def ctX (t : Ct) (i : Nat) : Option (List UInt8) := if i = 0 then outL (ctExtL t) else some []
def ctOut (t : Ct) : Nat → Option (List UInt8)
  | 0 => some []
  | j + 1 => app (ctOut t j) (app (lpOut 3 (some (t.certs[j]?.getD []))) (lpOut 2 (ctX t j)))
def ctMake (t : Ct) : Option (List UInt8) := app (some [UInt8.ofNat 11]) (lpOut 3 (app (some [UInt8.ofNat 0]) (lpOut 3 (ctOut t t.certs.length))))
def ctFits (t : Ct) (F : List Ex) : Bool := !(messageW 11 (ctW t F)).bad

theorem ctX_outL (t : Ct) (i : Nat) : ctX t i = outL (ctLi t i) := by
  unfold ctX ctLi
  split <;> rfl
theorem ctOut_eq (t : Ct) (j : Nat) : ctOut t j = ofW (ctAll t [] j) := by
  induction j with
  | zero => rfl
  | succ j ih =>
    show app (ctOut t j) (app (lpOut 3 (some (t.certs[j]?.getD []))) (lpOut 2 (ctX t j))) = ofW (ctAdd t [] j (t.certs[j]?.getD []) (ctAll t [] j))
    generalize t.certs[j]?.getD [] = c
    rw [ih, ctX_outL, lp2_outL, show (some c : Option (List UInt8)) = ofW (Wr.plain c) from rfl, lpOut_ofW, app_ofW, app_ofW]
    congr 1
    unfold ctAdd
    rw [List.append_nil]
    simp only [behindW, Wr.vector, Wr.inner, Wr.vec, Wr.nil, Wr.plain, List.nil_append, List.append_assoc, Bool.false_or, Bool.or_assoc]
    rfl
theorem ctMake_ofW (t : Ct) : ctMake t = ofW (messageW 11 (ctW t [])) := by
  unfold ctMake ctW
  rw [ctOut_eq, lpOut_ofW, show (some [UInt8.ofNat 0] : Option (List UInt8)) = ofW ⟨[0], false⟩ from rfl, app_ofW, message_out]
theorem ctMake_eq (t : Ct) : ctMake t = if ctFits t [] = true then some (messageW 11 (ctW t [])).b else none := by
  rw [ctMake_ofW]
  unfold ctFits ofW
  cases (messageW 11 (ctW t [])).bad <;> rfl

/-- a certificate with its extensions -/
def entB (L : List Ex) (c : List UInt8) : List UInt8 := be 3 c.length ++ c ++ blkB L
def ctFrom (t : Ct) (F : List Ex) : Nat → List (List UInt8) → List UInt8
  | _, [] => []
  | i, c :: cs => entB ((ctLi t i).l ++ F) c ++ ctFrom t F (i + 1) cs
theorem ctFrom_snoc (t : Ct) (F : List Ex) (i : Nat) (l : List (List UInt8)) (c : List UInt8) : ctFrom t F i (l ++ [c]) = ctFrom t F i l ++ entB ((ctLi t (i + l.length)).l ++ F) c := by
  induction l generalizing i with
  | nil => simp [ctFrom]
  | cons x l ih =>
    show _ ++ ctFrom t F (i + 1) (l ++ [c]) = (_ ++ ctFrom t F (i + 1) l) ++ _
    rw [ih, List.append_assoc, List.length_cons, show i + 1 + l.length = i + (l.length + 1) by omega]
theorem ctAll_b (t : Ct) (F : List Ex) (j : Nat) (hj : j ≤ t.certs.length) : (ctAll t F j).b = ctFrom t F 0 (t.certs.take j) := by
  induction j with
  | zero => rfl
  | succ j ih =>
    have hlt : j < t.certs.length := by omega
    rw [List.take_succ_eq_append_getElem hlt, ctFrom_snoc, ← ih (by omega), List.length_take]
    show (ctAdd t F j (t.certs[j]?.getD []) (ctAll t F j)).b = _
    rw [List.getElem?_eq_getElem hlt, show 0 + min j t.certs.length = j by omega]
    unfold ctAdd entB blkB
    rw [exsW_eq]
    simp [behindW, Wr.vec]
/-- everything is short enough -/
def ctGood (t : Ct) (F : List Ex) (i : Nat) (c : List UInt8) : Prop := c.length < 16777216 ∧ (exsB ((ctLi t i).l ++ F)).length < 65536 ∧ (ctLi t i).bad = false
theorem ctAll_bad (t : Ct) (F : List Ex) (j : Nat) (hj : j ≤ t.certs.length) : (ctAll t F j).bad = false ↔ ∀ k (h : k < j), ctGood t F k (t.certs[k]) := by
  induction j with
  | zero => exact ⟨fun _ k h => by omega, fun _ => rfl⟩
  | succ j ih =>
    have hlt : j < t.certs.length := by omega
    have e : (ctAll t F (j + 1)).bad = (((ctAll t F j).bad || decide (16777216 ≤ (t.certs[j]).length)) || decide (65536 ≤ (exsB ((ctLi t j).l ++ F)).length) || (ctLi t j).bad) := by
      show (ctAdd t F j (t.certs[j]?.getD []) (ctAll t F j)).bad = _
      rw [List.getElem?_eq_getElem hlt]
      unfold ctAdd
      simp only [behindW, Wr.vec, Option.getD_some]
      rw [exsW_short]
    rw [e]
    simp only [Bool.or_eq_false_iff, decide_eq_false_iff_not]
    rw [ih (by omega)]
    constructor
    · rintro ⟨⟨⟨h1, h2⟩, h3⟩, h4⟩ k hk
      by_cases h : k = j
      · subst h; exact ⟨by omega, by omega, h4⟩
      · exact h1 k (by omega)
    · intro h
      obtain ⟨h2, h3, h4⟩ := h j (by omega)
      exact ⟨⟨⟨fun k hk => h k (by omega), by omega⟩, by omega⟩, h4⟩
/-- the message -/
def ctMsg (t : Ct) (F : List Ex) : List UInt8 := msgB 11 (0 :: (be 3 (ctFrom t F 0 t.certs).length ++ ctFrom t F 0 t.certs))
theorem ctW_b (t : Ct) (F : List Ex) : (messageW 11 (ctW t F)).b = ctMsg t F := by
  have h := ctAll_b t F t.certs.length (Nat.le_refl _)
  rw [List.take_length] at h
  rw [messageW_msgB]
  unfold ctMsg ctW
  simp [behindW, vector_b, h]
theorem ctFits_iff (t : Ct) (F : List Ex) : ctFits t F = true ↔ (∀ k (h : k < t.certs.length), ctGood t F k (t.certs[k])) ∧ (ctFrom t F 0 t.certs).length + 4 < 16777216 := by
  have h := ctAll_b t F t.certs.length (Nat.le_refl _)
  rw [List.take_length] at h
  unfold ctFits
  rw [messageW_msgB]
  unfold ctW
  simp only [behindW, vector_b, vector_bad, h, Bool.not_eq_true', Bool.or_eq_false_iff, decide_eq_false_iff_not, List.length_append, be_len, List.length_cons, List.length_nil, Bool.false_or]
  rw [ctAll_bad t F _ (Nat.le_refl _)]
  constructor
  · rintro ⟨⟨h1, h2⟩, h3⟩; exact ⟨h1, by omega⟩
  · rintro ⟨h1, h2⟩; exact ⟨⟨h1, by omega⟩, by omega⟩
/-- what the law calls right -/
def ctRight (t : Ct) : Bool := if t.certs.isEmpty && (t.ocsp || t.scts) then false else (t.certs.all fun x => !x.isEmpty) && ((t.stamps.all fun x => !x.isEmpty) && ((t.ocsp == !t.staple.isEmpty) && (t.scts == !t.stamps.isEmpty)))
structure CtOk (t : Ct) : Prop where
  c : ∀ x ∈ t.certs, x ≠ []
  s : ∀ x ∈ t.stamps, x ≠ []
  o : t.ocsp = true ↔ t.staple ≠ []
  s2 : t.scts = true ↔ t.stamps ≠ []
  z : t.certs = [] → t.ocsp = false ∧ t.scts = false
theorem ctRight_iff {t : Ct} (h : ctRight t = true) : CtOk t := by
  unfold ctRight at h
  split at h
  · cases h
  · rename_i h0
    simp only [Bool.and_eq_true, List.all_eq_true, beq_iff_eq] at h
    obtain ⟨h1, h2, h3, h4⟩ := h
    have ne : ∀ x : List UInt8, (!x.isEmpty) = true → x ≠ [] := fun x hx e => by rw [e] at hx; cases hx
    refine ⟨fun x hx => ne x (h1 x hx), fun x hx => ne x (h2 x hx), ?_, ?_, ?_⟩
    · rw [h3]; cases t.staple <;> simp
    · rw [h4]; cases t.stamps <;> simp
    · intro hc
      rw [hc] at h0
      simpa using h0
/-- extensions without meaning -/
def Mute (F : List Ex) : Prop := ∀ e ∈ F, e.1 ≠ 5 ∧ e.1 ≠ 18
theorem unknown_mute {l : List (List UInt8)} (hl : l.length ≤ 1000) : Mute (unknown l) := by
  intro e he
  have := (unknown_ge hl he).1
  constructor
  · intro h; rw [h] at this; exact absurd this (by decide)
  · intro h; rw [h] at this; exact absurd this (by decide)
theorem runE_mute {F : List Ex} (h : Mute F) (m : Ct) : runE ctStep F m = some m := by
  induction F with
  | nil => rfl
  | cons e F ih =>
    obtain ⟨h1, h2⟩ := h e (by simp)
    show (ctStep m e).bind _ = _
    have : ctStep m e = some m := by
      unfold ctStep
      rw [if_neg h1, if_neg h2]
      split <;> rfl
    rw [this]
    exact ih fun x hx => h x (List.mem_cons_of_mem _ hx)
theorem runE_late {L : List Ex} {m : Ct} (h : 1 < m.certs.length) : runE ctStep L m = some m := by
  induction L with
  | nil => rfl
  | cons e L ih =>
    show (ctStep m e).bind _ = _
    have : ctStep m e = some m := by unfold ctStep; rw [if_pos h]
    rw [this]
    exact ih
theorem stapleW_eq (x : List UInt8) : stapleW x = ⟨1 :: (be 3 x.length ++ x), decide (16777216 ≤ x.length)⟩ := by
  simp [stapleW, Wr.vec, Wr.num, Wr.nil, be]
theorem lp_be3 (x r : List UInt8) (h : x.length < 16777216) : lp 3 (be 3 x.length ++ x ++ r) = some (x, r) := lp_be 3 x r (beNat_be3 _ h)
theorem lp_be3' (x : List UInt8) (h : x.length < 16777216) : lp 3 (be 3 x.length ++ x) = some (x, []) := by
  have := lp_be3 x [] h
  rwa [List.append_nil] at this
theorem stapP_staple {x : List UInt8} (h : x ≠ []) (hl : x.length < 16777216) : stapP (stapleW x).b = some x := by
  rw [stapleW_eq]
  rw [stapP_cons, if_pos rfl, lp_be3' x hl]
  exact stapIn_some h
/-- the message's vectors, where all is short enough -/
theorem ct_exts (t : Ct) (hk : CtOk t) (hb : (exsB (ctExtL t).l).length < 65536) : (t.ocsp = true → stapP (stapleW t.staple).b = some t.staple) ∧ (t.scts = true → listsP 2 2 (Wr.vector 2 (vecsW 2 t.stamps)).b = some t.stamps) := by
  unfold ctExtL at hb
  rw [size_add, size_add] at hb
  have h0 : (exsB LW.nil.l).length = 0 := rfl
  refine ⟨fun h => stapP_staple (hk.o.1 h) ?_, fun h => ?_⟩
  · rw [h, bz_true, stapleW_eq, List.length_cons, List.length_append, be_len] at hb
    omega
  · rw [h, bz_true, vector_b, List.length_append, be_len] at hb
    have hb : (vecsB 2 t.stamps).length < 65536 := by have e : (vecsW 2 t.stamps).b = vecsB 2 t.stamps := rfl; rw [e] at hb; omega
    rw [vector_b]
    exact listsP_be (hk.s2.1 h) hk.s hb
theorem runE_first (t : Ct) (hk : CtOk t) (hb : (exsB (ctExtL t).l).length < 65536) (c : List UInt8) : runE ctStep (ctExtL t).l (Ct.zero.add c) = some ⟨[c], t.ocsp, t.scts, t.staple, t.stamps⟩ := by
  obtain ⟨h1, h2⟩ := ct_exts t hk hb
  have ho := hk.o
  have ht := hk.s2
  clear hk hb
  obtain ⟨cs, oc, sc, st, sp⟩ := t
  dsimp only at h1 h2 ho ht
  have n1 : ¬ 1 < (Ct.zero.add c).certs.length := by simp [Ct.zero, Ct.add]
  have n2 : ∀ s, ¬ 1 < ((Ct.zero.add c).setStaple s).certs.length := fun s => n1
  have s1 : oc = true → ctStep (Ct.zero.add c) (5, (stapleW st).b) = some ((Ct.zero.add c).setStaple st) := fun h => by
    unfold ctStep
    rw [if_neg n1, if_pos rfl, h1 h]; rfl
  have s2 : sc = true → ∀ m : Ct, ¬ 1 < m.certs.length → ctStep m (18, (Wr.vector 2 (vecsW 2 sp)).b) = some (m.setStamps (m.stamps ++ sp)) := fun h m hm => by
    unfold ctStep
    rw [if_neg hm, if_neg (show ¬ (18 : UInt16) = 5 by decide), if_pos rfl, h2 h]; rfl
  cases oc <;> cases sc
  · have e1 : st = [] := by
      by_cases h : st = []
      · exact h
      · exact absurd (ho.2 h) (by simp)
    have e2 : sp = [] := by
      by_cases h : sp = []
      · exact h
      · exact absurd (ht.2 h) (by simp)
    subst e1 e2
    rfl
  · have e1 : st = [] := by
      by_cases h : st = []
      · exact h
      · exact absurd (ho.2 h) (by simp)
    subst e1
    show (ctStep (Ct.zero.add c) (18, (Wr.vector 2 (vecsW 2 sp)).b)).bind _ = _
    rw [s2 rfl _ n1]
    rfl
  · have e2 : sp = [] := by
      by_cases h : sp = []
      · exact h
      · exact absurd (ht.2 h) (by simp)
    subst e2
    show (ctStep (Ct.zero.add c) (5, (stapleW st).b)).bind _ = _
    rw [s1 rfl]
    rfl
  · show (ctStep (Ct.zero.add c) (5, (stapleW st).b)).bind _ = _
    rw [s1 rfl]
    show (ctStep ((Ct.zero.add c).setStaple st) (18, (Wr.vector 2 (vecsW 2 sp)).b)).bind _ = _
    rw [s2 rfl _ (n2 st)]
    rfl
theorem blockE_exsB {σ : Type} (stp : σ → Ex → Option σ) (L : List Ex) (h : (exsB L).length < 65536) (m : σ) : blockE stp (exsB L) m = runE stp L m := by
  unfold blockE
  rw [exts_exsB L (exsB_short L h)]
  rfl
theorem ctL_ent (m : Ct) (L : List Ex) (c r : List UInt8) (hc : c.length < 16777216) (hL : (exsB L).length < 65536) : ctL m (entB L c ++ r) = (runE ctStep L (m.add c)).bind fun m' => ctL m' r := by
  have h1 : lp 3 (entB L c ++ r) = some (c, blkB L ++ r) := by
    unfold entB
    have := lp_be3 c (blkB L ++ r) hc
    rwa [← List.append_assoc] at this
  have h2 : lp 2 (blkB L ++ r) = some (exsB L, r) := lp_be 2 (exsB L) r (beNat_be2 _ hL)
  rw [ctL_step h1 h2, blockE_exsB _ _ hL]
theorem ctL_late (t : Ct) (F : List Ex) (cs : List (List UInt8)) (i : Nat) (hi : 1 ≤ i) (m : Ct) (hm : 1 ≤ m.certs.length) (hg : ∀ k (h : k < cs.length), ctGood t F (i + k) (cs[k])) :
    ctL m (ctFrom t F i cs) = some ⟨m.certs ++ cs, m.ocsp, m.scts, m.staple, m.stamps⟩ := by
  induction cs generalizing i m with
  | nil => show ctL m [] = _; rw [ctL_nil, List.append_nil]
  | cons c cs ih =>
    obtain ⟨g1, g2, -⟩ := hg 0 (by simp)
    have g1 : c.length < 16777216 := g1
    show ctL m (entB ((ctLi t i).l ++ F) c ++ ctFrom t F (i + 1) cs) = _
    rw [ctL_ent m _ c _ g1 (by simpa using g2), runE_late (by show 1 < (m.certs ++ [c]).length; rw [List.length_append]; simp; omega)]
    show ctL (m.add c) (ctFrom t F (i + 1) cs) = _
    rw [ih (i + 1) (by omega) (m.add c) (by show 1 ≤ (m.certs ++ [c]).length; rw [List.length_append]; simp) (fun k hk => by
      have := hg (k + 1) (by simp; omega)
      rw [show i + 1 + k = i + (k + 1) by omega]
      exact this)]
    simp [Ct.add]
/-- what is written is read by the package -/
theorem ct_read (t : Ct) (F : List Ex) (hk : CtOk t) (hF : Mute F) (hf : ctFits t F = true) : ctRead (ctMsg t F) = some t := by
  obtain ⟨hg, hl⟩ := (ctFits_iff t F).1 hf
  unfold ctRead ctMsg
  rw [if_neg (by rw [msgB_len]; omega), msgB_drop]
  have h1 : lp 1 (0 :: (be 3 (ctFrom t F 0 t.certs).length ++ ctFrom t F 0 t.certs)) = some ([], be 3 (ctFrom t F 0 t.certs).length ++ ctFrom t F 0 t.certs) := lp_be 1 [] _ rfl
  rw [h1, ctCtx_some, lp_be3' _ (by omega), ctIn_some]
  have hz := hk.z
  have hr := runE_first t hk
  have hko := hk.o
  have hkt := hk.s2
  clear hk h1 hl hf
  obtain ⟨cs, oc, sc, st, sp⟩ := t
  cases cs with
  | nil =>
    obtain ⟨z1, z2⟩ := hz rfl
    have z1 : oc = false := z1
    have z2 : sc = false := z2
    subst z1 z2
    have e1 : st = [] := by
      by_cases h : st = []
      · exact h
      · exact absurd (hko.2 h) (by simp)
    have e2 : sp = [] := by
      by_cases h : sp = []
      · exact h
      · exact absurd (hkt.2 h) (by simp)
    subst e1 e2
    rfl
  | cons c cs =>
    obtain ⟨g1, g2, -⟩ := hg 0 (by simp)
    have g1 : c.length < 16777216 := g1
    have g3 : (exsB (ctExtL ⟨c :: cs, oc, sc, st, sp⟩).l).length < 65536 := by
      have e : (ctLi ⟨c :: cs, oc, sc, st, sp⟩ 0).l = (ctExtL ⟨c :: cs, oc, sc, st, sp⟩).l := rfl
      rw [e, exsB_append, List.length_append] at g2
      omega
    show ctL Ct.zero (entB ((ctLi ⟨c :: cs, oc, sc, st, sp⟩ 0).l ++ F) c ++ ctFrom ⟨c :: cs, oc, sc, st, sp⟩ F 1 cs) = _
    rw [ctL_ent _ _ _ _ g1 g2, runE_append]
    have e : (ctLi ⟨c :: cs, oc, sc, st, sp⟩ 0).l = (ctExtL ⟨c :: cs, oc, sc, st, sp⟩).l := rfl
    rw [e, hr g3 c]
    show (runE ctStep F _).bind _ = _
    rw [runE_mute hF]
    show ctL _ _ = _
    rw [ctL_late _ F cs 1 (by omega) _ (by simp) (fun k hk => by
      have := hg (k + 1) (by simp; omega)
      rw [show 1 + k = k + 1 by omega]
      exact this)]
    simp
/-- a block in the middle, by the reference -/
theorem R.exts_blkB (L : List Ex) (t : List UInt8) (h : (exsB L).length < 65536) (hn : (L.map (·.1)).Nodup) : (R.mk (blkB L ++ t) 0).exts = (L, ⟨t, 0⟩) := by
  have hL : lp 2 (blkB L ++ t) = some (exsB L, t) := lp_be 2 (exsB L) t (beNat_be2 _ h)
  have hx := exts_exsB L (exsB_short L h)
  have hv : (R.mk (blkB L ++ t) 0).vec 2 0 65535 = (exsB L, ⟨t, 0⟩) := vec2_some hL
  have hb : (R.mk (blkB L ++ t) 0).block = ⟨exsB L, 0⟩ := by unfold R.block; rw [hv]; rfl
  have hE : (R.mk (blkB L ++ t) 0).exts = ((R.extsGo (exsB L).length ⟨exsB L, 0⟩ []).1, (R.mk t 0).done (R.extsGo (exsB L).length ⟨exsB L, 0⟩ []).2) := by
    unfold R.exts
    rw [hb, hv]
  obtain ⟨g1, g2⟩ := R.extsGo_law (exsB L).length (exsB L) [] (Nat.le_refl _) (by simp)
  rw [hE]
  rcases g2 with ⟨c0, l', hl', ho, hnd⟩ | ⟨c3, hl'⟩ | ⟨c4, hl'⟩
  · rw [hx] at hl'
    injection hl' with hl'
    subst hl'
    have e : (R.extsGo (exsB L).length ⟨exsB L, 0⟩ []).2 = ⟨[], 0⟩ := by rw [R.mk_eta _ g1, c0]
    rw [e, ho]
    rfl
  · rw [hx] at hl'; cases hl'
  · exact absurd (by simpa using hn) (hl' L hx)
theorem ctExtL_keys (t : Ct) : (((ctExtL t).l).map (·.1)).Sublist [5, 18] := keys_add (keys_add (s := LW.nil) (ks := []) (List.Sublist.refl _) _ _ _) _ _ _
theorem ctExtL_nodup (t : Ct) : (((ctExtL t).l).map (·.1)).Nodup := (ctExtL_keys t).nodup (by decide)
theorem stapV_ok {d x : List UInt8} (h : stapP d = some x) : (R.mk d 0).stapV = (x, ⟨[], 0⟩) := by
  cases d with
  | nil => cases h
  | cons k t =>
    rw [stapP_cons] at h
    split at h
    · rename_i hk
      subst hk
      rcases hL : lp 3 t with _ | ⟨y, r⟩
      · rw [hL] at h; cases h
      · rw [hL] at h
        have hl := lp_len hL
        rcases y with _ | ⟨y0, y⟩
        · rw [stapIn_nil] at h; cases h
        · rcases r with _ | ⟨r0, r⟩
          · injection h with h
            subst h
            have h1 : (R.mk (1 :: t) 0).one = ⟨t, 0⟩ := rfl
            unfold R.stapV
            rw [h1, R.vec_some hL, R.rng_in (by simp) (by omega)]
          · rw [stapIn_more] at h; cases h
    · cases h
theorem ct_conv (e : Ex) (m m' : Ct) (hk : e.1 = 5 ∨ e.1 = 18) (hf : ctFresh m e.1) (hm : m.certs.length = 1) (h : ctStep m e = some m') : (ctRd m e.1 ⟨e.2, 0⟩).1 = m' ∧ (ctRd m e.1 ⟨e.2, 0⟩).2.fin.code = 0 ∧ m'.certs.length = 1 := by
  have hc := ctStep_certs h
  obtain ⟨k, d⟩ := e
  have hn : ¬ 1 < m.certs.length := by omega
  have hL : (R.mk d 0).late m = ⟨d, 0⟩ := by unfold R.late; rw [if_neg hn]
  unfold ctStep at h
  rw [if_neg hn] at h
  dsimp only at hk hf h ⊢
  rcases hk with rfl | rfl
  · rw [if_pos rfl] at h
    rcases hw : stapP d with _ | s
    · rw [hw] at h; cases h
    · rw [hw] at h; injection h with h
      have e : ctRd m 5 ⟨d, 0⟩ = (m.setStaple ((R.mk d 0).late m).stapV.1, ((R.mk d 0).late m).stapV.2) := rfl
      rw [e, hL, stapV_ok hw]
      exact ⟨h, rfl, by rw [hc, hm]⟩
  · rw [if_neg (by decide), if_pos rfl] at h
    rcases hw : listsP 2 2 d with _ | s
    · rw [hw] at h; cases h
    · rw [hw] at h; injection h with h
      have e : ctRd m 18 ⟨d, 0⟩ = (m.setStamps (((R.mk d 0).late m).listsV 2 1 65535 2).1, (((R.mk d 0).late m).listsV 2 1 65535 2).2) := rfl
      rw [e, hL, listsV_ok (by decide) (by decide) (by decide) hw]
      rw [hf rfl (by omega)] at h
      exact ⟨h, rfl, by rw [hc, hm]⟩
theorem specE_first : ∀ (l : List Ex) (_ : (l.map (·.1)).Nodup) (_ : ∀ e ∈ l, e.1 = 5 ∨ e.1 = 18) (m m' : Ct) (_ : m.certs.length = 1) (_ : ∀ e ∈ l, ctFresh m e.1) (t : List UInt8) (_ : runE ctStep l m = some m'),
    specE ctRd l (m, ⟨t, 0⟩) = (m', ⟨t, 0⟩)
  | [], _, _, m, m', _, _, t, hr => by injection hr with hr; rw [hr]; rfl
  | e :: l, hn, hk, m, m', hm, hf, t, hr => by
    have hr : (ctStep m e).bind (runE ctStep l) = some m' := hr
    rcases hs : ctStep m e with _ | m1
    · rw [hs] at hr; cases hr
    · rw [hs] at hr
      have hr : runE ctStep l m1 = some m' := hr
      obtain ⟨h1, h2, h3⟩ := ct_conv e m m1 (hk e (by simp)) (hf e (by simp)) hm hs
      have hsp : specE ctRd (e :: l) (m, ⟨t, 0⟩) = specE ctRd l ((ctRd m e.1 ⟨e.2, 0⟩).1, (R.mk t 0).done (ctRd m e.1 ⟨e.2, 0⟩).2) := rfl
      have hd : (R.mk t 0).done (ctRd m e.1 ⟨e.2, 0⟩).2 = ⟨t, 0⟩ := by unfold R.done; rw [if_pos h2]
      rw [List.map_cons, List.nodup_cons] at hn
      rw [hsp, hd]
      have hf1 : ∀ x ∈ l, ctFresh m1 x.1 := by
        intro x hx
        rw [← h1]
        exact ct_fresh m e.1 e.2 x.1 (fun h => hn.1 (by rw [← h]; exact List.mem_map_of_mem hx)) (hf x (List.mem_cons_of_mem _ hx))
      rw [h1]
      exact specE_first l hn.2 (fun x hx => hk x (List.mem_cons_of_mem _ hx)) m1 m' h3 hf1 t hr
theorem ctRound_ent (m : Ct) (L : List Ex) (c r : List UInt8) (h0 : c ≠ []) (hc : c.length < 16777216) (hL : (exsB L).length < 65536) (hn : (L.map (·.1)).Nodup) : ctRound (m, ⟨entB L c ++ r, 0⟩) = specE ctRd L (m.add c, ⟨r, 0⟩) := by
  have h1 : lp 3 (entB L c ++ r) = some (c, blkB L ++ r) := by
    unfold entB
    have := lp_be3 c (blkB L ++ r) hc
    rwa [← List.append_assoc] at this
  have hcl : 0 < c.length := List.length_pos_iff.2 h0
  have hv : (R.mk (entB L c ++ r) 0).vec 3 1 16777215 = (c, ⟨blkB L ++ r, 0⟩) := by rw [R.vec_some h1, R.rng_in (by omega) (by omega)]
  unfold ctRound
  dsimp only
  rw [hv]
  dsimp only
  rw [R.exts_blkB L r hL hn]
theorem entB_ne (L : List Ex) (c r : List UInt8) : entB L c ++ r ≠ [] := by unfold entB; simp [be]
theorem entB_len (L : List Ex) (c : List UInt8) : 1 ≤ (entB L c).length := by unfold entB blkB; simp [be_len]; omega
theorem ctGoR_late (t : Ct) (cs : List (List UInt8)) (i : Nat) (hi : 1 ≤ i) (m : Ct) (f : Nat) (hf : (ctFrom t [] i cs).length ≤ f) (h0 : ∀ x ∈ cs, x ≠ []) (hg : ∀ k (h : k < cs.length), ctGood t [] (i + k) (cs[k])) :
    ctGoR f (m, ⟨ctFrom t [] i cs, 0⟩) = (⟨m.certs ++ cs, m.ocsp, m.scts, m.staple, m.stamps⟩, ⟨[], 0⟩) := by
  induction cs generalizing i m f with
  | nil => rw [show ctFrom t [] i [] = [] from rfl, ctGoR_stop, List.append_nil]
  | cons c cs ih =>
    obtain ⟨g1, g2, -⟩ := hg 0 (by simp)
    have g1 : c.length < 16777216 := g1
    have hLi : (ctLi t i).l ++ [] = [] := by unfold ctLi; rw [if_neg (by omega)]; rfl
    have e : ctFrom t [] i (c :: cs) = entB [] c ++ ctFrom t [] (i + 1) cs := by show entB ((ctLi t i).l ++ []) c ++ _ = _; rw [hLi]
    rw [e, List.length_append] at hf
    have := entB_len [] c
    obtain ⟨f', rfl⟩ : ∃ f', f = f' + 1 := ⟨f - 1, by omega⟩
    rw [e]
    unfold ctGoR
    rw [if_neg (entB_ne _ _ _), ctRound_ent m [] c _ (h0 c (by simp)) g1 (by decide) (by simp)]
    show ctGoR f' (m.add c, ⟨ctFrom t [] (i + 1) cs, 0⟩) = _
    rw [ih (i + 1) (by omega) (m.add c) f' (by omega) (fun x hx => h0 x (by simp [hx])) (fun k hk => by
      have := hg (k + 1) (by simp; omega)
      rw [show i + 1 + k = i + (k + 1) by omega]
      exact this)]
    simp [Ct.add]
/-- what is made is, by the reference, this message -/
theorem ct_made (t : Ct) (hk : CtOk t) (hf : ctFits t [] = true) : ctSpec (ctMsg t []) = (t, ⟨[], 0⟩) := by
  obtain ⟨hg, hl⟩ := (ctFits_iff t []).1 hf
  have hB : ctB (ctMsg t []) = (ctFrom t [] 0 t.certs, ⟨[], 0⟩) := by
    unfold ctB ctMsg R.context
    rw [msgB_body 11 (by omega) _ (by simp [be_len]; omega)]
    have h1 : lp 1 (0 :: (be 3 (ctFrom t [] 0 t.certs).length ++ ctFrom t [] 0 t.certs)) = some ([], be 3 (ctFrom t [] 0 t.certs).length ++ ctFrom t [] 0 t.certs) := lp_be 1 [] _ rfl
    rw [R.vec_some h1, R.rng_in (by simp) (by simp)]
    show (R.mk (be 3 (ctFrom t [] 0 t.certs).length ++ ctFrom t [] 0 t.certs) 0).vec 3 0 16777215 = _
    rw [R.vec_some (lp_be3' _ (by omega)), R.rng_in (by omega) (by omega)]
  have hG : ctG (ctMsg t []) = (t, ⟨[], 0⟩) := by
    unfold ctG
    rw [hB]
    show ctGoR (ctFrom t [] 0 t.certs).length (Ct.zero, ⟨ctFrom t [] 0 t.certs, 0⟩) = _
    have hz := hk.z
    have hr := runE_first t hk
    have hko := hk.o
    have hkt := hk.s2
    have hc := hk.c
    clear hk hl hf hB
    obtain ⟨cs, oc, sc, st, sp⟩ := t
    cases cs with
    | nil =>
      obtain ⟨z1, z2⟩ := hz rfl
      have z1 : oc = false := z1
      have z2 : sc = false := z2
      subst z1 z2
      have e1 : st = [] := by
        by_cases h : st = []
        · exact h
        · exact absurd (hko.2 h) (by simp)
      have e2 : sp = [] := by
        by_cases h : sp = []
        · exact h
        · exact absurd (hkt.2 h) (by simp)
      subst e1 e2
      rfl
    | cons c cs =>
      obtain ⟨g1, g2, -⟩ := hg 0 (by simp)
      have g1 : c.length < 16777216 := g1
      have g3 : (exsB (ctExtL ⟨c :: cs, oc, sc, st, sp⟩).l).length < 65536 := by
        have e : (ctLi ⟨c :: cs, oc, sc, st, sp⟩ 0).l = (ctExtL ⟨c :: cs, oc, sc, st, sp⟩).l := rfl
        rw [e, List.append_nil] at g2
        exact g2
      have e : ctFrom ⟨c :: cs, oc, sc, st, sp⟩ [] 0 (c :: cs) = entB (ctExtL ⟨c :: cs, oc, sc, st, sp⟩).l c ++ ctFrom ⟨c :: cs, oc, sc, st, sp⟩ [] 1 cs := by
        show entB ((ctExtL ⟨c :: cs, oc, sc, st, sp⟩).l ++ []) c ++ _ = _
        rw [List.append_nil]
      dsimp only
      rw [e]
      have hle := entB_len (ctExtL ⟨c :: cs, oc, sc, st, sp⟩).l c
      obtain ⟨f', hf'⟩ : ∃ f', (entB (ctExtL ⟨c :: cs, oc, sc, st, sp⟩).l c ++ ctFrom ⟨c :: cs, oc, sc, st, sp⟩ [] 1 cs).length = f' + 1 := ⟨_, (Nat.succ_pred_eq_of_pos (by rw [List.length_append]; omega)).symm⟩
      have hf2 : (ctFrom ⟨c :: cs, oc, sc, st, sp⟩ [] 1 cs).length ≤ f' := by rw [List.length_append] at hf'; omega
      rw [hf']
      unfold ctGoR
      rw [if_neg (entB_ne _ _ _), ctRound_ent _ _ c _ (hc c (by simp)) g1 g3 (ctExtL_nodup _), specE_first _ (ctExtL_nodup _) (fun x hx => by
        have := (ctExtL_keys _).subset (List.mem_map_of_mem hx)
        simpa using this) _ _ (by simp [Ct.zero, Ct.add]) (fun x _ _ _ => rfl) _ (hr g3 c)]
      rw [ctGoR_late _ cs 1 (by omega) _ f' hf2 (fun x hx => hc x (by simp [hx])) (fun k hk => by
        have := hg (k + 1) (by simp; omega)
        rw [show 1 + k = k + 1 by omega]
        exact this)]
      simp
  unfold ctSpec
  rw [hG, hB]
  rfl
end Go.Proofs.Ytddkjhlngofkaaa

/- ServerHello, plainly: its extensions, by the reference and by the package; what is made is read. No program is named here. -/
import Derived.Test.YtaajmfgplhfncaaGreatAdds
import Derived.Test.YtaajmfgplhfncaaGreatShPlain
namespace Go.Proofs.YtaajmfgplhfncaaGreat
set_option maxRecDepth 20000

/-- a key share -/
def shareW (g : UInt16) (xs : List UInt8) : Wr := (Wr.nil.num 2 g.toNat).vec 2 xs
theorem shareW_b (g : UInt16) (xs : List UInt8) : (shareW g xs).b = be 2 g.toNat ++ (be 2 xs.length ++ xs) := by simp [shareW, Wr.num, Wr.vec, Wr.nil]
theorem shareW_bad (g : UInt16) (xs : List UInt8) : (shareW g xs).bad = decide (65536 ≤ xs.length) := by simp [shareW, Wr.num, Wr.vec, Wr.nil]
def shI1 (t : Sh) : List Item := [(t.ocsp, 5, Wr.nil), (t.ticket, 35, Wr.nil), (t.rns, 65281, Wr.vector 1 (Wr.plain t.rn)), (t.ems, 23, Wr.nil), (!t.alpn.isEmpty, 16, Wr.vector 2 (vecsW 1 [t.alpn])), (decide (0 < t.scts.length), 18, Wr.vector 2 (vecsW 2 t.scts)),
  ((t.sv.toNat : Int) != 0, 43, numberW 2 t.sv.toNat), ((t.sg.toNat : Int) != 0, 51, shareW t.sg t.sd)]
def shI2 (t : Sh) : List Item := [(t.sip, 41, numberW 2 t.si.toNat), (decide (0 < t.cookie.length), 44, Wr.vector 2 (Wr.plain t.cookie))]
def shI3 (t : Sh) : List Item := [(decide (0 < t.pts.length), 11, Wr.vector 1 (Wr.plain t.pts)), (decide (0 < t.ech.length), 65037, Wr.plain t.ech), (t.ack, 0, Wr.nil)]
def shSel (t : Sh) : Item := ((t.selg.toNat : Int) != 0, 51, numberW 2 t.selg.toNat)
/-- the reference's order; the package's -/
def shItems (t : Sh) : List Item := shI1 t ++ shSel t :: (shI2 t ++ shI3 t)
def shPkg (t : Sh) : List Item := shI1 t ++ (shI2 t ++ shSel t :: shI3 t)
theorem shPkg_perm (t : Sh) : (shPkg t).Perm (shItems t) := List.Perm.append_left _ List.perm_middle
def shExtL (t : Sh) : LW := adds (shItems t) LW.nil
def shE (t : Sh) : List Ex := (shExtL t).l
def shPE (t : Sh) : List Ex := itemsE (shPkg t)
theorem shE_eq (t : Sh) : shE t = itemsE (shItems t) := by unfold shE shExtL; rw [adds_l]; rfl
theorem shBad_eq (t : Sh) : (shExtL t).bad = itemsBad (shItems t) := by unfold shExtL; rw [adds_bad]; rfl
theorem shPE_perm (t : Sh) : (shPE t).Perm (shE t) := by rw [shE_eq]; exact itemsE_perm (shPkg_perm t)
theorem shPE_len (t : Sh) : (exsB (shPE t)).length = (exsB (shE t)).length := exsB_perm (shPE_perm t)
/-- the head -/
def shHd (t : Sh) : Sh := shHead t.vers t.random t.sid t.suite t.comp
def shHeadB (t : Sh) : List UInt8 := be 2 t.vers.toNat ++ (t.random ++ (be 1 t.sid.length ++ (t.sid ++ (be 2 t.suite.toNat ++ [t.comp]))))
def shBodyB (t : Sh) (L : List Ex) : List UInt8 := shHeadB t ++ (if L = [] then [] else blkB L)
def shMsg (t : Sh) (L : List Ex) : List UInt8 := msgB 2 (shBodyB t L)
/-- what the reference writes -/
def shHeadW (t : Sh) : Wr := ((((⟨(Wr.nil.num 2 t.vers.toNat).b ++ t.random, false⟩ : Wr).vec 1 t.sid).num 2 t.suite.toNat).num 1 t.comp.toNat)
def shW (t : Sh) (L : List Ex) : Wr := if L = [] then shHeadW t else behindW (shHeadW t) (exsW L)
theorem be1_u8 (c : UInt8) : be 1 c.toNat = [c] := by simp [be]
theorem shHeadW_eq (t : Sh) : shHeadW t = ⟨shHeadB t, decide (256 ≤ t.sid.length)⟩ := by
  simp [shHeadW, shHeadB, Wr.num, Wr.vec, Wr.nil, be1_u8]
theorem shW_eq (t : Sh) (L : List Ex) : shW t L = ⟨shBodyB t L, decide (256 ≤ t.sid.length) || (decide (65536 ≤ (exsB L).length))⟩ := by
  unfold shW shBodyB
  by_cases h : L = []
  · rw [if_pos h, if_pos h, shHeadW_eq, h]; simp [exsB]
  · rw [if_neg h, if_neg h, shHeadW_eq]
    unfold behindW
    rw [exsW_short, exsW_eq]
    rfl
theorem shHeadB_len (t : Sh) : (shHeadB t).length = 6 + t.random.length + t.sid.length := by simp [shHeadB, be_len]; omega
theorem shBodyB_len (t : Sh) (L : List Ex) : (shBodyB t L).length ≤ 8 + t.random.length + t.sid.length + (exsB L).length := by
  unfold shBodyB
  rw [List.length_append, shHeadB_len]
  split
  · simp; omega
  · simp [blkB, be_len]; omega
/-- what the law calls right -/
structure ShOk (t : Sh) : Prop where
  r : t.random.length = 32
  s : t.sid.length ≤ 32
  n : t.rns = true ∨ t.rn = []
  c : ∀ x ∈ t.scts, x ≠ []
  g : t.sg = 0 ∨ t.selg = 0
  d : t.sg = 0 ↔ t.sd = []
  i : t.sip = true ∨ t.si = 0
def shFits (t : Sh) : Bool := !(messageW 2 (shW t (shE t))).bad && !(shExtL t).bad
theorem shFits_iff {t : Sh} (h : ShOk t) : shFits t = true ↔ (shExtL t).bad = false ∧ (exsB (shE t)).length < 65536 := by
  have hb := shBodyB_len t (shE t)
  have h1 := h.r
  have h2 := h.s
  unfold shFits
  rw [messageW_msgB, shW_eq]
  simp only [Bool.and_eq_true, Bool.not_eq_true', Bool.or_eq_false_iff, decide_eq_false_iff_not]
  constructor
  · rintro ⟨⟨⟨_, h2⟩, h4⟩, h3⟩; exact ⟨h3, by omega⟩
  · rintro ⟨h1, h2⟩; exact ⟨⟨⟨by omega, by omega⟩, by omega⟩, h1⟩
/-- what the package makes -/
def shOut (t : Sh) : Option (List UInt8) := itemsOut (shPkg t) (some [])
def shBodyO (t : Sh) (xs : List UInt8) : Option (List UInt8) := app (some (be 2 t.vers.toNat)) (app (some t.random) (app (lpOut 1 (some t.sid)) (app (some (be 2 t.suite.toNat)) (app (some [UInt8.ofNat t.comp.toNat]) (condOut (decide (0 < xs.length)) (lpOut 2 (some xs)))))))
def shMake (t : Sh) : Option (List UInt8) := (shOut t).bind fun xs => app (some [UInt8.ofNat 2]) (lpOut 3 (shBodyO t xs))
theorem shOut_eq (t : Sh) : shOut t = if itemsBad (shItems t) || exsBad (shPE t) then none else some (exsB (shPE t)) := by
  unfold shOut
  rw [← outL_nil, itemsOut_outL]
  unfold outL ofW
  rw [adds_l, adds_bad, itemsBad_perm (shPkg_perm t)]
  rfl
theorem shBodyO_eq (t : Sh) (h : ShOk t) (xs : List UInt8) : shBodyO t xs = if xs.length < 65536 then some (shHeadB t ++ (if xs = [] then [] else be 2 xs.length ++ xs)) else none := by
  have hs := h.s
  have e1 : lpOut 1 (some t.sid) = some (be 1 t.sid.length ++ t.sid) := by show (if t.sid.length < 256 ^ 1 then _ else _) = _; rw [if_pos (by omega)]
  unfold shBodyO
  rw [e1]
  by_cases h0 : xs = []
  · subst h0
    rw [if_pos (by simp), if_pos rfl]
    simp [condOut, app, shHeadB]
  · have hp : decide (0 < xs.length) = true := decide_eq_true (List.length_pos_iff.2 h0)
    rw [hp, if_neg h0, condOut_true]
    by_cases hx : xs.length < 65536
    · have e2 : lpOut 2 (some xs) = some (be 2 xs.length ++ xs) := by show (if xs.length < 256 ^ 2 then _ else _) = _; rw [if_pos (by omega)]
      rw [if_pos hx, e2]
      simp [app, shHeadB]
    · have e2 : lpOut 2 (some xs) = none := by show (if xs.length < 256 ^ 2 then _ else _) = _; rw [if_neg (by omega)]
      rw [if_neg hx, e2]
      simp [app]
theorem shMake_eq {t : Sh} (h : ShOk t) : shMake t = if shFits t then some (shMsg t (shPE t)) else none := by
  have hl := shPE_len t
  have key : ∀ xs, xs = exsB (shPE t) → xs.length < 65536 → app (some [UInt8.ofNat 2]) (lpOut 3 (shBodyO t xs)) = some (shMsg t (shPE t)) := by
    intro xs hx hlt
    rw [shBodyO_eq t h, if_pos hlt]
    have hb : shHeadB t ++ (if xs = [] then [] else be 2 xs.length ++ xs) = shBodyB t (shPE t) := by
      unfold shBodyB
      congr 1
      have hn := exsB_nil_iff (shPE t)
      rw [← hx] at hn
      by_cases h0 : xs = []
      · rw [if_pos h0, if_pos (hn.1 (by rw [h0]; rfl))]
      · rw [if_neg h0, if_neg (fun hh => h0 (List.eq_nil_of_length_eq_zero (hn.2 hh)))]
        unfold blkB
        rw [hx]
    rw [hb]
    have hlen := shBodyB_len t (shPE t)
    have h1 := h.r
    have h2 := h.s
    rw [← hx] at hlen
    have e : lpOut 3 (some (shBodyB t (shPE t))) = some (be 3 (shBodyB t (shPE t)).length ++ shBodyB t (shPE t)) := by show (if _ < 256 ^ 3 then _ else _) = _; rw [if_pos (by omega)]
    rw [e]
    simp [app, shMsg, msgB, be]
  unfold shMake
  rw [shOut_eq]
  by_cases hf : shFits t = true
  · rw [if_pos hf]
    obtain ⟨h1, h2⟩ := (shFits_iff h).1 hf
    rw [shBad_eq] at h1
    rw [h1, exsB_short _ (by omega)]
    exact key _ rfl (by omega)
  · rw [if_neg hf]
    by_cases h1 : itemsBad (shItems t) = true
    · rw [h1]; rfl
    · have h1 : itemsBad (shItems t) = false := by simpa using h1
      have h2 : ¬ (exsB (shE t)).length < 65536 := fun h2 => hf ((shFits_iff h).2 ⟨by rw [shBad_eq]; exact h1, h2⟩)
      by_cases h3 : exsBad (shPE t) = true
      · rw [h1, h3]; rfl
      · have h3 : exsBad (shPE t) = false := by simpa using h3
        rw [h1, h3]
        show app (some [UInt8.ofNat 2]) (lpOut 3 (shBodyO t (exsB (shPE t)))) = none
        rw [shBodyO_eq t h, if_neg (by omega)]
        simp [lpOut, app]
/-- its numbers -/
theorem nz_iff (k : UInt16) : ((k.toNat : Int) != 0) = true ↔ k ≠ 0 := by
  rw [bne_iff_ne]
  constructor
  · intro h e; rw [e] at h; exact h rfl
  · intro h e; exact h (UInt16.toNat_inj.1 (by simpa using e))
theorem sh_keys (t : Sh) : ((shE t).map (·.1)).Sublist [5, 35, 65281, 23, 16, 18, 43, 51, 51, 41, 44, 11, 65037, 0] := by rw [shE_eq]; exact itemsE_keys (shItems t)
theorem shE_low (t : Sh) (e : Ex) (he : e ∈ (shExtL t).l) : e.1.toNat < 43520 ∨ 44520 ≤ e.1.toNat := by
  have h := (sh_keys t).subset (List.mem_map_of_mem he)
  simp only [List.mem_cons, List.not_mem_nil, or_false] at h
  rcases h with h | h | h | h | h | h | h | h | h | h | h | h | h | h <;> rw [h] <;> decide
theorem shE_few (t : Sh) : (shExtL t).l.length ≤ 1000 := by
  have h := (sh_keys t).length_le
  rw [List.length_map] at h
  exact Nat.le_trans h (by decide)
theorem shE_nodup {t : Sh} (h : ShOk t) : ((shE t).map (·.1)).Nodup := by
  rw [shE_eq]
  rcases h.g with h1 | h1
  · have e : itemsE (shItems t) = itemsE ([(t.ocsp, 5, Wr.nil), (t.ticket, 35, Wr.nil), (t.rns, 65281, Wr.vector 1 (Wr.plain t.rn)), (t.ems, 23, Wr.nil), (!t.alpn.isEmpty, 16, Wr.vector 2 (vecsW 1 [t.alpn])), (decide (0 < t.scts.length), 18, Wr.vector 2 (vecsW 2 t.scts)),
        ((t.sv.toNat : Int) != 0, 43, numberW 2 t.sv.toNat)] ++ shSel t :: (shI2 t ++ shI3 t)) := by
      have hz : ((t.sg.toNat : Int) != 0) = false := by rw [h1]; rfl
      unfold shItems shI1
      rw [hz]
      simp [itemsE, List.filter_cons]
    rw [e]
    exact (itemsE_keys _).nodup (show ([5, 35, 65281, 23, 16, 18, 43, 51, 41, 44, 11, 65037, 0] : List UInt16).Nodup by decide)
  · have e : itemsE (shItems t) = itemsE (shI1 t ++ (shI2 t ++ shI3 t)) := by
      have hz : ((t.selg.toNat : Int) != 0) = false := by rw [h1]; rfl
      unfold shItems shSel
      rw [hz]
      simp [itemsE]
    rw [e]
    exact (itemsE_keys _).nodup (show ([5, 35, 65281, 23, 16, 18, 43, 51, 41, 44, 11, 65037, 0] : List UInt16).Nodup by decide)
theorem shE_mem (t : Sh) (e : Ex) : e ∈ shE t ↔ (t.ocsp = true ∧ e = (5, [])) ∨ (t.ticket = true ∧ e = (35, [])) ∨ (t.rns = true ∧ e = (65281, be 1 t.rn.length ++ t.rn)) ∨ (t.ems = true ∧ e = (23, [])) ∨ (t.alpn ≠ [] ∧ e = (16, (Wr.vector 2 (vecsW 1 [t.alpn])).b)) ∨
    (t.scts ≠ [] ∧ e = (18, be 2 (vecsB 2 t.scts).length ++ vecsB 2 t.scts)) ∨ (t.sv ≠ 0 ∧ e = (43, be 2 t.sv.toNat)) ∨ (t.sg ≠ 0 ∧ e = (51, be 2 t.sg.toNat ++ (be 2 t.sd.length ++ t.sd))) ∨ (t.selg ≠ 0 ∧ e = (51, be 2 t.selg.toNat)) ∨ (t.sip = true ∧ e = (41, be 2 t.si.toNat)) ∨
    (t.cookie ≠ [] ∧ e = (44, be 2 t.cookie.length ++ t.cookie)) ∨ (t.pts ≠ [] ∧ e = (11, be 1 t.pts.length ++ t.pts)) ∨ (t.ech ≠ [] ∧ e = (65037, t.ech)) ∨ (t.ack = true ∧ e = (0, [])) := by
  rw [shE_eq, itemsE_mem]
  have ne : ∀ l : List UInt8, decide (0 < l.length) = true ↔ l ≠ [] := fun l => by rw [decide_eq_true_iff, List.length_pos_iff]
  have ne2 : ∀ l : List (List UInt8), decide (0 < l.length) = true ↔ l ≠ [] := fun l => by rw [decide_eq_true_iff, List.length_pos_iff]
  have ne3 : (!t.alpn.isEmpty) = true ↔ t.alpn ≠ [] := by cases t.alpn <;> simp
  simp only [shItems, shI1, shI2, shI3, shSel, List.cons_append, List.nil_append, List.mem_cons, List.not_mem_nil, or_false, exists_eq_or_imp, exists_eq_left, nz_iff, ne, ne2, ne3, numberW_b, shareW_b]
  rfl
theorem protocol_ok {d p : List UInt8} (h : eeAlpn d = some p) : (R.mk d 0).protocol = (p, ⟨[], 0⟩) := by
  unfold eeAlpn at h
  rcases ha : lp 2 d with _ | ⟨x, _ | ⟨y, t⟩⟩
  · rw [ha] at h; cases h
  · rw [ha] at h
    have h : eeInner (lp 1 x) = some p := h
    rcases hb : lp 1 x with _ | ⟨_ | ⟨z, q⟩, _ | ⟨y, t⟩⟩
    · rw [hb] at h; cases h
    · rw [hb] at h; cases h
    · rw [hb] at h; cases h
    · rw [hb] at h
      injection h with h
      have h1 := lp_len ha
      have h2 := lp_len hb
      have hv : (R.mk d 0).vec 2 2 65535 = (x, ⟨[], 0⟩) := by rw [R.vec_some ha, R.rng_in (by simp at h2; omega) (by omega)]
      have hv2 : (R.mk x 0).vec 1 1 255 = (z :: q, ⟨[], 0⟩) := by rw [R.vec_some hb, R.rng_in (by simp) (by omega)]
      have hL : prL ⟨d, 0⟩ = ⟨x, 0⟩ := by unfold prL; rw [hv]; rfl
      have hM : prM ⟨d, 0⟩ = ⟨[], 0⟩ := by unfold prM; rw [hL, hv2]; rw [if_neg (fun h => absurd h.2 (by simp))]
      unfold R.protocol
      rw [hL, hv, hv2, hM, ← h]
      rfl
    · rw [hb] at h; cases h
  · rw [ha] at h; cases h
theorem u16P_be (k : UInt16) : u16P (be 2 k.toNat) = some k := by
  rw [be2_two]
  show some (UInt16.ofNat _) = _
  rw [u16_be2]
theorem num2_be (k : UInt16) : (R.mk (be 2 k.toNat) 0).num 2 = (((UInt8.ofNat (k.toNat / 256)).toNat * 256 + (UInt8.ofNat k.toNat).toNat), ⟨[], 0⟩) := by rw [be2_two, num2_two]
theorem num2_be' (k : UInt16) (r : List UInt8) : (R.mk (be 2 k.toNat ++ r) 0).num 2 = (((UInt8.ofNat (k.toNat / 256)).toNat * 256 + (UInt8.ofNat k.toNat).toNat), ⟨r, 0⟩) := by
  rw [be2_two]
  exact num2_two _ _ _ _
theorem shAlpn_be (p : List UInt8) (h0 : p ≠ []) (h : p.length < 256) : eeAlpn (Wr.vector 2 (vecsW 1 [p])).b = some p := by
  have e : (Wr.vector 2 (vecsW 1 [p])).b = be 2 (be 1 p.length ++ p).length ++ (be 1 p.length ++ p) := by
    rw [vector_b]
    simp [vecsW, vecsB]
  rw [e]
  unfold eeAlpn
  rw [lp_be2' _ (by simp [be_len]; omega)]
  show eeInner (lp 1 (be 1 p.length ++ p)) = some p
  rw [lp_be1' _ h]
  cases p with
  | nil => exact absurd rfl h0
  | cons y p => rfl
/-- the sizes of what fits -/
structure ShSm (t : Sh) : Prop where
  rn : t.rns = true → t.rn.length < 256
  alpn : t.alpn ≠ [] → t.alpn.length < 256
  scts : t.scts ≠ [] → (vecsB 2 t.scts).length < 65536
  sd : t.sg ≠ 0 → t.sd.length < 65536
  cookie : t.cookie ≠ [] → t.cookie.length < 65536
  pts : t.pts ≠ [] → t.pts.length < 256
theorem sh_small {t : Sh} (hb : (shExtL t).bad = false) : ShSm t := by
  rw [shBad_eq] at hb
  unfold itemsBad at hb
  rw [List.any_eq_false] at hb
  have hg : ∀ (b : Bool) (k : UInt16) (x : Wr), (b, k, x) ∈ shItems t → b = true → x.bad = false := by
    intro b k x hm ht
    have := hb _ hm
    simp only [ht, Bool.true_and] at this
    simpa using this
  refine ⟨fun h => ?_, fun h => ?_, fun h => ?_, fun h => ?_, fun h => ?_, fun h => ?_⟩
  · have := hg t.rns 65281 (Wr.vector 1 (Wr.plain t.rn)) (by simp [shItems, shI1]) h
    rw [vector_bad] at this
    simpa [Wr.plain] using this
  · have := hg (!t.alpn.isEmpty) 16 (Wr.vector 2 (vecsW 1 [t.alpn])) (by simp [shItems, shI1]) (by cases hp : t.alpn with | nil => exact absurd hp h | cons y p => rfl)
    rw [vector_bad] at this
    simp only [vecsW, vecsBad, Bool.or_eq_false_iff, List.any_cons, List.any_nil, Bool.or_false, decide_eq_false_iff_not] at this
    omega
  · have := hg (decide (0 < t.scts.length)) 18 (Wr.vector 2 (vecsW 2 t.scts)) (by simp [shItems, shI1]) (decide_eq_true (List.length_pos_iff.2 h))
    rw [vector_bad] at this
    have h3 : decide (256 ^ 2 ≤ (vecsB 2 t.scts).length) = false := (Bool.or_eq_false_iff.1 this).2
    have := of_decide_eq_false h3
    omega
  · have := hg ((t.sg.toNat : Int) != 0) 51 (shareW t.sg t.sd) (by simp [shItems, shI1]) ((nz_iff _).2 h)
    rw [shareW_bad] at this
    simp only [decide_eq_false_iff_not] at this
    omega
  · have := hg (decide (0 < t.cookie.length)) 44 (Wr.vector 2 (Wr.plain t.cookie)) (by simp [shItems, shI2]) (decide_eq_true (List.length_pos_iff.2 h))
    rw [vector_bad] at this
    have h3 : decide (256 ^ 2 ≤ t.cookie.length) = false := this
    have := of_decide_eq_false h3
    omega
  · have := hg (decide (0 < t.pts.length)) 11 (Wr.vector 1 (Wr.plain t.pts)) (by simp [shItems, shI3]) (decide_eq_true (List.length_pos_iff.2 h))
    rw [vector_bad] at this
    have h3 : decide (256 ^ 1 ≤ t.pts.length) = false := this
    have := of_decide_eq_false h3
    omega
theorem vecP1_some {x : List UInt8} (h : x ≠ []) : vecP1 (some (x, [])) = some x := by
  cases x with
  | nil => exact absurd rfl h
  | cons y x => rfl
theorem be2_len2 (k : Nat) : (be 2 k).length = 2 := be_len 2 k
/-- right extensions give the message -/
theorem sh_run {t : Sh} (h : ShOk t) (hs : ShSm t) {L : List Ex} (hL : ListsE (shE t) L) : runE shStep L (shHd t) = some t := by
  refine runE_rightF shStep (shE t) (fun S => ⟨t.vers, t.random, t.sid, t.suite, t.comp, S 5 && t.ocsp, S 35 && t.ticket, S 65281 && t.rns, if S 65281 then t.rn else [], S 23 && t.ems, if S 16 then t.alpn else [], if S 18 then t.scts else [],
    if S 43 then t.sv else 0, if S 51 then t.sg else 0, if S 51 then t.sd else [], S 41 && t.sip, if S 41 then t.si else 0, if S 11 then t.pts else [], if S 65037 then t.ech else [], S 0 && t.ack, if S 44 then t.cookie else [], if S 51 then t.selg else 0⟩) t ?_ ?_ ?_ hL
  · intro S e he hS
    rcases (shE_mem t e).1 he with ⟨hc, rfl⟩ | ⟨hc, rfl⟩ | ⟨hc, rfl⟩ | ⟨hc, rfl⟩ | ⟨hc, rfl⟩ | ⟨hc, rfl⟩ | ⟨hc, rfl⟩ | ⟨hc, rfl⟩ | ⟨hc, rfl⟩ | ⟨hc, rfl⟩ | ⟨hc, rfl⟩ | ⟨hc, rfl⟩ | ⟨hc, rfl⟩ | ⟨hc, rfl⟩
    · simp [shStep, hc]
    · simp [shStep, hc]
    · simp [shStep, lp_be1' _ (hs.rn hc), vecP, hc]
    · simp [shStep, hc]
    · simp [shStep, shAlpn_be _ hc (hs.alpn hc)]
    · have hS : S 18 = false := hS
      simp [shStep, listsP_be hc h.c (hs.scts hc), hS]
    · simp [shStep, u16P_be]
    · have hz : t.selg = 0 := h.g.resolve_left hc
      have hS : S 51 = false := hS
      have hd0 : t.sd ≠ [] := fun e => hc (h.d.2 e)
      have hlen : ¬ (be 2 t.sg.toNat ++ (be 2 t.sd.length ++ t.sd)).length = 2 := by
        have := List.length_pos_iff.2 hd0
        simp [be_len]
      have hsh : shareP (be 2 t.sg.toNat ++ (be 2 t.sd.length ++ t.sd)) = some (t.sg, t.sd) := by
        rw [be2_two]
        show (vecP (lp 2 (be 2 t.sd.length ++ t.sd))).map _ = _
        rw [lp_be2' _ (hs.sd hc)]
        show some (UInt16.ofNat _, t.sd) = _
        rw [u16_be2]
      unfold shStep
      simp only [hlen, if_false, hsh]
      simp [hz, hS]
    · have hz : t.sg = 0 := h.g.resolve_right hc
      have hd0 : t.sd = [] := h.d.1 hz
      have hS : S 51 = false := hS
      unfold shStep
      simp only [be2_len2, if_true, u16P_be]
      simp [hz, hd0, hS]
    · simp [shStep, u16P_be, hc]
    · simp [shStep, lp_be2' _ (hs.cookie hc), vecP1_some hc]
    · simp [shStep, lp_be1' _ (hs.pts hc), vecP1_some hc]
    · simp [shStep]
    · simp [shStep, hc]
  · intro S e h1 h2
    have hne : ∀ k : UInt16, k.toNat < 43520 ∨ 44520 ≤ k.toNat → ¬ e.1 = k := by
      intro k hk he; rw [he] at h1 h2; omega
    unfold shStep
    rw [if_neg (hne 5 (by decide)), if_neg (hne 35 (by decide)), if_neg (hne 65281 (by decide)), if_neg (hne 23 (by decide)), if_neg (hne 16 (by decide)), if_neg (hne 18 (by decide)), if_neg (hne 43 (by decide)), if_neg (hne 44 (by decide)), if_neg (hne 51 (by decide)), if_neg (hne 41 (by decide)),
      if_neg (hne 11 (by decide)), if_neg (hne 65037 (by decide)), if_neg (hne 0 (by decide))]
  · intro S hS
    have mem := fun e he => hS e ((shE_mem t e).2 he)
    have m5 : t.ocsp = true → S 5 = true := fun h => mem (5, []) (by simp [h])
    have m35 : t.ticket = true → S 35 = true := fun h => mem (35, []) (by simp [h])
    have mrn : t.rns = true → S 65281 = true := fun h => mem (65281, be 1 t.rn.length ++ t.rn) (by simp [h])
    have m23 : t.ems = true → S 23 = true := fun h => mem (23, []) (by simp [h])
    have m16 : t.alpn ≠ [] → S 16 = true := fun h => mem (16, (Wr.vector 2 (vecsW 1 [t.alpn])).b) (by simp [h])
    have m18 : t.scts ≠ [] → S 18 = true := fun h => mem (18, be 2 (vecsB 2 t.scts).length ++ vecsB 2 t.scts) (by simp [h])
    have m43 : t.sv ≠ 0 → S 43 = true := fun h => mem (43, be 2 t.sv.toNat) (by simp [h])
    have m51 : t.sg ≠ 0 → S 51 = true := fun h => mem (51, _) (.inr (.inr (.inr (.inr (.inr (.inr (.inr (.inl ⟨h, rfl⟩))))))))
    have m51' : t.selg ≠ 0 → S 51 = true := fun h => mem (51, _) (.inr (.inr (.inr (.inr (.inr (.inr (.inr (.inr (.inl ⟨h, rfl⟩)))))))))
    have m41 : t.sip = true → S 41 = true := fun h => mem (41, be 2 t.si.toNat) (by simp [h])
    have m44 : t.cookie ≠ [] → S 44 = true := fun h => mem (44, be 2 t.cookie.length ++ t.cookie) (by simp [h])
    have m11 : t.pts ≠ [] → S 11 = true := fun h => mem (11, be 1 t.pts.length ++ t.pts) (by simp [h])
    have mech : t.ech ≠ [] → S 65037 = true := fun h => mem (65037, t.ech) (by simp [h])
    have mack : t.ack = true → S 0 = true := fun h => mem (0, []) (by simp [h])
    have hn := h.n
    have hd := h.d
    have hi := h.i
    obtain ⟨a1, a2, a3, a4, a5, a6, a7, a8, a9, a10, a11, a12, a13, a14, a15, a16, a17, a18, a19, a20, a21, a22⟩ := t
    simp only at m5 m35 mrn m23 m16 m18 m43 m51 m51' m41 m44 m11 mech mack hn hd hi
    have bb : ∀ (s b : Bool), (b = true → s = true) → (s && b) = b := by intro s b h; cases b <;> simp_all
    have ll : ∀ {α : Type} (s : Bool) (l : List α), (l ≠ [] → s = true) → (if s = true then l else []) = l := by
      intro α s l h
      by_cases h0 : l = []
      · subst h0; simp
      · rw [if_pos (h h0)]
    have uu : ∀ (s : Bool) (k : UInt16), (k ≠ 0 → s = true) → (if s = true then k else 0) = k := by
      intro s k h
      by_cases h0 : k = 0
      · subst h0; simp
      · rw [if_pos (h h0)]
    simp only [bb _ _ m5, bb _ _ m35, bb _ _ mrn, bb _ _ m23, ll _ _ m16, ll _ _ m18, uu _ _ m43, uu _ _ m51, uu _ _ m51', bb _ _ m41, ll _ _ m44, ll _ _ m11, ll _ _ mech, bb _ _ mack]
    have r1 : (if S 65281 = true then a9 else []) = a9 := ll _ _ (fun h => by rcases hn with hn | hn; exact mrn hn; exact absurd hn h)
    have r2 : (if S 51 = true then a15 else []) = a15 := ll _ _ (fun h => m51 (fun e => h (hd.1 e)))
    have r3 : (if S 41 = true then a17 else 0) = a17 := uu _ _ (fun h => by rcases hi with hi | hi; exact m41 hi; exact absurd hi h)
    rw [r1, r2, r3]
/-- a message that is written is read -/
theorem shBody_msg {t : Sh} (h : ShOk t) (L : List Ex) (hl : (exsB L).length < 65536) (hn : (L.map (·.1)).Nodup) : shRead (shMsg t L) = runE shStep L (shHd t) := by
  have hs := h.s
  have hr := h.r
  unfold shRead shMsg
  rw [if_neg (by rw [msgB_len]; omega), msgB_drop]
  have e0 : shBodyB t L = UInt8.ofNat (t.vers.toNat / 256) :: UInt8.ofNat t.vers.toNat :: (t.random ++ (be 1 t.sid.length ++ t.sid ++ (be 2 t.suite.toNat ++ [t.comp] ++ (if L = [] then [] else blkB L)))) := by
    unfold shBodyB shHeadB
    rw [be2_two t.vers.toNat]
    simp
  rw [e0]
  show (if _ < 32 then none else shSid _ _ _) = _
  rw [if_neg (by rw [List.length_append]; omega), List.take_left' hr, List.drop_left' hr, lp_be1 _ _ (by omega), u16_be2]
  show shTail t.vers t.random t.sid (be 2 t.suite.toNat ++ [t.comp] ++ (if L = [] then [] else blkB L)) = _
  rw [be2_two]
  generalize hq : (if L = [] then [] else blkB L) = q
  show (if q = [] then some (shHead t.vers t.random t.sid (UInt16.ofNat ((UInt8.ofNat (t.suite.toNat / 256)).toNat * 256 + (UInt8.ofNat t.suite.toNat).toNat)) t.comp) else lastO shStep (shHead t.vers t.random t.sid (UInt16.ofNat ((UInt8.ofNat (t.suite.toNat / 256)).toNat * 256 + (UInt8.ofNat t.suite.toNat).toNat)) t.comp) q) = _
  rw [← hq]
  rw [u16_be2]
  by_cases h0 : L = []
  · subst h0
    rw [if_pos (by simp)]
    rfl
  · rw [if_neg h0]
    have hb : blkB L ≠ [] := by unfold blkB; simp [be]
    rw [if_neg hb, lastO_blkB _ _ _ hl hn]
    rfl
theorem sh_back {t : Sh} (h : ShOk t) (hf : shFits t = true) : shRead (shMsg t (shPE t)) = some t := by
  obtain ⟨h1, h2⟩ := (shFits_iff h).1 hf
  have hp := shPE_perm t
  have hn := shE_nodup h
  rw [shBody_msg h _ (by rw [shPE_len]; exact h2) (((hp.map _).nodup_iff).2 hn)]
  exact sh_run h (sh_small h1) ((ListsE.self hn).perm hp)
theorem sh_read {t : Sh} (h : ShOk t) (hb : (shExtL t).bad = false) {L : List Ex} (hW : (messageW 2 (shW t L)).bad = false) (hL : ListsE (shE t) L) : shRead (shMsg t L) = some t := by
  have h2 : (exsB L).length < 65536 := by
    rw [messageW_msgB, shW_eq] at hW
    simp only [Bool.or_eq_false_iff, decide_eq_false_iff_not] at hW
    omega
  rw [shBody_msg h L h2 hL.1]
  exact sh_run h (sh_small hb) hL
theorem shSpec_msg {t : Sh} (h : ShOk t) (L : List Ex) (hl : (exsB L).length < 65536) (hn : (L.map (·.1)).Nodup) : shSpec (shMsg t L) = specE shRd L (shHd t, ⟨[], 0⟩) := by
  have hs := h.s
  have hr := h.r
  have hlen := shBodyB_len t L
  have hb : bodyR 2 (shMsg t L) = ⟨shBodyB t L, 0⟩ := msgB_body 2 (by omega) _ (by omega)
  have e0 : shBodyB t L = be 2 t.vers.toNat ++ (t.random ++ (be 1 t.sid.length ++ t.sid ++ (be 2 t.suite.toNat ++ (t.comp :: (if L = [] then [] else blkB L))))) := by unfold shBodyB shHeadB; simp
  generalize hq : (if L = [] then [] else blkB L) = q at e0
  have n1 : (bodyR 2 (shMsg t L)).num 2 = (((UInt8.ofNat (t.vers.toNat / 256)).toNat * 256 + (UInt8.ofNat t.vers.toNat).toNat), ⟨t.random ++ (be 1 t.sid.length ++ t.sid ++ (be 2 t.suite.toNat ++ (t.comp :: q))), 0⟩) := by rw [hb, e0, num2_be']
  have e1 : shS1 (shMsg t L) = ⟨t.random ++ (be 1 t.sid.length ++ t.sid ++ (be 2 t.suite.toNat ++ (t.comp :: q))), 0⟩ := by unfold shS1; rw [n1]
  have n2 : (shS1 (shMsg t L)).take 32 = (t.random, ⟨be 1 t.sid.length ++ t.sid ++ (be 2 t.suite.toNat ++ (t.comp :: q)), 0⟩) := by
    rw [e1]; unfold R.take
    rw [if_neg (by rw [List.length_append]; omega), List.take_left' hr, List.drop_left' hr]
  have e2 : shS2 (shMsg t L) = ⟨be 1 t.sid.length ++ t.sid ++ (be 2 t.suite.toNat ++ (t.comp :: q)), 0⟩ := by unfold shS2; rw [n2]
  have n3 : (shS2 (shMsg t L)).vec 1 0 255 = (t.sid, ⟨be 2 t.suite.toNat ++ (t.comp :: q), 0⟩) := by rw [e2, R.vec_some (lp_be1 _ _ (by omega)), R.rng_in (by omega) (by omega)]
  have e3 : shS3 (shMsg t L) = ⟨be 2 t.suite.toNat ++ (t.comp :: q), 0⟩ := by unfold shS3; rw [n3]
  have e3n : shSN (shMsg t L) = t.sid := by unfold shSN; rw [n3]
  have e4 : shS4 (shMsg t L) = ⟨be 2 t.suite.toNat ++ (t.comp :: q), 0⟩ := by unfold shS4; rw [e3, e3n, if_neg (fun hh => by omega)]
  have n5 : (shS4 (shMsg t L)).num 2 = (((UInt8.ofNat (t.suite.toNat / 256)).toNat * 256 + (UInt8.ofNat t.suite.toNat).toNat), ⟨t.comp :: q, 0⟩) := by rw [e4, num2_be']
  have e5 : shS5 (shMsg t L) = ⟨t.comp :: q, 0⟩ := by unfold shS5; rw [n5]
  have n6 : (shS5 (shMsg t L)).num 1 = (t.comp.toNat, ⟨q, 0⟩) := by rw [e5, R.num_ok (by simp)]; simp [beNat]
  have e6 : shS6 (shMsg t L) = ⟨q, 0⟩ := by unfold shS6; rw [n6]
  have eM : shM0 (shMsg t L) = shHd t := by
    unfold shM0 shHd
    rw [n1, n2, e3n, n5, n6]
    simp only [u16_be2, UInt8.ofNat_toNat]
  unfold shSpec
  rw [eM, e6, ← hq]
  by_cases h0 : L = []
  · subst h0
    rw [if_pos rfl, if_pos (.inr rfl)]
    rfl
  · rw [if_neg h0, if_neg (by intro hh; rcases hh with hh | hh; exact hh rfl; simp [blkB, be_len] at hh)]
    exact spec_blkB shRd _ L hl hn
theorem sh_conv {t : Sh} (h : ShOk t) (hs : ShSm t) (e : Ex) (he : e ∈ shE t) (m m' : Sh) (hf : shFresh m e.1) (hm : shStep m e = some m') : (shRd m e.1 ⟨e.2, 0⟩).1 = m' ∧ (shRd m e.1 ⟨e.2, 0⟩).2.fin.code = 0 := by
  rcases (shE_mem t e).1 he with ⟨hc, rfl⟩ | ⟨hc, rfl⟩ | ⟨hc, rfl⟩ | ⟨hc, rfl⟩ | ⟨hc, rfl⟩ | ⟨hc, rfl⟩ | ⟨hc, rfl⟩ | ⟨hc, rfl⟩ | ⟨hc, rfl⟩ | ⟨hc, rfl⟩ | ⟨hc, rfl⟩ | ⟨hc, rfl⟩ | ⟨hc, rfl⟩ | ⟨hc, rfl⟩
  · injection hm with hm; exact ⟨hm, rfl⟩
  · injection hm with hm; exact ⟨hm, rfl⟩
  · have hv := lp_be1' t.rn (hs.rn hc)
    have hr : (R.mk (be 1 t.rn.length ++ t.rn) 0).vec 1 0 255 = (t.rn, ⟨[], 0⟩) := by rw [R.vec_some hv, R.rng_in (by omega) (by have := hs.rn hc; omega)]
    have hm : (vecP (lp 1 (be 1 t.rn.length ++ t.rn))).map (fun x => { m with rns := true, rn := x }) = some m' := hm
    rw [hv] at hm
    injection hm with hm
    have e : shRd m 65281 ⟨be 1 t.rn.length ++ t.rn, 0⟩ = ({ m with rns := true, rn := ((R.mk (be 1 t.rn.length ++ t.rn) 0).vec 1 0 255).1 }, ((R.mk (be 1 t.rn.length ++ t.rn) 0).vec 1 0 255).2) := rfl
    rw [e, hr]
    exact ⟨hm, rfl⟩
  · injection hm with hm; exact ⟨hm, rfl⟩
  · have ha := shAlpn_be _ hc (hs.alpn hc)
    have hm : (eeAlpn (Wr.vector 2 (vecsW 1 [t.alpn])).b).map (fun x => { m with alpn := x }) = some m' := hm
    have e : shRd m 16 ⟨(Wr.vector 2 (vecsW 1 [t.alpn])).b, 0⟩ = ({ m with alpn := (R.mk (Wr.vector 2 (vecsW 1 [t.alpn])).b 0).protocol.1 }, (R.mk (Wr.vector 2 (vecsW 1 [t.alpn])).b 0).protocol.2) := rfl
    rw [e, protocol_ok ha]
    rw [ha] at hm
    injection hm with hm
    exact ⟨hm, rfl⟩
  · have ha := listsP_be hc h.c (hs.scts hc)
    have hm : (listsP 2 2 (be 2 (vecsB 2 t.scts).length ++ vecsB 2 t.scts)).map (fun l => { m with scts := m.scts ++ l }) = some m' := hm
    have e : shRd m 18 ⟨be 2 (vecsB 2 t.scts).length ++ vecsB 2 t.scts, 0⟩ = ({ m with scts := ((R.mk (be 2 (vecsB 2 t.scts).length ++ vecsB 2 t.scts) 0).listsV 2 1 65535 2).1 }, ((R.mk (be 2 (vecsB 2 t.scts).length ++ vecsB 2 t.scts) 0).listsV 2 1 65535 2).2) := rfl
    rw [e, listsV_ok (by decide) (by decide) (by decide) ha]
    rw [ha, hf rfl] at hm
    injection hm with hm
    exact ⟨hm, rfl⟩
  · have hm : (u16P (be 2 t.sv.toNat)).map (fun x => { m with sv := x }) = some m' := hm
    rw [u16P_be] at hm
    injection hm with hm
    have e : shRd m 43 ⟨be 2 t.sv.toNat, 0⟩ = ({ m with sv := UInt16.ofNat ((R.mk (be 2 t.sv.toNat) 0).num 2).1 }, ((R.mk (be 2 t.sv.toNat) 0).num 2).2) := rfl
    rw [e, num2_be, u16_be2]
    exact ⟨hm, rfl⟩
  · have hd0 : t.sd ≠ [] := fun e => hc (h.d.2 e)
    have hlen : ¬ (be 2 t.sg.toNat ++ (be 2 t.sd.length ++ t.sd)).length = 2 := by
      have := List.length_pos_iff.2 hd0
      simp [be_len]
    have hsh : shareP (be 2 t.sg.toNat ++ (be 2 t.sd.length ++ t.sd)) = some (t.sg, t.sd) := by
      rw [be2_two]
      show (vecP (lp 2 (be 2 t.sd.length ++ t.sd))).map _ = _
      rw [lp_be2' _ (hs.sd hc)]
      show some (UInt16.ofNat _, t.sd) = _
      rw [u16_be2]
    have hm : (if (be 2 t.sg.toNat ++ (be 2 t.sd.length ++ t.sd)).length = 2 then (u16P (be 2 t.sg.toNat ++ (be 2 t.sd.length ++ t.sd))).map (fun x => { m with selg := x }) else (shareP (be 2 t.sg.toNat ++ (be 2 t.sd.length ++ t.sd))).map (fun x => { m with sg := x.1, sd := x.2 })) = some m' := hm
    rw [if_neg hlen, hsh] at hm
    injection hm with hm
    have e : shRd m 51 ⟨be 2 t.sg.toNat ++ (be 2 t.sd.length ++ t.sd), 0⟩ = shShare0 (UInt16.ofNat ((R.mk (be 2 t.sg.toNat ++ (be 2 t.sd.length ++ t.sd)) 0).num 2).1) (shShare m (UInt16.ofNat ((R.mk (be 2 t.sg.toNat ++ (be 2 t.sd.length ++ t.sd)) 0).num 2).1) ((R.mk (be 2 t.sg.toNat ++ (be 2 t.sd.length ++ t.sd)) 0).num 2).2) := rfl
    have hv : (R.mk (be 2 t.sd.length ++ t.sd) 0).vec 2 1 65535 = (t.sd, ⟨[], 0⟩) := by
      have := hs.sd hc
      have := List.length_pos_iff.2 hd0
      rw [R.vec_some (lp_be2' _ (hs.sd hc)), R.rng_in (by omega) (by omega)]
    have e2 : shShare m t.sg ⟨be 2 t.sd.length ++ t.sd, 0⟩ = ({ m with sg := t.sg, sd := t.sd }, ⟨[], 0⟩) := by
      unfold shShare
      rw [if_neg (by intro hh; simp [be_len] at hh), hv]
    rw [e, num2_be', u16_be2, e2]
    unfold shShare0
    rw [if_neg hc]
    exact ⟨hm, rfl⟩
  · have hm : (if (be 2 t.selg.toNat).length = 2 then (u16P (be 2 t.selg.toNat)).map (fun x => { m with selg := x }) else (shareP (be 2 t.selg.toNat)).map (fun x => { m with sg := x.1, sd := x.2 })) = some m' := hm
    rw [if_pos (be2_len2 _), u16P_be] at hm
    injection hm with hm
    have e : shRd m 51 ⟨be 2 t.selg.toNat, 0⟩ = shShare0 (UInt16.ofNat ((R.mk (be 2 t.selg.toNat) 0).num 2).1) (shShare m (UInt16.ofNat ((R.mk (be 2 t.selg.toNat) 0).num 2).1) ((R.mk (be 2 t.selg.toNat) 0).num 2).2) := rfl
    have e2 : shShare m t.selg ⟨[], 0⟩ = ({ m with selg := t.selg }, ⟨[], 0⟩) := by unfold shShare; rw [if_pos ⟨rfl, rfl⟩]
    rw [e, num2_be, u16_be2, e2]
    unfold shShare0
    rw [if_neg hc]
    exact ⟨hm, rfl⟩
  · have hm : (u16P (be 2 t.si.toNat)).map (fun x => { m with sip := true, si := x }) = some m' := hm
    rw [u16P_be] at hm
    injection hm with hm
    have e : shRd m 41 ⟨be 2 t.si.toNat, 0⟩ = ({ m with sip := true, si := UInt16.ofNat ((R.mk (be 2 t.si.toNat) 0).num 2).1 }, ((R.mk (be 2 t.si.toNat) 0).num 2).2) := rfl
    rw [e, num2_be, u16_be2]
    exact ⟨hm, rfl⟩
  · have hv : (R.mk (be 2 t.cookie.length ++ t.cookie) 0).vec 2 1 65535 = (t.cookie, ⟨[], 0⟩) := by
      have := hs.cookie hc
      have := List.length_pos_iff.2 hc
      rw [R.vec_some (lp_be2' _ (hs.cookie hc)), R.rng_in (by omega) (by omega)]
    have hm : (vecP1 (lp 2 (be 2 t.cookie.length ++ t.cookie))).map (fun x => { m with cookie := x }) = some m' := hm
    rw [lp_be2' _ (hs.cookie hc), vecP1_some hc] at hm
    injection hm with hm
    have e : shRd m 44 ⟨be 2 t.cookie.length ++ t.cookie, 0⟩ = ({ m with cookie := ((R.mk (be 2 t.cookie.length ++ t.cookie) 0).vec 2 1 65535).1 }, ((R.mk (be 2 t.cookie.length ++ t.cookie) 0).vec 2 1 65535).2) := rfl
    rw [e, hv]
    exact ⟨hm, rfl⟩
  · have hv : (R.mk (be 1 t.pts.length ++ t.pts) 0).vec 1 1 255 = (t.pts, ⟨[], 0⟩) := by
      have := hs.pts hc
      have := List.length_pos_iff.2 hc
      rw [R.vec_some (lp_be1' _ (hs.pts hc)), R.rng_in (by omega) (by omega)]
    have hm : (vecP1 (lp 1 (be 1 t.pts.length ++ t.pts))).map (fun x => { m with pts := x }) = some m' := hm
    rw [lp_be1' _ (hs.pts hc), vecP1_some hc] at hm
    injection hm with hm
    have e : shRd m 11 ⟨be 1 t.pts.length ++ t.pts, 0⟩ = ({ m with pts := ((R.mk (be 1 t.pts.length ++ t.pts) 0).vec 1 1 255).1 }, ((R.mk (be 1 t.pts.length ++ t.pts) 0).vec 1 1 255).2) := rfl
    rw [e, hv]
    exact ⟨hm, rfl⟩
  · have hm : some { m with ech := t.ech } = some m' := hm
    injection hm with hm
    have e : shRd m 65037 ⟨t.ech, 0⟩ = ({ m with ech := (R.mk t.ech 0).rest.1 }, (R.mk t.ech 0).rest.2) := rfl
    rw [e, rest_ok _ (fun h => hc (List.eq_nil_of_length_eq_zero h))]
    exact ⟨hm, rfl⟩
  · injection hm with hm; exact ⟨hm, rfl⟩
/-- what is made is, by the reference, this message -/
theorem sh_made {t : Sh} (h : ShOk t) (hf : shFits t = true) : shSpec (shMsg t (shPE t)) = (t, ⟨[], 0⟩) := by
  obtain ⟨h1, h2⟩ := (shFits_iff h).1 hf
  have hp := shPE_perm t
  have hn := shE_nodup h
  have hn' : ((shPE t).map (·.1)).Nodup := ((hp.map _).nodup_iff).2 hn
  rw [shSpec_msg h _ (by rw [shPE_len]; exact h2) hn']
  refine specE_convF shRd shStep shFresh _ hn' ?_ sh_fresh _ _ (fun e _ _ => rfl) _ (sh_run h (sh_small h1) ((ListsE.self hn).perm hp))
  intro e he m m' hf hs
  exact sh_conv h (sh_small h1) e (hp.mem_iff.1 he) m m' hf hs
end Go.Proofs.YtaajmfgplhfncaaGreat

/- NewSessionTicket of TLS 1.3, plainly: what is made is read. -/
import Derived.Test.YtcdjbciifnoajaaTkM
import Derived.Test.YtcdjbciifnoajaaBlock2
namespace Go.Proofs.Ytcdjbciifnoajaa
set_option maxRecDepth 20000

/-- a message around its body -/
def msgB (kind : Nat) (body : List UInt8) : List UInt8 := be 1 kind ++ be 3 body.length ++ body
theorem msgB_drop (kind : Nat) (body : List UInt8) : (msgB kind body).drop 4 = body := by
  unfold msgB; simp [be]
theorem msgB_len (kind : Nat) (body : List UInt8) : (msgB kind body).length = 4 + body.length := by
  unfold msgB; simp [be_len]; omega
theorem msgB_body (kind : Nat) (hk : kind < 256) (body : List UInt8) (h : body.length < 16777216) : bodyR kind (msgB kind body) = ⟨body, 0⟩ := by
  have hl := msgB_len kind body
  have h1 : (msgB kind body).take 1 = be 1 kind := by unfold msgB; simp [be]
  have h3 : ((msgB kind body).drop 1).take 3 = be 3 body.length := by unfold msgB; simp [be]
  rw [bodyR_of (by omega) (by rw [h1]; simp [be, beNat]; omega) (by rw [h3, beNat_be3 _ h]; omega), msgB_drop]
theorem be4_four (n : Nat) : be 4 n = [UInt8.ofNat (n / 16777216), UInt8.ofNat (n / 65536), UInt8.ofNat (n / 256), UInt8.ofNat n] := by simp [be]
theorem rd4_be (n : UInt32) (r : List UInt8) : rd4 (be 4 n.toNat ++ r) = some (n, r) := by
  have hn := n.toNat_lt
  rw [be4_four]
  show some (UInt32.ofNat (beNat _), r) = _
  have : beNat [UInt8.ofNat (n.toNat / 16777216), UInt8.ofNat (n.toNat / 65536), UInt8.ofNat (n.toNat / 256), UInt8.ofNat n.toNat] = n.toNat := by
    simp [beNat]; omega
  rw [this, UInt32.ofNat_toNat]
theorem lp_be1 (x r : List UInt8) (h : x.length < 256) : lp 1 (be 1 x.length ++ x ++ r) = some (x, r) := lp_be 1 x r (by simp [be, beNat]; omega)

/-- its extensions -/
def tkE (t : Tk) : List Ex := if 0 < t.early.toNat then [(42, be 4 t.early.toNat)] else []
def tkBodyB (t : Tk) (L : List Ex) : List UInt8 := be 4 t.life.toNat ++ (be 4 t.age.toNat ++ (be 1 t.nonce.length ++ t.nonce ++ (be 2 t.label.length ++ t.label ++ blkB L)))
def tkMsg (t : Tk) (L : List Ex) : List UInt8 := msgB 4 (tkBodyB t L)
def tkM (t : Tk) : Tk := ⟨t.life, t.age, t.nonce, t.label, 0⟩
theorem tkBodyB_len (t : Tk) (L : List Ex) : (tkBodyB t L).length = 13 + t.nonce.length + t.label.length + (exsB L).length := by
  unfold tkBodyB blkB; simp [be_len]; omega
theorem tkE_len (t : Tk) : (exsB (tkE t)).length ≤ 8 := by
  unfold tkE
  split
  · simp [exsB, exB, be_len]
  · simp [exsB]
theorem tkRead_msg (t : Tk) (L : List Ex) (h1 : t.nonce.length < 256) (h2 : t.label.length < 65536) (h3 : (exsB L).length < 65536) : tkRead (tkMsg t L) = runE tkStep L (tkM t) := by
  unfold tkRead tkMsg
  rw [if_neg (by rw [msgB_len]; omega), msgB_drop]
  unfold tkBody tkBodyB
  rw [rd4_be]
  rw [Option.bind_some]
  unfold tkAge
  rw [rd4_be]
  rw [Option.bind_some]
  unfold tkNonce
  rw [lp_be1 _ _ h1]
  rw [Option.bind_some]
  unfold tkLabel
  rw [lp_be 2 _ _ (beNat_be2 _ h2)]
  rw [Option.bind_some]
  rw [tkExt_eq, lastB_blkB _ _ _ h3]
  rfl
theorem num4_be (n : UInt32) (r : List UInt8) : UInt32.ofNat ((R.mk (be 4 n.toNat ++ r) 0).num 4).1 = n ∧ ((R.mk (be 4 n.toNat ++ r) 0).num 4).2 = ⟨r, 0⟩ := by
  rcases num4_law (be 4 n.toNat ++ r) with ⟨h, _⟩ | ⟨m, r', h, h1, h2⟩
  · rw [rd4_be] at h; cases h
  · rw [rd4_be] at h; cases h; exact ⟨h1, h2⟩
theorem tkSpec_msg (t : Tk) (L : List Ex) (h1 : t.nonce.length < 256) (h2 : t.label.length < 65536) (h0 : 0 < t.label.length) (h3 : (exsB L).length < 65536) (hn : (L.map (·.1)).Nodup) : tkSpec (tkMsg t L) = specE tkRd L (tkM t, ⟨[], 0⟩) := by
  have hb : bodyR 4 (tkMsg t L) = ⟨tkBodyB t L, 0⟩ := msgB_body 4 (by omega) _ (by rw [tkBodyB_len]; omega)
  obtain ⟨a1, a2⟩ := num4_be t.life (be 4 t.age.toNat ++ (be 1 t.nonce.length ++ t.nonce ++ (be 2 t.label.length ++ t.label ++ blkB L)))
  obtain ⟨b1, b2⟩ := num4_be t.age (be 1 t.nonce.length ++ t.nonce ++ (be 2 t.label.length ++ t.label ++ blkB L))
  have e1 : (tkR1 (tkMsg t L)).2 = ⟨be 4 t.age.toNat ++ (be 1 t.nonce.length ++ t.nonce ++ (be 2 t.label.length ++ t.label ++ blkB L)), 0⟩ := by unfold tkR1; rw [hb]; exact a2
  have v1 : UInt32.ofNat (tkR1 (tkMsg t L)).1 = t.life := by unfold tkR1; rw [hb]; exact a1
  have e2 : (tkR2 (tkMsg t L)).2 = ⟨be 1 t.nonce.length ++ t.nonce ++ (be 2 t.label.length ++ t.label ++ blkB L), 0⟩ := by unfold tkR2; rw [e1]; exact b2
  have v2 : UInt32.ofNat (tkR2 (tkMsg t L)).1 = t.age := by unfold tkR2; rw [e1]; exact b1
  have e3 : tkR3 (tkMsg t L) = (t.nonce, ⟨be 2 t.label.length ++ t.label ++ blkB L, 0⟩) := by
    unfold tkR3
    rw [e2, R.vec_some (lp_be1 _ _ h1), R.rng_in (by omega) (by omega)]
  have e4 : tkR4 (tkMsg t L) = (t.label, ⟨blkB L, 0⟩) := by
    unfold tkR4
    rw [e3, R.vec_some (lp_be 2 _ _ (beNat_be2 _ h2)), R.rng_in (by omega) (by omega)]
  have hm : tkM0 (tkMsg t L) = tkM t := by unfold tkM0 tkM; rw [v1, v2, e3, e4]
  have hsp : tkSpec (tkMsg t L) = specE tkRd (tkR4 (tkMsg t L)).2.exts.1 (tkM0 (tkMsg t L), (tkR4 (tkMsg t L)).2.exts.2.fin) := rfl
  rw [hsp, hm, e4]
  exact spec_blkB tkRd _ L h3 hn
/-- right extensions give the message -/
theorem tk_run (t : Tk) {L : List Ex} (hL : ListsE (tkE t) L) : runE tkStep L (tkM t) = some t := by
  refine runE_right tkStep (tkE t) (fun S => ⟨t.life, t.age, t.nonce, t.label, if S 42 then t.early else 0⟩) t ?_ ?_ ?_ hL
  · intro S e he
    unfold tkE at he
    split at he
    · simp at he
      subst he
      show tkStep _ (42, be 4 t.early.toNat) = _
      unfold tkStep
      rw [if_pos rfl]
      have := rd4_be t.early []
      rw [List.append_nil] at this
      show tkEarly _ (rd4 (be 4 t.early.toNat)) = _
      rw [this]
      simp [tkEarly]
    · cases he
  · intro S e h1 h2
    unfold tkStep
    rw [if_neg]
    intro h
    rw [h] at h1
    have : (42 : UInt16).toNat = 42 := rfl
    omega
  · intro S hS
    by_cases hz : 0 < t.early.toNat
    · have : S 42 = true := hS (42, be 4 t.early.toNat) (by unfold tkE; rw [if_pos hz]; simp)
      simp [this]
    · have h0 : t.early = 0 := UInt32.toNat_inj.1 (by have : (0 : UInt32).toNat = 0 := rfl; omega)
      obtain ⟨l, a, n, lb, ea⟩ := t
      simp only at h0
      subst h0
      simp
theorem tkE_nodup (t : Tk) : ((tkE t).map (·.1)).Nodup := by
  unfold tkE
  split <;> simp
theorem tk_conv (L : List Ex) : ∀ e ∈ L, ∀ m m', tkStep m e = some m' → (tkRd m e.1 ⟨e.2, 0⟩).1 = m' ∧ (tkRd m e.1 ⟨e.2, 0⟩).2.fin.code = 0 := by
  intro e _ m m' h
  obtain ⟨k, d⟩ := e
  unfold tkStep at h
  unfold tkRd
  by_cases hk : k = 42
  · rw [if_pos hk] at h
    rw [if_pos hk]
    show Tk.mk _ _ _ _ _ = m' ∧ ((R.mk d 0).num 4).2.fin.code = 0
    rcases num4_law d with ⟨a1, a2⟩ | ⟨n, r, a1, a2, a3⟩
    · simp only [a1] at h
      cases h
    · simp only [a1] at h
      cases r with
      | cons y t => cases h
      | nil =>
        injection h with h
        rw [a3]
        refine ⟨?_, rfl⟩
        rw [← h]
        show Tk.mk _ _ _ _ (UInt32.ofNat ((R.mk d 0).num 4).1) = _
        rw [a2]
  · rw [if_neg hk] at h
    rw [if_neg hk]
    injection h with h
    refine ⟨h, ?_⟩
    show ((R.mk d 0).take d.length).2.fin.code = 0
    rw [take_all]
    rfl
/-- what the package makes -/
theorem tkMake_eq (t : Tk) : tkMake t = if t.nonce.length < 256 ∧ t.label.length < 65536 then some (tkMsg t (tkE t)) else none := by
  have he : tkEarlyOut t.early = some (exsB (tkE t)) := by
    unfold tkEarlyOut tkE
    by_cases hz : 0 < t.early.toNat
    · rw [if_pos hz, if_pos hz]
      simp [lpOut, be_len, app, exsB, exB]
    · rw [if_neg hz, if_neg hz]; rfl
  have hl := tkE_len t
  unfold tkMake tkOut
  rw [he]
  by_cases h1 : t.nonce.length < 256
  · by_cases h2 : t.label.length < 65536
    · rw [if_pos ⟨h1, h2⟩]
      have e1 : lpOut 1 (some t.nonce) = some (be 1 t.nonce.length ++ t.nonce) := by simp [lpOut, h1]
      have e2 : lpOut 2 (some t.label) = some (be 2 t.label.length ++ t.label) := by simp [lpOut, h2]
      have e3 : lpOut 2 (some (exsB (tkE t))) = some (blkB (tkE t)) := by
        unfold lpOut blkB
        simp only
        rw [if_pos (by omega)]
      rw [e1, e2, e3]
      show app _ (lpOut 3 (some (tkBodyB t (tkE t)))) = _
      unfold lpOut
      simp only
      rw [if_pos (by rw [tkBodyB_len]; omega)]
      simp [app, tkMsg, msgB, be]
    · rw [if_neg (fun h => h2 h.2)]
      have e2 : lpOut 2 (some t.label) = none := by simp [lpOut, h2]
      rw [e2]
      simp [app, lpOut]
  · rw [if_neg (fun h => h1 h.1)]
    have e1 : lpOut 1 (some t.nonce) = none := by simp [lpOut, h1]
    rw [e1]
    simp [app, lpOut]
/-- a message that is made is read back -/
theorem tk_back (t : Tk) (h1 : t.nonce.length < 256) (h2 : t.label.length < 65536) : tkMake t = some (tkMsg t (tkE t)) ∧ tkRead (tkMsg t (tkE t)) = some t := by
  refine ⟨by rw [tkMake_eq, if_pos ⟨h1, h2⟩], ?_⟩
  rw [tkRead_msg t _ h1 h2 (by have := tkE_len t; omega)]
  exact tk_run t (ListsE.self (tkE_nodup t))
/-- what is read has vectors that can be written -/
theorem tkRead_sizes {data : List UInt8} {t : Tk} (h : tkRead data = some t) : t.nonce.length < 256 ∧ t.label.length < 65536 := by
  have hrun : ∀ (l : List Ex) (m m' : Tk), runE tkStep l m = some m' → m'.nonce = m.nonce ∧ m'.label = m.label := by
    intro l
    induction l with
    | nil => intro m m' h; injection h with h; rw [h]; exact ⟨rfl, rfl⟩
    | cons e l ih =>
      intro m m' h
      have h : (tkStep m e).bind (runE tkStep l) = some m' := h
      rcases hs : tkStep m e with _ | m1
      · rw [hs] at h; cases h
      · rw [hs] at h
        obtain ⟨a, b⟩ := ih m1 m' h
        have hm : m1.nonce = m.nonce ∧ m1.label = m.label := by
          unfold tkStep at hs
          split at hs
          · rcases hr : rd4 e.2 with _ | ⟨n, _ | ⟨y, t⟩⟩
            · rw [hr] at hs; cases hs
            · rw [hr] at hs; injection hs with hs; rw [← hs]; exact ⟨rfl, rfl⟩
            · rw [hr] at hs; cases hs
          · injection hs with hs; rw [hs]; exact ⟨rfl, rfl⟩
        exact ⟨a.trans hm.1, b.trans hm.2⟩
  unfold tkRead at h
  split at h
  · cases h
  · unfold tkBody at h
    rcases h1 : rd4 (data.drop 4) with _ | ⟨life, d1⟩
    · rw [h1] at h; cases h
    · rw [h1] at h
      have h : tkAge life d1 = some t := h
      unfold tkAge at h
      rcases h2 : rd4 d1 with _ | ⟨age, d2⟩
      · rw [h2] at h; cases h
      · rw [h2] at h
        have h : tkNonce life age d2 = some t := h
        unfold tkNonce at h
        rcases h3 : lp 1 d2 with _ | ⟨n, d3⟩
        · rw [h3] at h; cases h
        · rw [h3] at h
          have h : tkLabel life age n d3 = some t := h
          unfold tkLabel at h
          rcases h4 : lp 2 d3 with _ | ⟨lb, d4⟩
          · rw [h4] at h; cases h
          · rw [h4] at h
            have h : tkExt ⟨life, age, n, lb, 0⟩ d4 = some t := h
            rw [tkExt_eq] at h
            rcases h5 : lp 2 d4 with _ | ⟨x, _ | ⟨y, tl⟩⟩
            · rw [lastB_none h5] at h; cases h
            · rw [lastB_some h5] at h
              unfold blockE at h
              rcases h6 : exts x with _ | l
              · rw [h6] at h; cases h
              · rw [h6] at h
                obtain ⟨a, b⟩ := hrun l _ _ h
                rw [a, b]
                exact ⟨(lp_len h3).1, (lp_len h4).1⟩
            · rw [lastB_more h5] at h; cases h
end Go.Proofs.Ytcdjbciifnoajaa

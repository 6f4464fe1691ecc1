/- EncryptedExtensions, plainly: what the package reads, what the reference reads. No program is named here. -/
import Derived.Test.YtaajmfgplhfncaaGreatBody
namespace Go.Proofs.YtaajmfgplhfncaaGreat
set_option maxRecDepth 20000

/-- an EncryptedExtensions -/
structure Ee where
  alpn : List UInt8
  has : Bool
  quic : List UInt8
  early : Bool
  ech : List UInt8
  ack : Bool
def Ee.zero : Ee := ⟨[], false, [], false, [], false⟩
def eeInner : Option (List UInt8 × List UInt8) → Option (List UInt8)
  | some (y :: p, []) => some (y :: p)
  | _ => none
def eeOuter : Option (List UInt8 × List UInt8) → Option (List UInt8)
  | some (x, []) => eeInner (lp 1 x)
  | _ => none
/-- one protocol -/
def eeAlpn (d : List UInt8) : Option (List UInt8) := eeOuter (lp 2 d)
def Ee.setAlpn (m : Ee) (p : List UInt8) : Ee := ⟨p, m.has, m.quic, m.early, m.ech, m.ack⟩
def Ee.setQuic (m : Ee) (p : List UInt8) : Ee := ⟨m.alpn, true, p, m.early, m.ech, m.ack⟩
def Ee.setEarly (m : Ee) : Ee := ⟨m.alpn, m.has, m.quic, true, m.ech, m.ack⟩
def Ee.setEch (m : Ee) (p : List UInt8) : Ee := ⟨m.alpn, m.has, m.quic, m.early, p, m.ack⟩
def Ee.setAck (m : Ee) : Ee := ⟨m.alpn, m.has, m.quic, m.early, m.ech, true⟩
/-- an extension -/
def eeStep (m : Ee) (e : Ex) : Option Ee :=
  if e.1 = 16 then (eeAlpn e.2).map m.setAlpn
  else if e.1 = 57 then some (m.setQuic e.2)
  else if e.1 = 42 then (if e.2 = [] then some m.setEarly else none)
  else if e.1 = 65037 then some (m.setEch e.2)
  else if e.1 = 0 then (if e.2 = [] then some m.setAck else none)
  else some m
def eeRead (data : List UInt8) : Option Ee := if data.length < 4 then none else lastO eeStep Ee.zero (data.drop 4)

/-- 'protocol' -/
def prL (x : R) : R := (x.vec 2 2 65535).2.within (x.vec 2 2 65535).1
def prM (x : R) : R := if ((prL x).vec 1 1 255).2.code = 0 ∧ 0 < ((prL x).vec 1 1 255).2.bs.length then ((prL x).vec 1 1 255).2.fail 1 else ((prL x).vec 1 1 255).2
def R.protocol (x : R) : List UInt8 × R := (((prL x).vec 1 1 255).1, (x.vec 2 2 65535).2.done (prM x))
/-- 'rest' -/
def R.rest1 (x : R) : R := if x.bs.length = 0 then x.fail 1 else x
def R.rest (x : R) : List UInt8 × R := x.rest1.take x.rest1.bs.length
def eeRd (m : Ee) (k : UInt16) (x : R) : Ee × R :=
  if k = 16 then (m.setAlpn x.protocol.1, x.protocol.2)
  else if k = 57 then (m.setQuic (x.take x.bs.length).1, (x.take x.bs.length).2)
  else if k = 42 then (m.setEarly, x)
  else if k = 65037 then (m.setEch x.rest.1, x.rest.2)
  else if k = 0 then (m.setAck, x)
  else (m, (x.take x.bs.length).2)
def eeSpec (data : List UInt8) : Ee × R := specE eeRd (bodyR 8 data).exts.1 (Ee.zero, (bodyR 8 data).exts.2.fin)

theorem all_take (d : List UInt8) : (R.mk d 0).take d.length = (d, ⟨[], 0⟩) := by
  unfold R.take
  rw [if_neg (show ¬ d.length < d.length by omega)]
  simp
theorem lp1_short {x p t : List UInt8} (h : lp 1 x = some (p, t)) (hx : x.length < 2) : p = [] := by
  have h1 := lp_len h
  exact List.eq_nil_of_length_eq_zero (by omega)
theorem eeInner_nil (t : List UInt8) : eeInner (some ([], t)) = none := by cases t <;> rfl
theorem eeInner_more (p t : List UInt8) (y : UInt8) : eeInner (some (p, y :: t)) = none := by cases p <;> rfl
/-- what a reader that has failed leaves -/
theorem done_fail {r : List UInt8} {s : R} {c : Nat} (h : s.code = c) (hc : c ≠ 0) : (R.mk r 0).done s = ⟨[], c⟩ := by
  unfold R.done
  have h2 : s.fin.code = c := by rw [R.fin_code (by rw [h]; exact hc), h]
  rw [if_neg (by rw [h2]; exact hc), h2]
  rfl
theorem protocol_2 (x : R) : x.protocol.2 = (x.vec 2 2 65535).2.done (prM x) := by simp only [R.protocol]
theorem protocol_law (d : List UInt8) : ((R.mk d 0).protocol.2.fin.code = 0 → eeAlpn d = some (R.mk d 0).protocol.1) ∧ ((R.mk d 0).protocol.2.fin.code = 2 ∨ (R.mk d 0).protocol.2.fin.code = 3 ∨ (R.mk d 0).protocol.2.fin.code = 4 → eeAlpn d = none) := by
  rcases ha : lp 2 d with _ | ⟨x, r⟩
  · have hn : eeAlpn d = none := by unfold eeAlpn; rw [ha]; rfl
    have hv : (R.mk d 0).vec 2 2 65535 = ([], ⟨[], 3⟩) := R.vec_none ha _ _
    have hc : (R.mk d 0).protocol.2.code = 3 := by
      rw [protocol_2, hv]
      rw [R.done_code (s := ⟨[], 3⟩) (by decide)]
    rw [R.fin_code (by rw [hc]; decide), hc]
    exact ⟨fun h => (by cases h), fun _ => hn⟩
  have hl := lp_len ha
  by_cases hx : x.length < 2
  · have hn : eeAlpn d = none := by
      unfold eeAlpn; rw [ha]
      cases r with
      | cons y t => rfl
      | nil =>
        show eeInner (lp 1 x) = none
        rcases hb : lp 1 x with _ | ⟨p, t⟩
        · rfl
        · rw [lp1_short hb hx]; exact eeInner_nil t
    have hv : (R.mk d 0).vec 2 2 65535 = (x, ⟨[], 2⟩) := by rw [R.vec_some ha, R.rng_out (.inl hx)]
    have hc : (R.mk d 0).protocol.2.code = 2 := by
      rw [protocol_2, hv]
      rw [R.done_code (s := ⟨[], 2⟩) (by decide)]
    rw [R.fin_code (by rw [hc]; decide), hc]
    exact ⟨fun h => (by cases h), fun _ => hn⟩
  have hv : (R.mk d 0).vec 2 2 65535 = (x, ⟨r, 0⟩) := by rw [R.vec_some ha, R.rng_in (by omega) (by omega)]
  have hL : prL ⟨d, 0⟩ = ⟨x, 0⟩ := by unfold prL; rw [hv]; rfl
  have hP : (R.mk d 0).protocol = (((R.mk x 0).vec 1 1 255).1, (R.mk r 0).done (prM ⟨d, 0⟩)) := by
    unfold R.protocol; rw [hL, hv]
  have hA : eeAlpn d = eeOuter (some (x, r)) := by unfold eeAlpn; rw [ha]
  rw [hP, hA]
  rcases hb : lp 1 x with _ | ⟨p, t⟩
  · have hn : eeOuter (some (x, r)) = none := by
      cases r with
      | cons y t => rfl
      | nil => show eeInner (lp 1 x) = none; rw [hb]; rfl
    have hM : (prM ⟨d, 0⟩).code = 3 := by
      unfold prM; rw [hL, R.vec_none hb]; rfl
    rw [done_fail hM (by decide)]
    exact ⟨fun h => (by cases h), fun _ => hn⟩
  have hlx := lp_len hb
  by_cases hp : p.length = 0
  · have hp : p = [] := List.eq_nil_of_length_eq_zero hp
    subst hp
    have hn : eeOuter (some (x, r)) = none := by
      cases r with
      | cons y t => rfl
      | nil => show eeInner (lp 1 x) = none; rw [hb]; exact eeInner_nil t
    have hM : (prM ⟨d, 0⟩).code = 2 := by
      unfold prM; rw [hL, R.vec_some hb, R.rng_out (.inl (by simp))]; rfl
    rw [done_fail hM (by decide)]
    exact ⟨fun h => (by cases h), fun _ => hn⟩
  have hvx : (R.mk x 0).vec 1 1 255 = (p, ⟨t, 0⟩) := by rw [R.vec_some hb, R.rng_in (by omega) (by omega)]
  cases t with
  | cons y t =>
    have hM : (prM ⟨d, 0⟩).code = 1 := by
      unfold prM; rw [hL, hvx]; rw [if_pos ⟨rfl, by simp⟩]; rfl
    rw [done_fail hM (by decide)]
    exact ⟨fun h => (by cases h), fun h => (by rcases h with h | h | h <;> cases h)⟩
  | nil =>
    have hM : prM ⟨d, 0⟩ = ⟨[], 0⟩ := by
      unfold prM; rw [hL, hvx]; rw [if_neg (fun h => absurd h.2 (by simp))]
    rw [hM, hvx]
    have hD : (R.mk r 0).done ⟨[], 0⟩ = ⟨r, 0⟩ := rfl
    rw [hD]
    cases r with
    | nil =>
      refine ⟨fun _ => ?_, fun h => (by rcases h with h | h | h <;> cases h)⟩
      show eeInner (lp 1 x) = some p
      rw [hb]
      cases p with
      | nil => exact absurd rfl hp
      | cons y p => rfl
    | cons y r => exact ⟨fun h => (by cases h), fun _ => rfl⟩
theorem rest_ok (d : List UInt8) (h : d.length ≠ 0) : (R.mk d 0).rest = (d, ⟨[], 0⟩) := by
  unfold R.rest R.rest1
  rw [if_neg (show ¬ d.length = 0 from h)]
  exact all_take d
theorem rest_nil : (R.mk [] 0).rest = ([], ⟨[], 1⟩) := rfl
theorem ee_step_law (m : Ee) (k : UInt16) (d : List UInt8) : ((eeRd m k ⟨d, 0⟩).2.fin.code = 0 → eeStep m (k, d) = some (eeRd m k ⟨d, 0⟩).1) ∧ ((eeRd m k ⟨d, 0⟩).2.fin.code = 2 ∨ (eeRd m k ⟨d, 0⟩).2.fin.code = 3 ∨ (eeRd m k ⟨d, 0⟩).2.fin.code = 4 → eeStep m (k, d) = none) := by
  have h0 : (R.mk d 0).fin.code = 0 ∧ d = [] ∨ (R.mk d 0).fin.code = 3 ∧ d ≠ [] := by
    cases d with
    | nil => exact .inl ⟨rfl, rfl⟩
    | cons y t => exact .inr ⟨rfl, by simp⟩
  unfold eeRd eeStep
  dsimp only
  by_cases h16 : k = 16
  · rw [if_pos h16, if_pos h16]
    obtain ⟨l1, l2⟩ := protocol_law d
    dsimp only
    generalize (R.mk d 0).protocol = pr at l1 l2
    exact ⟨fun h => by rw [l1 h]; rfl, fun h => by rw [l2 h]; rfl⟩
  rw [if_neg h16, if_neg h16]
  by_cases h57 : k = 57
  · rw [if_pos h57, if_pos h57, all_take]
    exact ⟨fun _ => rfl, fun h => (by rcases h with h | h | h <;> cases h)⟩
  rw [if_neg h57, if_neg h57]
  by_cases h42 : k = 42
  · rw [if_pos h42, if_pos h42]
    dsimp only
    rcases h0 with ⟨h1, h2⟩ | ⟨h1, h2⟩
    · rw [h1, if_pos h2]; exact ⟨fun _ => rfl, fun h => (by rcases h with h | h | h <;> cases h)⟩
    · rw [h1, if_neg h2]; exact ⟨fun h => (by cases h), fun _ => rfl⟩
  rw [if_neg h42, if_neg h42]
  by_cases hech : k = 65037
  · rw [if_pos hech, if_pos hech]
    dsimp only
    cases d with
    | nil => rw [rest_nil]; exact ⟨fun h => (by cases h), fun h => (by rcases h with h | h | h <;> cases h)⟩
    | cons y t => rw [rest_ok _ (by simp)]; exact ⟨fun _ => rfl, fun h => (by rcases h with h | h | h <;> cases h)⟩
  rw [if_neg hech, if_neg hech]
  by_cases hack : k = 0
  · rw [if_pos hack, if_pos hack]
    dsimp only
    rcases h0 with ⟨h1, h2⟩ | ⟨h1, h2⟩
    · rw [h1, if_pos h2]; exact ⟨fun _ => rfl, fun h => (by rcases h with h | h | h <;> cases h)⟩
    · rw [h1, if_neg h2]; exact ⟨fun h => (by cases h), fun _ => rfl⟩
  rw [if_neg hack, if_neg hack, all_take]
  exact ⟨fun _ => rfl, fun h => (by rcases h with h | h | h <;> cases h)⟩
theorem ee_law (data : List UInt8) : ((eeSpec data).2.code = 0 → eeRead data = some (eeSpec data).1) ∧ ((eeSpec data).2.code = 2 ∨ (eeSpec data).2.code = 3 ∨ (eeSpec data).2.code = 4 → eeRead data = none) := by
  rcases bodyR_two 8 data with h | ⟨h, h4, -, -⟩
  · have hc : (eeSpec data).2.code = 1 := by
      unfold eeSpec
      rw [block_code eeRd _ (by rw [h]; decide), h]
    rw [hc]
    exact ⟨fun h => by omega, fun h => by omega⟩
  · have hk : eeRead data = lastO eeStep Ee.zero (data.drop 4) := by unfold eeRead; rw [if_neg (by omega)]
    rw [hk]
    unfold eeSpec
    rw [h]
    exact lastO_law eeRd eeStep (fun c => c = 2 ∨ c = 3 ∨ c = 4) (by decide) ee_step_law _ _
end Go.Proofs.YtaajmfgplhfncaaGreat

/- ServerHello, plainly: what the package reads, what the reference reads. No program is named here. -/
import Derived.Test.YtaajmfgplhfncaaGreatEePlain
import Derived.Test.YtaajmfgplhfncaaGreatLists
namespace Go.Proofs.YtaajmfgplhfncaaGreat
set_option maxRecDepth 20000

/-- a ServerHello -/
structure Sh where
  vers : UInt16
  random : List UInt8
  sid : List UInt8
  suite : UInt16
  comp : UInt8
  ocsp : Bool
  ticket : Bool
  rns : Bool
  rn : List UInt8
  ems : Bool
  alpn : List UInt8
  scts : List (List UInt8)
  sv : UInt16
  sg : UInt16
  sd : List UInt8
  sip : Bool
  si : UInt16
  pts : List UInt8
  ech : List UInt8
  ack : Bool
  cookie : List UInt8
  selg : UInt16
def Sh.zero : Sh := ⟨0, [], [], 0, 0, false, false, false, [], false, [], [], 0, 0, [], false, 0, [], [], false, [], 0⟩
/-- the message's head -/
def shHead (vers : UInt16) (random sid : List UInt8) (suite : UInt16) (comp : UInt8) : Sh := { Sh.zero with vers := vers, random := random, sid := sid, suite := suite, comp := comp }
/-- a number of two bytes, and nothing else -/
def u16P : List UInt8 → Option UInt16
  | [a, b] => some (UInt16.ofNat (a.toNat * 256 + b.toNat))
  | _ => none
/-- a vector, and nothing behind it -/
def vecP : Option (List UInt8 × List UInt8) → Option (List UInt8)
  | some (x, []) => some x
  | _ => none
def vecP1 : Option (List UInt8 × List UInt8) → Option (List UInt8)
  | some (y :: x, []) => some (y :: x)
  | _ => none
def shareP : List UInt8 → Option (UInt16 × List UInt8)
  | a :: b :: t => (vecP (lp 2 t)).map fun x => (UInt16.ofNat (a.toNat * 256 + b.toNat), x)
  | _ => none
/-- an extension -/
def shStep (m : Sh) (e : Ex) : Option Sh :=
  if e.1 = 5 then (if e.2 = [] then some { m with ocsp := true } else none)
  else if e.1 = 35 then (if e.2 = [] then some { m with ticket := true } else none)
  else if e.1 = 65281 then (vecP (lp 1 e.2)).map fun x => { m with rns := true, rn := x }
  else if e.1 = 23 then (if e.2 = [] then some { m with ems := true } else none)
  else if e.1 = 16 then (eeAlpn e.2).map fun x => { m with alpn := x }
  else if e.1 = 18 then (listsP 2 2 e.2).map fun l => { m with scts := m.scts ++ l }
  else if e.1 = 43 then (u16P e.2).map fun x => { m with sv := x }
  else if e.1 = 44 then (vecP1 (lp 2 e.2)).map fun x => { m with cookie := x }
  else if e.1 = 51 then (if e.2.length = 2 then (u16P e.2).map fun x => { m with selg := x } else (shareP e.2).map fun x => { m with sg := x.1, sd := x.2 })
  else if e.1 = 41 then (u16P e.2).map fun x => { m with sip := true, si := x }
  else if e.1 = 11 then (vecP1 (lp 1 e.2)).map fun x => { m with pts := x }
  else if e.1 = 65037 then some { m with ech := e.2 }
  else if e.1 = 0 then (if e.2 = [] then some { m with ack := true } else none)
  else some m
/-- behind the session's name -/
def shTail (vers : UInt16) (random sid : List UInt8) : List UInt8 → Option Sh
  | a :: b :: c :: r => if r = [] then some (shHead vers random sid (UInt16.ofNat (a.toNat * 256 + b.toNat)) c) else lastO shStep (shHead vers random sid (UInt16.ofNat (a.toNat * 256 + b.toNat)) c) r
  | _ => none
def shSid (vers : UInt16) (random : List UInt8) : Option (List UInt8 × List UInt8) → Option Sh
  | some (sid, r) => shTail vers random sid r
  | none => none
def shBody : List UInt8 → Option Sh
  | a :: b :: t => if t.length < 32 then none else shSid (UInt16.ofNat (a.toNat * 256 + b.toNat)) (t.take 32) (lp 1 (t.drop 32))
  | _ => none
def shRead (data : List UInt8) : Option Sh := if data.length < 4 then none else shBody (data.drop 4)

/-- what the reference reads -/
def shShare (m : Sh) (g : UInt16) (x : R) : Sh × R := if x.code = 0 ∧ x.bs.length = 0 then ({ m with selg := g }, x) else ({ m with sg := g, sd := (x.vec 2 1 65535).1 }, (x.vec 2 1 65535).2)
def shShare0 (g : UInt16) (p : Sh × R) : Sh × R := if g = 0 then (p.1, p.2.fail 1) else p
def shRd (m : Sh) (k : UInt16) (x : R) : Sh × R :=
  if k = 5 then ({ m with ocsp := true }, x)
  else if k = 35 then ({ m with ticket := true }, x)
  else if k = 65281 then ({ m with rns := true, rn := (x.vec 1 0 255).1 }, (x.vec 1 0 255).2)
  else if k = 23 then ({ m with ems := true }, x)
  else if k = 16 then ({ m with alpn := x.protocol.1 }, x.protocol.2)
  else if k = 18 then ({ m with scts := (x.listsV 2 1 65535 2).1 }, (x.listsV 2 1 65535 2).2)
  else if k = 43 then ({ m with sv := UInt16.ofNat (x.num 2).1 }, (x.num 2).2)
  else if k = 44 then ({ m with cookie := (x.vec 2 1 65535).1 }, (x.vec 2 1 65535).2)
  else if k = 51 then shShare0 (UInt16.ofNat (x.num 2).1) (shShare m (UInt16.ofNat (x.num 2).1) (x.num 2).2)
  else if k = 41 then ({ m with sip := true, si := UInt16.ofNat (x.num 2).1 }, (x.num 2).2)
  else if k = 11 then ({ m with pts := (x.vec 1 1 255).1 }, (x.vec 1 1 255).2)
  else if k = 65037 then ({ m with ech := x.rest.1 }, x.rest.2)
  else if k = 0 then ({ m with ack := true }, x)
  else (m, (x.take x.bs.length).2)
def shS1 (data : List UInt8) : R := ((bodyR 2 data).num 2).2
def shS2 (data : List UInt8) : R := ((shS1 data).take 32).2
def shS3 (data : List UInt8) : R := ((shS2 data).vec 1 0 255).2
def shSN (data : List UInt8) : List UInt8 := ((shS2 data).vec 1 0 255).1
def shS4 (data : List UInt8) : R := if (shS3 data).code = 0 ∧ 32 < (shSN data).length then (shS3 data).fail 1 else shS3 data
def shS5 (data : List UInt8) : R := ((shS4 data).num 2).2
def shS6 (data : List UInt8) : R := ((shS5 data).num 1).2
def shM0 (data : List UInt8) : Sh := shHead (UInt16.ofNat ((bodyR 2 data).num 2).1) ((shS1 data).take 32).1 (shSN data) (UInt16.ofNat ((shS4 data).num 2).1) (UInt8.ofNat ((shS5 data).num 1).1)
def shSpec (data : List UInt8) : Sh × R := if (shS6 data).code ≠ 0 ∨ (shS6 data).bs.length = 0 then (shM0 data, shS6 data) else specE shRd (shS6 data).exts.1 (shM0 data, (shS6 data).exts.2.fin)

/-- nothing was read of this number yet -/
def shFresh (m : Sh) (k : UInt16) : Prop := k = 18 → m.scts = []
theorem num2_law (d : List UInt8) : (((R.mk d 0).num 2).2.fin.code = 0 → u16P d = some (UInt16.ofNat ((R.mk d 0).num 2).1)) ∧ (((R.mk d 0).num 2).2.fin.code = 3 ∨ ((R.mk d 0).num 2).2.fin.code = 4 → u16P d = none) := by
  match d with
  | [] => exact ⟨fun h => (by cases h), fun _ => rfl⟩
  | [a] => exact ⟨fun h => (by cases h), fun _ => rfl⟩
  | [a, b] => rw [num2_two]; exact ⟨fun _ => rfl, fun h => (by rcases h with h | h <;> cases h)⟩
  | a :: b :: c :: t => rw [num2_two]; exact ⟨fun h => (by cases h), fun _ => rfl⟩
theorem vec_law (n lo most : Nat) (hm : 256 ^ n ≤ most + 1) (d : List UInt8) (hlo : lo = 0) : (((R.mk d 0).vec n lo most).2.fin.code = 0 → vecP (lp n d) = some ((R.mk d 0).vec n lo most).1) ∧ (((R.mk d 0).vec n lo most).2.fin.code = 3 ∨ ((R.mk d 0).vec n lo most).2.fin.code = 4 → vecP (lp n d) = none) := by
  rcases ha : lp n d with _ | ⟨x, r⟩
  · rw [R.vec_none ha]
    exact ⟨fun h => (by cases h), fun _ => rfl⟩
  · have hl := lp_len ha
    rw [R.vec_some ha, R.rng_in (by omega) (by omega)]
    cases r with
    | nil => exact ⟨fun _ => rfl, fun h => (by rcases h with h | h <;> cases h)⟩
    | cons y t => exact ⟨fun h => (by cases h), fun _ => rfl⟩
theorem vec1_law (n most : Nat) (hm : 256 ^ n ≤ most + 1) (d : List UInt8) : (((R.mk d 0).vec n 1 most).2.fin.code = 0 → vecP1 (lp n d) = some ((R.mk d 0).vec n 1 most).1) ∧ (((R.mk d 0).vec n 1 most).2.fin.code = 3 ∨ ((R.mk d 0).vec n 1 most).2.fin.code = 4 → vecP1 (lp n d) = none) := by
  rcases ha : lp n d with _ | ⟨_ | ⟨z, x⟩, r⟩
  · rw [R.vec_none ha]
    exact ⟨fun h => (by cases h), fun _ => rfl⟩
  · rw [R.vec_some ha, R.rng_out (.inl (by simp))]
    exact ⟨fun h => (by cases h), fun h => (by rcases h with h | h <;> cases h)⟩
  · have hl := lp_len ha
    rw [R.vec_some ha, R.rng_in (by simp) (by omega)]
    cases r with
    | nil => exact ⟨fun _ => rfl, fun h => (by rcases h with h | h <;> cases h)⟩
    | cons y t => exact ⟨fun h => (by cases h), fun _ => rfl⟩
theorem fin_cases (d : List UInt8) : (R.mk d 0).fin.code = 0 ∧ d = [] ∨ (R.mk d 0).fin.code = 3 ∧ d ≠ [] := by
  cases d with
  | nil => exact .inl ⟨rfl, rfl⟩
  | cons y t => exact .inr ⟨rfl, by simp⟩
theorem flag_law {σ : Type} (d : List UInt8) (m : σ) : ((R.mk d 0).fin.code = 0 → (if d = [] then some m else none) = some m) ∧ ((R.mk d 0).fin.code = 3 ∨ (R.mk d 0).fin.code = 4 → (if d = [] then some m else none) = none) := by
  rcases fin_cases d with ⟨h1, h2⟩ | ⟨h1, h2⟩
  · rw [h1, if_pos h2]; exact ⟨fun _ => rfl, fun h => (by rcases h with h | h <;> cases h)⟩
  · rw [h1, if_neg h2]; exact ⟨fun h => (by cases h), fun _ => rfl⟩
theorem share_law (m : Sh) (d : List UInt8) : ((shShare0 (UInt16.ofNat ((R.mk d 0).num 2).1) (shShare m (UInt16.ofNat ((R.mk d 0).num 2).1) ((R.mk d 0).num 2).2)).2.fin.code = 0 →
      (if d.length = 2 then (u16P d).map fun x => { m with selg := x } else (shareP d).map fun x => { m with sg := x.1, sd := x.2 }) = some (shShare0 (UInt16.ofNat ((R.mk d 0).num 2).1) (shShare m (UInt16.ofNat ((R.mk d 0).num 2).1) ((R.mk d 0).num 2).2)).1) ∧
    ((shShare0 (UInt16.ofNat ((R.mk d 0).num 2).1) (shShare m (UInt16.ofNat ((R.mk d 0).num 2).1) ((R.mk d 0).num 2).2)).2.fin.code = 3 ∨ (shShare0 (UInt16.ofNat ((R.mk d 0).num 2).1) (shShare m (UInt16.ofNat ((R.mk d 0).num 2).1) ((R.mk d 0).num 2).2)).2.fin.code = 4 →
      (if d.length = 2 then (u16P d).map fun x => { m with selg := x } else (shareP d).map fun x => { m with sg := x.1, sd := x.2 }) = none) := by
  match d with
  | [] => exact ⟨fun h => (by cases h), fun _ => rfl⟩
  | [a] => exact ⟨fun h => (by cases h), fun _ => rfl⟩
  | [a, b] =>
    rw [num2_two, if_pos (show [a, b].length = 2 from rfl)]
    have e2 : u16P [a, b] = some (UInt16.ofNat (a.toNat * 256 + b.toNat)) := rfl
    rw [e2]
    dsimp only
    generalize UInt16.ofNat (a.toNat * 256 + b.toNat) = g
    have e1 : shShare m g ⟨[], 0⟩ = ({ m with selg := g }, ⟨[], 0⟩) := by unfold shShare; rw [if_pos ⟨rfl, rfl⟩]
    rw [e1]
    by_cases hg : g = 0
    · have e3 : shShare0 g ({ m with selg := g }, ⟨[], 0⟩) = ({ m with selg := g }, ⟨[], 1⟩) := by unfold shShare0; rw [if_pos hg]; rfl
      rw [e3]
      exact ⟨fun h => (by cases h), fun h => (by rcases h with h | h <;> cases h)⟩
    · have e3 : shShare0 g ({ m with selg := g }, ⟨[], 0⟩) = ({ m with selg := g }, ⟨[], 0⟩) := by unfold shShare0; rw [if_neg hg]
      rw [e3]
      exact ⟨fun _ => rfl, fun h => (by rcases h with h | h <;> cases h)⟩
  | a :: b :: c :: t =>
    rw [num2_two, if_neg (show ¬ (a :: b :: c :: t).length = 2 by simp)]
    have e2 : shareP (a :: b :: c :: t) = (vecP (lp 2 (c :: t))).map fun x => (UInt16.ofNat (a.toNat * 256 + b.toNat), x) := rfl
    rw [e2]
    dsimp only
    generalize UInt16.ofNat (a.toNat * 256 + b.toNat) = g
    have e1 : shShare m g ⟨c :: t, 0⟩ = ({ m with sg := g, sd := ((R.mk (c :: t) 0).vec 2 1 65535).1 }, ((R.mk (c :: t) 0).vec 2 1 65535).2) := by unfold shShare; rw [if_neg (fun h => by simpa using h.2)]
    rw [e1]
    have key : ∀ (M : Sh) (c0 : Nat), c0 ≠ 0 → (shShare0 g (M, ⟨[], c0⟩)).2.fin.code = c0 := by
      intro M c0 h0
      unfold shShare0
      by_cases hg : g = 0
      · rw [if_pos hg]
        show ((R.mk [] c0).fail 1).fin.code = c0
        rw [R.fin_code (by rw [R.fail_code (s := ⟨[], c0⟩) h0]; exact h0), R.fail_code (s := ⟨[], c0⟩) h0]
      · rw [if_neg hg]; rfl
    rcases ha : lp 2 (c :: t) with _ | ⟨_ | ⟨z, x⟩, r⟩
    · rw [R.vec_none ha, key _ 3 (by decide)]
      exact ⟨fun h => (by cases h), fun _ => rfl⟩
    · rw [R.vec_some ha, R.rng_out (.inl (by simp)), key _ 2 (by decide)]
      exact ⟨fun h => (by cases h), fun h => (by rcases h with h | h <;> cases h)⟩
    · have hl := lp_len ha
      rw [R.vec_some ha, R.rng_in (by simp) (by omega)]
      by_cases hg : g = 0
      · have e3 : (shShare0 g ({ m with sg := g, sd := z :: x }, ⟨r, 0⟩)).2.fin.code = 1 := by unfold shShare0; rw [if_pos hg]; rfl
        rw [e3]
        exact ⟨fun h => (by cases h), fun h => (by rcases h with h | h <;> cases h)⟩
      · have e3 : shShare0 g ({ m with sg := g, sd := z :: x }, ⟨r, 0⟩) = ({ m with sg := g, sd := z :: x }, ⟨r, 0⟩) := by unfold shShare0; rw [if_neg hg]
        rw [e3]
        cases r with
        | nil => exact ⟨fun _ => rfl, fun h => (by rcases h with h | h <;> cases h)⟩
        | cons y t => exact ⟨fun h => (by cases h), fun _ => rfl⟩
theorem sh_step_law (m : Sh) (k : UInt16) (d : List UInt8) (hf : shFresh m k) : ((shRd m k ⟨d, 0⟩).2.fin.code = 0 → shStep m (k, d) = some (shRd m k ⟨d, 0⟩).1) ∧ ((shRd m k ⟨d, 0⟩).2.fin.code = 3 ∨ (shRd m k ⟨d, 0⟩).2.fin.code = 4 → shStep m (k, d) = none) := by
  unfold shRd shStep
  dsimp only
  by_cases h5 : k = 5
  · rw [if_pos h5, if_pos h5]; exact flag_law d _
  rw [if_neg h5, if_neg h5]
  by_cases h35 : k = 35
  · rw [if_pos h35, if_pos h35]; exact flag_law d _
  rw [if_neg h35, if_neg h35]
  by_cases hrn : k = 65281
  · rw [if_pos hrn, if_pos hrn]
    obtain ⟨l1, l2⟩ := vec_law 1 0 255 (by decide) d rfl
    dsimp only
    generalize (R.mk d 0).vec 1 0 255 = q at l1 l2
    exact ⟨fun h => by rw [l1 h]; rfl, fun h => by rw [l2 h]; rfl⟩
  rw [if_neg hrn, if_neg hrn]
  by_cases h23 : k = 23
  · rw [if_pos h23, if_pos h23]; exact flag_law d _
  rw [if_neg h23, if_neg h23]
  by_cases h16 : k = 16
  · rw [if_pos h16, if_pos h16]
    obtain ⟨l1, l2⟩ := protocol_law d
    dsimp only
    generalize (R.mk d 0).protocol = q at l1 l2
    exact ⟨fun h => by rw [l1 h]; rfl, fun h => by rw [l2 (.inr h)]; rfl⟩
  rw [if_neg h16, if_neg h16]
  by_cases h18 : k = 18
  · rw [if_pos h18, if_pos h18]
    obtain ⟨l1, l2, -⟩ := listsV_law 2 1 65535 2 (by decide) (by decide) (by decide) (by decide) d
    have l4 := (listsV_law 2 1 65535 2 (by decide) (by decide) (by decide) (by decide) d).2.2.2
    dsimp only
    generalize (R.mk d 0).listsV 2 1 65535 2 = q at l1 l2 l4
    rw [hf h18]
    exact ⟨fun h => by rw [l1 h]; rfl, fun h => by rcases h with h | h; rw [l2 (.inr h)]; rfl; exact absurd h l4⟩
  rw [if_neg h18, if_neg h18]
  by_cases h43 : k = 43
  · rw [if_pos h43, if_pos h43]
    obtain ⟨l1, l2⟩ := num2_law d
    dsimp only
    generalize (R.mk d 0).num 2 = q at l1 l2
    exact ⟨fun h => by rw [l1 h]; rfl, fun h => by rw [l2 h]; rfl⟩
  rw [if_neg h43, if_neg h43]
  by_cases h44 : k = 44
  · rw [if_pos h44, if_pos h44]
    obtain ⟨l1, l2⟩ := vec1_law 2 65535 (by decide) d
    dsimp only
    generalize (R.mk d 0).vec 2 1 65535 = q at l1 l2
    exact ⟨fun h => by rw [l1 h]; rfl, fun h => by rw [l2 h]; rfl⟩
  rw [if_neg h44, if_neg h44]
  by_cases h51 : k = 51
  · rw [if_pos h51, if_pos h51]
    exact share_law m d
  rw [if_neg h51, if_neg h51]
  by_cases h41 : k = 41
  · rw [if_pos h41, if_pos h41]
    obtain ⟨l1, l2⟩ := num2_law d
    dsimp only
    generalize (R.mk d 0).num 2 = q at l1 l2
    exact ⟨fun h => by rw [l1 h]; rfl, fun h => by rw [l2 h]; rfl⟩
  rw [if_neg h41, if_neg h41]
  by_cases h11 : k = 11
  · rw [if_pos h11, if_pos h11]
    obtain ⟨l1, l2⟩ := vec1_law 1 255 (by decide) d
    dsimp only
    generalize (R.mk d 0).vec 1 1 255 = q at l1 l2
    exact ⟨fun h => by rw [l1 h]; rfl, fun h => by rw [l2 h]; rfl⟩
  rw [if_neg h11, if_neg h11]
  by_cases hech : k = 65037
  · rw [if_pos hech, if_pos hech]
    dsimp only
    cases d with
    | nil => rw [rest_nil]; exact ⟨fun h => (by cases h), fun h => (by rcases h with h | h <;> cases h)⟩
    | cons y t => rw [rest_ok _ (by simp)]; exact ⟨fun _ => rfl, fun h => (by rcases h with h | h <;> cases h)⟩
  rw [if_neg hech, if_neg hech]
  by_cases hack : k = 0
  · rw [if_pos hack, if_pos hack]; exact flag_law d _
  rw [if_neg hack, if_neg hack, all_take]
  exact ⟨fun _ => rfl, fun h => (by rcases h with h | h <;> cases h)⟩
theorem share_scts (m : Sh) (g : UInt16) (x : R) : (shShare0 g (shShare m g x)).1.scts = m.scts := by
  have h : (shShare m g x).1.scts = m.scts := by unfold shShare; split <;> rfl
  unfold shShare0
  split <;> exact h
theorem sh_fresh (m : Sh) (k : UInt16) (d : List UInt8) (k' : UInt16) (hk : k' ≠ k) (h : shFresh m k') : shFresh (shRd m k ⟨d, 0⟩).1 k' := by
  by_cases h18 : k = 18
  · intro e; rw [e] at hk; exact absurd h18.symm hk
  · have key : (shRd m k ⟨d, 0⟩).1.scts = m.scts := by
      unfold shRd
      by_cases h5 : k = 5
      · rw [if_pos h5]
      rw [if_neg h5]
      by_cases h35 : k = 35
      · rw [if_pos h35]
      rw [if_neg h35]
      by_cases hrn : k = 65281
      · rw [if_pos hrn]
      rw [if_neg hrn]
      by_cases h23 : k = 23
      · rw [if_pos h23]
      rw [if_neg h23]
      by_cases h16 : k = 16
      · rw [if_pos h16]
      rw [if_neg h16, if_neg h18]
      by_cases h43 : k = 43
      · rw [if_pos h43]
      rw [if_neg h43]
      by_cases h44 : k = 44
      · rw [if_pos h44]
      rw [if_neg h44]
      by_cases h51 : k = 51
      · rw [if_pos h51]
        exact share_scts _ _ _
      rw [if_neg h51]
      by_cases h41 : k = 41
      · rw [if_pos h41]
      rw [if_neg h41]
      by_cases h11 : k = 11
      · rw [if_pos h11]
      rw [if_neg h11]
      by_cases hech : k = 65037
      · rw [if_pos hech]
      rw [if_neg hech]
      by_cases hack : k = 0
      · rw [if_pos hack]
      rw [if_neg hack]
    intro e; rw [key]; exact h e
theorem sh_law (data : List UInt8) : ((shSpec data).2.code = 0 → shRead data = some (shSpec data).1) ∧ ((shSpec data).2.code = 3 ∨ (shSpec data).2.code = 4 → shRead data = none) := by
  have s6 : ∀ c, (shS6 data).code = c → c ≠ 0 → (shSpec data).2.code = c := fun c h hc => by
    unfold shSpec
    rw [if_pos (.inl (by rw [h]; exact hc))]
    exact h
  have s5 : ∀ c, (shS5 data).code = c → c ≠ 0 → (shSpec data).2.code = c := fun c h hc => s6 c (by unfold shS6; rw [R.num_code (by rw [h]; exact hc) 1]; exact h) hc
  have s4 : ∀ c, (shS4 data).code = c → c ≠ 0 → (shSpec data).2.code = c := fun c h hc => s5 c (by unfold shS5; rw [R.num_code (by rw [h]; exact hc) 2]; exact h) hc
  have s3 : ∀ c, (shS3 data).code = c → c ≠ 0 → (shSpec data).2.code = c := fun c h hc => s4 c (by unfold shS4; rw [if_neg (fun hh => hc (h.symm.trans hh.1))]; exact h) hc
  have s2 : ∀ c, (shS2 data).code = c → c ≠ 0 → (shSpec data).2.code = c := fun c h hc => s3 c (by unfold shS3; rw [R.vec_code (by rw [h]; exact hc) 1 0 255]; exact h) hc
  have s1 : ∀ c, (shS1 data).code = c → c ≠ 0 → (shSpec data).2.code = c := fun c h hc => s2 c (by unfold shS2; rw [R.take_code (by rw [h]; exact hc) 32]; exact h) hc
  rcases bodyR_two 2 data with h | ⟨h, h4, -, -⟩
  · rw [s1 1 (by unfold shS1; rw [R.num_code (by rw [h]; decide) 2]; exact h) (by decide)]
    exact ⟨fun h => by omega, fun h => by omega⟩
  have hk : shRead data = shBody (data.drop 4) := by unfold shRead; rw [if_neg (by omega)]
  rw [hk]
  generalize data.drop 4 = d at h
  match d, h with
  | [], h => rw [s1 3 (by unfold shS1; rw [h]; rfl) (by decide)]; exact ⟨fun h => by omega, fun _ => rfl⟩
  | [_], h => rw [s1 3 (by unfold shS1; rw [h]; rfl) (by decide)]; exact ⟨fun h => by omega, fun _ => rfl⟩
  | a :: b :: t, h =>
    have e1 : shS1 data = ⟨t, 0⟩ := by unfold shS1; rw [h, num2_two]
    have v1 : ((bodyR 2 data).num 2).1 = a.toNat * 256 + b.toNat := by rw [h, num2_two]
    show (_ → (if t.length < 32 then none else shSid (UInt16.ofNat (a.toNat * 256 + b.toNat)) (t.take 32) (lp 1 (t.drop 32))) = _) ∧ (_ → (if t.length < 32 then none else shSid (UInt16.ofNat (a.toNat * 256 + b.toNat)) (t.take 32) (lp 1 (t.drop 32))) = _)
    by_cases h32 : t.length < 32
    · rw [if_pos h32, s2 3 (by unfold shS2; rw [e1]; unfold R.take; rw [if_pos h32]; rfl) (by decide)]
      exact ⟨fun h => by omega, fun _ => rfl⟩
    rw [if_neg h32]
    have e2 : (shS1 data).take 32 = (t.take 32, ⟨t.drop 32, 0⟩) := by rw [e1]; unfold R.take; rw [if_neg h32]
    have e2' : shS2 data = ⟨t.drop 32, 0⟩ := by unfold shS2; rw [e2]
    rcases ha : lp 1 (t.drop 32) with _ | ⟨sid, r⟩
    · rw [s3 3 (by unfold shS3; rw [e2', R.vec_none ha]) (by decide)]
      exact ⟨fun h => by omega, fun _ => rfl⟩
    have hl := lp_len ha
    have e3 : (shS2 data).vec 1 0 255 = (sid, ⟨r, 0⟩) := by rw [e2', R.vec_some ha, R.rng_in (by omega) (by omega)]
    have e3' : shS3 data = ⟨r, 0⟩ := by unfold shS3; rw [e3]
    have e3n : shSN data = sid := by unfold shSN; rw [e3]
    by_cases hs : 32 < sid.length
    · rw [s4 1 (by unfold shS4; rw [e3', e3n, if_pos ⟨rfl, hs⟩]; rfl) (by decide)]
      exact ⟨fun h => by omega, fun h => by omega⟩
    have e4 : shS4 data = ⟨r, 0⟩ := by unfold shS4; rw [e3', e3n, if_neg (fun hh => hs hh.2)]
    show (_ → shTail (UInt16.ofNat (a.toNat * 256 + b.toNat)) (t.take 32) sid r = _) ∧ (_ → shTail (UInt16.ofNat (a.toNat * 256 + b.toNat)) (t.take 32) sid r = _)
    match r, e4 with
    | [], e4 => rw [s5 3 (by unfold shS5; rw [e4]; rfl) (by decide)]; exact ⟨fun h => by omega, fun _ => rfl⟩
    | [_], e4 => rw [s5 3 (by unfold shS5; rw [e4]; rfl) (by decide)]; exact ⟨fun h => by omega, fun _ => rfl⟩
    | [x, y], e4 =>
      have e5 : shS5 data = ⟨[], 0⟩ := by unfold shS5; rw [e4, num2_two]
      rw [s6 3 (by unfold shS6; rw [e5]; rfl) (by decide)]
      exact ⟨fun h => by omega, fun _ => rfl⟩
    | x :: y :: c :: q, e4 =>
      have e5 : shS5 data = ⟨c :: q, 0⟩ := by unfold shS5; rw [e4, num2_two]
      have v4 : ((shS4 data).num 2).1 = x.toNat * 256 + y.toNat := by rw [e4, num2_two]
      have e6 : (shS5 data).num 1 = (c.toNat, ⟨q, 0⟩) := by rw [e5, R.num_ok (by simp)]; simp [beNat]
      have e6' : shS6 data = ⟨q, 0⟩ := by unfold shS6; rw [e6]
      have eM : shM0 data = shHead (UInt16.ofNat (a.toNat * 256 + b.toNat)) (t.take 32) sid (UInt16.ofNat (x.toNat * 256 + y.toNat)) c := by
        unfold shM0; rw [v1, e2, e3n, v4, e6]; simp
      show (_ → (if q = [] then _ else _) = _) ∧ (_ → (if q = [] then _ else _) = _)
      unfold shSpec
      rw [eM, e6']
      by_cases hq : q = []
      · rw [if_pos hq, if_pos (.inr (by rw [hq]; rfl))]
        exact ⟨fun _ => rfl, fun h => (by rcases h with h | h <;> cases h)⟩
      · rw [if_neg hq, if_neg (by intro hh; rcases hh with hh | hh; exact hh rfl; exact hq (List.eq_nil_of_length_eq_zero hh))]
        exact lastO_lawF shRd shStep (fun c => c = 3 ∨ c = 4) shFresh (by decide) sh_step_law sh_fresh _ (fun k _ => rfl) q
end Go.Proofs.YtaajmfgplhfncaaGreat

/- Continuations, step by step, where a continuation has captured variables newer than the child that it writes to: what may turn are the blocks of which P holds. -/
import Derived.Test.YtddkjhlngofkaaaEmL
namespace Go.Proofs.Ytddkjhlngofkaaa
open Go.RowKit
set_option maxRecDepth 100000

/-- F does not feel what turns in blocks of P -/
def StabP (P : Nat → Prop) (F : World → Prop) : Prop := ∀ (S : List Nat) (w w' : World), Upd S w w' → (∀ x ∈ S, P x) → F w → F w'
/-- the continuation fid, with what it has captured, writes out wherever F holds -/
def EmitsP (fid : FuncId) (cap : Array Value) (P : Nat → Prop) (F : World → Prop) (out : Option (List UInt8)) (need : Nat) : Prop :=
  olen out ≤ need ∧ Enters fid ∧ ∀ w S, F w → (∀ x, w.heap.size ≤ x → P x) → (∀ x ∈ S, P x) → Emits fid cap S w out need
/-- inside a continuation: what the child has come to -/
structure EmQ (w1 : World) (q : Nat) (v : Value) (base off pl : Nat) (ic : Value) (P : Nat → Prop) (F : World → Prop) (st : Option (List UInt8)) (R : Nat) (w2 : World) : Prop where
  main : ∃ v2, BS w2 base q v2 off pl ic st ∧ Upd (q :: v.ownBlock.toList) w1 w2 ∧ (v2.ownBlock = v.ownBlock ∨ ∃ g, v2.ownBlock = some g ∧ w1.heap.size ≤ g)
  inner : Inner w1 ic
  icne : ∀ c, ic = .pointer (some ⟨c, 0, none⟩) → c ∉ q :: v.ownBlock.toList
  stab : StabP P F
  F : F w2
  PN : ∀ x, w1.heap.size ≤ x → P x
  hq : P q
  hv : ∀ g, v.ownBlock = some g → P g
  room : olen st + R ≤ 17592186044416
def EmQP (w1 : World) (q : Nat) (v : Value) (base off pl : Nat) (ic : Value) (P : Nat → Prop) (F : World → Prop) (st : Option (List UInt8)) (R : Nat) (e : Ending) (w2 : World) : Prop :=
  e = .returned (.tuple #[]) ∧ EmQ w1 q v base off pl ic P F st R w2
section
variable {w w0 w1 w2 w' : World} {base q off pl : Nat} {v content ic : Value} {xs bs : List UInt8} {st out : Option (List UInt8)} {S : List Nat} {B R R' need n : Nat} {P P' : Nat → Prop} {F F' : World → Prop} {e : Ending} {fid fn : FuncId} {cap args : Array Value}
theorem EmQ.size (h : EmQ w1 q v base off pl ic P F st R w2) : w1.heap.size ≤ w2.heap.size := by
  obtain ⟨v2, _, hu, _⟩ := h.main
  exact hu.size
theorem EmQ.lt (h : EmQ w1 q v base off pl ic P F st R w2) : q < w2.heap.size := by
  obtain ⟨v2, hb, _⟩ := h.main
  obtain ⟨cs, hbl⟩ := hb.isBlk
  exact hbl.lt
/-- a method of the child -/
theorem EmQ.step (h : EmQ w1 q v base off pl ic P F st R w2) {v2 : Value} {st' : Option (List UInt8)} (hu : Upd (q :: v.ownBlock.toList) w1 w2) (hv2 : v2.ownBlock = v.ownBlock ∨ ∃ g, v2.ownBlock = some g ∧ w1.heap.size ≤ g)
    (hp : BSP w2 base q v2 off pl ic st' e w') (hr : olen st' + R' ≤ 17592186044416) : EmQP w1 q v base off pl ic P F st' R' e w' := by
  have hp1 := BSP.after hu hv2 hp
  obtain ⟨he, v3, hb3, hu3, hv3⟩ := hp1
  refine ⟨he, ⟨v3, hb3, hu3, hv3⟩, h.inner, h.icne, h.stab, ?_, h.PN, h.hq, h.hv, hr⟩
  obtain ⟨_, v4, _, hu4, _⟩ := hp
  refine h.stab _ _ _ hu4 ?_ h.F
  intro x hx
  rcases List.mem_cons.1 hx with hx | hx
  · rw [hx]; exact h.hq
  · rcases hv2 with h2 | ⟨g, h2, hg⟩
    · rw [h2] at hx; exact h.hv x (Option.mem_toList.1 hx)
    · rw [h2] at hx
      have : x = g := by simpa using hx
      exact h.PN x (by omega)
/-- the world turns elsewhere: new blocks, draws -/
theorem EmQ.new (h : EmQ w1 q v base off pl ic P F st R w2) (hu : Upd [] w2 w') : EmQ w1 q v base off pl ic P F st R w' := by
  obtain ⟨v2, hb, hu2, hv2⟩ := h.main
  exact ⟨⟨v2, hb.upd hu (by simp) (by simp), hu2.trans hu (by simp), hv2⟩, h.inner, h.icne, h.stab, h.stab _ _ _ hu (by simp) h.F, h.PN, h.hq, h.hv, h.room⟩
theorem EmQ.cast {st' : Option (List UInt8)} (h : EmQ w1 q v base off pl ic P F st R w2) (hs : st = st') : EmQ w1 q v base off pl ic P F st' R w2 := hs ▸ h
theorem EmQ.less (h : EmQ w1 q v base off pl ic P F st R w2) (hr : R' ≤ R) : EmQ w1 q v base off pl ic P F st R' w2 :=
  ⟨h.main, h.inner, h.icne, h.stab, h.F, h.PN, h.hq, h.hv, by have := h.room; omega⟩
theorem EmQ.inner2 (h : EmQ w1 q v base off pl ic P F st R w2) : Inner w2 ic := by
  obtain ⟨v2, hb, hu, hv2⟩ := h.main
  exact h.inner.upd hu h.icne
theorem EmitsP.mk (hst : StabP P F) (ho : olen out ≤ need) (hen : Enters fid)
    (h : ∀ (w1 : World) (q : Nat) (v : Value) (base off pl : Nat) (ic : Value) (bs : List UInt8), EmQ w1 q v base off pl ic P F (some bs) need w1 →
      Calls Try.prog fid (#[.pointer (some ⟨q, 0, none⟩)] ++ cap) w1 (EmQP w1 q v base off pl ic P F (app (some bs) out) 0)) : EmitsP fid cap P F out need := by
  refine ⟨ho, hen, fun w S hF hN hS w1 hu base q v off pl ic bs hb hi hq hv hl => ?_⟩
  refine (h w1 q v base off pl ic bs ⟨⟨v, hb, Upd.refl _ _, .inl rfl⟩, hi, hb.icne hi, hst, hst _ _ _ hu hS hF, fun x hx => hN x (Nat.le_trans hu.size hx), hN q hq, fun g hg => ?_, hl⟩).mono ?_
  · rcases hv g hg with h1 | h1
    · exact hS g h1
    · exact hN g h1
  · rintro e w2 ⟨he, hm⟩
    exact ⟨he, hm.main⟩
/-- a nested vector, with another word of what is read -/
theorem EmQ.core (h : EmQ w1 q v base off pl ic P F st R w2) (hE : EmitsP fid cap P' F' out need) (hF : F' w2) (hN : ∀ x, w2.heap.size ≤ x → P' x) (hq : P' q)
    (hv : ∀ v2 bs, st = some bs → Bld w2 base q v2 off pl ic bs → ∀ g, v2.ownBlock = some g → (v2.ownBlock = v.ownBlock ∨ w1.heap.size ≤ g) → P' g)
    (hcall : ∀ v2, BS w2 base q v2 off pl ic st → (st ≠ none → Emits fid cap (q :: v2.ownBlock.toList) w2 out need) → Calls Try.prog fn args w2 (BSP w2 base q v2 off pl ic (app st (lpOut n out)))) (hR : olen (app st (lpOut n out)) + R' ≤ 17592186044416) :
    Calls Try.prog fn args w2 (fun e w' => EmQP w1 q v base off pl ic P F (app st (lpOut n out)) R' e w' ∧ ∃ S, Upd S w2 w' ∧ ∀ x ∈ S, P' x) := by
  obtain ⟨v2, hb, hu, hv2⟩ := h.main
  cases st with
  | none =>
    have hb' : BS w2 base q (.slice none 0 0) off pl ic none := hb
    refine (hcall _ hb' (fun h => absurd rfl h)).mono fun e w' hp => ?_
    obtain ⟨he, v', hb2, hu', hv'⟩ := hp
    have hp' : BSP w2 base q v2 off pl ic none e w' := ⟨he, v2, hb2, hu'.mono (by simp [Value.ownBlock]), .inl rfl⟩
    exact ⟨h.step hu hv2 hp' hR, _, hu', fun x hx => by simp [Value.ownBlock] at hx; subst hx; exact hq⟩
  | some bs =>
    have hS : ∀ x ∈ q :: v2.ownBlock.toList, P' x := by
      intro x hx
      rcases List.mem_cons.1 hx with hx | hx
      · rw [hx]; exact hq
      · have hx := Option.mem_toList.1 hx
        exact hv v2 bs rfl hb x hx (hv2.imp id fun ⟨g, h1, h2⟩ => by rw [h1] at hx; injection hx with hx; omega)
    refine (hcall v2 hb (fun _ => hE.2.2 w2 _ hF hN hS)).mono fun e w' hp => ?_
    have hp2 := hp
    obtain ⟨_, v', _, hu', _⟩ := hp2
    exact ⟨h.step hu hv2 hp hR, _, hu', hS⟩
theorem EmQ.u8 (h : EmQ w1 q v base off pl ic P F st R w2) (n : Nat) (hn : n < 256) (hR : R' + 1 ≤ R) :
    Calls Try.prog 92 #[.pointer (some ⟨q, 0, none⟩), .int .u8 (n : Int)] w2 (EmQP w1 q v base off pl ic P F (app st (some [UInt8.ofNat n])) R') := by
  obtain ⟨v2, hb, hu, hv2⟩ := h.main
  have hr := h.room
  have ho := olen_app st (some [UInt8.ofNat n])
  have h1 : olen (some [UInt8.ofNat n]) = 1 := rfl
  exact (AddUint8_any hb (by omega) n hn).mono fun e w' hp => h.step hu hv2 hp (by omega)
theorem EmQ.u16 (h : EmQ w1 q v base off pl ic P F st R w2) (n : Nat) (hn : n < 65536) (hR : R' + 2 ≤ R) :
    Calls Try.prog 97 #[.pointer (some ⟨q, 0, none⟩), .int .u16 (n : Int)] w2 (EmQP w1 q v base off pl ic P F (app st (some (be 2 n))) R') := by
  obtain ⟨v2, hb, hu, hv2⟩ := h.main
  have hr := h.room
  have ho := olen_app st (some (be 2 n))
  have h1 : olen (some (be 2 n)) = 2 := be_len 2 n
  exact (AddUint16_any hb (by omega) n hn).mono fun e w' hp => h.step hu hv2 hp (by omega)
theorem EmQ.bytes (h : EmQ w1 q v base off pl ic P F st R w2) (hPB : ∀ x, P x → B ≤ x) (hc : Byt w2 B content xs) (hR : R' + xs.length ≤ R) :
    Calls Try.prog 105 #[.pointer (some ⟨q, 0, none⟩), content] w2 (EmQP w1 q v base off pl ic P F (app st (some xs)) R') := by
  obtain ⟨v2, hb, hu, hv2⟩ := h.main
  have hr := h.room
  have ho := olen_app st (some xs)
  have h1 : olen (some xs) = xs.length := rfl
  refine (AddBytes_any hb (src_of hc (hPB _ h.hq) ?_) (by omega) (by omega)).mono fun e w' hp => h.step hu hv2 hp (by omega)
  intro g hg
  rcases hv2 with h2 | ⟨g', h2, hg'⟩
  · rw [h2] at hg; exact hPB _ (h.hv g hg)
  · rw [h2] at hg
    injection hg with hg
    exact hPB _ (h.PN g (by omega))
theorem EmQ.oldP (h : EmQ w1 q v base off pl ic P F st R w2) : ∀ v2 bs, st = some bs → Bld w2 base q v2 off pl ic bs → ∀ g, v2.ownBlock = some g → (v2.ownBlock = v.ownBlock ∨ w1.heap.size ≤ g) → P g := by
  intro v2 bs _ _ g hg hor
  rcases hor with h2 | h2
  · rw [h2] at hg; exact h.hv g hg
  · exact h.PN g h2
theorem EmQ.lp16 (h : EmQ w1 q v base off pl ic P F st R w2) (hE : EmitsP fid cap P F out need) (hR : R' + need + 4 ≤ R) :
    Calls Try.prog 95 #[.pointer (some ⟨q, 0, none⟩), .func (.func fid) #[] cap] w2 (EmQP w1 q v base off pl ic P F (app st (lpOut 2 out)) R') := by
  have hr := h.room
  have ho := olen_app st (lpOut 2 out)
  have h1 := olen_lp 2 (by omega) out
  have h2 := hE.1
  exact (h.core hE h.F (fun x hx => h.PN x (Nat.le_trans h.size hx)) h.hq h.oldP (fun v2 hb hf => AddLP16_inner hb h.inner2 hf hE.2.1 (by omega) (by omega)) (by omega)).mono fun _ _ hp => hp.1
/-- a nested vector whose continuation has captured new variables -/
theorem EmQ.lp16v {g1 g2 : Nat} {T1 T2 : TypeId} {c1 c2 : Array Value} (h : EmQ w1 q v base off pl ic P F st R w2) (hb1 : Blk w2 g1 T1 c1) (hT1 : 5 ≠ T1) (hb2 : Blk w2 g2 T2 c2) (hT2 : 5 ≠ T2) (hq1 : q ≠ g1) (hq2 : q ≠ g2)
    (hE : EmitsP fid cap (fun x => P x ∧ x ≠ g1 ∧ x ≠ g2) F' out need) (hF : F' w2) (hR : R' + need + 4 ≤ R) :
    Calls Try.prog 95 #[.pointer (some ⟨q, 0, none⟩), .func (.func fid) #[] cap] w2 (fun e w' => EmQP w1 q v base off pl ic P F (app st (lpOut 2 out)) R' e w' ∧ ∃ S, Upd S w2 w' ∧ ∀ x ∈ S, P x ∧ x ≠ g1 ∧ x ≠ g2) := by
  have hr := h.room
  have ho := olen_app st (lpOut 2 out)
  have h1 := olen_lp 2 (by omega) out
  have h2 := hE.1
  have l1 := hb1.lt
  have l2 := hb2.lt
  refine h.core hE hF (fun x hx => ⟨h.PN x (Nat.le_trans h.size hx), by omega, by omega⟩) ⟨h.hq, hq1, hq2⟩ (fun v2 bs hs hb g hg hor => ⟨h.oldP v2 bs hs hb g hg hor, ?_, ?_⟩) (fun v2 hb hf => AddLP16_inner hb h.inner2 hf hE.2.1 (by omega) (by omega)) (by omega)
  · exact Own.ne hb.2.2 hb1 hT1 g hg
  · exact Own.ne hb.2.2 hb2 hT2 g hg
theorem EmQ.lp24 (h : EmQ w1 q v base off pl ic P F st R w2) (hE : EmitsP fid cap P F out need) (hR : R' + need + 4 ≤ R) :
    Calls Try.prog 93 #[.pointer (some ⟨q, 0, none⟩), .func (.func fid) #[] cap] w2 (EmQP w1 q v base off pl ic P F (app st (lpOut 3 out)) R') := by
  have hr := h.room
  have ho := olen_app st (lpOut 3 out)
  have h1 := olen_lp 3 (by omega) out
  have h2 := hE.1
  exact (h.core hE h.F (fun x hx => h.PN x (Nat.le_trans h.size hx)) h.hq h.oldP (fun v2 hb hf => AddLP24_inner hb h.inner2 hf hE.2.1 (by omega) (by omega)) (by omega)).mono fun _ _ hp => hp.1
theorem EmQ.lp24v {g1 g2 : Nat} {T1 T2 : TypeId} {c1 c2 : Array Value} (h : EmQ w1 q v base off pl ic P F st R w2) (hb1 : Blk w2 g1 T1 c1) (hT1 : 5 ≠ T1) (hb2 : Blk w2 g2 T2 c2) (hT2 : 5 ≠ T2) (hq1 : q ≠ g1) (hq2 : q ≠ g2)
    (hE : EmitsP fid cap (fun x => P x ∧ x ≠ g1 ∧ x ≠ g2) F' out need) (hF : F' w2) (hR : R' + need + 4 ≤ R) :
    Calls Try.prog 93 #[.pointer (some ⟨q, 0, none⟩), .func (.func fid) #[] cap] w2 (fun e w' => EmQP w1 q v base off pl ic P F (app st (lpOut 3 out)) R' e w' ∧ ∃ S, Upd S w2 w' ∧ ∀ x ∈ S, P x ∧ x ≠ g1 ∧ x ≠ g2) := by
  have hr := h.room
  have ho := olen_app st (lpOut 3 out)
  have h1 := olen_lp 3 (by omega) out
  have h2 := hE.1
  have l1 := hb1.lt
  have l2 := hb2.lt
  refine h.core hE hF (fun x hx => ⟨h.PN x (Nat.le_trans h.size hx), by omega, by omega⟩) ⟨h.hq, hq1, hq2⟩ (fun v2 bs hs hb g hg hor => ⟨h.oldP v2 bs hs hb g hg hor, ?_, ?_⟩) (fun v2 hb hf => AddLP24_inner hb h.inner2 hf hE.2.1 (by omega) (by omega)) (by omega)
  · exact Own.ne hb.2.2 hb1 hT1 g hg
  · exact Own.ne hb.2.2 hb2 hT2 g hg
theorem AddLP24_topP {p : Nat} (h : TopS w0 w p st) (hE : EmitsP fid cap P F out need) (hF : F w0) (hN : ∀ x, w0.heap.size ≤ x → P x) (hR : olen st + need + 4 ≤ 17592186044416) :
    Calls Try.prog 93 #[.pointer (some ⟨p, 0, none⟩), .func (.func fid) #[] cap] w (TopP w0 p (app st (lpOut 3 out))) :=
  AddLP24_top h (hE.2.2 w0 [] hF hN (by simp)) hE.2.1 hR (by have := hE.1; omega)
end
end Go.Proofs.Ytddkjhlngofkaaa

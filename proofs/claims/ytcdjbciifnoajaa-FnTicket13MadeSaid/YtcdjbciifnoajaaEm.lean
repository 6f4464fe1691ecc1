/- Continuations, step by step: what holds of the memory that they read is one word F, which changes of new blocks do not touch. -/
import Derived.Test.YtcdjbciifnoajaaEmit2
namespace Go.Proofs.Ytcdjbciifnoajaa
open Go.RowKit
set_option maxRecDepth 100000

/-- F speaks of blocks below B alone -/
def Stable (B : Nat) (F : World → Prop) : Prop := ∀ w w' : World, Below B w w' → F w → F w'
theorem Stable.and {B : Nat} {F G : World → Prop} (h : Stable B F) (k : Stable B G) : Stable B fun w => F w ∧ G w := fun w w' hb hf => ⟨h w w' hb hf.1, k w w' hb hf.2⟩
theorem Stable.more {B B' : Nat} {F : World → Prop} (h : Stable B F) (hB : B ≤ B') : Stable B' F := fun w w' hb hf => h w w' ⟨hb.os, hb.tape, hb.output, hb.size, fun k hk => hb.block k (by omega)⟩ hf

/-- the continuation fid, with what it has captured, writes out wherever F holds -/
def EmitsF (fid : FuncId) (cap : Array Value) (B : Nat) (F : World → Prop) (out : Option (List UInt8)) (need : Nat) : Prop :=
  olen out ≤ need ∧ Enters fid ∧ ∀ w S, F w → B ≤ w.heap.size → (∀ x ∈ S, B ≤ x) → Emits fid cap S w out need

/-- inside a continuation: what the child has come to -/
structure Em (w1 : World) (q : Nat) (v : Value) (base off pl : Nat) (ic : Value) (B : Nat) (F : World → Prop) (st : Option (List UInt8)) (R : Nat) (w2 : World) : Prop where
  main : ∃ v2, BS w2 base q v2 off pl ic st ∧ Upd (q :: v.ownBlock.toList) w1 w2 ∧ (v2.ownBlock = v.ownBlock ∨ ∃ g, v2.ownBlock = some g ∧ w1.heap.size ≤ g)
  inner : Inner w1 ic
  icne : ∀ c, ic = .pointer (some ⟨c, 0, none⟩) → c ∉ q :: v.ownBlock.toList
  stab : Stable B F
  F : F w2
  B1 : B ≤ w1.heap.size
  hq : B ≤ q
  hv : ∀ g, v.ownBlock = some g → B ≤ g
  room : olen st + R ≤ 17592186044416
/-- what a step leaves -/
def EmP (w1 : World) (q : Nat) (v : Value) (base off pl : Nat) (ic : Value) (B : Nat) (F : World → Prop) (st : Option (List UInt8)) (R : Nat) (e : Ending) (w2 : World) : Prop :=
  e = .returned (.tuple #[]) ∧ Em w1 q v base off pl ic B F st R w2

section
variable {w w0 w1 w2 w' : World} {base q off pl : Nat} {v content ic : Value} {xs bs : List UInt8} {st out : Option (List UInt8)} {S : List Nat} {B R R' need : Nat} {F : World → Prop} {e : Ending} {fid : FuncId} {cap : Array Value}

theorem below_of_upd {a b : World} (h : Upd S a b) (hB : B ≤ a.heap.size) (hs : ∀ x ∈ S, B ≤ x) : Below B a b := h.below hB hs
theorem Em.ge (h : Em w1 q v base off pl ic B F st R w2) : ∀ x ∈ q :: v.ownBlock.toList, B ≤ x := by
  intro x hx
  rcases List.mem_cons.1 hx with hx | hx
  · rw [hx]; exact h.hq
  · exact h.hv x (Option.mem_toList.1 hx)
theorem Em.below (h : Em w1 q v base off pl ic B F st R w2) : Below B w1 w2 := by
  obtain ⟨v2, _, hu, _⟩ := h.main
  exact hu.below h.B1 h.ge
theorem Em.size (h : Em w1 q v base off pl ic B F st R w2) : w1.heap.size ≤ w2.heap.size := h.below.size
/-- a method of the child -/
theorem Em.step (h : Em w1 q v base off pl ic B F st R w2) {v2 : Value} {st' : Option (List UInt8)} (hu : Upd (q :: v.ownBlock.toList) w1 w2) (hv2 : v2.ownBlock = v.ownBlock ∨ ∃ g, v2.ownBlock = some g ∧ w1.heap.size ≤ g)
    (hp : BSP w2 base q v2 off pl ic st' e w') (hr : olen st' + R' ≤ 17592186044416) : EmP w1 q v base off pl ic B F st' R' e w' := by
  have hp1 := BSP.after hu hv2 hp
  obtain ⟨he, v3, hb3, hu3, hv3⟩ := hp1
  refine ⟨he, ⟨v3, hb3, hu3, hv3⟩, h.inner, h.icne, h.stab, ?_, h.B1, h.hq, h.hv, hr⟩
  obtain ⟨_, v4, _, hu4, _⟩ := hp
  refine h.stab _ _ (hu4.below (Nat.le_trans h.B1 hu.size) ?_) h.F
  intro x hx
  rcases List.mem_cons.1 hx with hx | hx
  · rw [hx]; exact h.hq
  · rcases hv2 with h2 | ⟨g, h2, hg⟩
    · rw [h2] at hx; exact h.hv x (Option.mem_toList.1 hx)
    · rw [h2] at hx
      have : x = g := by simpa using hx
      have := h.B1
      omega
/-- the world turns elsewhere: new blocks, draws -/
theorem Em.new (h : Em w1 q v base off pl ic B F st R w2) (hu : Upd [] w2 w') : Em w1 q v base off pl ic B F st R w' := by
  obtain ⟨v2, hb, hu2, hv2⟩ := h.main
  exact ⟨⟨v2, hb.upd hu (by simp) (by simp), hu2.trans hu (by simp), hv2⟩, h.inner, h.icne, h.stab, h.stab _ _ (hu.below (Nat.le_trans h.B1 hu2.size) (by simp)) h.F, h.B1, h.hq, h.hv, h.room⟩
/-- another word of what is read -/
theorem Em.word {F' : World → Prop} {B' : Nat} (h : Em w1 q v base off pl ic B F st R w2) (hs : Stable B' F') (hF : F' w2) (hB : B' ≤ w1.heap.size) (hq : B' ≤ q) (hv : ∀ g, v.ownBlock = some g → B' ≤ g) : Em w1 q v base off pl ic B' F' st R w2 :=
  ⟨h.main, h.inner, h.icne, hs, hF, hB, hq, hv, h.room⟩
theorem Em.cast {st' : Option (List UInt8)} (h : Em w1 q v base off pl ic B F st R w2) (hs : st = st') : Em w1 q v base off pl ic B F st' R w2 := hs ▸ h
theorem Em.less (h : Em w1 q v base off pl ic B F st R w2) (hr : R' ≤ R) : Em w1 q v base off pl ic B F st R' w2 :=
  ⟨h.main, h.inner, h.icne, h.stab, h.F, h.B1, h.hq, h.hv, by have := h.room; omega⟩

theorem EmitsF.mk (hst : Stable B F) (ho : olen out ≤ need) (hen : Enters fid)
    (h : ∀ (w1 : World) (q : Nat) (v : Value) (base off pl : Nat) (ic : Value) (bs : List UInt8), Em w1 q v base off pl ic B F (some bs) need w1 →
      Calls Try.prog fid (#[.pointer (some ⟨q, 0, none⟩)] ++ cap) w1 (EmP w1 q v base off pl ic B F (app (some bs) out) 0)) : EmitsF fid cap B F out need := by
  refine ⟨ho, hen, fun w S hF hBw hS w1 hu base q v off pl ic bs hb hi hq hv hl => ?_⟩
  refine (h w1 q v base off pl ic bs ⟨⟨v, hb, Upd.refl _ _, .inl rfl⟩, hi, hb.icne hi, hst, hst _ _ (hu.below hBw hS) hF, Nat.le_trans hBw hu.size, Nat.le_trans hBw hq, fun g hg => ?_, hl⟩).mono ?_
  · rcases hv g hg with h1 | h1
    · exact hS g h1
    · omega
  · rintro e w2 ⟨he, hm⟩
    exact ⟨he, hm.main⟩
theorem EmitsF.more {B' : Nat} {F' : World → Prop} (h : EmitsF fid cap B F out need) (hB : B ≤ B') (hF : ∀ w, F' w → F w) : EmitsF fid cap B' F' out need :=
  ⟨h.1, h.2.1, fun w S hf hb hS => h.2.2 w S (hF w hf) (by omega) fun x hx => Nat.le_trans hB (hS x hx)⟩

theorem Em.u8 (h : Em w1 q v base off pl ic B F st R w2) (n : Nat) (hn : n < 256) (hR : R' + 1 ≤ R) :
    Calls Try.prog 77 #[.pointer (some ⟨q, 0, none⟩), .int .u8 (n : Int)] w2 (EmP w1 q v base off pl ic B F (app st (some [UInt8.ofNat n])) R') := by
  obtain ⟨v2, hb, hu, hv2⟩ := h.main
  have hr := h.room
  have ho := olen_app st (some [UInt8.ofNat n])
  have h1 : olen (some [UInt8.ofNat n]) = 1 := rfl
  exact (AddUint8_any hb (by omega) n hn).mono fun e w' hp => h.step hu hv2 hp (by omega)
theorem Em.u16 (h : Em w1 q v base off pl ic B F st R w2) (n : Nat) (hn : n < 65536) (hR : R' + 2 ≤ R) :
    Calls Try.prog 87 #[.pointer (some ⟨q, 0, none⟩), .int .u16 (n : Int)] w2 (EmP w1 q v base off pl ic B F (app st (some (be 2 n))) R') := by
  obtain ⟨v2, hb, hu, hv2⟩ := h.main
  have hr := h.room
  have ho := olen_app st (some (be 2 n))
  have h1 : olen (some (be 2 n)) = 2 := be_len 2 n
  exact (AddUint16_any hb (by omega) n hn).mono fun e w' hp => h.step hu hv2 hp (by omega)
theorem Em.bytes (h : Em w1 q v base off pl ic B F st R w2) (hc : Byt w2 B content xs) (hR : R' + xs.length ≤ R) :
    Calls Try.prog 83 #[.pointer (some ⟨q, 0, none⟩), content] w2 (EmP w1 q v base off pl ic B F (app st (some xs)) R') := by
  obtain ⟨v2, hb, hu, hv2⟩ := h.main
  have hr := h.room
  have ho := olen_app st (some xs)
  have h1 : olen (some xs) = xs.length := rfl
  refine (AddBytes_any hb (src_of hc h.hq ?_) (by omega) (by omega)).mono fun e w' hp => h.step hu hv2 hp (by omega)
  intro g hg
  rcases hv2 with h2 | ⟨g', h2, hg'⟩
  · rw [h2] at hg; exact h.hv g hg
  · rw [h2] at hg
    injection hg with hg
    have := h.B1
    omega
/-- of new memory -/
theorem Em.bytesNew (h : Em w1 q v base off pl ic B F st R w2) {C : Nat} (hc : Byt w2 C content xs) (hR : R' + xs.length ≤ R)
    (hne : ∀ v2 : Value, BS w2 base q v2 off pl ic st → ∀ k, content.ownBlock = some k → k ≠ q ∧ v2.ownBlock ≠ some k) :
    Calls Try.prog 83 #[.pointer (some ⟨q, 0, none⟩), content] w2 (EmP w1 q v base off pl ic B F (app st (some xs)) R') := by
  obtain ⟨v2, hb, hu, hv2⟩ := h.main
  have hr := h.room
  have ho := olen_app st (some xs)
  have h1 : olen (some xs) = xs.length := rfl
  exact (AddBytes_any hb ⟨C, hc, .inr (hne v2 hb)⟩ (by omega) (by omega)).mono fun e w' hp => h.step hu hv2 hp (by omega)
/-- a nested vector -/
theorem Em.emits (h : Em w1 q v base off pl ic B F st R w2) (hE : EmitsF fid cap B F out need) {v2 : Value} (hu : Upd (q :: v.ownBlock.toList) w1 w2) (hv2 : v2.ownBlock = v.ownBlock ∨ ∃ g, v2.ownBlock = some g ∧ w1.heap.size ≤ g) :
    Emits fid cap (q :: v2.ownBlock.toList) w2 out need := by
  refine hE.2.2 w2 _ h.F (Nat.le_trans h.B1 hu.size) fun x hx => ?_
  rcases List.mem_cons.1 hx with hx | hx
  · rw [hx]; exact h.hq
  · rcases hv2 with h2 | ⟨g, h2, hg⟩
    · rw [h2] at hx; exact h.hv x (Option.mem_toList.1 hx)
    · rw [h2] at hx
      have : x = g := by simpa using hx
      have := h.B1
      omega
theorem Em.inner2 (h : Em w1 q v base off pl ic B F st R w2) : Inner w2 ic := by
  obtain ⟨v2, hb, hu, hv2⟩ := h.main
  exact h.inner.upd hu h.icne
theorem Em.lp8 (h : Em w1 q v base off pl ic B F st R w2) (hE : EmitsF fid cap B F out need) (hR : R' + need + 4 ≤ R) :
    Calls Try.prog 81 #[.pointer (some ⟨q, 0, none⟩), .func (.func fid) #[] cap] w2 (EmP w1 q v base off pl ic B F (app st (lpOut 1 out)) R') := by
  obtain ⟨v2, hb, hu, hv2⟩ := h.main
  have hr := h.room
  have ho := olen_app st (lpOut 1 out)
  have h1 := olen_lp 1 (by omega) out
  have h2 := hE.1
  exact (AddLP8_inner hb h.inner2 (fun _ => h.emits hE hu hv2) hE.2.1 (by omega) (by omega)).mono fun e w' hp => h.step hu hv2 hp (by omega)
theorem Em.lp16 (h : Em w1 q v base off pl ic B F st R w2) (hE : EmitsF fid cap B F out need) (hR : R' + need + 4 ≤ R) :
    Calls Try.prog 84 #[.pointer (some ⟨q, 0, none⟩), .func (.func fid) #[] cap] w2 (EmP w1 q v base off pl ic B F (app st (lpOut 2 out)) R') := by
  obtain ⟨v2, hb, hu, hv2⟩ := h.main
  have hr := h.room
  have ho := olen_app st (lpOut 2 out)
  have h1 := olen_lp 2 (by omega) out
  have h2 := hE.1
  exact (AddLP16_inner hb h.inner2 (fun _ => h.emits hE hu hv2) hE.2.1 (by omega) (by omega)).mono fun e w' hp => h.step hu hv2 hp (by omega)
theorem Em.lp24 (h : Em w1 q v base off pl ic B F st R w2) (hE : EmitsF fid cap B F out need) (hR : R' + need + 4 ≤ R) :
    Calls Try.prog 78 #[.pointer (some ⟨q, 0, none⟩), .func (.func fid) #[] cap] w2 (EmP w1 q v base off pl ic B F (app st (lpOut 3 out)) R') := by
  obtain ⟨v2, hb, hu, hv2⟩ := h.main
  have hr := h.room
  have ho := olen_app st (lpOut 3 out)
  have h1 := olen_lp 3 (by omega) out
  have h2 := hE.1
  exact (AddLP24_inner hb h.inner2 (fun _ => h.emits hE hu hv2) hE.2.1 (by omega) (by omega)).mono fun e w' hp => h.step hu hv2 hp (by omega)
theorem AddLP24_topF {p : Nat} (h : TopS w0 w p st) (hE : EmitsF fid cap B F out need) (hF : F w0) (hB : B ≤ w0.heap.size) (hR : olen st + need + 4 ≤ 17592186044416) :
    Calls Try.prog 78 #[.pointer (some ⟨p, 0, none⟩), .func (.func fid) #[] cap] w (TopP w0 p (app st (lpOut 3 out))) :=
  AddLP24_top h (hE.2.2 w0 [] hF hB (by simp)) hE.2.1 hR (by have := hE.1; omega)
theorem AddLP16_topF {p : Nat} (h : TopS w0 w p st) (hE : EmitsF fid cap B F out need) (hF : F w0) (hB : B ≤ w0.heap.size) (hR : olen st + need + 4 ≤ 17592186044416) :
    Calls Try.prog 84 #[.pointer (some ⟨p, 0, none⟩), .func (.func fid) #[] cap] w (TopP w0 p (app st (lpOut 2 out))) :=
  AddLP16_top h (hE.2.2 w0 [] hF hB (by simp)) hE.2.1 hR (by have := hE.1; omega)
end
end Go.Proofs.Ytcdjbciifnoajaa

/- Texts joined: Build2, Build3, Build4, Build5, Build6, KeyUpdate, Alive, KeyUpdateR, Emit, Emit2, Em, EmS, Octets, Body, Body2, Ext, ExtRow, MsgPlain, ExtW, SpecL, SpecL2, SpecW, SpecO. -/
import Derived.Deep.DeepFit
import Derived.Recover
import Derived.Deep.RegionHeld3
import Derived.Lib.ConvBytes
import Derived.Deep.DeepCutAuto
import Derived.Deep.LoopGhost
import Derived.Deep.RegionLaw
import Derived.Deep.DeepMust
import Derived.Test.YtaajmfgplhfncaaB04
import Derived.Test.YtaajmfgplhfncaaB03
import Derived.Test.YtaajmfgplhfncaaB01
namespace Go.Proofs.Ytaajmfgplhfncaa
open Go.RowKit
set_option maxRecDepth 100000
section
variable {w w' : World} {base p q off pl : Nat} {v v2 content ic ic2 : Value} {xs bs : List UInt8} {st : Option (List UInt8)} {S : List Nat}
theorem bcs_cells {t : World} {v child ic : Value} {off pl : Nat} (h : Blk t p 124 (bcs v child off pl ic)) :
    t.cell? ⟨p, 0, none⟩ = some .nilIface ∧ t.cell? ⟨p, 1, none⟩ = some v ∧ t.cell? ⟨p, 2, none⟩ = some (.bool false) ∧ t.cell? ⟨p, 3, none⟩ = some child ∧
    t.cell? ⟨p, 4, none⟩ = some (.int .i64 (off : Int)) ∧ t.cell? ⟨p, 5, none⟩ = some (.int .i64 (pl : Int)) ∧ t.cell? ⟨p, 6, none⟩ = some (.bool false) ∧ t.cell? ⟨p, 7, none⟩ = some ic := by
  refine ⟨?_, ?_, ?_, ?_, ?_, ?_, ?_, ?_⟩
  all_goals (rw [h.cell]; rfl)
def FlP (w : World) (base p q : Nat) (v2 : Value) (off pl : Nat) (ic : Value) (st : Option (List UInt8)) (e : Ending) (w' : World) : Prop :=
  e = .returned (.tuple #[]) ∧ BS w' base p v2 off pl ic st ∧ Upd (p :: q :: v2.ownBlock.toList) w w'
end
end Go.Proofs.Ytaajmfgplhfncaa
namespace Go.Proofs.Ytaajmfgplhfncaa
open Go.RowKit
set_option maxRecDepth 100000
section
variable {w w' : World} {base p q off pl : Nat} {v v2 content ic ic2 : Value} {xs bs : List UInt8} {st : Option (List UInt8)} {S : List Nat}
end
end Go.Proofs.Ytaajmfgplhfncaa
namespace Go.Proofs.Ytaajmfgplhfncaa
open Go.RowKit
set_option maxRecDepth 100000
def Inner (w : World) (ic : Value) : Prop := ∃ c, ic = .pointer (some ⟨c, 0, none⟩) ∧ Blk w c 4 #[.bool true]
def Enters (fid : FuncId) : Prop := ∀ (args : Array Value) (w : World), (callFunc fid args).run Try.prog w = .ok (.enter fid args) w
def Emits (fid : FuncId) (cap : Array Value) (S : List Nat) (w : World) (out : Option (List UInt8)) (need : Nat) : Prop :=
  ∀ w1, Upd S w w1 → ∀ base q v off pl ic bs, Bld w1 base q v off pl ic bs → Inner w1 ic → w.heap.size ≤ q → (∀ g, v.ownBlock = some g → g ∈ S ∨ w.heap.size ≤ g) → bs.length + need ≤ 17592186044416 →
    Calls Try.prog fid (#[.pointer (some ⟨q, 0, none⟩)] ++ cap) w1 (BSP w1 base q v off pl ic (app (some bs) out))
section
variable {w w' : World} {base p q off pl : Nat} {v v2 content ic ic2 : Value} {xs bs : List UInt8} {st out : Option (List UInt8)} {S : List Nat}
theorem Inner.upd (h : Inner w ic) (hu : Upd S w w') (hs : ∀ c, ic = .pointer (some ⟨c, 0, none⟩) → c ∉ S) : Inner w' ic := by
  obtain ⟨c, h1, h2⟩ := h
  exact ⟨c, h1, h2.upd hu (hs c h1)⟩
theorem FlP.ret {e : Ending} (h : FlP w base p q v2 off pl ic st e w') : e = .returned (.tuple #[]) := h.1
theorem BS.child (h : BS w base p v off pl ic st) : w.cell? ⟨p, 3, none⟩ = some (.pointer none) := by
  cases st with
  | none => exact (BErr.open_ h).choose_spec.choose_spec.2
  | some bs => exact (bcs_cells h.2.1).2.2.2.1
end
end Go.Proofs.Ytaajmfgplhfncaa
namespace Go.Proofs.Ytaajmfgplhfncaa
open Go.RowKit
set_option maxRecDepth 100000
def TopIc (w : World) (base : Nat) (ic : Value) : Prop := ic = .pointer none ∨ ∃ c, ic = .pointer (some ⟨c, 0, none⟩) ∧ base ≤ c ∧ Blk w c 4 #[.bool false]
def TopS (w0 w : World) (p : Nat) (st : Option (List UInt8)) : Prop :=
  ∃ v ic, BS w w0.heap.size p v 0 0 ic st ∧ TopIc w w0.heap.size ic ∧ Upd [] w0 w ∧ (∀ g, v.ownBlock = some g → w0.heap.size ≤ g ∧ g ≠ p ∧ ∀ c, ic = .pointer (some ⟨c, 0, none⟩) → g ≠ c)
def TopP (w0 : World) (p : Nat) (st : Option (List UInt8)) (e : Ending) (w' : World) : Prop := e = .returned (.tuple #[]) ∧ TopS w0 w' p st
section
variable {w w0 w' : World} {base p q off pl : Nat} {v v2 content ic ic2 : Value} {xs bs : List UInt8} {st out : Option (List UInt8)} {S : List Nat}
theorem TopIc.upd (h : TopIc w base ic) (hu : Upd S w w') (hs : ∀ c, ic = .pointer (some ⟨c, 0, none⟩) → c ∉ S) : TopIc w' base ic := by
  rcases h with h | ⟨c, rfl, h1, h2⟩
  · exact .inl h
  · exact .inr ⟨c, rfl, h1, h2.upd hu (hs c rfl)⟩
theorem BS.ge (h : BS w base p v off pl ic st) : base ≤ p := by
  cases st with
  | none => exact h.1
  | some bs => exact h.1
theorem BS.isBlk (h : BS w base p v off pl ic st) : ∃ cs, Blk w p 124 cs := by
  cases st with
  | none => obtain ⟨_, cs, t, x, h1, _⟩ := h; exact ⟨cs, h1⟩
  | some bs => exact ⟨_, h.2.1⟩
theorem TopS.nec (hb : BS w base p v off pl ic st) (hi : TopIc w base ic) : ∀ c, ic = .pointer (some ⟨c, 0, none⟩) → p ≠ c := by
  intro c hc
  rcases hi with h | ⟨c', h, _, hbl⟩
  · rw [h] at hc; cases hc
  · rw [h] at hc
    injection hc with hc
    injection hc with hc
    injection hc with hc
    subst hc
    obtain ⟨cs, h1⟩ := hb.isBlk
    exact h1.ne_ hbl (by decide)
theorem TopS.step (hi : TopIc w w0.heap.size ic) (hb : BS w w0.heap.size p v 0 0 ic st) (hu : Upd [] w0 w) (ho : ∀ g, v.ownBlock = some g → w0.heap.size ≤ g ∧ g ≠ p ∧ ∀ c, ic = .pointer (some ⟨c, 0, none⟩) → g ≠ c)
    {st' : Option (List UInt8)} {e : Ending} (h : BSP w w0.heap.size p v 0 0 ic st' e w') : TopP w0 p st' e w' := by
  obtain ⟨he, v', h1, h2, h3⟩ := h
  have hn := TopS.nec hb hi
  have hcl : ∀ c, ic = .pointer (some ⟨c, 0, none⟩) → c < w.heap.size := by
    intro c hc
    rcases hi with h | ⟨c', h, _, hbl⟩
    · rw [h] at hc; cases hc
    · rw [h] at hc
      injection hc with hc
      injection hc with hc
      injection hc with hc
      subst hc
      exact hbl.lt
  have hpl := hb.lt
  have hp := hb.ge
  refine ⟨he, v', ic, h1, hi.upd h2 ?_, hu.trans h2 ?_, ?_⟩
  · intro c hc hm
    rcases List.mem_cons.1 hm with h | hm
    · exact hn c hc h.symm
    · exact (ho c (Option.mem_toList.1 hm)).2.2 c hc rfl
  · intro x hx
    right
    rcases List.mem_cons.1 hx with h | hx
    · omega
    · exact (ho x (Option.mem_toList.1 hx)).1
  · intro g hg
    rcases h3 with h | ⟨g', hg', hge⟩
    · rw [h] at hg; exact ho g hg
    · rw [hg'] at hg
      injection hg with hg
      subst hg
      have := hu.size
      exact ⟨by omega, by omega, fun c hc => by have := hcl c hc; omega⟩
theorem TopS.new (w0 : World) : TopS w0 (w0.alloc (.cells (bcs (.slice none 0 0) (.pointer none) 0 0 (.pointer none)) 124)) w0.heap.size (some []) :=
  ⟨.slice none 0 0, .pointer none, ⟨Nat.le_refl _, Blk.new _ _ _, Own.nil_ _ _ _⟩, .inl rfl, (Upd.refl _ _).alloc _, fun g hg => by simp [Value.ownBlock] at hg⟩
end
end Go.Proofs.Ytaajmfgplhfncaa
namespace Go.Proofs.Ytaajmfgplhfncaa
open Go.RowKit
set_option maxRecDepth 100000
section
variable {w w0 w' : World} {base p q off pl : Nat} {v v2 content ic ic2 : Value} {xs bs : List UInt8} {st out : Option (List UInt8)} {S : List Nat}
def BytesP (w0 : World) (st : Option (List UInt8)) (e : Ending) (w' : World) : Prop :=
  Upd [] w0 w' ∧ match st with
  | some bs => ∃ u, e = .returned (.tuple #[u, .nilIface]) ∧ Byt w' w'.heap.size u bs ∧ NewFrom w0.heap.size u ∧ isSlice u
  | none => ∃ t x, e = .returned (.tuple #[.slice none 0 0, .iface t x])
end
end Go.Proofs.Ytaajmfgplhfncaa
namespace Go.Proofs.Ytaajmfgplhfncaa
open Go.RowKit
set_option maxRecDepth 100000
section
variable {w w0 w' : World} {base p q off pl : Nat} {v v2 content ic ic2 : Value} {xs bs : List UInt8} {st out : Option (List UInt8)} {S : List Nat}
end
end Go.Proofs.Ytaajmfgplhfncaa
namespace Go.Proofs.Ytaajmfgplhfncaa
open Go.RowKit
set_option maxRecDepth 100000
section
variable {w w0 w' : World} {v v2 content : Value} {xs bs : List UInt8} {st : Option (List UInt8)} {S : List Nat} {e : Ending}
def MadeP (w0 : World) (st : Option (List UInt8)) (e : Ending) (w' : World) : Prop :=
  Upd [] w0 w' ∧ match st with
  | some bs => ∃ u, e = .returned (.tuple #[u, .bool true]) ∧ Byt w' w'.heap.size u bs ∧ NewFrom w0.heap.size u ∧ isSlice u
  | none => e = .returned (.tuple #[.slice none 0 0, .bool false])
theorem BytesP.pair (h : BytesP w0 st e w') : ∃ A n c x, e = .returned (.tuple #[.slice A n c, x]) := by
  obtain ⟨hu, h⟩ := h
  cases st with
  | some bs => obtain ⟨u, he, -, -, A, n, c, rfl⟩ := h; exact ⟨A, n, c, _, he⟩
  | none => obtain ⟨t, x, he⟩ := h; exact ⟨none, 0, 0, _, he⟩
theorem BytesP.up (h : BytesP w0 st e w') (hu : Upd [] w w0) : BytesP w st e w' := by
  obtain ⟨h1, h⟩ := h
  refine ⟨hu.trans h1 (by simp), ?_⟩
  cases st with
  | some bs => obtain ⟨u, he, hb, hn, hs⟩ := h; exact ⟨u, he, hb, fun k hk => Nat.le_trans hu.size (hn k hk), hs⟩
  | none => exact h
theorem BytesP.two (h : BytesP w0 st e w') : ∃ A n c, (e = .returned (.tuple #[.slice A n c, .nilIface]) ∧ ∀ n', MadeP w0 st (.returned (.tuple #[.slice A n c, .bool true])) (w'.drewN n')) ∨
    ∃ t x, e = .returned (.tuple #[.slice A n c, .iface t x]) ∧ ∀ n', MadeP w0 st (.returned (.tuple #[.slice A n c, .bool false])) (w'.drewN n') := by
  obtain ⟨h1, h⟩ := h
  cases st with
  | some bs =>
    obtain ⟨u, he, hb, hn, A, n, c, rfl⟩ := h
    exact ⟨A, n, c, .inl ⟨he, fun n' => ⟨h1.drewN _, _, rfl, Row.drewN hb _, hn, ⟨A, n, c, rfl⟩⟩⟩⟩
  | none =>
    obtain ⟨t, x, he⟩ := h
    exact ⟨none, 0, 0, .inr ⟨t, x, he, fun n => ⟨h1.drewN _, rfl⟩⟩⟩
end
end Go.Proofs.Ytaajmfgplhfncaa
namespace Go.Proofs.Ytaajmfgplhfncaa
open Go.RowKit
set_option maxRecDepth 100000
section
variable {w w0 w' : World} {v v2 content : Value} {xs bs data : List UInt8} {st : Option (List UInt8)} {S : List Nat} {e : Ending} {m B : Nat}
end
end Go.Proofs.Ytaajmfgplhfncaa
namespace Go.Proofs.Ytaajmfgplhfncaa
open Go.RowKit
set_option maxRecDepth 100000
section
variable {w w0 w' : World} {base p q off pl : Nat} {v v2 content ic ic2 : Value} {xs bs data : List UInt8} {st out : Option (List UInt8)} {S : List Nat} {m B : Nat} {e : Ending}
theorem src_of (hc : Byt w B content xs) (hq : B ≤ q) (hg : ∀ g, v.ownBlock = some g → B ≤ g) : Src w base q v content xs := by
  obtain ⟨A, c, e, h1, h2, h3, h4⟩ := hc
  by_cases hx : xs = []
  · subst hx
    exact ⟨0, ⟨A, c, e, h1, h2, h3, fun h => absurd rfl h⟩, .inl (Nat.zero_le _)⟩
  · refine ⟨B, ⟨A, c, e, h1, h2, h3, h4⟩, .inr ?_⟩
    obtain ⟨b, o, rfl, hb, -⟩ := h4 (by simpa using hx)
    intro k hk
    rw [e] at hk
    have hkb : k = b := by
      unfold Value.ownBlock at hk
      simp at hk
      exact hk.symm
    subst hkb
    refine ⟨by omega, fun h => ?_⟩
    have := hg k h
    omega
end
end Go.Proofs.Ytaajmfgplhfncaa
namespace Go.Proofs.Ytaajmfgplhfncaa
open Go.RowKit
set_option maxRecDepth 100000
section
variable {w w0 w1 w2 w' : World} {base p q off pl n : Nat} {v v2 content ic ic2 : Value} {xs bs data : List UInt8} {st out : Option (List UInt8)} {S : List Nat} {m B : Nat} {e : Ending}
theorem Bld.icne (hb : Bld w base q v off pl ic bs) (hi : Inner w ic) : ∀ c, ic = .pointer (some ⟨c, 0, none⟩) → c ∉ q :: v.ownBlock.toList := by
  intro c hc hm
  obtain ⟨c', hc', hbl⟩ := hi
  rw [hc'] at hc
  injection hc with hc
  injection hc with hc
  injection hc with hc
  subst hc
  rcases List.mem_cons.1 hm with h | h
  · exact hb.2.1.ne_ hbl (by decide) h.symm
  · exact hb.2.2.ne hbl (by decide) c' (Option.mem_toList.1 h) rfl
end
end Go.Proofs.Ytaajmfgplhfncaa
namespace Go.Proofs.Ytaajmfgplhfncaa
open Go.RowKit
set_option maxRecDepth 100000
def Stable (B : Nat) (F : World → Prop) : Prop := ∀ w w' : World, Below B w w' → F w → F w'
theorem Stable.more {B B' : Nat} {F : World → Prop} (h : Stable B F) (hB : B ≤ B') : Stable B' F := fun w w' hb hf => h w w' ⟨hb.os, hb.tape, hb.output, hb.size, fun k hk => hb.block k (by omega)⟩ hf
def EmitsF (fid : FuncId) (cap : Array Value) (B : Nat) (F : World → Prop) (out : Option (List UInt8)) (need : Nat) : Prop :=
  olen out ≤ need ∧ Enters fid ∧ ∀ w S, F w → B ≤ w.heap.size → (∀ x ∈ S, B ≤ x) → Emits fid cap S w out need
structure Em (w1 : World) (q : Nat) (v : Value) (base off pl : Nat) (ic : Value) (B : Nat) (F : World → Prop) (st : Option (List UInt8)) (R : Nat) (w2 : World) : Prop where
  main : ∃ v2, BS w2 base q v2 off pl ic st ∧ Upd (q :: v.ownBlock.toList) w1 w2 ∧ (v2.ownBlock = v.ownBlock ∨ ∃ g, v2.ownBlock = some g ∧ w1.heap.size ≤ g)
  inner : Inner w1 ic
  icne : ∀ c, ic = .pointer (some ⟨c, 0, none⟩) → c ∉ q :: v.ownBlock.toList
  stab : Stable B F
  F : F w2
  B1 : B ≤ w1.heap.size
  hq : B ≤ q
  hv : ∀ g, v.ownBlock = some g → B ≤ g
  room : olen st + R ≤ 17592186044416
def EmP (w1 : World) (q : Nat) (v : Value) (base off pl : Nat) (ic : Value) (B : Nat) (F : World → Prop) (st : Option (List UInt8)) (R : Nat) (e : Ending) (w2 : World) : Prop :=
  e = .returned (.tuple #[]) ∧ Em w1 q v base off pl ic B F st R w2
section
variable {w w0 w1 w2 w' : World} {base q off pl : Nat} {v content ic : Value} {xs bs : List UInt8} {st out : Option (List UInt8)} {S : List Nat} {B R R' need : Nat} {F : World → Prop} {e : Ending} {fid : FuncId} {cap : Array Value}
theorem Em.ge (h : Em w1 q v base off pl ic B F st R w2) : ∀ x ∈ q :: v.ownBlock.toList, B ≤ x := by
  intro x hx
  rcases List.mem_cons.1 hx with hx | hx
  · rw [hx]; exact h.hq
  · exact h.hv x (Option.mem_toList.1 hx)
theorem Em.below (h : Em w1 q v base off pl ic B F st R w2) : Below B w1 w2 := by
  obtain ⟨v2, _, hu, _⟩ := h.main
  exact hu.below h.B1 h.ge
theorem Em.size (h : Em w1 q v base off pl ic B F st R w2) : w1.heap.size ≤ w2.heap.size := h.below.size
theorem Em.step (h : Em w1 q v base off pl ic B F st R w2) {v2 : Value} {st' : Option (List UInt8)} (hu : Upd (q :: v.ownBlock.toList) w1 w2) (hv2 : v2.ownBlock = v.ownBlock ∨ ∃ g, v2.ownBlock = some g ∧ w1.heap.size ≤ g)
    (hp : BSP w2 base q v2 off pl ic st' e w') (hr : olen st' + R' ≤ 17592186044416) : EmP w1 q v base off pl ic B F st' R' e w' := by
  have hp1 := BSP.after hu hv2 hp
  obtain ⟨he, v3, hb3, hu3, hv3⟩ := hp1
  refine ⟨he, ⟨v3, hb3, hu3, hv3⟩, h.inner, h.icne, h.stab, ?_, h.B1, h.hq, h.hv, hr⟩
  obtain ⟨_, v4, _, hu4, _⟩ := hp
  refine h.stab _ _ (hu4.below (Nat.le_trans h.B1 hu.size) ?_) h.F
  intro x hx
  rcases List.mem_cons.1 hx with hx | hx
  · rw [hx]; exact h.hq
  · rcases hv2 with h2 | ⟨g, h2, hg⟩
    · rw [h2] at hx; exact h.hv x (Option.mem_toList.1 hx)
    · rw [h2] at hx
      have : x = g := by simpa using hx
      have := h.B1
      omega
theorem Em.new (h : Em w1 q v base off pl ic B F st R w2) (hu : Upd [] w2 w') : Em w1 q v base off pl ic B F st R w' := by
  obtain ⟨v2, hb, hu2, hv2⟩ := h.main
  exact ⟨⟨v2, hb.upd hu (by simp) (by simp), hu2.trans hu (by simp), hv2⟩, h.inner, h.icne, h.stab, h.stab _ _ (hu.below (Nat.le_trans h.B1 hu2.size) (by simp)) h.F, h.B1, h.hq, h.hv, h.room⟩
theorem Em.cast {st' : Option (List UInt8)} (h : Em w1 q v base off pl ic B F st R w2) (hs : st = st') : Em w1 q v base off pl ic B F st' R w2 := hs ▸ h
theorem EmitsF.mk (hst : Stable B F) (ho : olen out ≤ need) (hen : Enters fid)
    (h : ∀ (w1 : World) (q : Nat) (v : Value) (base off pl : Nat) (ic : Value) (bs : List UInt8), Em w1 q v base off pl ic B F (some bs) need w1 →
      Calls Try.prog fid (#[.pointer (some ⟨q, 0, none⟩)] ++ cap) w1 (EmP w1 q v base off pl ic B F (app (some bs) out) 0)) : EmitsF fid cap B F out need := by
  refine ⟨ho, hen, fun w S hF hBw hS w1 hu base q v off pl ic bs hb hi hq hv hl => ?_⟩
  refine (h w1 q v base off pl ic bs ⟨⟨v, hb, Upd.refl _ _, .inl rfl⟩, hi, hb.icne hi, hst, hst _ _ (hu.below hBw hS) hF, Nat.le_trans hBw hu.size, Nat.le_trans hBw hq, fun g hg => ?_, hl⟩).mono ?_
  · rcases hv g hg with h1 | h1
    · exact hS g h1
    · omega
  · rintro e w2 ⟨he, hm⟩
    exact ⟨he, hm.main⟩
theorem EmitsF.more {B' : Nat} {F' : World → Prop} (h : EmitsF fid cap B F out need) (hB : B ≤ B') (hF : ∀ w, F' w → F w) : EmitsF fid cap B' F' out need :=
  ⟨h.1, h.2.1, fun w S hf hb hS => h.2.2 w S (hF w hf) (by omega) fun x hx => Nat.le_trans hB (hS x hx)⟩
theorem Em.u8 (h : Em w1 q v base off pl ic B F st R w2) (n : Nat) (hn : n < 256) (hR : R' + 1 ≤ R) :
    Calls Try.prog 68 #[.pointer (some ⟨q, 0, none⟩), .int .u8 (n : Int)] w2 (EmP w1 q v base off pl ic B F (app st (some [UInt8.ofNat n])) R') := by
  obtain ⟨v2, hb, hu, hv2⟩ := h.main
  have hr := h.room
  have ho := olen_app st (some [UInt8.ofNat n])
  have h1 : olen (some [UInt8.ofNat n]) = 1 := rfl
  exact (AddUint8_any hb (by omega) n hn).mono fun e w' hp => h.step hu hv2 hp (by omega)
theorem Em.u16 (h : Em w1 q v base off pl ic B F st R w2) (n : Nat) (hn : n < 65536) (hR : R' + 2 ≤ R) :
    Calls Try.prog 72 #[.pointer (some ⟨q, 0, none⟩), .int .u16 (n : Int)] w2 (EmP w1 q v base off pl ic B F (app st (some (be 2 n))) R') := by
  obtain ⟨v2, hb, hu, hv2⟩ := h.main
  have hr := h.room
  have ho := olen_app st (some (be 2 n))
  have h1 : olen (some (be 2 n)) = 2 := be_len 2 n
  exact (AddUint16_any hb (by omega) n hn).mono fun e w' hp => h.step hu hv2 hp (by omega)
theorem Em.bytes (h : Em w1 q v base off pl ic B F st R w2) (hc : Byt w2 B content xs) (hR : R' + xs.length ≤ R) :
    Calls Try.prog 77 #[.pointer (some ⟨q, 0, none⟩), content] w2 (EmP w1 q v base off pl ic B F (app st (some xs)) R') := by
  obtain ⟨v2, hb, hu, hv2⟩ := h.main
  have hr := h.room
  have ho := olen_app st (some xs)
  have h1 : olen (some xs) = xs.length := rfl
  refine (AddBytes_any hb (src_of hc h.hq ?_) (by omega) (by omega)).mono fun e w' hp => h.step hu hv2 hp (by omega)
  intro g hg
  rcases hv2 with h2 | ⟨g', h2, hg'⟩
  · rw [h2] at hg; exact h.hv g hg
  · rw [h2] at hg
    injection hg with hg
    have := h.B1
    omega
end
end Go.Proofs.Ytaajmfgplhfncaa
namespace Go.Proofs.Ytaajmfgplhfncaa
open Go.RowKit
set_option maxRecDepth 100000
theorem bcase (b : Bool) : b = true ∨ b = false := by cases b <;> simp
section
variable {w w0 w1 w2 w3 w' : World} {base q off pl : Nat} {v content ic : Value} {xs bs : List UInt8} {st out : Option (List UInt8)} {S : List Nat} {B R R' need : Nat} {F : World → Prop} {e : Ending} {fid : FuncId} {cap : Array Value}
theorem MadeP.up {w0 : World} {st : Option (List UInt8)} (h : MadeP w0 st e w') (hu : Upd [] w w0) : MadeP w st e w' := by
  obtain ⟨hu', hm⟩ := h
  refine ⟨hu.trans hu' (by simp), ?_⟩
  cases st with
  | none => exact hm
  | some bs =>
    obtain ⟨u, he, hy, hn, hs⟩ := hm
    exact ⟨u, he, hy, fun k hk => Nat.le_trans hu.size (hn k hk), hs⟩
theorem conv_string (w : World) (src dst : TypeId) (hs : Try.prog.underlying src = some .string) (hd : Try.prog.underlying dst = some (.slice 5)) (xs : List UInt8) (hx : xs.length ≤ 9223372036854775807) :
    ∃ wN A c, (convert src dst (.string ⟨xs.toArray⟩)).run Try.prog w = .ok (.slice A xs.length c) wN ∧ Byt wN wN.heap.size (.slice A xs.length c) xs ∧ Upd [] w wN ∧ ∀ k, (Value.slice A xs.length c).ownBlock = some k → w.heap.size ≤ k ∧ k < wN.heap.size := by
  have hsz : (⟨xs.toArray⟩ : ByteArray).size = xs.length := by simp [ByteArray.size]
  refine ⟨Lib.bytesWorld w 5 ⟨xs.toArray⟩, some ⟨w.heap.size, 0, none⟩, grownCap w xs.length 0 5, ?_, ?_, ?_, ?_⟩
  · have := Lib.run_convert_string_bytes (P := Try.prog) w src dst 5 ⟨xs.toArray⟩ hs hd Try.underlying5
    rwa [hsz] at this
  · refine ⟨some ⟨w.heap.size, 0, none⟩, grownCap w xs.length 0 5, by simp, by simpa using grownCap_ge w xs.length 0 5, grownCap_le_maxLen w xs.length 0 5 (by unfold maxLen; omega), (by intro h; cases h), fun _ => ⟨w.heap.size, 0, rfl, by rw [Lib.bytesWorld_size]; omega, fun j u hj => ?_⟩⟩
    rw [List.getElem?_map] at hj
    obtain ⟨x, hx, rfl⟩ := Option.map_eq_some_iff.1 hj
    obtain ⟨hjl, hx⟩ := List.getElem?_eq_some_iff.1 hx
    rw [Nat.zero_add, Lib.bytesWorld_cell _ _ _ _ (by rw [hsz]; exact hjl)]
    simp [List.getD, hjl, hx]
  · exact ⟨rfl, rfl, rfl, by rw [Lib.bytesWorld_size]; omega, fun k hk _ => Lib.bytesWorld_at_old w _ _ k hk⟩
  · intro k hk
    have : w.heap.size = k := by simpa [Value.ownBlock] using hk
    rw [Lib.bytesWorld_size]
    omega
theorem own_none (w : World) (base : Nat) (e : TypeId) (hb : base ≤ w.heap.size) : Own (w.alloc (.cells #[] e)) base e (.slice (some ⟨w.heap.size, 0, none⟩) 0 0) [] :=
  ⟨rfl, .inr ⟨w.heap.size, 0, #[], rfl, hb, heap_alloc_new w _, Nat.le_refl _, Nat.zero_le _, rfl, rfl⟩⟩
theorem wpList_conv_string {ops : Array Oper} {rest : List Oper} {o : Oper} {a : Act} {Q : Exit → Act → World → Prop} (src dst : TypeId) (x : Operand) (ho : o.op = .convert src dst x) (hs : Try.prog.underlying src = some .string) (hd : Try.prog.underlying dst = some (.slice 5))
    (hx : a.eval x = .string ⟨xs.toArray⟩) (hw : Region.wanted o (yielded ops a.tmps) = true) (hl : xs.length ≤ 9223372036854775807)
    (hK : ∀ wN A c, Byt wN wN.heap.size (.slice A xs.length c) xs → Upd [] w wN → (∀ k, (Value.slice A xs.length c).ownBlock = some k → w.heap.size ≤ k ∧ k < wN.heap.size) → wpList Try.prog ops Q rest (a.put o.dst (.slice A xs.length c)) wN) : wpList Try.prog ops Q (o :: rest) a w := by
  obtain ⟨wN, A, c, hrun, h1, h2, h3⟩ := conv_string w src dst hs hd xs hl
  refine BigFrame.wpList_want hw fun K' hK' => ?_
  unfold Oper.wp execOp
  simp only [ho, hx, Sem.run_bind, Sem.run_pure, hrun, Result.andThen_ok]
  exact hK' _ _ (hK wN A c h1 h2 h3)
end
end Go.Proofs.Ytaajmfgplhfncaa
namespace Go.Proofs.Ytaajmfgplhfncaa
open Go.RowKit
set_option maxRecDepth 100000
section
variable {w w' : World} {B : Nat} {v content : Value} {ls : List (List UInt8)} {e : Ending} {S : List Nat}
def LstN (w : World) (ls : List (List UInt8)) (e : Ending) (w' : World) : Prop := ∃ v, e = .returned v ∧ Lst w' w'.heap.size v ls ∧ Upd [] w w' ∧ ∀ k, v.ownBlock = some k → w.heap.size ≤ k
def OctRel (w : World) (ls : List (List UInt8)) (gk : Nat) (v i : Value) (wr : World) : Prop :=
  ∃ (j : Nat) (us : List Value), j + gk = ls.length ∧ i = .int .i64 (j : Int) ∧ Own wr w.heap.size 23 v us ∧ All2 (fun u l => Byt wr wr.heap.size u l ∧ ∀ g, u.ownBlock = some g → g < wr.heap.size ∧ v.ownBlock ≠ some g) us (ls.take j) ∧ Upd [] w wr
theorem oct_step {j : Nat} {us : List Value} {v v3 u : Value} {wr wN w3 : World} {o : Obj} (hj : j < ls.length) (hown : Own wr w.heap.size 23 v us) (hall : All2 (fun u l => Byt wr wr.heap.size u l ∧ ∀ g, u.ownBlock = some g → g < wr.heap.size ∧ v.ownBlock ≠ some g) us (ls.take j)) (hu : Upd [] w wr)
    (hy : Byt wN wN.heap.size u ls[j]) (huN : Upd [] wr wN) (hn : ∀ k, u.ownBlock = some k → wr.heap.size ≤ k ∧ k < wN.heap.size) (hap : Appended (wN.alloc o) w.heap.size 23 v (us ++ [u]) v3 w3) :
    OctRel w ls (ls.length - (j + 1)) v3 (.int .i64 ((j + 1 : Nat) : Int)) w3 := by
  obtain ⟨h1, h2, h3⟩ := hap.one
  have hvl : ∀ g, v.ownBlock = some g → g < wr.heap.size := fun g hg => (hown.ge hg).2
  have hsz := huN.size
  have hne : ∀ (x : Value), (∀ g, x.ownBlock = some g → g < wN.heap.size) → (∀ g, x.ownBlock = some g → v.ownBlock ≠ some g) → ∀ g, x.ownBlock = some g → v3.ownBlock ≠ some g := by
    intro x hx hxv g hg h
    rcases h3 with h3 | ⟨k, h3, hk⟩
    · rw [h3] at h; exact hxv g hg h
    · rw [h3] at h; injection h with h; have := hx g hg; omega
  have key : ∀ {x : Value} {l : List UInt8}, Byt wN wN.heap.size x l → (∀ g, x.ownBlock = some g → v.ownBlock ≠ some g) → Byt w3 w3.heap.size x l := by
    intro x l hb hxv
    exact (Row.apart hb h2 (fun g hg hm => hxv g hg (Option.mem_toList.1 hm))).shrink
  refine ⟨j + 1, us ++ [u], by omega, rfl, h1, ?_, (hu.trans huN (by simp)).trans h2 (fun x hx => .inr (hown.ge (Option.mem_toList.1 hx)).1)⟩
  rw [List.take_succ_eq_append_getElem hj]
  have hsz3 := h2.size
  refine All2.snoc (hall.imp fun x l hx => ⟨key (Row.upd hx.1 huN (by simp)).shrink (fun g hg => (hx.2 g hg).2), fun g hg => ⟨?_, hne x (fun g hg => Nat.lt_of_lt_of_le (hx.2 g hg).1 hsz) (fun g hg => (hx.2 g hg).2) g hg⟩⟩) ⟨key hy (fun g hg h => ?_), fun g hg => ⟨?_, hne u (fun g hg => (hn g hg).2) (fun g hg h => ?_) g hg⟩⟩
  · have := (hx.2 g hg).1; omega
  · have := (hn g hg).1; have := hvl g h; omega
  · have := (hn g hg).2; omega
  · have := (hn g hg).1; have := hvl g h; omega
set_option maxHeartbeats 1000000 in
theorem octets_any (hc : Row w B content (ls.map fun x => Value.string ⟨x.toArray⟩)) (hx : ls.length ≤ 1099511627776) (hxs : ∀ x ∈ ls, x.length ≤ 2147483647) : Calls Try.prog 20 #[content] w (LstN w ls) := by
  obtain ⟨A, c, rfl, hcr, hlc, hm⟩ := Row.formN (n := ls.length) (Row.shrink hc) (by simp)
  have HX := hid hx
  have HXS := hid hxs
  clear hx hc hxs
  go_enter Try.func20, Try.ntmps20
  go_wp2_with fail
  go_loopg [3, 8] ls.length (fun gk v i wr => OctRel w ls gk v i wr)
  case atStart => exact ⟨0, [], by omega, rfl, Own.nil_ _ _ _, trivial, Upd.refl _ _⟩
  case round =>
    obtain ⟨j, us, hj0, rfl, hown, hall, hu⟩ := hrel
    have hj : j ≤ ls.length := by omega
    have HJ := hid hj0
    clear hj0
    by_cases hlt : j < ls.length
    · have hcw := Row.upd hcr hu (by simp)
      obtain ⟨b, o, rfl, hb, hj', hcell⟩ := hcw.at_ hlt
      rw [List.getElem_map] at hcell
      have hxl := HXS.out _ (List.getElem_mem hlt)
      have hsz := hu.size
      have hul : us.length ≤ ls.length := by have := hall.length; rw [List.length_take] at this; omega
      have HA := hid hall
      clear hall hcw
      go_wp2_with (first
        | (refine wpList_conv_string 9 23 _ rfl Try.underlying9 Try.underlying23 rfl rfl (by omega) ?_; intro wN A9 c9 hyN huN hnN)
        | (at_builtin; go_must (refine wpList_append_row _ rfl _ _ _ rfl w.heap.size 23 (.slice none 0 0) 24 Try.underlying26 info_bytes rfl rfl ((Own.upd hown huN (by simp)).upd ((Upd.refl [] _).alloc _) (by simp)) rfl (Row.one _ _ _) (by intro u hu; simp at hu; subst hu; rfl) (by have := HX.out; simp; omega) (by have := HX.out; simp; omega) (by have := huN.size; simp; omega) ?_; intro v3 w3 hap)))
      go_roundg (ls.length - (j + 1))
      case measure => have := HJ.out; omega
      case rel =>
        have hap' : Appended (wN.alloc (.cells #[.slice A9 ls[j].length c9] 23)) w.heap.size 23 u3 (us ++ [.slice A9 ls[j].length c9]) v3 w3 := hap
        exact oct_step hlt hown HA.out hu hyN huN hnN hap'
    · obtain rfl : j = ls.length := by omega
      rw [List.take_length] at hall
      go_wp2
      go_ret
      exact ⟨_, rfl, ⟨us, hown.row, hall.imp fun _ _ h => h.1⟩, hu, fun k hk => (hown.ge hk).1⟩
end
end Go.Proofs.Ytaajmfgplhfncaa
namespace Go.Proofs.Ytaajmfgplhfncaa
set_option maxRecDepth 20000
namespace R
end R
end Go.Proofs.Ytaajmfgplhfncaa
namespace Go.Proofs.Ytaajmfgplhfncaa
set_option maxRecDepth 20000
namespace R
end R
end Go.Proofs.Ytaajmfgplhfncaa
namespace Go.Proofs.Ytaajmfgplhfncaa
set_option maxRecDepth 20000
abbrev Ex := UInt16 × List UInt8
section
variable {σ : Type} {stp : σ → Ex → Option σ}
end
def R.block (s : R) : R := (s.vec 2 0 65535).2.within (s.vec 2 0 65535).1
end Go.Proofs.Ytaajmfgplhfncaa
namespace Go.Proofs.Ytaajmfgplhfncaa
open Go.RowKit
set_option maxRecDepth 100000
theorem info_ext : (Try.prog.info? 66).map (fun i => (i.zero, i.size, i.bytes)) = some (some (.agg #[.int .u16 0, .slice none 0 0]), 2, 32) := by kernel_rfl
def ecells : List Ex → List Value → List Value
  | e :: L, u :: us => wv e.1 :: u :: ecells L us
  | _, _ => []
theorem ecells_len {L : List Ex} {us : List Value} (h : us.length = L.length) : (ecells L us).length = L.length * 2 := by
  induction L generalizing us with
  | nil => cases us <;> rfl
  | cons e L ih => cases us with
    | nil => simp at h
    | cons u us => simp only [ecells, List.length_cons, ih (Nat.succ.inj h)]; omega
theorem ecells_append {L M : List Ex} {us vs : List Value} (h : us.length = L.length) : ecells (L ++ M) (us ++ vs) = ecells L us ++ ecells M vs := by
  induction L generalizing us with
  | nil => cases us with
    | nil => rfl
    | cons u us => simp at h
  | cons e L ih => cases us with
    | nil => simp at h
    | cons u us => simp only [ecells, List.cons_append, ih (Nat.succ.inj h)]
theorem ecells_at {L : List Ex} {us : List Value} (k : Nat) (h : k < L.length) (h' : k < us.length) : (ecells L us)[k * 2]? = some (wv L[k].1) ∧ (ecells L us)[k * 2 + 1]? = some us[k] := by
  induction L generalizing us k with
  | nil => simp at h
  | cons e L ih => cases us with
    | nil => simp at h'
    | cons u us => cases k with
      | zero => exact ⟨rfl, rfl⟩
      | succ k =>
        have := ih k (by simpa using h) (by simpa using h')
        have e1 : (k + 1) * 2 = k * 2 + 2 := by omega
        rw [e1]
        simpa [ecells] using this
theorem All2.append {α β : Type} {p : α → β → Prop} {l l' : List α} {m m' : List β} (h : All2 p l m) (h' : All2 p l' m') : All2 p (l ++ l') (m ++ m') := by
  induction l generalizing m with
  | nil => cases m with
    | nil => exact h'
    | cons b m => exact h.elim
  | cons a l ih => cases m with
    | nil => exact h.elim
    | cons b m => exact ⟨h.1, ih h.2⟩
def Exr (w : World) (B N : Nat) (v : Value) (L : List Ex) : Prop :=
  ∃ A c us, v = .slice A L.length c ∧ L.length ≤ c ∧ c ≤ maxLen ∧ (A = none → c = 0) ∧ All2 (fun u e => Byt w N u e.2) us L ∧
    (L ≠ [] → ∃ b o, A = some ⟨b, o, none⟩ ∧ b < B ∧ ∀ j u, (ecells L us)[j]? = some u → w.cell? ⟨b, o + j, none⟩ = some u)
def EOwn (w : World) (base N : Nat) (v : Value) (L : List Ex) : Prop := ∃ us, w.ownsRow base 66 2 v L.length (ecells L us) ∧ All2 (fun u e => Byt w N u e.2) us L
section
variable {w w' : World} {B B' N N' base : Nat} {v : Value} {L M : List Ex} {S : List Nat}
theorem Exr.nil_ (w : World) (B N : Nat) : Exr w B N (.slice none 0 0) [] := ⟨none, 0, [], rfl, Nat.le_refl _, by unfold maxLen; omega, fun _ => rfl, trivial, fun h => absurd rfl h⟩
theorem Exr.upd (h : Exr w B N v L) (hu : Upd S w w') (hs : ∀ x ∈ S, B ≤ x ∧ N ≤ x) : Exr w' B N v L := by
  obtain ⟨A, c, us, rfl, h1, h2, h3, h4, h5⟩ := h
  refine ⟨A, c, us, rfl, h1, h2, h3, h4.imp fun _ _ hy => Row.upd hy hu fun x hx => (hs x hx).2, fun hn => ?_⟩
  obtain ⟨b, o, e, hb, hc⟩ := h5 hn
  exact ⟨b, o, e, hb, fun j u hj => hu.cell (hc j u hj) fun hm => by have := (hs _ hm).1; simp only at this; omega⟩
theorem Exr.apart (h : Exr w B N v L) (hu : Upd S w w') (hs : ∀ g, v.ownBlock = some g → g ∉ S) (hN : ∀ x ∈ S, N ≤ x) : Exr w' B N v L := by
  obtain ⟨A, c, us, rfl, h1, h2, h3, h4, h5⟩ := h
  refine ⟨A, c, us, rfl, h1, h2, h3, h4.imp fun _ _ hy => Row.upd hy hu hN, fun hn => ?_⟩
  obtain ⟨b, o, rfl, hb, hc⟩ := h5 hn
  exact ⟨b, o, rfl, hb, fun j u hj => hu.cell (hc j u hj) (hs b rfl)⟩
theorem Exr.more (h : Exr w B N v L) (hB : B ≤ B') (hN : N ≤ N') : Exr w B' N' v L := by
  obtain ⟨A, c, us, rfl, h1, h2, h3, h4, h5⟩ := h
  refine ⟨A, c, us, rfl, h1, h2, h3, h4.imp fun _ _ hy => Row.more hy hN, fun hn => ?_⟩
  obtain ⟨b, o, e, hb, hc⟩ := h5 hn
  exact ⟨b, o, e, by omega, hc⟩
theorem Exr.shrink (h : Exr w B N v L) : Exr w w.heap.size w.heap.size v L := by
  obtain ⟨A, c, us, rfl, h1, h2, h3, h4, h5⟩ := h
  refine ⟨A, c, us, rfl, h1, h2, h3, h4.imp fun _ _ hy => Row.shrink hy, fun hn => ?_⟩
  obtain ⟨b, o, e, hb, hc⟩ := h5 hn
  have hl : us.length = L.length := h4.length
  have hpos : 0 < L.length := List.length_pos_iff.2 hn
  exact ⟨b, o, e, World.block_lt_of_cell? w _ (hc 0 _ (ecells_at 0 hpos (by omega)).1), hc⟩
theorem Exr.form (h : Exr w B N v L) : ∃ A c, v = .slice A L.length c ∧ Exr w B N (.slice A L.length c) L ∧ L.length ≤ c ∧ c ≤ 9223372036854775807 := by
  have h0 := h
  obtain ⟨A, c, us, rfl, h1, h2, _⟩ := h
  exact ⟨A, c, rfl, h0, h1, h2⟩
theorem Exr.at_ {A : Option Addr} {n c : Nat} (h : Exr w B N (.slice A n c) L) {k : Nat} (hk : k < n) :
    ∃ b o, A = some ⟨b, o, none⟩ ∧ b < B ∧ ∃ hk' : k < L.length, ∃ A' c', w.cell? ⟨b, o + k * 2, none⟩ = some (wv (L[k]'hk').1) ∧ w.cell? ⟨b, o + k * 2 + 1, none⟩ = some (.slice A' (L[k]'hk').2.length c') ∧
      Byt w N (.slice A' (L[k]'hk').2.length c') (L[k]'hk').2 ∧ (L[k]'hk').2.length ≤ c' ∧ c' ≤ 9223372036854775807 := by
  obtain ⟨A1, c1, us, e, h1, h2, h3, h4, h5⟩ := h
  injection e with e1 e2 e3
  subst e1 e2 e3
  obtain ⟨b, o, rfl, hb, hc⟩ := h5 (by intro e; simp [e] at hk)
  have hl : us.length = L.length := h4.length
  obtain ⟨g1, g2⟩ := ecells_at (us := us) k hk (by omega)
  have hy := h4.get k (by omega) hk
  obtain ⟨A', c', hv, hy', hb1, hb2⟩ := Byt.form hy rfl
  refine ⟨b, o, rfl, hb, hk, A', c', hc _ _ g1, ?_, hy', hb1, hb2⟩
  have := hc _ _ g2
  rw [hv] at this
  rw [Nat.add_assoc]
  exact this
theorem Exr.len {A : Option Addr} {n c : Nat} (h : Exr w B N (.slice A n c) L) : L.length = n := by
  obtain ⟨A1, c1, us, e, _⟩ := h
  injection e with _ e2 _
  exact e2.symm
theorem EOwn.nil_ (w : World) (base N : Nat) : EOwn w base N (.slice none 0 0) [] := ⟨[], World.ownsRow_nil w base _ 2, trivial⟩
theorem EOwn.upd (h : EOwn w base N v L) (hu : Upd S w w') (hs : ∀ g, v.ownBlock = some g → g ∉ S) (hN : ∀ x ∈ S, N ≤ x) : EOwn w' base N v L := by
  obtain ⟨us, h1, h2⟩ := h
  refine ⟨us, ⟨h1.1, ?_⟩, h2.imp fun _ _ hy => Row.upd hy hu hN⟩
  rcases h1.2 with hn | ⟨g, cap, cur, rfl, hb, hg, rest⟩
  · exact .inl hn
  · exact .inr ⟨g, cap, cur, rfl, hb, (hu.block g (Array.getElem?_eq_some_iff.1 hg).1 (hs g rfl)).trans hg, rest⟩
theorem EOwn.ge (h : EOwn w base N v L) {g : Nat} (hg : v.ownBlock = some g) : base ≤ g ∧ g < w.heap.size := by
  obtain ⟨us, h1, _⟩ := h
  exact World.ownsRow.lt h1 g hg
theorem EOwn.ne {g : Nat} {t : TypeId} {cs : Array Value} (h : EOwn w base N v L) (hb : Blk w g t cs) (hne : 66 ≠ t) : ∀ k, v.ownBlock = some k → k ≠ g := by
  intro k hk
  obtain ⟨us, h, _⟩ := h
  rcases h.2 with ⟨rfl, _⟩ | ⟨g', cap, cur, rfl, _, hh, _⟩
  · simp [Value.ownBlock] at hk
  · have : g' = k := by simpa [Value.ownBlock] using hk
    subst this
    exact Blk.ne_ (t := 66) hh hb hne
theorem EOwn.exr (h : EOwn w base N v L) : Exr w w.heap.size N v L := by
  obtain ⟨us, h1, h2⟩ := h
  rcases h1.2 with ⟨rfl, h0⟩ | ⟨g, cap, cur, rfl, hb, hg, hn, hm, hs, ht⟩
  · have : L = [] := List.eq_nil_of_length_eq_zero h0
    subst this
    exact Exr.nil_ _ _ _
  · refine ⟨some ⟨g, 0, none⟩, cap, us, rfl, hn, hm, fun e => by (cases e), h2, fun _ => ⟨g, 0, rfl, (Array.getElem?_eq_some_iff.1 hg).1, fun j u hu => ?_⟩⟩
    have := h1.cells (g := g) rfl j u hu
    rwa [add_lit] at this
theorem EOwn.form (h : EOwn w base N v L) : ∃ A c, v = .slice A L.length c ∧ L.length ≤ c ∧ c ≤ 9223372036854775807 := by
  obtain ⟨A, c, e, _, h1, h2⟩ := h.exr.form
  exact ⟨A, c, e, h1, h2⟩
theorem EOwn.more (h : EOwn w base N v L) (hN : N ≤ N') : EOwn w base N' v L := by
  obtain ⟨us, h1, h2⟩ := h
  exact ⟨us, h1, h2.imp fun _ _ hy => Row.more hy hN⟩
def EAppended (w : World) (base N : Nat) (v : Value) (L : List Ex) (v' : Value) (w' : World) : Prop :=
  EOwn w' base N v' L ∧ Upd v.ownBlock.toList w w' ∧ (v'.ownBlock = v.ownBlock ∨ v'.ownBlock = some w.heap.size)
theorem byt_oneCell' {u : Value} {xs : List UInt8} (h : Byt w N u xs) : u.oneCell' = true := by
  obtain ⟨A, c, rfl, _⟩ := h
  rfl
theorem ecells_oneCell {us : List Value} (h : All2 (fun u e => Byt w N u e.2) us M) : ∀ u ∈ ecells M us, u.oneCell' = true := by
  induction M generalizing us with
  | nil => cases us with
    | nil => intro u hu; cases hu
    | cons a us => exact h.elim
  | cons e M ih => cases us with
    | nil => exact h.elim
    | cons a us =>
      intro u hu
      rcases List.mem_cons.1 hu with hu | hu
      · rw [hu]; rfl
      · rcases List.mem_cons.1 hu with hu | hu
        · rw [hu]; exact byt_oneCell' h.1
        · exact ih h.2 u hu
theorem run_append_ex (ty : TypeId) (hown : EOwn w base N v L) {x : Value} (hr : Exr w B N x M) (hlen : L.length + M.length ≤ 4398046511104) (hbase : base ≤ w.heap.size) (hN : N ≤ base) :
    ∃ v' w', (Builtin.append_ #[32, 32] ty #[v, x]).run Try.prog w = .ok v' w' ∧ EAppended w base N v (L ++ M) v' w' := by
  obtain ⟨i, hi, hz, hsize, hby⟩ := info_parts info_ext
  obtain ⟨us, h1, h2⟩ := hown
  obtain ⟨A, c, vs, rfl, hc1, hc2, hcn, hcell, hrow⟩ := hr
  have hl1 : us.length = L.length := h2.length
  have hl2 : vs.length = M.length := hcell.length
  rcases A with _ | ad
  · have hc0 := hcn rfl
    subst hc0
    have hn : M = [] := List.eq_nil_of_length_eq_zero (by omega)
    subst hn
    exact ⟨v, w, run_append_of_nil w base _ ty _ i 2 Try.underlying32 hi v _ _ h1 0, ⟨us, by simpa using h1, by simpa using h2⟩, Upd.refl _ _, .inl rfl⟩
  · have hcells : ∀ j u, (ecells M vs)[j]? = some u → w.cell? (ad.add j) = some u := by
      intro j u hu
      obtain ⟨b, o, e, _, hc⟩ := hrow (by rintro rfl; cases vs <;> simp [ecells] at hu)
      injection e with e
      subst e
      rw [add_lit]
      exact hc j u hu
    obtain ⟨v', w', hrun, h3, h4, _, h5⟩ := run_append_own_at (P := Try.prog) w base 32 ty 66 i _ 2 32 Try.underlying32 hi hz hsize hby rfl (by omega) v L.length _ h1 ad M.length c (ecells M vs) (ecells_len hl2) hcells (ecells_oneCell hcell)
      (by simp only [maxLen]; omega) (by omega) hbase
    have hu := upd_of_grown h4
    have hge : ∀ x ∈ v.ownBlock.toList, N ≤ x := fun x hx => by
      have := World.ownsRow.lt h1 x (Option.mem_toList.1 hx)
      omega
    refine ⟨v', w', hrun, ⟨us ++ vs, ?_, ?_⟩, hu, h5⟩
    · rw [List.length_append, ecells_append hl1]
      exact h3
    · exact (h2.imp fun _ _ hy => Row.upd hy hu hge).append (hcell.imp fun _ _ hy => Row.upd hy hu hge)
theorem wp_append_ex {o : Oper} {a : Act} {K : Act → World → Prop} {Q : Exit → Act → World → Prop} (s x : Operand)
    (ho : o.op = .call { callee := .builtin .append, args := #[s, x], argTypes := #[32, 32] })
    (hs : a.eval s = v) (hown : EOwn w base N v L) {B : Nat} {xv : Value} (hx : a.eval x = xv) (hr : Exr w B N xv M) (hlen : L.length + M.length ≤ 4398046511104) (hbase : base ≤ w.heap.size) (hN : N ≤ base)
    (h : ∀ v' w', EAppended w base N v (L ++ M) v' w' → K (a.put o.dst v') w') : o.wp Try.prog a w K Q := by
  obtain ⟨v', w', hrun, h2⟩ := run_append_ex o.type hown hr hlen hbase hN
  unfold Oper.wp execOp
  simp only [ho, resolve, invoke, builtin, Sem.run_bind, Sem.run_pure, Result.andThen_ok, List.map_toArray, List.map_cons, List.map_nil, hs, hx, hrun]
  exact h v' w' h2
theorem wpList_append_ex {ops : Array Oper} {rest : List Oper} {o : Oper} {a : Act} {Q : Exit → Act → World → Prop} (hgd : o.guard = none) (s x : Operand)
    (ho : o.op = .call { callee := .builtin .append, args := #[s, x], argTypes := #[32, 32] })
    (hs : a.eval s = v) (hown : EOwn w base N v L) {B : Nat} {xv : Value} (hx : a.eval x = xv) (hr : Exr w B N xv M) (hlen : L.length + M.length ≤ 4398046511104) (hbase : base ≤ w.heap.size) (hN : N ≤ base)
    (h : ∀ v' w', EAppended w base N v (L ++ M) v' w' → wpList Try.prog ops Q rest (a.put o.dst v') w') : wpList Try.prog ops Q (o :: rest) a w :=
  wpList_plain hgd fun _ hK => wp_append_ex s x ho hs hown hx hr hlen hbase hN fun v' w' h2 => hK _ _ (h v' w' h2)
theorem Exr.one {u : Value} {k : UInt16} {d : List UInt8} (hy : Byt w N u d) : Exr (w.alloc (.cells #[wv k, u] 66)) (w.heap.size + 1) N (.slice (some ⟨w.heap.size, 0, none⟩) 1 1) [(k, d)] :=
  ⟨some ⟨w.heap.size, 0, none⟩, 1, [u], rfl, Nat.le_refl _, by unfold maxLen; omega, fun e => (by cases e), ⟨Row.alloc hy _, trivial⟩, fun _ => ⟨w.heap.size, 0, rfl, by omega, fun j u' hj => by
    match j, hj with
    | 0, hj => rw [(Blk.new w _ _).cell]; simpa [ecells] using hj
    | 1, hj => rw [(Blk.new w _ _).cell]; simpa [ecells] using hj
    | j + 2, hj => simp [ecells] at hj⟩⟩
theorem EOwn.alloc (h : EOwn w base N v L) (o : Obj) : EOwn (w.alloc o) base N v L := h.upd ((Upd.refl [] w).alloc o) (by simp) (by simp)
theorem EAppended.one {v' : Value} {o : Obj} (h : EAppended (w.alloc o) base N v L v' w') :
    EOwn w' base N v' L ∧ Upd v.ownBlock.toList w w' ∧ (v'.ownBlock = v.ownBlock ∨ ∃ g, v'.ownBlock = some g ∧ w.heap.size < g) := by
  obtain ⟨h1, h2, h3⟩ := h
  refine ⟨h1, (((Upd.refl v.ownBlock.toList w).alloc o).trans h2 fun x hx => .inl hx), ?_⟩
  · rcases h3 with h3 | h3
    · exact .inl h3
    · exact .inr ⟨_, h3, by simp⟩
end
end Go.Proofs.Ytaajmfgplhfncaa
namespace Go.Proofs.Ytaajmfgplhfncaa
set_option maxRecDepth 100000
theorem lp_be (k : Nat) (x r : List UInt8) (hk : beNat (be k x.length) = x.length) : lp k (be k x.length ++ x ++ r) = some (x, r) := by
  have hl := be_len k x.length
  have e1 : (be k x.length ++ x ++ r).take k = be k x.length := by rw [List.append_assoc, List.take_append_of_le_length (by omega), List.take_of_length_le (by omega)]
  have e2 : (be k x.length ++ x ++ r).drop k = x ++ r := by
    rw [List.append_assoc]
    have := List.drop_left (l₁ := be k x.length) (l₂ := x ++ r)
    rwa [hl] at this
  unfold lp
  rw [e1, e2, hk, if_pos (by simp; omega), if_pos (by simp)]
  simp
end Go.Proofs.Ytaajmfgplhfncaa
namespace Go.Proofs.Ytaajmfgplhfncaa
set_option maxRecDepth 20000
def exB (e : Ex) : List UInt8 := be 2 e.1.toNat ++ be 2 e.2.length ++ e.2
def exsB (l : List Ex) : List UInt8 := l.flatMap exB
def exsBad (l : List Ex) : Bool := l.any fun e => decide (65536 ≤ e.2.length)
def exsW (l : List Ex) : Wr := Wr.vector 2 ⟨exsB l, exsBad l⟩
theorem exsB_cons (e : Ex) (l : List Ex) : exsB (e :: l) = exB e ++ exsB l := by simp [exsB]
theorem exsB_append (a b : List Ex) : exsB (a ++ b) = exsB a ++ exsB b := by simp [exsB]
theorem exB_len (e : Ex) : (exB e).length = 4 + e.2.length := by simp [exB, be_len]; omega
theorem be2_two (n : Nat) : be 2 n = [UInt8.ofNat (n / 256), UInt8.ofNat n] := by simp [be]
theorem exsW_eq (l : List Ex) : exsW l = ⟨be 2 (exsB l).length ++ exsB l, exsBad l || decide (65536 ≤ (exsB l).length)⟩ := by
  simp [exsW, Wr.vector, Wr.inner, Wr.vec, Wr.nil]
theorem exsW_bad (l : List Ex) (h : exsBad l = true) : 65536 ≤ (exsB l).length := by
  induction l with
  | nil => cases h
  | cons e l ih =>
    rw [exsB_cons, List.length_append, exB_len]
    unfold exsBad at h ih
    rw [List.any_cons, Bool.or_eq_true_iff] at h
    rcases h with h | h
    · have := of_decide_eq_true h; omega
    · have := ih h; omega
theorem exsW_short (l : List Ex) : (exsW l).bad = decide (65536 ≤ (exsB l).length) := by
  rw [exsW_eq]
  by_cases h : exsBad l = true
  · have := exsW_bad l h
    simp [h, this]
  · have h : exsBad l = false := by simpa using h
    simp [h]
structure LW where
  l : List Ex
  bad : Bool
def LW.nil : LW := ⟨[], false⟩
def LW.add (s : LW) (is : Bool) (k : UInt16) (x : Wr) : LW := if is then ⟨s.l ++ [(k, x.b)], s.bad || x.bad⟩ else s
theorem LW.add_true (s : LW) (k : UInt16) (x : Wr) : s.add true k x = ⟨s.l ++ [(k, x.b)], s.bad || x.bad⟩ := rfl
def unknownGo : Nat → List (List UInt8) → List Ex
  | _, [] => []
  | i, x :: l => (UInt16.ofNat (43520 + i), x) :: unknownGo (i + 1) l
def unknown (l : List (List UInt8)) : List Ex := unknownGo 0 l
theorem unknownGo_len (i : Nat) (l : List (List UInt8)) : (unknownGo i l).length = l.length := by
  induction l generalizing i with
  | nil => rfl
  | cons x l ih => simp [unknownGo, ih]
theorem unknownGo_snoc (i : Nat) (l : List (List UInt8)) (x : List UInt8) : unknownGo i (l ++ [x]) = unknownGo i l ++ [(UInt16.ofNat (43520 + (i + l.length)), x)] := by
  induction l generalizing i with
  | nil => rfl
  | cons y l ih =>
    show _ :: unknownGo (i + 1) (l ++ [x]) = _ :: (unknownGo (i + 1) l ++ _)
    rw [ih]
    simp [Nat.add_assoc, Nat.add_comm 1]
theorem unknownGo_mem {i : Nat} {l : List (List UInt8)} {e : Ex} (h : e ∈ unknownGo i l) : ∃ j, i ≤ j ∧ j < i + l.length ∧ e.1 = UInt16.ofNat (43520 + j) := by
  induction l generalizing i with
  | nil => cases h
  | cons x l ih =>
    rcases List.mem_cons.1 h with h | h
    · exact ⟨i, by omega, by simp, by rw [h]⟩
    · obtain ⟨j, h1, h2, h3⟩ := ih h
      exact ⟨j, by omega, by simp; omega, h3⟩
theorem unknownGo_nodup (i : Nat) (l : List (List UInt8)) (h : i + l.length ≤ 1000) : ((unknownGo i l).map (·.1)).Nodup := by
  induction l generalizing i with
  | nil => simp [unknownGo]
  | cons x l ih =>
    simp only [List.length_cons] at h
    show (UInt16.ofNat (43520 + i) :: (unknownGo (i + 1) l).map (·.1)).Nodup
    rw [List.nodup_cons]
    refine ⟨?_, ih (i + 1) (by omega)⟩
    intro hm
    obtain ⟨e, he, hk⟩ := List.mem_map.1 hm
    obtain ⟨j, h1, h2, h3⟩ := unknownGo_mem he
    rw [h3] at hk
    have := congrArg UInt16.toNat hk
    simp only [UInt16.toNat_ofNat'] at this
    omega
theorem unknown_ge {l : List (List UInt8)} (hl : l.length ≤ 1000) {e : Ex} (h : e ∈ unknown l) : 43520 ≤ e.1.toNat ∧ e.1.toNat < 44520 := by
  obtain ⟨j, _, h2, h3⟩ := unknownGo_mem h
  rw [h3, UInt16.toNat_ofNat']
  omega
def ordE (l : List Ex) (s i : Nat) : Ex := (l[(i + s) % l.length]?).getD (0, [])
def ordGo (l : List Ex) (s : Nat) (other : List Ex) : Nat → List Ex × List Ex
  | 0 => ([], [])
  | i + 1 => let p := ordGo l s other i
    ((if (ordE l s i).1 = 41 then p.1 else p.1 ++ [ordE l s i]) ++ (other[i]?).toList, if (ordE l s i).1 = 41 then p.2 ++ [ordE l s i] else p.2)
def ordered (l : List Ex) (from_ : Nat) (more : List (List UInt8)) : List Ex := (ordGo l (from_ % l.length) (unknown more) l.length).1 ++ (ordGo l (from_ % l.length) (unknown more) l.length).2
theorem ordGo_perm (l : List Ex) (s : Nat) (o : List Ex) (i : Nat) : ((ordGo l s o i).1 ++ (ordGo l s o i).2).Perm ((List.range i).map (ordE l s) ++ o.take i) := by
  induction i with
  | zero => exact List.Perm.refl _
  | succ i ih =>
    have ih' := fun a => List.perm_iff_count.1 ih a
    refine List.perm_iff_count.2 fun a => ?_
    have h := ih' a
    rw [List.range_succ, List.map_append, List.take_add_one]
    unfold ordGo
    simp only [List.count_append, List.map_cons, List.map_nil] at h ⊢
    by_cases hk : (ordE l s i).1 = 41
    · simp only [if_pos hk, List.count_append]; omega
    · simp only [if_neg hk, List.count_append]; omega
theorem range_ordE (l : List Ex) (s : Nat) (hs : s < l.length) : (List.range l.length).map (ordE l s) = l.drop s ++ l.take s := by
  apply List.ext_getElem
  · simp; omega
  · intro i h1 h2
    simp at h1
    rw [List.getElem_map, List.getElem_range, List.getElem_append]
    unfold ordE
    by_cases hi : i < l.length - s
    · have : (i + s) % l.length = i + s := Nat.mod_eq_of_lt (by omega)
      rw [this, dif_pos (by simpa using hi), List.getElem?_eq_getElem (by omega), List.getElem_drop]
      simp [Nat.add_comm]
    · have : (i + s) % l.length = i + s - l.length := by
        rw [Nat.mod_eq_sub_mod (by omega), Nat.mod_eq_of_lt (by omega)]
      rw [this, dif_neg (by simpa using hi), List.getElem?_eq_getElem (by omega), List.getElem_take]
      simp
      congr 1
      omega
theorem ordered_perm (l : List Ex) (f : Nat) (more : List (List UInt8)) : (ordered l f more).Perm (l ++ (unknown more).take l.length) := by
  unfold ordered
  refine (ordGo_perm _ _ _ _).trans ?_
  refine List.Perm.append_right _ ?_
  by_cases h : l = []
  · subst h; exact List.Perm.refl _
  · have hp : 0 < l.length := List.length_pos_iff.2 h
    rw [range_ordE l _ (Nat.mod_lt _ hp)]
    exact List.perm_append_comm.trans (by rw [List.take_append_drop])
def ListsE (E L : List Ex) : Prop := (L.map (·.1)).Nodup ∧ (∀ e ∈ L, e ∈ E ∨ 43520 ≤ e.1.toNat ∧ e.1.toNat < 44520) ∧ ∀ e ∈ E, e ∈ L
theorem ListsE.perm {E L L' : List Ex} (h : ListsE E L) (hp : L'.Perm L) : ListsE E L' :=
  ⟨((hp.map _).nodup_iff).2 h.1, fun e he => h.2.1 e (hp.mem_iff.1 he), fun e he => hp.mem_iff.2 (h.2.2 e he)⟩
theorem ordered_lists {E : List Ex} (h : (E.map (·.1)).Nodup) (hs : ∀ e ∈ E, e.1.toNat < 43520 ∨ 44520 ≤ e.1.toNat) (f : Nat) (more : List (List UInt8)) (hm : more.length ≤ 1000) : ListsE E (ordered E f more) := by
  refine ListsE.perm ⟨?_, ?_, ?_⟩ (ordered_perm E f more)
  · have hn := unknownGo_nodup 0 more (by omega)
    rw [List.map_append, List.nodup_append]
    refine ⟨h, List.Nodup.sublist (List.Sublist.map _ (List.take_sublist _ _)) hn, ?_⟩
    intro a ha b hb hab
    obtain ⟨e, he, rfl⟩ := List.mem_map.1 ha
    obtain ⟨e', he', rfl⟩ := List.mem_map.1 hb
    have h1 := unknown_ge hm (List.mem_of_mem_take he')
    have h2 := hs e he
    rw [hab] at h2
    omega
  · intro e he
    rcases List.mem_append.1 he with he | he
    · exact .inl he
    · exact .inr (unknown_ge hm (List.mem_of_mem_take he))
  · intro e he
    exact List.mem_append_left _ he
end Go.Proofs.Ytaajmfgplhfncaa
namespace Go.Proofs.Ytaajmfgplhfncaa
open Go.RowKit
set_option maxRecDepth 100000
def LWs (w : World) (base p : Nat) (v : Value) (s : LW) : Prop :=
  base ≤ p ∧ Blk w p 51 #[v, .bool s.bad] ∧
  ∃ us, w.ownsRow base 66 2 v s.l.length (ecells s.l us) ∧ All2 (fun u e => Byt w w.heap.size u e.2 ∧ (e.2 ≠ [] → ∀ g, u.ownBlock = some g → v.ownBlock ≠ some g ∧ g ≠ p)) us s.l
def LWP (w : World) (base p : Nat) (v : Value) (s : LW) (e : Ending) (w' : World) : Prop :=
  e = .returned (.tuple #[]) ∧ ∃ v', LWs w' base p v' s ∧ Upd (p :: v.ownBlock.toList) w w' ∧ (v'.ownBlock = v.ownBlock ∨ ∃ g, v'.ownBlock = some g ∧ w.heap.size ≤ g)
section
variable {w w' : World} {B base p : Nat} {v content : Value} {L : List Ex} {S : List Nat} {s : LW} {xs : List UInt8}
theorem own2_upd {xs : List Value} {n : Nat} (h1 : w.ownsRow base 66 2 v n xs) (hu : Upd S w w') (hs : ∀ g, v.ownBlock = some g → g ∉ S) : w'.ownsRow base 66 2 v n xs := by
  refine ⟨h1.1, ?_⟩
  rcases h1.2 with hn | ⟨g, cap, cur, rfl, hb, hg, rest⟩
  · exact .inl hn
  · exact .inr ⟨g, cap, cur, rfl, hb, (hu.block g (Array.getElem?_eq_some_iff.1 hg).1 (hs g rfl)).trans hg, rest⟩
theorem own2_ne {xs : List Value} {n g : Nat} {t : TypeId} {cs : Array Value} (h : w.ownsRow base 66 2 v n xs) (hb : Blk w g t cs) (hne : 66 ≠ t) : ∀ k, v.ownBlock = some k → k ≠ g := by
  intro k hk
  rcases h.2 with ⟨rfl, _⟩ | ⟨g', cap, cur, rfl, _, hh, _⟩
  · simp [Value.ownBlock] at hk
  · have : g' = k := by simpa [Value.ownBlock] using hk
    subst this
    exact Blk.ne_ (t := 66) hh hb hne
theorem own2_form {xs : List Value} {n : Nat} (h1 : w.ownsRow base 66 2 v n xs) : ∃ A c, v = .slice A n c ∧ n ≤ c ∧ c ≤ 9223372036854775807 := by
  rcases h1.2 with ⟨rfl, rfl⟩ | ⟨g, cap, cur, rfl, hb, hg, hn, hm, _⟩
  · exact ⟨none, 0, rfl, by omega, by omega⟩
  · exact ⟨_, cap, rfl, hn, hm⟩
theorem LWs.upd (h : LWs w base p v s) (hu : Upd [] w w') : LWs w' base p v s := by
  obtain ⟨h1, h2, us, h3, h4⟩ := h
  exact ⟨h1, h2.upd hu (by simp), us, own2_upd h3 hu (by simp), h4.imp fun _ _ hy => ⟨(Row.upd hy.1 hu (by simp)).shrink, hy.2⟩⟩
theorem LWs.exr (h : LWs w base p v s) : Exr w w.heap.size w.heap.size v s.l := by
  obtain ⟨_, _, us, h1, h2'⟩ := h
  have h2 : All2 (fun u e => Byt w w.heap.size u e.2) us s.l := h2'.imp fun _ _ hy => hy.1
  clear h2'
  rcases h1.2 with ⟨rfl, h0⟩ | ⟨g, cap, cur, rfl, hb, hg, hn, hm, hs, ht⟩
  · have : s.l = [] := List.eq_nil_of_length_eq_zero h0
    rw [this]
    exact Exr.nil_ _ _ _
  · refine ⟨some ⟨g, 0, none⟩, cap, us, rfl, hn, hm, fun e => by (cases e), h2, fun _ => ⟨g, 0, rfl, (Array.getElem?_eq_some_iff.1 hg).1, fun j u hu => ?_⟩⟩
    have := h1.cells (g := g) rfl j u hu
    rwa [add_lit] at this
theorem LWs.new (w : World) : LWs (w.alloc (.cells #[.slice none 0 0, .bool false] 51)) w.heap.size w.heap.size (.slice none 0 0) LW.nil :=
  ⟨Nat.le_refl _, Blk.new w _ _, [], World.ownsRow_nil _ _ _ 2, trivial⟩
theorem LWP.after {w1 w2 : World} {v1 : Value} {e : Ending} (hu : Upd (p :: v.ownBlock.toList) w w1) (hv : v1.ownBlock = v.ownBlock ∨ ∃ g, v1.ownBlock = some g ∧ w.heap.size ≤ g)
    (h : LWP w1 base p v1 s e w2) : LWP w base p v s e w2 := by
  obtain ⟨rfl, v2, h1, h2, h3⟩ := h
  refine ⟨rfl, v2, h1, hu.trans h2 ?_, ?_⟩
  · intro x hx
    rcases List.mem_cons.1 hx with hx | hx
    · exact .inl (by simp [hx])
    · rcases hv with hv | ⟨g, hv, hg⟩
      · rw [hv] at hx; exact .inl (by simp at hx ⊢; exact .inr hx)
      · rw [hv] at hx
        have : x = g := by simpa using hx
        exact .inr (by omega)
  · rcases h3 with h3 | ⟨g, h3, hg⟩
    · rw [h3]; exact hv
    · exact .inr ⟨g, h3, Nat.le_trans hu.size hg⟩
theorem step_append_ow {ops : Array Oper} {o : Oper} {a : Act} {K : Act → World → Prop} {Q : Exit → Act → World → Prop} {E : Prop} (hgd : o.guard = none) (x1 x2 : Operand)
    (ho : o.op = .call { callee := .builtin .append, args := #[x1, x2], argTypes := #[32, 32] })
    (hs : a.eval x1 = v) {us : List Value} (hown : w.ownsRow base 66 2 v L.length (ecells L us)) {g : Nat} {u : Value} {k : UInt16} (hx : a.eval x2 = .slice (some ⟨g, 0, none⟩) 1 1)
    (hb : Blk w g 66 #[wv k, u]) (hu1 : u.oneCell' = true) (hul : us.length = L.length) (hlen : L.length + 1 ≤ 4398046511104) (hbase : base ≤ w.heap.size)
    (h : ∀ (v' : Value) (w' : World), (∀ d, w'.ownsRow base 66 2 v' (L ++ [(k, d)]).length (ecells (L ++ [(k, d)]) (us ++ [u]))) → Upd v.ownBlock.toList w w' → (v'.ownBlock = v.ownBlock ∨ v'.ownBlock = some w.heap.size) → K (a.put o.dst v') w') :
    if Region.wanted o (yielded ops a.tmps) = true then Oper.wp Try.prog o a w K Q else E := by
  have hw : Region.wanted o (yielded ops a.tmps) = true := by simp [Region.wanted, hgd]
  rw [if_pos hw]
  obtain ⟨i, hi, hz, hsize, hby⟩ := info_parts info_ext
  have hcells : ∀ j u', [wv k, u][j]? = some u' → w.cell? ((⟨g, 0, none⟩ : Addr).add j) = some u' := by
    intro j u' hj
    rw [add_lit, Nat.zero_add, hb.cell]
    simpa using hj
  obtain ⟨v', w', hrun, h3, h4, _, h5⟩ := run_append_own_at (P := Try.prog) w base 32 o.type 66 i _ 2 32 Try.underlying32 hi hz hsize hby rfl (by omega) v L.length _ hown ⟨g, 0, none⟩ 1 1 [wv k, u] rfl hcells (by
      intro u' hu'
      simp at hu'
      rcases hu' with rfl | rfl
      · rfl
      · exact hu1)
    (by simp only [maxLen]; omega) (by omega) hbase
  unfold Oper.wp execOp
  simp only [ho, resolve, invoke, builtin, Sem.run_bind, Sem.run_pure, Result.andThen_ok, List.map_toArray, List.map_cons, List.map_nil, hs, hx, hrun]
  refine h v' w' (fun d => ?_) (upd_of_grown h4) h5
  rw [List.length_append, ecells_append hul]
  exact h3
theorem add_end {v3 : Value} {w1 w2 w3 : World} {us : List Value} {u : Value} {k : UInt16} {xb : Bool} (h : LWs w base p v s) (hu1 : Upd [] w w1) (hall : All2 (fun u e => Byt w w.heap.size u e.2 ∧ (e.2 ≠ [] → ∀ g, u.ownBlock = some g → v.ownBlock ≠ some g ∧ g ≠ p)) us s.l)
    (hc : Byt w B u xs) (hcn : xs ≠ [] → ∀ g, u.ownBlock = some g → v.ownBlock ≠ some g ∧ g ≠ p)
    (hap : ∀ d, w2.ownsRow base 66 2 v3 (s.l ++ [(k, d)]).length (ecells (s.l ++ [(k, d)]) (us ++ [u]))) (hu2 : Upd v.ownBlock.toList w1 w2) (hv : v3.ownBlock = v.ownBlock ∨ ∃ g, v3.ownBlock = some g ∧ w1.heap.size ≤ g)
    (hw3 : w3 = (w2.setCell ⟨p, 0, none⟩ v3).setCell ⟨p, 1, none⟩ (.bool xb)) : LWP w base p v ⟨s.l ++ [(k, xs)], xb⟩ (.returned (.tuple #[])) w3 := by
  have hpw := h.2.1.lt
  have hnp : ∀ k, v.ownBlock = some k → k ≠ p := by
    obtain ⟨_, hb, us', ho, _⟩ := h
    exact own2_ne ho hb (by decide)
  have hb2 : Blk w2 p 51 #[v, .bool s.bad] := (h.2.1.upd hu1 (by simp)).upd hu2 (fun hm => hnp p (Option.mem_toList.1 hm) rfl)
  have hb3 : Blk w3 p 51 #[v3, .bool xb] := by
    rw [hw3]
    have := (hb2.set_ 0 v3).set_ 1 (.bool xb)
    simpa using this
  have hu3 : Upd [p] w2 w3 := by rw [hw3]; exact ((Upd.refl [p] w2).setCell (by simp) _).setCell (by simp) _
  have hu13 : Upd (p :: v.ownBlock.toList) w w3 := by
    refine ((hu1.mono (S' := p :: v.ownBlock.toList) (by simp)).trans hu2 ?_).trans hu3 (by simp)
    intro x hx
    exact .inl (List.mem_cons_of_mem _ hx)
  have hnp3 : ∀ k, v3.ownBlock = some k → k ≠ p := by
    intro k' hk'
    rcases hv with hv | ⟨gg, hv, hgg⟩
    · rw [hv] at hk'; exact hnp k' hk'
    · rw [hv] at hk'
      have : gg = k' := by simpa using hk'
      have := hu1.size
      omega
  have hkeep : ∀ {u' : Value} {ys : List UInt8} {C : Nat}, Byt w C u' ys → (ys ≠ [] → ∀ g, u'.ownBlock = some g → v.ownBlock ≠ some g ∧ g ≠ p) → Byt w3 w3.heap.size u' ys ∧ (ys ≠ [] → ∀ g, u'.ownBlock = some g → v3.ownBlock ≠ some g ∧ g ≠ p) := by
    intro u' ys C hy hn
    by_cases hys : ys = []
    · subst hys
      obtain ⟨A, c, e, h1, h2, h3, _⟩ := hy
      exact ⟨⟨A, c, e, h1, h2, h3, fun h => absurd rfl h⟩, fun h => absurd rfl h⟩
    · have hn := hn hys
      refine ⟨(Row.apart hy hu13 fun g hg hm => ?_).shrink, fun _ g hg => ⟨fun h3 => ?_, (hn g hg).2⟩⟩
      · rcases List.mem_cons.1 hm with hm | hm
        · exact (hn g hg).2 hm
        · exact (hn g hg).1 (Option.mem_toList.1 hm)
      · rcases hv with hv | ⟨gg, hv, hgg⟩
        · rw [hv] at h3; exact (hn g hg).1 h3
        · rw [hv] at h3
          have h3 : gg = g := by simpa using h3
          obtain ⟨A, c, rfl, _, _, h0, h4⟩ := hy.shrink
          obtain ⟨b, o, rfl, hb, _⟩ := h4 (by simpa using hys)
          have : b = g := by simpa [Value.ownBlock] using hg
          have := hu1.size
          omega
  refine ⟨rfl, v3, ⟨h.1, hb3, us ++ [u], own2_upd (hap xs) hu3 (fun g hg hm => hnp3 g hg (by simpa using hm)), ?_⟩, hu13, ?_⟩
  · refine All2.append (hall.imp fun u' e hy => hkeep hy.1 hy.2) ⟨hkeep hc hcn, trivial⟩
  · rcases hv with hv | ⟨gg, hv, hgg⟩
    · exact .inl hv
    · exact .inr ⟨_, hv, Nat.le_trans hu1.size hgg⟩
end
end Go.Proofs.Ytaajmfgplhfncaa
namespace Go.Proofs.Ytaajmfgplhfncaa
open Go.RowKit
set_option maxRecDepth 100000
section
variable {w w' : World} {B base p : Nat} {v content : Value} {L : List Ex} {S : List Nat} {s : LW} {xs : List UInt8}
set_option maxHeartbeats 2000000 in
theorem add_ex_any (h : LWs w base p v s) (is : Bool) (k : UInt16) (hc : Byt w B content xs) (hcn : is = true → xs ≠ [] → ∀ g, content.ownBlock = some g → v.ownBlock ≠ some g ∧ g ≠ p) (xb : Bool) (hl : s.l.length ≤ 1000) :
    Calls Try.prog 21 #[.pointer (some ⟨p, 0, none⟩), .bool is, wv k, .agg #[content, .bool xb]] w (LWP w base p v (s.add is k ⟨xs, xb⟩)) := by
  obtain ⟨Ac, cc, rfl, hc, -⟩ := Byt.form hc rfl
  have h0 := h
  obtain ⟨hbp, hbk, us, hown, hall⟩ := h
  obtain ⟨Av, cv, rfl, hvl, hvc⟩ := own2_form hown
  have hul : us.length = s.l.length := hall.length
  have hpl := hbk.lt
  cases is
  · go_enter Try.func21, Try.ntmps21
    go_wp2
    go_end0
    exact ⟨rfl, _, h0.upd ((Upd.refl [] w).alloc _), (Upd.refl _ w).alloc _, .inl rfl⟩
  · have hcn := hcn rfl
    obtain ⟨w1, hw1⟩ : ∃ w1, w.alloc (.cells #[.slice Ac xs.length cc, .bool xb] 54) = w1 := ⟨_, rfl⟩
    obtain ⟨q, hq⟩ : ∃ q, w.heap.size = q := ⟨_, rfl⟩
    have hu1 : Upd [] w w1 := by rw [← hw1]; exact (Upd.refl _ _).alloc _
    have hbq : Blk w1 q 54 #[.slice Ac xs.length cc, .bool xb] := by rw [← hw1, ← hq]; exact Blk.new _ _ _
    have hb1 := hbk.upd hu1 (by simp)
    have hown1 := own2_upd hown hu1 (by simp)
    have hq1 : q < w1.heap.size := hbq.lt
    have hpq : p < q := by omega
    have hbase : base ≤ w1.heap.size := by omega
    have c0 := hb1.cell 0
    have c1 := hb1.cell 1
    have f0 := hb1.frozen 0
    have f1 := hb1.frozen 1
    have d0 := hbq.cell 0
    have d1 := hbq.cell 1
    simp at c0 c1 d0 d1
    have hpn : p ∉ (Value.slice Av s.l.length cv).ownBlock.toList := fun hm => own2_ne hown hbk (by decide) _ (Option.mem_toList.1 hm) rfl
    have hqn : q ∉ (Value.slice Av s.l.length cv).ownBlock.toList := fun hm => own2_ne hown1 hbq (by decide) _ (Option.mem_toList.1 hm) rfl
    have a0 := (hb1.alloc (.cells #[wv k, .slice Ac xs.length cc] 66)).cell 0
    have a1 := (hbq.alloc (.cells #[wv k, .slice Ac xs.length cc] 66)).cell 0
    simp at a0 a1
    have npq : ¬ p = q := by omega
    have nqp : ¬ q = p := by omega
    have HW := hid hw1
    have HQ := hid hq
    have HH := hid h0
    have HA := hid hall
    have HC := hid hc
    have HN := hid hcn
    have HU := hid hul
    clear hw1 hq h0 hall hc hcn hul hown hbk
    cases hsb : s.bad
    all_goals
      rw [hsb] at c1 hb1
      have HB := hid hsb
      clear hsb
      go_enter Try.func21, Try.ntmps21
      go_wp2_with fail
      rw [HW.out, HQ.out]
      go_wp2_with fail
      go_region_law (first | (refine step_append_ow rfl _ _ rfl rfl (own2_upd hown1 (((Upd.refl [] _).alloc _).drew) (by simp)) rfl (Blk.drew (Blk.new w1 66 #[wv k, .slice Ac xs.length cc])) rfl HU.out (by omega) (by simp; omega) ?_; intro v3 w3 hap hu3 hv3; have hb3 := ((hb1.alloc (.cells #[wv k, .slice Ac xs.length cc] 66)).drew).upd hu3 hpn; have e0 := hb3.cell 0; have e1 := hb3.cell 1; simp at e0 e1; have g0 := hb3.frozen 0; have g1 := hb3.frozen 1; have hq3 := ((hbq.alloc (.cells #[wv k, .slice Ac xs.length cc] 66)).drew).upd hu3 hqn; have k1 := hq3.cell 1; simp at k1; obtain ⟨A3, c3', hv3', -, -⟩ := own2_form (hap xs); subst hv3'))
      all_goals
        go_wp2
        go_end0
        rw [LW.add_true, HB.out]
        exact add_end HH.out hu1 HA.out HC.out HN.out hap (((Upd.refl _ w1).alloc _).drew.trans hu3 (fun _ hx => .inl hx)) (hv3.imp_right fun h => ⟨_, h, by simp⟩) (by simp only [List.length_append, List.length_singleton, Bool.false_or, Bool.true_or])
end
end Go.Proofs.Ytaajmfgplhfncaa
namespace Go.Proofs.Ytaajmfgplhfncaa
open Go.RowKit
set_option maxRecDepth 100000
section
variable {w w' w0 : World} {B : Nat} {v content : Value} {xs : List UInt8} {x : Wr} {e : Ending} {ls : List (List UInt8)} {L : List Ex}
theorem WValP.from (hu : Upd [] w w0) (h : WValP w0 x e w') : WValP w x e w' := by
  obtain ⟨v, rfl, h1, h2, h3, h4⟩ := h
  exact ⟨v, rfl, h1, fun k hk => Nat.le_trans hu.size (h2 k hk), h3, hu.trans h4 (by simp)⟩
set_option maxHeartbeats 1000000 in
theorem vector_any1 (hc : Byt w B content xs) (xb : Bool) (hx : xs.length ≤ 1099511627776) :
    Calls Try.prog 22 #[.int .i64 1, .agg #[content, .bool xb]] w (WValP w (Wr.vector 1 ⟨xs, xb⟩)) := by
  obtain ⟨A, c, rfl, hc, -⟩ := Byt.form hc rfl
  obtain ⟨wb, hwb⟩ : ∃ wb, w.alloc (.cells #[.slice A xs.length c, .bool xb] 54) = wb := ⟨_, rfl⟩
  have hub : Upd [] w wb := by rw [← hwb]; exact (Upd.refl _ _).alloc _
  have hbk : Blk wb w.heap.size 54 #[.slice A xs.length c, .bool xb] := by rw [← hwb]; exact Blk.new _ _ _
  have hcb : Byt wb wb.heap.size (.slice A xs.length c) xs := (Row.upd hc.shrink hub (by simp)).shrink
  have hm0 := WMid.start wb
  have hb1 := hbk.upd (W1_upd wb) (by simp)
  have d0 := hb1.cell 0
  have d1 := hb1.cell 1
  simp at d0 d1
  obtain ⟨v0, k0, hv0⟩ := hm0.open_
  have hsz : wb.heap.size = w.heap.size + 1 := by rw [← hwb]; simp
  have hn := winner_any1 k0 (hm0.src hcb v0) xb (by simp [Wr.nil]) hx
  rw [hsz] at hn
  have HN := hid hn
  have HS := hid hsz
  have HW := hid hwb
  clear hn hsz
  clear hwb hx
  go_enter Try.func22, Try.ntmps22
  go_wp2_with fail
  rw [HW.out, W1_eq]
  go_wp2_with fail
  refine HN.out.mono ?_
  intro e w2 hp2
  rw [← HS.out] at hp2
  obtain ⟨rfl, hm2⟩ := hm0.next hv0 hp2
  obtain ⟨A2, n2, c2, c0, c1, d0, d1, g0, g1, e0, e1, hend⟩ := hm2.fin
  rw [HS.out] at c0 c1 d0 d1 g0 g1 e0 e1 hend
  go_wp2
  exact bodyPost_ret (v := .agg #[.slice A2 n2 c2, .bool _]) (by simp [results, Try.results22, go_sem, e0, e1]) rfl (hend.from hub)
set_option maxHeartbeats 1000000 in
theorem vector_any2 (hc : Byt w B content xs) (xb : Bool) (hx : xs.length ≤ 1099511627776) :
    Calls Try.prog 22 #[.int .i64 2, .agg #[content, .bool xb]] w (WValP w (Wr.vector 2 ⟨xs, xb⟩)) := by
  obtain ⟨A, c, rfl, hc, -⟩ := Byt.form hc rfl
  obtain ⟨wb, hwb⟩ : ∃ wb, w.alloc (.cells #[.slice A xs.length c, .bool xb] 54) = wb := ⟨_, rfl⟩
  have hub : Upd [] w wb := by rw [← hwb]; exact (Upd.refl _ _).alloc _
  have hbk : Blk wb w.heap.size 54 #[.slice A xs.length c, .bool xb] := by rw [← hwb]; exact Blk.new _ _ _
  have hcb : Byt wb wb.heap.size (.slice A xs.length c) xs := (Row.upd hc.shrink hub (by simp)).shrink
  have hm0 := WMid.start wb
  have hb1 := hbk.upd (W1_upd wb) (by simp)
  have d0 := hb1.cell 0
  have d1 := hb1.cell 1
  simp at d0 d1
  obtain ⟨v0, k0, hv0⟩ := hm0.open_
  have hsz : wb.heap.size = w.heap.size + 1 := by rw [← hwb]; simp
  have hn := winner_any2 k0 (hm0.src hcb v0) xb (by simp [Wr.nil]) hx
  rw [hsz] at hn
  have HN := hid hn
  have HS := hid hsz
  have HW := hid hwb
  clear hn hsz
  clear hwb hx
  go_enter Try.func22, Try.ntmps22
  go_wp2_with fail
  rw [HW.out, W1_eq]
  go_wp2_with fail
  refine HN.out.mono ?_
  intro e w2 hp2
  rw [← HS.out] at hp2
  obtain ⟨rfl, hm2⟩ := hm0.next hv0 hp2
  obtain ⟨A2, n2, c2, c0, c1, d0, d1, g0, g1, e0, e1, hend⟩ := hm2.fin
  rw [HS.out] at c0 c1 d0 d1 g0 g1 e0 e1 hend
  go_wp2
  exact bodyPost_ret (v := .agg #[.slice A2 n2 c2, .bool _]) (by simp [results, Try.results22, go_sem, e0, e1]) rfl (hend.from hub)
def vecsB (size : Nat) (ls : List (List UInt8)) : List UInt8 := ls.flatMap fun x => be size x.length ++ x
def vecsBad (size : Nat) (ls : List (List UInt8)) : Bool := ls.any fun x => decide (256 ^ size ≤ x.length)
def vecsW (size : Nat) (ls : List (List UInt8)) : Wr := ⟨vecsB size ls, vecsBad size ls⟩
theorem vecsW_snoc (size : Nat) (ls : List (List UInt8)) (x : List UInt8) : (vecsW size ls).vec size x = vecsW size (ls ++ [x]) := by
  simp [vecsW, vecsB, vecsBad, Wr.vec]
theorem vecsB_take (size : Nat) (ls : List (List UInt8)) (k : Nat) : (vecsB size (ls.take k)).length ≤ (vecsB size ls).length := by
  have : vecsB size ls = vecsB size (ls.take k) ++ vecsB size (ls.drop k) := by
    unfold vecsB
    rw [← List.flatMap_append, List.take_append_drop]
  rw [this, List.length_append]
  omega
theorem vecsB_snoc (size : Nat) (l : List (List UInt8)) (x : List UInt8) : vecsB size (l ++ [x]) = vecsB size l ++ (be size x.length ++ x) := by simp [vecsB]
theorem vecsB_get (size : Nat) (ls : List (List UInt8)) (k : Nat) (h : k < ls.length) : ls[k].length ≤ (vecsB size ls).length := by
  have h1 := vecsB_take size ls (k + 1)
  rw [List.take_succ_eq_append_getElem h, vecsB_snoc, List.length_append, List.length_append] at h1
  omega
set_option maxHeartbeats 1000000 in
theorem vectors_any_w (size : Nat) (hsz : size = 1 ∨ size = 2 ∨ size = 3) (hc : Lst w B content ls) (hx : (vecsB size ls).length ≤ 1099511627776) :
    Calls Try.prog 27 #[.int .i64 size, content] w (WValP w (vecsW size ls)) := by
  have hm0 := WMid.start w
  have HX := hid hx
  obtain ⟨A, c, rfl, hcr, hlc, hm⟩ := hc.shrink.form
  clear hx hc
  go_enter Try.func27, Try.ntmps27
  go_wp2_with fail
  rw [W1_eq]
  go_loopg [7, 10] ls.length (fun gk _ i wr => ∃ j : Nat, j + gk = ls.length ∧ i = .int .i64 j ∧ WMid w (vecsW size (ls.take j)) wr)
  case atStart => exact ⟨0, by omega, rfl, by simpa [vecsW, vecsB, vecsBad, Wr.nil] using hm0⟩
  case round =>
    obtain ⟨j, hj0, rfl, hmr⟩ := hrel
    have hj : j ≤ ls.length := by omega
    have HJ := hid hj0
    clear hj0
    by_cases hlt : j < ls.length
    · have hcw := hcr.upd hmr.upd (by simp)
      obtain ⟨b, o, rfl, hb, hj', A', c', hcell, hy, hl1, hl2⟩ := hcw.at_ hlt
      obtain ⟨vr, kr, hvr⟩ := hmr.open_
      have hlen : (vecsW size (ls.take j)).b.length ≤ 17592186044416 := by
        have h1 := HX.out
        have h2 := vecsB_take size ls j
        show (vecsB size _).length ≤ _
        omega
      have hxl : (ls[j]).length ≤ 1099511627776 := Nat.le_trans (vecsB_get size ls j hlt) HX.out
      have HN : Hid (Calls Try.prog 33 #[.pointer (some ⟨w.heap.size + 1, 0, none⟩), .int .i64 size, .slice A' (ls[j]).length c'] wr (WrtP wr (w.heap.size + 1) (w.heap.size + 1) vr ((vecsW size (ls.take j)).vec size ls[j]))) := by
        rcases hsz with rfl | rfl | rfl
        · exact hid (wvec_any1 kr ⟨_, hy, .inl (by omega)⟩ hlen hxl)
        · exact hid (wvec_any2 kr ⟨_, hy, .inl (by omega)⟩ hlen hxl)
        · exact hid (wvec_any3 kr ⟨_, hy, .inl (by omega)⟩ hlen hxl)
      have HS := hid (show (vecsW size (ls.take j)).vec size ls[j] = vecsW size (ls.take (j + 1)) by
        rw [List.take_succ_eq_append_getElem hlt, vecsW_snoc])
      clear hlen hxl
      go_wp2_with fail
      refine HN.out.mono ?_
      intro e w2 hp2
      rw [HS.out] at hp2
      obtain ⟨rfl, hm2⟩ := hmr.next hvr hp2
      go_wp2
      have hj0 := HJ.out
      go_roundg (ls.length - (j + 1))
      case measure => omega
      case rel => exact ⟨j + 1, by omega, by go_num, hm2⟩
    · obtain rfl : j = ls.length := by omega
      rw [List.take_length] at hmr
      obtain ⟨A4, n4, c4, c0, c1, d0, d1, g0, g1, e0, e1, hend⟩ := hmr.fin
      go_wp2
      exact bodyPost_ret (v := .agg #[.slice A4 n4 c4, .bool _]) (by simp [results, Try.results27, go_sem, e0, e1]) rfl hend
theorem exsB_take (L : List Ex) (k : Nat) : (exsB (L.take k)).length ≤ (exsB L).length := by
  have : exsB L = exsB (L.take k) ++ exsB (L.drop k) := by rw [← exsB_append, List.take_append_drop]
  rw [this, List.length_append]
  omega
theorem exsB_get (L : List Ex) (k : Nat) (h : k < L.length) : (exsB (L.take k)).length + (4 + (L[k]).2.length) ≤ (exsB L).length := by
  have h1 := exsB_take L (k + 1)
  rw [List.take_succ_eq_append_getElem h, exsB_append, List.length_append] at h1
  have h2 : exsB [L[k]] = exB L[k] := by simp [exsB]
  rw [h2, exB_len] at h1
  omega
theorem exs_snoc (L : List Ex) (e : Ex) : ((Wr.mk (exsB L) (exsBad L)).num 2 e.1.toNat).vec 2 e.2 = ⟨exsB (L ++ [e]), exsBad (L ++ [e])⟩ := by
  simp [exsB, exsBad, Wr.vec, Wr.num, exB]
theorem wval_put {r0 : Nat} {w2 : World} {v4 u0 u1 : Value} (hr0 : w.heap.size ≤ r0) (hb2 : Blk w2 r0 54 #[u0, u1]) (hy : Byt w2 w2.heap.size v4 x.b) (hn : NewFrom w.heap.size v4) (hne : ∀ g, v4.ownBlock = some g → g ≠ r0) (hs : isSlice v4) (hu : Upd [] w w2) :
    Blk ((w2.setCell ⟨r0, 0, none⟩ v4).setCell ⟨r0, 1, none⟩ (.bool x.bad)) r0 54 #[v4, .bool x.bad] ∧
    WValP w x (.returned (.agg #[v4, .bool x.bad])) ((w2.setCell ⟨r0, 0, none⟩ v4).setCell ⟨r0, 1, none⟩ (.bool x.bad)) := by
  have hu1 : Upd [r0] w2 ((w2.setCell ⟨r0, 0, none⟩ v4).setCell ⟨r0, 1, none⟩ (.bool x.bad)) := ((Upd.refl _ _).setCell (by simp) _).setCell (by simp) _
  refine ⟨?_, v4, rfl, (Row.apart hy hu1 (fun g hg hm => hne g hg (by simpa using hm))).shrink, hn, hs, hu.trans hu1 (by simp; omega)⟩
  have := (hb2.set_ 0 v4).set_ 1 (.bool x.bad)
  simpa using this
set_option maxHeartbeats 2000000 in
theorem extensions_any_w {N : Nat} (hc : Exr w B N content L) (hx : (exsB L).length ≤ 1099511627776) :
    Calls Try.prog 35 #[content] w (WValP w (exsW L)) := by
  have hm0 := WMid.start w
  have HX := hid hx
  obtain ⟨A, c, rfl, hcr, hlc, hm⟩ := hc.shrink.form
  clear hx hc
  go_enter Try.func35, Try.ntmps35
  go_wp2_with fail
  rw [W1_eq]
  go_loopg [8] L.length (fun gk i wr => ∃ j : Nat, j + gk = L.length ∧ i = .int .i64 j ∧ WMid w ⟨exsB (L.take j), exsBad (L.take j)⟩ wr)
  case atStart => exact ⟨0, by omega, rfl, by simpa [exsB, exsBad, Wr.nil] using hm0⟩
  case round =>
    obtain ⟨j, hj0, rfl, hmr⟩ := hrel
    have hj : j ≤ L.length := by omega
    have HJ := hid hj0
    clear hj0
    by_cases hlt : j < L.length
    · have hcw := hcr.upd hmr.upd (by simp)
      obtain ⟨b, o, rfl, hb, hj', A', c', hk0, hk1, hy, hl1, hl2⟩ := hcw.at_ hlt
      have hget := exsB_get L j hlt
      have HS := hid (show ((Wr.mk (exsB (L.take j)) (exsBad (L.take j))).num 2 L[j].1.toNat).vec 2 L[j].2 = ⟨exsB (L.take (j + 1)), exsBad (L.take (j + 1))⟩ by
        rw [List.take_succ_eq_append_getElem hlt, exs_snoc])
      generalize L[j] = ej at hk0 hk1 hy hl1 hl2 hget HS
      obtain ⟨w1, hw1⟩ : ∃ w1, wr.alloc (.cells #[wv ej.1, .slice A' ej.2.length c'] 66) = w1 := ⟨_, rfl⟩
      obtain ⟨g, hg⟩ : ∃ g, wr.heap.size = g := ⟨_, rfl⟩
      have hu1 : Upd [] wr w1 := by rw [← hw1]; exact (Upd.refl _ _).alloc _
      have hbg : Blk w1 g 66 #[wv ej.1, .slice A' ej.2.length c'] := by rw [← hw1, ← hg]; exact Blk.new _ _ _
      have d0 := hbg.cell 0
      have d1 := hbg.cell 1
      simp at d0 d1
      have hm1 : WMid w ⟨exsB (L.take j), exsBad (L.take j)⟩ w1 := by
        obtain ⟨he, v', h1, h2, h3⟩ := hmr
        exact ⟨he, v', h1.upd hu1 (by simp) (by simp), h2.trans hu1 (by simp), h3⟩
      obtain ⟨vr, kr, hvr⟩ := hm1.open_
      have hlen : (Wr.mk (exsB (L.take j)) (exsBad (L.take j))).b.length ≤ 17592186044416 := by
        have h1 := HX.out
        show (exsB _).length ≤ _
        omega
      have HN := hid (wnum_any kr 2 ej.1.toNat (by omega) hlen)
      have hkn := ej.1.toNat_lt
      have HG := hid hget
      have HW := hid hw1
      have Hg := hid hg
      clear hlen hget hw1 hg
      go_wp2_with fail
      rw [HW.out, Hg.out]
      go_wp2_with fail
      refine HN.out.mono ?_
      intro e w2 hp2
      have hu2 : Upd ((w.heap.size + 1) :: vr.ownBlock.toList) w1 w2 := hp2.2.choose_spec.2.1
      obtain ⟨rfl, hm2⟩ := hm1.next hvr hp2
      have hgn : g ∉ (w.heap.size + 1) :: vr.ownBlock.toList := by
        intro hm
        rcases List.mem_cons.1 hm with hm | hm
        · obtain ⟨_, _, hkb, _⟩ := hmr.open_
          have := kr.2.1.ne_ hbg (by decide)
          omega
        · exact kr.2.2.ne hbg (by decide) _ (Option.mem_toList.1 hm) rfl
      have hb2 := hbg.upd hu2 hgn
      have e0 := hb2.cell 1
      simp at e0
      have hy2 : Byt w2 w.heap.size (.slice A' ej.2.length c') ej.2 := by
        refine Row.upd (Row.upd hy hu1 (by simp)) hu2 fun x hx => ?_
        rcases List.mem_cons.1 hx with hx | hx
        · omega
        · have := (kr.2.2.ge (Option.mem_toList.1 hx)).1
          omega
      obtain ⟨v2, k2, hv2⟩ := hm2.open_
      have HV := hid (wvec_any2 k2 ⟨_, hy2, .inl (by omega)⟩ (by have h1 := HX.out; have h2 := HG.out; simp only [Wr.num, List.length_append, be_len]; omega) (by have h1 := HX.out; have h2 := HG.out; omega))
      go_wp2_with fail
      refine HV.out.mono ?_
      intro e w3 hp3
      rw [HS.out] at hp3
      obtain ⟨rfl, hm3⟩ := hm2.next hv2 hp3
      go_wp2
      have hj0 := HJ.out
      go_roundg (L.length - (j + 1))
      case measure => omega
      case rel => exact ⟨j + 1, by omega, by go_num, hm3⟩
    · obtain rfl : j = L.length := by omega
      rw [List.take_length] at hmr
      obtain ⟨A4, n4, c4, c0, c1, d0, d1, g0, g1, -, -, -⟩ := hmr.fin
      obtain ⟨vr, kr, hvr⟩ := hmr.open_
      have hvs : vr = .slice A4 n4 c4 := by
        have := kr.2.1.cell 0
        rw [this] at c0
        simpa using c0
      subst hvs
      have HV := hid (vector_any2 kr.2.2.row (exsBad L) HX.out)
      have hb0 : Blk wr w.heap.size 54 #[.slice none 0 0, .bool false] := (W1_res w).upd hvr.1 (by simp [Value.ownBlock])
      have HR := hid hb0
      go_wp2_with fail
      refine HV.out.mono ?_
      rintro e w2 ⟨v4, rfl, hy4, hn4, ⟨A5, n5, c5, rfl⟩, hu4⟩
      have hb2 := HR.out.upd hu4 (by simp)
      have huw : Upd [] w w2 := hmr.upd.trans hu4 (by simp)
      have hsz := hmr.upd.size
      obtain ⟨hfb, hfin⟩ := wval_put (w := w) (x := Wr.vector 2 ⟨exsB L, exsBad L⟩) (Nat.le_refl _) hb2 hy4 (fun k hk => Nat.le_trans hsz (hn4 k hk)) (fun g hg => by have := hn4 g hg; have := HR.out.lt; omega) ⟨_, _, _, rfl⟩ huw
      have e0 := hfb.cell 0
      have e1 := hfb.cell 1
      simp at e0 e1
      have k0 := hb2.cell 0
      have k1 := hb2.cell 1
      simp at k0 k1
      have f0 := hb2.frozen 0
      have f1 := hb2.frozen 1
      go_wp2
      exact bodyPost_ret (v := .agg #[.slice A5 n5 c5, .bool _]) (by simp [results, Try.results35, go_sem, e0, e1]) rfl hfin
end
end Go.Proofs.Ytaajmfgplhfncaa
namespace Go.Proofs.Ytaajmfgplhfncaa
open Go.RowKit
set_option maxRecDepth 100000
section
variable {w w' w0 wr : World} {B C N base : Nat} {v v7 v8 v9 content : Value} {xs ys : List UInt8} {e : Ending} {ls : List (List UInt8)} {L : List Ex}
def FitsP (w : World) (p : Prop) (e : Ending) (w' : World) : Prop := ∃ b : Bool, e = .returned (.bool b) ∧ Upd [] w w' ∧ (b = true → p)
set_option maxHeartbeats 1000000 in
theorem zzFits2_any (hc : Lst w B content ls) : Calls Try.prog 6 #[content] w (FitsP w (ls.length ≤ 2147483647 ∧ ∀ x ∈ ls, x.length ≤ 2147483647)) := by
  obtain ⟨A, c, rfl, hcr, hlc, hm⟩ := hc.shrink.form
  by_cases hl : 2147483647 < ls.length
  · have hb : decide ((2147483647 : Int) < (ls.length : Int)) = true := decide_eq_true (by omega)
    clear hl
    go_enter Try.func6, Try.ntmps6
    go_wp2
    go_ret
    exact ⟨false, rfl, Upd.refl _ _, fun h => (by cases h)⟩
  · have hb : decide ((2147483647 : Int) < (ls.length : Int)) = false := decide_eq_false (by omega)
    go_enter Try.func6, Try.ntmps6
    go_wp2
    go_loopg [4, 10] ls.length (fun gk _ i wr => ∃ j : Nat, j + gk = ls.length ∧ i = .int .i64 j ∧ Upd [] w wr ∧ ∀ x ∈ ls.take j, x.length ≤ 2147483647)
    case atStart => exact ⟨0, by omega, rfl, Upd.refl _ _, by simp⟩
    case round =>
      obtain ⟨j, hj0, rfl, hur, hall⟩ := hrel
      have HJ := hid hj0
      have HA := hid hall
      have hj : j ≤ ls.length := by omega
      clear hj0 hall
      by_cases hlt : j < ls.length
      · have hcw := hcr.upd hur (by simp)
        obtain ⟨b, o, rfl, hb', hj', A', c', hcell, hy, hl1, hl2⟩ := hcw.at_ hlt
        by_cases hx : 2147483647 < (ls[j]).length
        · have hx' : decide ((2147483647 : Int) < ((ls[j]).length : Int)) = true := decide_eq_true (by omega)
          clear hx
          go_wp2
          go_ret
          exact ⟨false, rfl, hur, fun h => (by cases h)⟩
        · have hx' : decide ((2147483647 : Int) < ((ls[j]).length : Int)) = false := decide_eq_false (by omega)
          have Hx := hid hx
          clear hx
          go_wp2
          have hj0 := HJ.out
          go_roundg (ls.length - (j + 1))
          case measure => omega
          case rel =>
            refine ⟨j + 1, by omega, by go_num, hur, ?_⟩
            intro x hx
            rw [List.take_succ_eq_append_getElem hlt] at hx
            rcases List.mem_append.1 hx with hx | hx
            · exact HA.out x hx
            · simp at hx; rw [hx]; have := Hx.out; omega
      · obtain rfl : j = ls.length := by omega
        go_wp2
        go_ret
        refine ⟨true, rfl, hur, fun _ => ⟨by omega, ?_⟩⟩
        have := HA.out
        rwa [List.take_length] at this
def ExP (w : World) (L : List Ex) (e : Ending) (w' : World) : Prop := ∃ v, e = .returned v ∧ EOwn w' w.heap.size w.heap.size v L ∧ Upd [] w w'
theorem unknown_take (ls : List (List UInt8)) (j : Nat) (h : j < ls.length) : unknown (ls.take (j + 1)) = unknown (ls.take j) ++ [(UInt16.ofNat (43520 + j), ls[j])] := by
  rw [List.take_succ_eq_append_getElem h]
  unfold unknown
  rw [unknownGo_snoc, List.length_take]
  have : 0 + min j ls.length = j := by omega
  rw [this]
set_option maxHeartbeats 1000000 in
theorem Unknown_any (hc : Lst w B content ls) (hl : ls.length ≤ 1000) : Calls Try.prog 31 #[content] w (ExP w (unknown ls)) := by
  obtain ⟨A, c, rfl, hcr, hlc, hm⟩ := hc.shrink.form
  clear hc
  go_enter Try.func31, Try.ntmps31
  go_wp2
  go_loopg [3, 8] ls.length (fun gk v i wr => ∃ j : Nat, j + gk = ls.length ∧ i = .int .i64 j ∧ EOwn wr w.heap.size w.heap.size v (unknown (ls.take j)) ∧ Upd [] w wr)
  case atStart => exact ⟨0, by omega, rfl, by simpa [unknown, unknownGo] using EOwn.nil_ _ _ _, Upd.refl _ _⟩
  case round =>
    obtain ⟨j, hj0, rfl, hown, hur⟩ := hrel
    have HJ := hid hj0
    have hj : j ≤ ls.length := by omega
    have hus := hur.size
    obtain ⟨Av, cv, rfl, -, -⟩ := hown.form
    have hul : (unknown (ls.take j)).length = j := by rw [unknown, unknownGo_len, List.length_take]; omega
    clear hj0
    by_cases hlt : j < ls.length
    · have hcw := hcr.upd hur (by simp)
      obtain ⟨b, o, rfl, hb', hj', A', c', hcell, hy, hl1, hl2⟩ := hcw.at_ hlt
      have hO : Exr (wr.alloc (.cells #[.int .u16 ((43520 : Int) + (j : Int)), .slice A' (ls[j]).length c'] 66)) (wr.heap.size + 1) w.heap.size (.slice (some ⟨wr.heap.size, 0, none⟩) 1 1) [(UInt16.ofNat (43520 + j), ls[j])] := by
        have h1 := Exr.one (w := wr) (k := UInt16.ofNat (43520 + j)) hy
        rw [← wv_ofNat (43520 + j) (by omega)] at h1
        have h2 : ((43520 + j : Nat) : Int) = (43520 : Int) + (j : Int) := by omega
        rwa [h2] at h1
      have HO := hid hO
      have HU := hid hul
      have hjl : j < 1000 := by omega
      clear hO hul
      go_wp2_with (at_builtin; go_must (refine wpList_append_ex rfl _ _ rfl rfl (hown.alloc _) rfl HO.out (by have := HU.out; simp; omega) (by simp; omega) (Nat.le_refl _) ?_; intro v3 w3 hap))
      obtain ⟨h1, h2, h3⟩ := hap.one
      have hj0 := HJ.out
      go_roundg (ls.length - (j + 1))
      case measure => omega
      case rel =>
        refine ⟨j + 1, by omega, by go_num, ?_, ?_⟩
        · rw [unknown_take ls j hlt]; exact h1
        · exact hur.trans h2 fun x hx => .inr (hown.ge (Option.mem_toList.1 hx)).1
    · obtain rfl : j = ls.length := by omega
      rw [List.take_length] at hown
      go_wp2
      go_ret
      refine ⟨_, rfl, ?_, hur⟩
      show EOwn wr _ _ (.slice Av (unknown (ls.take ls.length)).length cv) (unknown ls)
      rw [List.take_length]
      exact hown
theorem alloc_sz (w : World) (o : Obj) : (w.alloc o).heap.size = w.heap.size + 1 := by simp
structure OSt (w : World) (v7 v8 v9 : Value) (O T K : List Ex) (wr : World) : Prop where
  a7 : EOwn wr w.heap.size w.heap.size v7 O
  a8 : EOwn wr w.heap.size w.heap.size v8 T
  a9 : EOwn wr w.heap.size w.heap.size v9 K
  n78 : ∀ g, v7.ownBlock = some g → v8.ownBlock ≠ some g
  n79 : ∀ g, v7.ownBlock = some g → v9.ownBlock ≠ some g
  n89 : ∀ g, v8.ownBlock = some g → v9.ownBlock ≠ some g
  u : Upd [] w wr
theorem OSt.out {O T K O' : List Ex} {v' : Value} {o : Obj} {w3 : World} (h : OSt w v7 v8 v9 O T K wr) (hap : EAppended (wr.alloc o) w.heap.size w.heap.size v7 O' v' w3) : OSt w v' v8 v9 O' T K w3 := by
  obtain ⟨h1, h2, h3⟩ := hap.one
  have hN : ∀ x ∈ v7.ownBlock.toList, w.heap.size ≤ x := fun x hx => (h.a7.ge (Option.mem_toList.1 hx)).1
  refine ⟨h1, h.a8.upd h2 (fun g hg hm => h.n78 g (Option.mem_toList.1 hm) hg) hN, h.a9.upd h2 (fun g hg hm => h.n79 g (Option.mem_toList.1 hm) hg) hN, ?_, ?_, h.n89, h.u.trans h2 fun x hx => .inr (hN x hx)⟩
  · intro g hg h8
    rcases h3 with h3 | ⟨g', h3, hg'⟩
    · rw [h3] at hg; exact h.n78 g hg h8
    · rw [h3] at hg
      have : g' = g := by simpa using hg
      have := (h.a8.ge h8).2
      omega
  · intro g hg h9
    rcases h3 with h3 | ⟨g', h3, hg'⟩
    · rw [h3] at hg; exact h.n79 g hg h9
    · rw [h3] at hg
      have : g' = g := by simpa using hg
      have := (h.a9.ge h9).2
      omega
theorem OSt.last {O T K T' : List Ex} {v' : Value} {o : Obj} {w3 : World} (h : OSt w v7 v8 v9 O T K wr) (hap : EAppended (wr.alloc o) w.heap.size w.heap.size v8 T' v' w3) : OSt w v7 v' v9 O T' K w3 := by
  obtain ⟨h1, h2, h3⟩ := hap.one
  have hN : ∀ x ∈ v8.ownBlock.toList, w.heap.size ≤ x := fun x hx => (h.a8.ge (Option.mem_toList.1 hx)).1
  refine ⟨h.a7.upd h2 (fun g hg hm => h.n78 g hg (Option.mem_toList.1 hm)) hN, h1, h.a9.upd h2 (fun g hg hm => h.n89 g (Option.mem_toList.1 hm) hg) hN, ?_, h.n79, ?_, h.u.trans h2 fun x hx => .inr (hN x hx)⟩
  · intro g hg h8
    rcases h3 with h3 | ⟨g', h3, hg'⟩
    · rw [h3] at h8; exact h.n78 g hg h8
    · rw [h3] at h8
      have : g' = g := by simpa using h8
      have := (h.a7.ge hg).2
      omega
  · intro g hg h9
    rcases h3 with h3 | ⟨g', h3, hg'⟩
    · rw [h3] at hg; exact h.n89 g hg h9
    · rw [h3] at hg
      have : g' = g := by simpa using hg
      have := (h.a9.ge h9).2
      omega
theorem OSt.alloc {O T K : List Ex} (h : OSt w v7 v8 v9 O T K wr) (o : Obj) : OSt w v7 v8 v9 O T K (wr.alloc o) := by
  have hu := (Upd.refl [] wr).alloc o
  exact ⟨h.a7.upd hu (by simp) (by simp), h.a8.upd hu (by simp) (by simp), h.a9.upd hu (by simp) (by simp), h.n78, h.n79, h.n89, h.u.trans hu (by simp)⟩
theorem ordGo_len (l : List Ex) (s : Nat) (o : List Ex) (i : Nat) : (ordGo l s o i).1.length ≤ 2 * i ∧ (ordGo l s o i).2.length ≤ i := by
  induction i with
  | zero => exact ⟨Nat.le_refl _, Nat.le_refl _⟩
  | succ i ih =>
    unfold ordGo
    have h : (o[i]?).toList.length ≤ 1 := by cases o[i]? <;> simp
    by_cases hk : (ordE l s i).1 = 41
    · simp only [if_pos hk, List.length_append]; simp; omega
    · simp only [if_neg hk, List.length_append]; simp; omega
theorem OSt.el9 {O T K : List Ex} {b o c9 j : Nat} {y : Ex} (h : OSt w v7 v8 (.slice (some ⟨b, o, none⟩) K.length c9) O T K wr) (hj : j < K.length) (hy : K[j] = y) :
    ∃ A' c', wr.cell? ⟨b, o + j * 2, none⟩ = some (wv y.1) ∧ wr.cell? ⟨b, o + j * 2 + 1, none⟩ = some (.slice A' y.2.length c') ∧ Byt wr w.heap.size (.slice A' y.2.length c') y.2 := by
  obtain ⟨b', o', e, _, hj', A', c', h0, h1, h2, _, _⟩ := h.a9.exr.at_ hj
  cases e
  rw [hy] at h0 h1 h2
  exact ⟨A', c', h0, h1, h2⟩
theorem OSt.el9' {O T K : List Ex} {A : Option Addr} {n c9 j : Nat} (h : OSt w v7 v8 (.slice A n c9) O T K wr) (hj : j < n) : ∃ b o, A = some ⟨b, o, none⟩ := by
  obtain ⟨b', o', e, _⟩ := h.a9.exr.at_ hj
  exact ⟨b', o', e⟩
set_option maxHeartbeats 8000000 in
theorem Ordered_any {more : List (List UInt8)} {v2 : Value} (hc : Exr w B N content L) (f : Nat) (hf : f ≤ 9223372036854775807) (hm : Lst w C v2 more) (hl : L.length ≤ 1000) (hml : more.length ≤ 1000) :
    Calls Try.prog 9 #[content, .int .i64 (f : Int), v2] w (ExP w (ordered L f more)) := by
  obtain ⟨A, c, rfl, hcr, hlc, hcm⟩ := hc.shrink.form
  obtain ⟨A2, c2, rfl, hm, -, -⟩ := hm.form
  have HU := hid (Unknown_any hm hml)
  have hf0 : (0 : Int) ≤ (f : Int) := by omega
  have hul : (unknown more).length ≤ 1000 := by rw [unknown, unknownGo_len]; exact hml
  clear hc hm hml
  go_enter Try.func9, Try.ntmps9
  go_wp2_with fail
  refine HU.out.mono ?_
  rintro e w1 ⟨v9, rfl, h9, hu1⟩
  obtain ⟨A9, c9, rfl, -, -⟩ := h9.form
  obtain ⟨K, hK⟩ : ∃ K, unknown more = K := ⟨_, rfl⟩
  rw [hK] at h9 hul
  rw [hK]
  have HK := hid hK
  clear hK HU
  go_wp2_with fail
  go_loopg [7, 8, 16] L.length (fun gk v7 v8 i wr => ∃ j : Nat, j + gk = L.length ∧ i = .int .i64 j ∧ OSt w v7 v8 (.slice A9 K.length c9) (ordGo L (f % L.length) K j).1 (ordGo L (f % L.length) K j).2 K wr)
  case atStart => exact ⟨0, by omega, rfl, EOwn.nil_ _ _ _, EOwn.nil_ _ _ _, h9, by simp [Value.ownBlock], by simp [Value.ownBlock], by simp [Value.ownBlock], hu1⟩
  case round =>
    obtain ⟨j, hj0, rfl, hs⟩ := hrel
    have HJ := hid hj0
    have hj : j ≤ L.length := by omega
    have hus := hs.u.size
    obtain ⟨A7, c7, rfl, -, -⟩ := hs.a7.form
    obtain ⟨A8, c8, rfl, -, -⟩ := hs.a8.form
    obtain ⟨hl7, hl8⟩ := ordGo_len L (f % L.length) K j
    clear hj0
    by_cases hlt : j < L.length
    · have hn0 : 0 < L.length := by omega
      have hxl : (j + f) % L.length < L.length := Nat.mod_lt _ hn0
      have hcw := hcr.upd hs.u (by simp)
      obtain ⟨b, o, rfl, hb', hj', A', c', e0, e1, hy, hy1, hy2⟩ := hcw.at_ hxl
      have hoe : ordE L (f % L.length) j = L[(j + f) % L.length] := by
        unfold ordE
        rw [Nat.add_mod_mod, List.getElem?_eq_getElem hxl]; rfl
      have hord : ordGo L (f % L.length) K (j + 1) = ((if (ordE L (f % L.length) j).1 = 41 then (ordGo L (f % L.length) K j).1 else (ordGo L (f % L.length) K j).1 ++ [ordE L (f % L.length) j]) ++ (K[j]?).toList, if (ordE L (f % L.length) j).1 = 41 then (ordGo L (f % L.length) K j).2 ++ [ordE L (f % L.length) j] else (ordGo L (f % L.length) K j).2) := rfl
      rw [hoe] at hord
      have hmb : (f : Int) % (L.length : Int) < (L.length : Int) := Int.emod_lt_of_pos _ (by omega)
      have hmz : 0 ≤ (f : Int) % (L.length : Int) := Int.emod_nonneg _ (by omega)
      have hmb2 : ((j : Int) + (f : Int)) % (L.length : Int) < (L.length : Int) := Int.emod_lt_of_pos _ (by omega)
      have hmz2 : 0 ≤ ((j : Int) + (f : Int)) % (L.length : Int) := Int.emod_nonneg _ (by omega)
      generalize L[(j + f) % L.length] = x at e0 e1 hy hy1 hy2 hord hoe
      obtain ⟨xk, xd⟩ := x
      obtain ⟨O, hO⟩ : ∃ O, (ordGo L (f % L.length) K j).1 = O := ⟨_, rfl⟩
      obtain ⟨T, hT⟩ : ∃ T, (ordGo L (f % L.length) K j).2 = T := ⟨_, rfl⟩
      rw [hO] at hs hl7 hord
      rw [hT] at hs hl8 hord
      rw [hO, hT]
      have HORD := hid hord
      have HE := hid hoe
      have HOT := hid (And.intro hO hT)
      clear hord hoe hO hT
      have hs1 := hs.alloc (.cells #[wv xk, .slice A' xd.length c'] 66)
      have hy' : Byt (wr.alloc (.cells #[wv xk, .slice A' xd.length c'] 66)) w.heap.size (.slice A' xd.length c') xd := Row.alloc hy _
      have hO1 := Exr.one (k := xk) hy'
      rw [alloc_sz] at hO1
      have HO := hid hO1
      clear hO1 hy'
      by_cases hk : xk = 41
      · have t1 : ((xk.toNat : Int) == 41) = true := by rw [hk]; rfl
        have Hk := hid hk
        clear hk
        by_cases hq : j < K.length
        · obtain ⟨b9, o9, rfl⟩ := hs.el9' hq
          have hKj : K[j]? = some K[j] := List.getElem?_eq_getElem hq
          obtain ⟨y, hy9⟩ : ∃ y, K[j] = y := ⟨_, rfl⟩
          rw [hy9] at hKj
          have HY := hid hy9
          have HKj := hid hKj
          clear hy9 hKj
          obtain ⟨yk, yd⟩ := y
          go_wp2_with (first | (at_builtin; refine wpList_append_ex rfl (Operand.tmp 34) (Operand.tmp 36) rfl rfl (hs1.a8.alloc _) rfl HO.out (by show _ + 1 ≤ _; omega) (by simp; omega) (Nat.le_refl _) ?_; intro v3 w3 hap; have hs3 := hs1.last hap; obtain ⟨A9', c9', q0, q1, hyy⟩ := hs3.el9 hq HY.out; (try simp only at q0 q1 hyy); have HO9 := hid (Exr.one (k := yk) hyy); clear hyy; obtain ⟨A8', c8', hv3, -, -⟩ := hs3.a8.form; subst hv3) | (at_builtin; refine wpList_append_ex rfl (Operand.tmp 46) (Operand.tmp 51) rfl rfl (hs3.a7.alloc _) rfl HO9.out (by simp only [List.length_append, List.length_singleton]; omega) (by have := hs3.u.size; simp; omega) (Nat.le_refl _) ?_; intro v4 w4 hap4; have hs4 := hs3.out hap4))
          go_roundg (L.length - (j + 1))
          case measure => have := HJ.out; omega
          case rel =>
            refine ⟨j + 1, by have := HJ.out; omega, by go_num, ?_⟩
            rw [HORD.out, HKj.out]
            simp only [if_pos Hk.out, Option.toList_some]
            try simp only [List.length_append] at hs4
            exact hs4
        · have hKj : K[j]? = none := List.getElem?_eq_none (by omega)
          have HKj := hid hKj
          clear hKj
          go_wp2_with (first | (at_builtin; refine wpList_append_ex rfl (Operand.tmp 34) (Operand.tmp 36) rfl rfl (hs1.a8.alloc _) rfl HO.out (by show _ + 1 ≤ _; omega) (by simp; omega) (Nat.le_refl _) ?_; intro v3 w3 hap; have hs3 := hs1.last hap; obtain ⟨A8', c8', hv3, -, -⟩ := hs3.a8.form; subst hv3) | fail)
          go_roundg (L.length - (j + 1))
          case measure => have := HJ.out; omega
          case rel =>
            refine ⟨j + 1, by have := HJ.out; omega, by go_num, ?_⟩
            rw [HORD.out, HKj.out]
            simp only [if_pos Hk.out, Option.toList_none, List.append_nil]
            try simp only [List.length_append] at hs3
            exact hs3
      · have t1 : ((xk.toNat : Int) == 41) = false := by
          rw [beq_eq_false_iff_ne]
          intro h
          apply hk
          apply UInt16.toNat_inj.1
          have : (41 : UInt16).toNat = 41 := rfl
          omega
        have Hk := hid hk
        clear hk
        by_cases hq : j < K.length
        · obtain ⟨b9, o9, rfl⟩ := hs.el9' hq
          have hKj : K[j]? = some K[j] := List.getElem?_eq_getElem hq
          obtain ⟨y, hy9⟩ : ∃ y, K[j] = y := ⟨_, rfl⟩
          rw [hy9] at hKj
          have HY := hid hy9
          have HKj := hid hKj
          clear hy9 hKj
          obtain ⟨yk, yd⟩ := y
          go_wp2_with (first | (at_builtin; refine wpList_append_ex rfl (Operand.tmp 38) (Operand.tmp 40) rfl rfl (hs1.a7.alloc _) rfl HO.out (by show _ + 1 ≤ _; omega) (by simp; omega) (Nat.le_refl _) ?_; intro v3 w3 hap; have hs3 := hs1.out hap; obtain ⟨A9', c9', q0, q1, hyy⟩ := hs3.el9 hq HY.out; (try simp only at q0 q1 hyy); have HO9 := hid (Exr.one (k := yk) hyy); clear hyy; obtain ⟨A7', c7', hv3, -, -⟩ := hs3.a7.form; subst hv3; simp only [List.length_append, List.length_singleton] at hs3) | (at_builtin; refine wpList_append_ex rfl (Operand.tmp 46) (Operand.tmp 51) rfl rfl (hs3.a7.alloc _) rfl HO9.out (by simp only [List.length_append, List.length_singleton]; omega) (by have := hs3.u.size; simp; omega) (Nat.le_refl _) ?_; intro v4 w4 hap4; have hs4 := hs3.out hap4))
          go_roundg (L.length - (j + 1))
          case measure => have := HJ.out; omega
          case rel =>
            refine ⟨j + 1, by have := HJ.out; omega, by go_num, ?_⟩
            rw [HORD.out, HKj.out]
            simp only [if_neg Hk.out, Option.toList_some]
            try simp only [List.length_append] at hs4
            exact hs4
        · have hKj : K[j]? = none := List.getElem?_eq_none (by omega)
          have HKj := hid hKj
          clear hKj
          go_wp2_with (first | (at_builtin; refine wpList_append_ex rfl (Operand.tmp 38) (Operand.tmp 40) rfl rfl (hs1.a7.alloc _) rfl HO.out (by show _ + 1 ≤ _; omega) (by simp; omega) (Nat.le_refl _) ?_; intro v3 w3 hap; have hs3 := hs1.out hap; obtain ⟨A7', c7', hv3, -, -⟩ := hs3.a7.form; subst hv3; simp only [List.length_append, List.length_singleton] at hs3) | fail)
          go_roundg (L.length - (j + 1))
          case measure => have := HJ.out; omega
          case rel =>
            refine ⟨j + 1, by have := HJ.out; omega, by go_num, ?_⟩
            rw [HORD.out, HKj.out]
            simp only [if_neg Hk.out, Option.toList_none, List.append_nil]
            try simp only [List.length_append] at hs3
            exact hs3
    · obtain rfl : j = L.length := by omega
      have hex : Exr wr wr.heap.size w.heap.size (.slice A8 (ordGo L (f % L.length) K L.length).2.length c8) (ordGo L (f % L.length) K L.length).2 := hs.a8.exr
      have hN : ∀ x ∈ (Value.slice A7 (ordGo L (f % L.length) K L.length).1.length c7).ownBlock.toList, w.heap.size ≤ x := fun x hx => (hs.a7.ge (Option.mem_toList.1 hx)).1
      go_wp2_with (at_builtin; go_must (refine wpList_append_ex rfl (Operand.tmp 54) (Operand.tmp 55) rfl rfl hs.a7 rfl hex (by omega) (by omega) (Nat.le_refl _) ?_; intro v3 w3 hap))
      obtain ⟨h1, h2, h3⟩ := hap
      go_ret
      refine ⟨_, rfl, ?_, hs.u.trans h2 fun x hx => .inr (hN x hx)⟩
      unfold ordered
      rw [HK.out]
      exact h1
end
end Go.Proofs.Ytaajmfgplhfncaa

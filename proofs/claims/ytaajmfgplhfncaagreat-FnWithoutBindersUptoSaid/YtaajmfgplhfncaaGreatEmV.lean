/- Continuations, step by step, beside a variable of the round's own that is not touched; what numbers and vectors add to an output. -/
import Derived.Test.YtaajmfgplhfncaaGreatEmL
import Derived.Test.YtaajmfgplhfncaaGreatAddVal
import Derived.Test.YtaajmfgplhfncaaGreatEmit
import Derived.Test.YtaajmfgplhfncaaGreatShare
namespace Go.Proofs.YtaajmfgplhfncaaGreat
open Go.RowKit
set_option maxRecDepth 100000

theorem ofW_num (x : Wr) (n k : Nat) : ofW (x.num n k) = app (ofW x) (some (be n k)) := by
  obtain ⟨b, bad⟩ := x
  cases bad <;> rfl
theorem ofW_vec (x : Wr) (n : Nat) (d : List UInt8) : ofW (x.vec n d) = app (ofW x) (lpOut n (some d)) := by
  have h : lpOut n (some d) = ofW (Wr.vector n (Wr.plain d)) := by rw [← lpOut_ofW]; rfl
  rw [h, app_ofW]
  congr 1
  simp [behindW, Wr.vector, Wr.inner, Wr.vec, Wr.nil, Wr.plain]
  rfl
theorem app_ksh (l : List (UInt16 × List UInt8)) (g : UInt16) (d : List UInt8) : app (app (ofW (kshW l)) (some (be 2 g.toNat))) (lpOut 2 (some d)) = ofW (kshW (l ++ [(g, d)])) := by
  rw [← kshW_snoc, ofW_vec, ofW_num]
theorem sum_drop {α : Type} (f : α → Nat) (l : List α) (j : Nat) (h : j < l.length) : ((l.drop j).map f).sum = f l[j] + ((l.drop (j + 1)).map f).sum := by
  rw [List.drop_eq_getElem_cons h, List.map_cons, List.sum_cons]
section
variable {w w0 w1 w2 wr w' : World} {base q off pl g : Nat} {v u content ic : Value} {xs bs : List UInt8} {st out : Option (List UInt8)} {S : List Nat} {B R R' need : Nat} {F : World → Prop} {e : Ending} {fid fn : FuncId} {T : TypeId} {c1 args : Array Value}
theorem Em.lt (h : Em w1 q v base off pl ic B F st R w2) : q < w2.heap.size := by
  obtain ⟨v2, hb, -, -⟩ := h.main
  obtain ⟨cs, hbl⟩ := hb.isBlk
  exact hbl.lt
/-- a method of the child, beside another block -/
theorem Em.keep1 (h : Em w1 q v base off pl ic B F st R w2) (hb1 : Blk w2 g T c1) (hT : 5 ≠ T) (hqg : q ≠ g)
    (hcall : ∀ v2, BS w2 base q v2 off pl ic st → (∀ y ∈ q :: v2.ownBlock.toList, B ≤ y ∧ y ≠ g) → Calls Tryz.prog fn args w2 (BSP w2 base q v2 off pl ic (app st out))) (hR : olen (app st out) + R' ≤ 17592186044416) :
    Calls Tryz.prog fn args w2 (fun e w' => EmP w1 q v base off pl ic B F (app st out) R' e w' ∧ Blk w' g T c1) := by
  obtain ⟨v2, hb, hu, hv2⟩ := h.main
  cases st with
  | none =>
    have hb' : BS w2 base q (.slice none 0 0) off pl ic none := hb
    have e0 : app none out = none := by cases out <;> rfl
    refine (hcall _ hb' (fun y hy => by simp [Value.ownBlock] at hy; subst hy; exact ⟨h.hq, hqg⟩)).mono fun e w' hp => ?_
    rw [e0] at hp hR ⊢
    obtain ⟨he, v', hb2, hu', hv'⟩ := hp
    have hp' : BSP w2 base q v2 off pl ic none e w' := ⟨he, v2, hb2, hu'.mono (by simp [Value.ownBlock]), .inl rfl⟩
    refine ⟨h.step hu hv2 hp' hR, hb1.upd hu' (fun hk => ?_)⟩
    simp [Value.ownBlock] at hk
    exact hqg hk.symm
  | some bs =>
    have hS : ∀ y ∈ q :: v2.ownBlock.toList, B ≤ y ∧ y ≠ g := by
      intro y hy
      rcases List.mem_cons.1 hy with hy | hy
      · rw [hy]; exact ⟨h.hq, hqg⟩
      · have hy : v2.ownBlock = some y := Option.mem_toList.1 hy
        refine ⟨?_, Own.ne (hb : Bld _ base q v2 off pl ic bs).2.2 hb1 hT y hy⟩
        rcases hv2 with h2 | ⟨g', h2, hg⟩
        · rw [h2] at hy; exact h.hv y hy
        · rw [h2] at hy
          injection hy with hy
          have := h.B1
          omega
    refine (hcall _ hb hS).mono fun e w' hp => ⟨h.step hu hv2 hp hR, ?_⟩
    obtain ⟨_, v', _, hu', _⟩ := hp
    exact hb1.upd hu' (fun hk => (hS _ hk).2 rfl)
theorem Em.u16v (h : Em w1 q v base off pl ic B F st R w2) (hb1 : Blk w2 g T c1) (hT : 5 ≠ T) (hqg : q ≠ g) (n : Nat) (hn : n < 65536) (hR : R' + 2 ≤ R) :
    Calls Tryz.prog 83 #[.pointer (some ⟨q, 0, none⟩), .int .u16 (n : Int)] w2 (fun e w' => EmP w1 q v base off pl ic B F (app st (some (be 2 n))) R' e w' ∧ Blk w' g T c1) := by
  have hr := h.room
  have ho := olen_app st (some (be 2 n))
  have h1 : olen (some (be 2 n)) = 2 := be_len 2 n
  exact h.keep1 hb1 hT hqg (fun v2 hb _ => AddUint16_any hb (by omega) n hn) (by omega)
theorem Em.lp16g (h : Em w1 q v base off pl ic B F st R w2) (hb1 : Blk w2 g T c1) (hT : 5 ≠ T) (hqg : q ≠ g) (hen : Enters fid) (ho : olen out ≤ need)
    (hi : ∀ S : List Nat, (∀ y ∈ S, B ≤ y ∧ y ≠ g) → Emits fid #[.pointer (some ⟨g, 0, none⟩)] S w2 out need) (hR : R' + need + 4 ≤ R) :
    Calls Tryz.prog 84 #[.pointer (some ⟨q, 0, none⟩), .func (.func fid) #[] #[.pointer (some ⟨g, 0, none⟩)]] w2 (fun e w' => EmP w1 q v base off pl ic B F (app st (lpOut 2 out)) R' e w' ∧ Blk w' g T c1) := by
  have hr := h.room
  have ho2 := olen_app st (lpOut 2 out)
  have h1 := olen_lp 2 (by omega) out
  exact h.keep1 hb1 hT hqg (fun v2 hb hS => AddLP16_inner hb h.inner2 (fun _ => hi _ hS) hen (by omega) (by omega)) (by omega)
theorem Em.lp8g (h : Em w1 q v base off pl ic B F st R w2) (hb1 : Blk w2 g T c1) (hT : 5 ≠ T) (hqg : q ≠ g) (hen : Enters fid) (ho : olen out ≤ need)
    (hi : ∀ S : List Nat, (∀ y ∈ S, B ≤ y ∧ y ≠ g) → Emits fid #[.pointer (some ⟨g, 0, none⟩)] S w2 out need) (hR : R' + need + 4 ≤ R) :
    Calls Tryz.prog 91 #[.pointer (some ⟨q, 0, none⟩), .func (.func fid) #[] #[.pointer (some ⟨g, 0, none⟩)]] w2 (fun e w' => EmP w1 q v base off pl ic B F (app st (lpOut 1 out)) R' e w' ∧ Blk w' g T c1) := by
  have hr := h.room
  have ho2 := olen_app st (lpOut 1 out)
  have h1 := olen_lp 1 (by omega) out
  exact h.keep1 hb1 hT hqg (fun v2 hb hS => AddLP8_inner hb h.inner2 (fun _ => hi _ hS) hen (by omega) (by omega)) (by omega)
end
end Go.Proofs.YtaajmfgplhfncaaGreat

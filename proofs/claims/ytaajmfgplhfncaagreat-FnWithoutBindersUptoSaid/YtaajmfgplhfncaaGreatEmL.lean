/- Continuations that loop: a list of vectors written by a continuation that captures the round's own variable. -/
import Derived.Test.YtaajmfgplhfncaaGreatEmit
import Derived.Test.YtaajmfgplhfncaaGreatOuts
namespace Go.Proofs.YtaajmfgplhfncaaGreat
open Go.RowKit
set_option maxRecDepth 100000

theorem olen_ofW (x : Wr) : olen (ofW x) ≤ x.b.length := by
  unfold ofW
  split
  · exact Nat.zero_le _
  · exact Nat.le_refl _
theorem olen_vecs (n : Nat) (ls : List (List UInt8)) : olen (ofW (vecsW n ls)) ≤ (vecsB n ls).length := olen_ofW _
theorem app_vecs (n : Nat) (ls : List (List UInt8)) (x : List UInt8) : app (ofW (vecsW n ls)) (lpOut n (some x)) = ofW (vecsW n (ls ++ [x])) := by
  rw [← ofW_vecs_one, app_ofW]
  simp [behindW, vecsW, vecsB, vecsBad]
section
variable {w w0 w1 w2 wr w' : World} {base q off pl : Nat} {v u content ic : Value} {xs bs : List UInt8} {st out : Option (List UInt8)} {S : List Nat} {B R R' need : Nat} {F : World → Prop} {e : Ending} {fid : FuncId} {T : TypeId}
/-- a nested vector whose continuation has captured a new variable -/
theorem Em.item16 (h : Em w1 q v base off pl ic B F st R wr) (hT : 5 ≠ T) (hen : Enters fid) (ho : olen out ≤ need)
    (hi : ∀ S : List Nat, (∀ y ∈ S, B ≤ y ∧ y ≠ wr.heap.size) → Emits fid #[.pointer (some ⟨wr.heap.size, 0, none⟩)] S (wr.alloc (.cells #[u] T)) out need) (hR : R' + need + 4 ≤ R) :
    Calls Tryz.prog 84 #[.pointer (some ⟨q, 0, none⟩), .func (.func fid) #[] #[.pointer (some ⟨wr.heap.size, 0, none⟩)]] (wr.alloc (.cells #[u] T)) (EmP w1 q v base off pl ic B F (app st (lpOut 2 out)) R') := by
  have hq : q < wr.heap.size := by
    obtain ⟨v2, hb, -, -⟩ := h.main
    obtain ⟨cs, hbl⟩ := hb.isBlk
    exact hbl.lt
  have hA := h.new ((Upd.refl [] wr).alloc (.cells #[u] T))
  obtain ⟨v2, hb, hu, hv2⟩ := hA.main
  have hr := hA.room
  have ho2 := olen_app st (lpOut 2 out)
  have h1 := olen_lp 2 (by omega) out
  refine (AddLP16_inner hb hA.inner2 (fun hst => hi _ fun y hy => ?_) hen (by omega) (by omega)).mono fun e w' hp => hA.step hu hv2 hp (by omega)
  rcases List.mem_cons.1 hy with hy | hy
  · rw [hy]; exact ⟨h.hq, by omega⟩
  · have hy : v2.ownBlock = some y := Option.mem_toList.1 hy
    refine ⟨?_, ?_⟩
    · rcases hv2 with h2 | ⟨g, h2, hg⟩
      · rw [h2] at hy; exact h.hv y hy
      · rw [h2] at hy
        injection hy with hy
        have := h.B1
        omega
    · cases st with
      | none => exact absurd rfl hst
      | some bs => exact Own.ne (hb : Bld _ base q v2 off pl ic bs).2.2 (Blk.new wr T #[u]) hT y hy
end
end Go.Proofs.YtaajmfgplhfncaaGreat

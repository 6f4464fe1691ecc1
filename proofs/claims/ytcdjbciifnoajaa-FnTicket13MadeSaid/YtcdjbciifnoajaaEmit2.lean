/- Helpers for continuations that call several methods. -/
import Derived.Test.YtcdjbciifnoajaaEmit
namespace Go.Proofs.Ytcdjbciifnoajaa
open Go.RowKit
set_option maxRecDepth 100000

section
variable {w w0 w1 w2 w' : World} {base p q off pl n : Nat} {v v2 content ic ic2 : Value} {xs bs data : List UInt8} {st out : Option (List UInt8)} {S : List Nat} {m B : Nat} {e : Ending}

theorem Bld.icne (hb : Bld w base q v off pl ic bs) (hi : Inner w ic) : ∀ c, ic = .pointer (some ⟨c, 0, none⟩) → c ∉ q :: v.ownBlock.toList := by
  intro c hc hm
  obtain ⟨c', hc', hbl⟩ := hi
  rw [hc'] at hc
  injection hc with hc
  injection hc with hc
  injection hc with hc
  subst hc
  rcases List.mem_cons.1 hm with h | h
  · exact hb.2.1.ne_ hbl (by decide) h.symm
  · exact hb.2.2.ne hbl (by decide) c' (Option.mem_toList.1 h) rfl
theorem own_far (hv : ∀ g, v.ownBlock = some g → g ∈ S ∨ n ≤ g) (hq : n ≤ q) (hm : m < n) (hS : m ∉ S) : m ∉ q :: v.ownBlock.toList := by
  intro h
  rcases List.mem_cons.1 h with h | h
  · omega
  · rcases hv m (Option.mem_toList.1 h) with h | h
    · exact hS h
    · omega
theorem own_ge (hv : ∀ g, v.ownBlock = some g → g ∈ S ∨ n ≤ g) (hq : n ≤ q) (hB : ∀ x ∈ S, B ≤ x) (hBn : B ≤ n) : ∀ x ∈ q :: v.ownBlock.toList, B ≤ x := by
  intro x h
  rcases List.mem_cons.1 h with h | h
  · omega
  · rcases hv x (Option.mem_toList.1 h) with h | h
    · exact hB x h
    · omega
theorem own_next (hv : ∀ g, v.ownBlock = some g → g ∈ S ∨ n ≤ g) (h2 : v2.ownBlock = v.ownBlock ∨ ∃ g, v2.ownBlock = some g ∧ w1.heap.size ≤ g) (hn : n ≤ w1.heap.size) : ∀ g, v2.ownBlock = some g → g ∈ S ∨ n ≤ g := by
  intro g hg
  rcases h2 with h | ⟨g', hg', hge⟩
  · rw [h] at hg; exact hv g hg
  · rw [hg'] at hg
    injection hg with hg
    right
    omega
end
end Go.Proofs.Ytcdjbciifnoajaa

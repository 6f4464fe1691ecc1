/- Texts joined: ChT. -/
import Derived.Deep.LoopGhost
import Derived.Test.YtaajmfgplhfncaaB08
import Derived.Test.YtaajmfgplhfncaaB09
namespace Go.Proofs.Ytaajmfgplhfncaa
open Go.RowKit
set_option maxRecDepth 100000
section
variable {w w' : World} {B i : Nat} {v : Value} {fs : List Fm} {cs : Array Value} {f : Fm} {x : Ch}
theorem TM.start {vs : List Value} (h : All2 (fun v f => FmOk w B v f) vs fs) : TM fs vs.toArray w B := by
  have hl := h.length
  refine ⟨by simpa using hl, fun i v f h1 h2 => ?_⟩
  obtain ⟨hi2, e2⟩ := List.getElem?_eq_some_iff.1 h2
  have h1 : vs[i]? = some v := by simpa using h1
  obtain ⟨hi1, e1⟩ := List.getElem?_eq_some_iff.1 h1
  have := h.get i hi1 hi2
  rw [e1, e2] at this
  exact this
theorem TM.set (h : TM fs cs w B) (hv : FmOk w B v f) : TM (fs.set i f) (cs.setIfInBounds i v) w B := by
  refine ⟨by simp [h.1], fun j u g h1 h2 => ?_⟩
  by_cases hj : j = i
  · subst hj
    have hjl : j < fs.length := by
      have := (List.getElem?_eq_some_iff.1 h2).1
      simpa using this
    have hjc : j < cs.size := by rw [h.1]; exact hjl
    rw [List.getElem?_set_self hjl] at h2
    rw [Array.getElem?_setIfInBounds_self_of_lt hjc] at h1
    injection h1 with h1
    injection h2 with h2
    rw [← h1, ← h2]; exact hv
  · rw [List.getElem?_set_ne (Ne.symm hj)] at h2
    rw [Array.getElem?_setIfInBounds_ne (Ne.symm hj)] at h1
    exact h.2 j u g h1 h2
end
theorem Prs.apart {w : World} {lo lo' B B' : Nat} {e e' : TypeId} {v v' : Value} {ls ls' : List (Cel × Cel)} (h : Prs w lo B e v ls) (h' : Prs w lo' B' e' v' ls') (hne : e ≠ e') : ∀ g, v.ownBlock = some g → v'.ownBlock ≠ some g := by
  intro g hg hg'
  obtain ⟨us, h, _⟩ := h
  rcases h.2 with ⟨rfl, _⟩ | ⟨g1, cap, cur, rfl, _, hh, _⟩
  · simp [Value.ownBlock] at hg
  · have : g1 = g := by simpa [Value.ownBlock] using hg
    subst this
    exact (Prs.ne h' (t := e) hh (Ne.symm hne)) g1 hg' rfl
section
variable {w w' : World} {B : Nat} {v : Value} {t : Ch}
end
end Go.Proofs.Ytaajmfgplhfncaa

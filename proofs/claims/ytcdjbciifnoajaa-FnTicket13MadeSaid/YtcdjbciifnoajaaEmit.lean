/- Helpers of the messages that the Builder makes, and of those that a String reads. -/
import Derived.Test.YtcdjbciifnoajaaKeyUpdateR
namespace Go.Proofs.Ytcdjbciifnoajaa
open Go.RowKit
set_option maxRecDepth 100000

section
variable {w w0 w' : World} {base p q off pl : Nat} {v v2 content ic ic2 : Value} {xs bs data : List UInt8} {st out : Option (List UInt8)} {S : List Nat} {m B : Nat} {e : Ending}

theorem src_of (hc : Byt w B content xs) (hq : B ≤ q) (hg : ∀ g, v.ownBlock = some g → B ≤ g) : Src w base q v content xs := by
  obtain ⟨A, c, e, h1, h2, h3, h4⟩ := hc
  by_cases hx : xs = []
  · subst hx
    exact ⟨0, ⟨A, c, e, h1, h2, h3, fun h => absurd rfl h⟩, .inl (Nat.zero_le _)⟩
  · refine ⟨B, ⟨A, c, e, h1, h2, h3, h4⟩, .inr ?_⟩
    obtain ⟨b, o, rfl, hb, -⟩ := h4 (by simpa using hx)
    intro k hk
    rw [e] at hk
    have hkb : k = b := by
      unfold Value.ownBlock at hk
      simp at hk
      exact hk.symm
    subst hkb
    refine ⟨by omega, fun h => ?_⟩
    have := hg k h
    omega
theorem olen_lp (n : Nat) (hn : n ≤ 4) (out : Option (List UInt8)) : olen (lpOut n out) ≤ olen out + 4 := by
  cases out with
  | none => simp [lpOut, olen]
  | some xs =>
    unfold lpOut
    by_cases h : xs.length < 256 ^ n
    · simp only [if_pos h, olen, List.length_append, be_len]
      omega
    · simp only [if_neg h, olen]
      omega

/-- what 'unmarshal' of a message with one field of bytes leaves -/
def UnmP (w : World) (m : Nat) (T : TypeId) (o : Option (List UInt8)) (e : Ending) (w' : World) : Prop :=
  e = .returned (.bool o.isSome) ∧ Upd [m] w w' ∧ ∃ u, isSlice u ∧ Blk w' m T #[u] ∧ ∀ x, o = some x → Byt w' w'.heap.size u x
/-- what impl's readers hand back: bytes, and whether they were read -/
def UnP (w : World) (o : Option (List UInt8)) (e : Ending) (w' : World) : Prop :=
  ∃ u, isSlice u ∧ e = .returned (.tuple #[u, .bool o.isSome]) ∧ Upd [] w w' ∧ ∀ x, o = some x → Byt w' w'.heap.size u x
theorem sv_start (h : Byt w B v data) (hB : B ≤ w.heap.size) : Sv (SvW w v) B w.heap.size data False :=
  ⟨hB, v, Blk.new _ _ _, h.alloc _, fun x => x.elim⟩
end
end Go.Proofs.Ytcdjbciifnoajaa

/- The state of a function that has a message in a variable and writes with a writer of its own. -/
import Derived.Test.YtaajmfgplhfncaaGreatSpecW
namespace Go.Proofs.YtaajmfgplhfncaaGreat
open Go.RowKit
set_option maxRecDepth 100000

/-- the writer at block p, the message's cells at block m below it; only blocks made since w have turned -/
def WSt (w : World) (p m : Nat) (T : TypeId) (cs : Array Value) (wi : World) (s : Wr) : Prop :=
  ∃ v, Wrt wi p p v s ∧ Upd [] w wi ∧ Blk wi m T cs ∧ m < p ∧ w.heap.size ≤ m
section
variable {w wi w2 w3 : World} {p m : Nat} {T : TypeId} {cs : Array Value} {s s' : Wr} {e : Ending} {xs : List UInt8} {v v3 : Value}
theorem WSt.up (h : WSt w p m T cs wi s) : Upd [] w wi := by obtain ⟨_, _, h, _⟩ := h; exact h
theorem WSt.blk (h : WSt w p m T cs wi s) : Blk wi m T cs := by obtain ⟨_, _, _, h, _⟩ := h; exact h
theorem WSt.open_ (h : WSt w p m T cs wi s) : ∃ v, Wrt wi p p v s ∧ ∀ s' e w2, WrtP wi p p v s' e w2 → e = .returned (.tuple #[]) ∧ WSt w p m T cs w2 s' := by
  obtain ⟨v, h1, h2, h3, h4, h5⟩ := h
  refine ⟨v, h1, fun s' e w2 hp => ?_⟩
  obtain ⟨he, v', k1, k2, -⟩ := hp
  have hge : ∀ x ∈ p :: v.ownBlock.toList, p ≤ x := by
    intro x hx
    rcases List.mem_cons.1 hx with hx | hx
    · omega
    · exact (h1.2.2.ge (Option.mem_toList.1 hx)).1
  exact ⟨he, v', k1, h2.trans k2 (fun x hx => .inr (by have := hge x hx; omega)), h3.upd k2 (fun hm => by have := hge m hm; omega), h4, h5⟩
/-- bytes appended to the writer's own -/
theorem WSt.app (h : WSt w p m T cs wi s) (hw : Wrt wi p p v s) (hap : Appended wi p 5 v (s.b.map bv ++ xs.map bv) v3 w3) : WSt w p m T cs (w3.setCell ⟨p, 0, none⟩ v3) ⟨s.b ++ xs, s.bad⟩ := by
  obtain ⟨v0, k1, k2, k3, k4, k5⟩ := h
  have hp := wvec_end (s3 := ⟨s.b ++ xs, s.bad⟩) (Upd.refl (p :: v.ownBlock.toList) wi) (.inl rfl) hw hap rfl
  obtain ⟨_, v', q1, q2, -⟩ := hp
  have hge : ∀ x ∈ p :: v.ownBlock.toList, p ≤ x := by
    intro x hx
    rcases List.mem_cons.1 hx with hx | hx
    · omega
    · exact (hw.2.2.ge (Option.mem_toList.1 hx)).1
  exact ⟨v', q1, k2.trans q2 (fun x hx => .inr (by have := hge x hx; omega)), k3.upd q2 (fun hm => by have := hge m hm; omega), k4, k5⟩
theorem WSt.byt (h : WSt w p m T cs wi s) {B : Nat} {c : Value} (hc : Byt w B c xs) : Byt wi w.heap.size c xs := Row.upd (Row.shrink hc) h.up (by simp)
theorem WSt.src (h : WSt w p m T cs wi s) {B : Nat} {c : Value} (hc : Byt w B c xs) (v : Value) : Src wi p p v c xs := by
  have hb := h.byt hc
  obtain ⟨_, _, _, _, h4, h5⟩ := h
  exact ⟨_, hb, .inl (by omega)⟩
end
end Go.Proofs.YtaajmfgplhfncaaGreat

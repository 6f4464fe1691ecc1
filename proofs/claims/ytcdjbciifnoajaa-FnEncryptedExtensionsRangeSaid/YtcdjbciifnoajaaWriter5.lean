/- Contracts of the reference's functions that make a writer and hand it back. -/
import Derived.Test.YtcdjbciifnoajaaWriter4
namespace Go.Proofs.Ytcdjbciifnoajaa
open Go.RowKit
set_option maxRecDepth 20000

section
variable {w w' : World} {v content : Value} {s : Wr} {xs : List UInt8}

/-- the world in which the result's cells and the writer have been made -/
def W1 (w : World) : World := (w.alloc (.cells #[.slice none 0 0, .bool false] 57)).alloc (.cells #[.slice none 0 0, .bool false] 57)
theorem W1_eq (w : World) : (w.alloc (.cells #[.slice none 0 0, .bool false] 57)).alloc (.cells #[.slice none 0 0, .bool false] 57) = W1 w := rfl
theorem W1_size (w : World) : (W1 w).heap.size = w.heap.size + 2 := by simp [W1]
theorem W1_upd (w : World) : Upd [] w (W1 w) := ((Upd.refl _ _).alloc _).alloc _
theorem W1_res (w : World) : Blk (W1 w) w.heap.size 57 #[.slice none 0 0, .bool false] := (Blk.new w _ _).alloc _
theorem W1_wrt (w : World) : Wrt (W1 w) (w.heap.size + 1) (w.heap.size + 1) (.slice none 0 0) Wr.nil := by
  have h := wrt_new (w.alloc (.cells #[.slice none 0 0, .bool false] 57))
  rw [show (w.alloc (.cells #[.slice none 0 0, .bool false] 57)).heap.size = w.heap.size + 1 by simp] at h
  exact h
/-- the state of a function that makes a writer: what its writer has written so far -/
def WMid (w : World) (s : Wr) (w' : World) : Prop := WrtP (W1 w) (w.heap.size + 1) (w.heap.size + 1) (.slice none 0 0) s (.returned (.tuple #[])) w'
theorem WMid.start (w : World) : WMid w Wr.nil (W1 w) := ⟨rfl, _, W1_wrt w, Upd.refl _ _, .inl rfl⟩
theorem WMid.open_ (h : WMid w s w') : ∃ v', Wrt w' (w.heap.size + 1) (w.heap.size + 1) v' s ∧ Upd ((w.heap.size + 1) :: (Value.slice none 0 0).ownBlock.toList) (W1 w) w' ∧
    (v'.ownBlock = (Value.slice none 0 0).ownBlock ∨ ∃ g, v'.ownBlock = some g ∧ (W1 w).heap.size ≤ g) := by
  obtain ⟨_, v', h1, h2, h3⟩ := h
  exact ⟨v', h1, h2, h3⟩
theorem WMid.next (_h : WMid w s w') {v' : Value} {s' : Wr} {e : Ending} {w2 : World} (hv : Upd ((w.heap.size + 1) :: (Value.slice none 0 0).ownBlock.toList) (W1 w) w' ∧
    (v'.ownBlock = (Value.slice none 0 0).ownBlock ∨ ∃ g, v'.ownBlock = some g ∧ (W1 w).heap.size ≤ g)) (hp : WrtP w' (w.heap.size + 1) (w.heap.size + 1) v' s' e w2) : e = .returned (.tuple #[]) ∧ WMid w s' w2 := by
  obtain rfl := hp.1
  exact ⟨rfl, WrtP.after hv.1 hv.2 hp⟩
theorem WMid.upd (h : WMid w s w') : Upd [] w w' := by
  obtain ⟨v', h1, h2, h3⟩ := h.open_
  exact (W1_upd w).trans h2 (by simp [Value.ownBlock])
theorem WMid.byt (h : WMid w s w') {B : Nat} (hc : Byt w B content xs) : Byt w' w.heap.size content xs := Row.upd (Row.shrink hc) h.upd (by simp)
theorem WMid.src (h : WMid w s w') {B : Nat} (hc : Byt w B content xs) (v' : Value) : Src w' (w.heap.size + 1) (w.heap.size + 1) v' content xs := ⟨_, h.byt hc, .inl (by omega)⟩
/-- at the end -/
theorem WMid.fin (h : WMid w s w') : ∃ A n c, w'.cell? ⟨w.heap.size + 1, 0, none⟩ = some (.slice A n c) ∧ w'.cell? ⟨w.heap.size + 1, 1, none⟩ = some (.bool s.bad) ∧
    w'.cell? ⟨w.heap.size, 0, none⟩ = some (.slice none 0 0) ∧ w'.cell? ⟨w.heap.size, 1, none⟩ = some (.bool false) ∧ w'.frozen? ⟨w.heap.size, 0, none⟩ = false ∧ w'.frozen? ⟨w.heap.size, 1, none⟩ = false ∧
    ((w'.setCell ⟨w.heap.size, 0, none⟩ (.slice A n c)).setCell ⟨w.heap.size, 1, none⟩ (.bool s.bad)).cell? ⟨w.heap.size, 0, none⟩ = some (.slice A n c) ∧
    ((w'.setCell ⟨w.heap.size, 0, none⟩ (.slice A n c)).setCell ⟨w.heap.size, 1, none⟩ (.bool s.bad)).cell? ⟨w.heap.size, 1, none⟩ = some (.bool s.bad) ∧
    WValP w s (.returned (.agg #[.slice A n c, .bool s.bad])) ((w'.setCell ⟨w.heap.size, 0, none⟩ (.slice A n c)).setCell ⟨w.heap.size, 1, none⟩ (.bool s.bad)) := by
  obtain ⟨v', h1, h2, h3⟩ := h.open_
  have hb : Blk w' w.heap.size 57 #[.slice none 0 0, .bool false] := (W1_res w).upd h2 (by simp [Value.ownBlock])
  have hn : NewFrom w.heap.size v' := by
    intro k hk
    rcases h3 with h3 | ⟨g, hg, hge⟩
    · rw [h3] at hk; cases hk
    · rw [hg] at hk
      injection hk with hk
      have := W1_size w
      omega
  obtain ⟨hb5, hend⟩ := wval_end (Nat.le_refl _) hb h1 hn h.upd
  obtain ⟨A, c, rfl, _⟩ := h1.2.2.form
  refine ⟨A, _, c, ?_, ?_, ?_, ?_, hb.frozen 0, hb.frozen 1, ?_, ?_, hend⟩
  · rw [h1.2.1.cell]; rfl
  · rw [h1.2.1.cell]; rfl
  · rw [hb.cell]; rfl
  · rw [hb.cell]; rfl
  · rw [hb5.cell]; rfl
  · rw [hb5.cell]; rfl

def stapleW (xs : List UInt8) : Wr := (Wr.nil.num 1 1).vec 3 xs

end
end Go.Proofs.Ytcdjbciifnoajaa

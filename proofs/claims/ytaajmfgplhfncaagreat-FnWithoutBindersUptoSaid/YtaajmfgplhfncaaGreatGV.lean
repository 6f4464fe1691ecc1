/- Messages as values, whatever their fields: an opaque array of cells, and a list that says what each cell holds. -/
import Derived.Test.YtaajmfgplhfncaaGreatGen
import Derived.Test.YtaajmfgplhfncaaGreatWriter
namespace Go.Proofs.YtaajmfgplhfncaaGreat
open Go.RowKit
set_option maxRecDepth 100000

abbrev strv (xs : List UInt8) : Value := .string ⟨xs.toArray⟩

/-- what a cell holds: this value; a slice that reads as bytes; as a row of values; as a list of lists of bytes -/
inductive Fd where
  | val (v : Value)
  | byt (l : List UInt8)
  | row (us : List Value)
  | lst (ls : List (List UInt8))
def FdOk (w : World) (B : Nat) (v : Value) : Fd → Prop
  | .val u => v = u ∧ u.oneCell' = true
  | .byt l => Byt w B v l
  | .row us => Row w B v us
  | .lst ls => Lst w B v ls
section
variable {w w' : World} {B : Nat} {v : Value} {f : Fd} {S : List Nat}
theorem FdOk.upd (h : FdOk w B v f) (hu : Upd S w w') (hs : ∀ k ∈ S, B ≤ k) : FdOk w' B v f := by
  cases f with
  | val u => exact h
  | byt l => exact Row.upd h hu hs
  | row us => exact Row.upd h hu hs
  | lst ls => exact Lst.upd h hu hs
theorem FdOk.shrink (h : FdOk w B v f) : FdOk w w.heap.size v f := by
  cases f with
  | val u => exact h
  | byt l => exact Row.shrink h
  | row us => exact Row.shrink h
  | lst ls => exact Lst.shrink h
theorem row_one {us : List Value} (h : Row w B v us) : v.oneCell' = true := by
  obtain ⟨A, c, rfl, _⟩ := h
  rfl
theorem FdOk.one (h : FdOk w B v f) : v.oneCell' = true := by
  cases f with
  | val u => obtain ⟨rfl, h⟩ := h; exact h
  | byt l => exact row_one h
  | row us => exact row_one h
  | lst ls => obtain ⟨vs, h, _⟩ := h; exact row_one h
end
/-- the message as a value -/
def GV {α : Type} (fs : α → List Fd) (w : World) (B : Nat) (v : Value) (x : α) : Prop :=
  ∃ cs : Array Value, v = .agg cs ∧ cs.size = (fs x).length ∧ ∀ (i : Nat) (v : Value) (f : Fd), cs[i]? = some v → (fs x)[i]? = some f → FdOk w B v f
section
variable {α : Type} {fs : α → List Fd} {w w' : World} {B i g : Nat} {v : Value} {x : α} {S : List Nat} {cs : Array Value} {f : Fd} {T : TypeId}
theorem GV.upd (h : GV fs w B v x) (hu : Upd S w w') (hs : ∀ k ∈ S, B ≤ k) : GV fs w' B v x := by
  obtain ⟨cs, e, h1, h2⟩ := h
  exact ⟨cs, e, h1, fun i v f k1 k2 => (h2 i v f k1 k2).upd hu hs⟩
theorem GV.shrink (h : GV fs w B v x) : GV fs w w.heap.size v x := by
  obtain ⟨cs, e, h1, h2⟩ := h
  exact ⟨cs, e, h1, fun i v f k1 k2 => (h2 i v f k1 k2).shrink⟩
theorem GV.ok {n : Nat} {d : TypeDesc} (hn : ∀ x, (fs x).length = n) (hi : (Tryz.prog.info? T).map (·.size) = some n) (hd : Tryz.prog.underlying T = some d) (hr : d.isRow = true) : VOk T (GV fs) where
  agg := by
    intro w B v x h
    obtain ⟨cs, e, h1, h2⟩ := h
    refine ⟨cs, e, by rw [hi, h1, hn], ?_⟩
    rw [Array.all_eq_true]
    intro i hi
    have hif : i < (fs x).length := by rw [← h1]; exact hi
    exact (h2 i _ _ (Array.getElem?_eq_getElem hi) (List.getElem?_eq_getElem hif)).one
  str := ⟨d, hd, hr⟩
  upd := fun h hu hs => GV.upd h hu hs
  shrink := fun h => GV.shrink h
theorem GV.at_ (h : GV fs w B (.agg cs) x) (hf : (fs x)[i]? = some f) : ∃ v, cs[i]? = some v ∧ FdOk w B v f := by
  obtain ⟨cs', e, h1, h2⟩ := h
  injection e with e
  subst e
  have hi : i < cs.size := by rw [h1]; exact (List.getElem?_eq_some_iff.1 hf).1
  exact ⟨cs[i], Array.getElem?_eq_getElem hi, h2 i _ f (Array.getElem?_eq_getElem hi) hf⟩
theorem GV.val (h : GV fs w B (.agg cs) x) {u : Value} (hf : (fs x)[i]? = some (.val u)) : cs[i]? = some u := by
  obtain ⟨v, h1, h2, -⟩ := h.at_ hf
  rw [h1, h2]
theorem GV.byt (h : GV fs w B (.agg cs) x) {l : List UInt8} (hf : (fs x)[i]? = some (.byt l)) : ∃ A c, cs[i]? = some (.slice A l.length c) ∧ Byt w B (.slice A l.length c) l := by
  obtain ⟨v, h1, h2⟩ := h.at_ hf
  obtain ⟨A, c, rfl, h3, -⟩ := Byt.form h2 rfl
  exact ⟨A, c, h1, h3⟩
theorem GV.row (h : GV fs w B (.agg cs) x) {us : List Value} (hf : (fs x)[i]? = some (.row us)) {n : Nat} (hn : us.length = n) : ∃ A c, cs[i]? = some (.slice A n c) ∧ Row w B (.slice A n c) us := by
  obtain ⟨v, h1, h2⟩ := h.at_ hf
  obtain ⟨A, c, rfl, h3, -⟩ := Row.formN h2 hn
  exact ⟨A, c, h1, h3⟩
theorem GV.lst (h : GV fs w B (.agg cs) x) {ls : List (List UInt8)} (hf : (fs x)[i]? = some (.lst ls)) : ∃ A c, cs[i]? = some (.slice A ls.length c) ∧ Lst w B (.slice A ls.length c) ls := by
  obtain ⟨v, h1, h2⟩ := h.at_ hf
  obtain ⟨A, c, rfl, h3, -⟩ := h2.form
  exact ⟨A, c, h1, h3⟩
theorem GV.size (h : GV fs w B (.agg cs) x) : cs.size = (fs x).length := by
  obtain ⟨cs', e, h1, -⟩ := h
  injection e with e
  rw [e, h1]
theorem Blk.at_ (h : Blk w g T cs) {v : Value} (hc : cs[i]? = some v) : w.cell? ⟨g, i, none⟩ = some v := (h.cell i).trans hc
/-- cells that are known, one by one -/
theorem GV.start {vs : List Value} (h : All2 (fun v f => FdOk w B v f) vs (fs x)) : GV fs w B (.agg vs.toArray) x := by
  have hl := h.length
  refine ⟨_, rfl, by simpa using hl, fun i v f h1 h2 => ?_⟩
  obtain ⟨hi2, e2⟩ := List.getElem?_eq_some_iff.1 h2
  have h1 : vs[i]? = some v := by simpa using h1
  obtain ⟨hi1, e1⟩ := List.getElem?_eq_some_iff.1 h1
  have := h.get i hi1 hi2
  rw [e1, e2] at this
  exact this
end
end Go.Proofs.YtaajmfgplhfncaaGreat

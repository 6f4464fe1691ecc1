/- Contracts of the reference's reader: vectors, body. -/
import Derived.Test.YtcdjbciifnoajaaReader3
namespace Go.Proofs.Ytcdjbciifnoajaa
open Go.RowKit

section
variable {w w' : World} {N r : Nat} {s : R} {S : List Nat}

/-- a slice of slices of bytes whose row is the call's own, and whose elements lie below N -/
def Vecs (w : World) (base N : Nat) (v : Value) (ls : List (List UInt8)) : Prop := ∃ vs, Own w base 23 v vs ∧ All2 (fun u l => Byt w N u l) vs ls

theorem Vecs.upd {base : Nat} {v : Value} {ls : List (List UInt8)} (h : Vecs w base N v ls) (hu : Upd S w w') (hs : ∀ g, v.ownBlock = some g → g ∉ S) (hN : ∀ x ∈ S, N ≤ x) : Vecs w' base N v ls := by
  obtain ⟨vs, h1, h2⟩ := h
  exact ⟨vs, h1.upd hu hs, h2.imp fun _ _ hb => hb.upd hu hN⟩

def VectorsP (w : World) (N r : Nat) (l : List (List UInt8)) (s : R) (e : Ending) (w' : World) : Prop :=
  ∃ v, e = .returned v ∧ Vecs w' w.heap.size N v l ∧ Upd [r] w w' ∧ Rd w' N r s

def VRel (w : World) (N q size low : Nat) (x0 : R) (gk : Nat) (v : Value) (wr : World) : Prop :=
  ∃ (x : R) (l : List (List UInt8)), gk = x.bs.length ∧ l.length + x.bs.length ≤ x0.bs.length ∧ Rd wr N q x ∧ Vecs wr w.heap.size N v l ∧ Upd [] w wr ∧
    R.vecsGo size low x0.bs.length x0 = (l ++ (R.vecsGo size low x.bs.length x).1, (R.vecsGo size low x.bs.length x).2)

theorem vecsGo_unroll (size low : Nat) (hs : 1 ≤ size) (x : R) (h : x.bs ≠ []) :
    R.vecsGo size low x.bs.length x = ((x.vec size low (256 ^ size - 1)).1 :: (R.vecsGo size low (x.vec size low (256 ^ size - 1)).2.bs.length (x.vec size low (256 ^ size - 1)).2).1,
      (R.vecsGo size low (x.vec size low (256 ^ size - 1)).2.bs.length (x.vec size low (256 ^ size - 1)).2).2) := by
  have hp : 0 < x.bs.length := List.length_pos_iff.2 h
  obtain ⟨f, hf⟩ : ∃ f, x.bs.length = f + 1 := ⟨x.bs.length - 1, by omega⟩
  have hv := vec_bs_len x size low (256 ^ size - 1)
  rw [hf, R.vecsGo, if_neg h, vecsGo_eq size low hs f _ (x.vec size low (256 ^ size - 1)).2 (by omega) (Nat.le_refl _)]

theorem vrel_step {q size low : Nat} {x0 x : R} {l : List (List UInt8)} {v v3 u : Value} {vs : List Value} {wr w2 w3 : World} {o : Obj} (hs : 1 ≤ size) (hxe : x.bs ≠ [])
    (hxl : l.length + x.bs.length ≤ x0.bs.length) (hqw : w.heap.size ≤ q) (hNw : N ≤ w.heap.size)
    (hx : Rd wr N q x) (hx2 : Rd w2 N q (x.vec size low (256 ^ size - 1)).2) (hu2 : Upd [q] wr w2) (hb : Byt w2 N u (x.vec size low (256 ^ size - 1)).1)
    (hown : Own wr w.heap.size 23 v vs) (hall : All2 (fun u l => Byt wr N u l) vs l) (hu : Upd [] w wr) (hap : Appended (w2.alloc o) w.heap.size 23 v (vs ++ [u]) v3 w3)
    (hE : R.vecsGo size low x0.bs.length x0 = (l ++ (R.vecsGo size low x.bs.length x).1, (R.vecsGo size low x.bs.length x).2)) :
    VRel w N q size low x0 (x.vec size low (256 ^ size - 1)).2.bs.length v3 w3 := by
  obtain ⟨h1, h2, h3⟩ := hap.one
  have hv := vec_bs_len x size low (256 ^ size - 1)
  have hp : 0 < x.bs.length := List.length_pos_iff.2 hxe
  have hq : ∀ g, v.ownBlock = some g → g ≠ q := by
    obtain ⟨_, vx, hbx, _⟩ := hx
    exact hown.ne hbx (by decide)
  have hS : ∀ k ∈ v.ownBlock.toList, w.heap.size ≤ k ∧ k ≠ q := fun k hk => ⟨(hown.ge (Option.mem_toList.1 hk)).1, hq _ (Option.mem_toList.1 hk)⟩
  refine ⟨_, l ++ [(x.vec size low (256 ^ size - 1)).1], rfl, ?_, hx2.upd h2 ?_ ?_, ⟨vs ++ [u], h1, ?_⟩, ?_, ?_⟩
  · simp; omega
  · intro k hk
    have := hS k hk
    omega
  · intro hk
    exact (hS q hk).2 rfl
  · refine All2.snoc ?_ ?_
    · refine hall.imp fun a b hab => ?_
      exact (hab.upd hu2 (by simp; omega)).upd h2 (fun k hk => by have := hS k hk; omega)
    · exact hb.upd h2 (fun k hk => by have := hS k hk; omega)
  · refine (hu.trans hu2 ?_).trans h2 ?_
    · intro k hk; right; simp at hk; omega
    · intro k hk; right; exact (hS k hk).1
  · rw [hE, vecsGo_unroll size low hs x hxe]
    simp

end
end Go.Proofs.Ytcdjbciifnoajaa

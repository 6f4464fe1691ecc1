/- Texts joined: Map, UGen, ChV. -/
import Derived.Maps.OwnSet
import Derived.Maps.OwnOps
import Derived.Maps.Views
import Derived.Laws.CopyOwn
import Derived.Laws.IdiomStrings
import Derived.Laws.BytesArg
import Derived.Lib.ConvBytes
import Derived.OwnWalk
import Derived.Test.YtaajmfgplhfncaaGreatB03
import Derived.Test.YtaajmfgplhfncaaGreatB01
import Derived.Test.YtaajmfgplhfncaaGreatB07
import Derived.Test.YtaajmfgplhfncaaGreatB08
import Derived.Test.YtaajmfgplhfncaaGreatB05
namespace Go.Proofs.YtaajmfgplhfncaaGreat
open Go.RowKit Go.Maps
set_option maxRecDepth 100000
section
variable {w w' : World} {b n : Nat} {ks : List UInt16} {S : List Nat}
def Seen (w : World) (b n : Nat) (ks : List UInt16) : Prop :=
  ∃ D : DataW Unit, w.ownsMap Tryz.prog 22 (plainElem Tryz.prog 4) b n D ∧ IsMap D ∧ ∀ k : UInt16, D.atKey (.int .u16 (k.toNat : Int)) (.lit (.bool false)) = .lit (.bool (ks.contains k))
theorem Seen.upd (h : Seen w b n ks) (hu : Upd S w w') (hb : b ∉ S) : Seen w' b n ks := by
  obtain ⟨D, hown, h2, h3⟩ := h
  have hlt := hown.lt
  obtain ⟨es, clock, hh, F, hs, hD⟩ := hown
  exact ⟨D, ⟨es, clock, (hu.block b hlt hb).trans hh, F, hs, hD⟩, h2, h3⟩
theorem Seen.lt (h : Seen w b n ks) : b < w.heap.size := by
  obtain ⟨D, hown, h2, h3⟩ := h
  exact hown.lt
theorem Seen.drew (h : Seen w b n ks) : Seen w.drew b n ks := h.upd ((Upd.refl [] w).drew) (by simp)
end
section
variable {w w' : World} {N b g lo : Nat} {bs xs : List UInt8} {S : List Nat} {v : Value}
def Cpy (w : World) (lo : Nat) (v : Value) (xs : List UInt8) : Prop :=
  ∃ g c, v = .slice (some ⟨g, 0, none⟩) xs.length c ∧ lo ≤ g ∧ xs.length ≤ c ∧ c ≤ maxLen ∧ w.heap[g]? = some (.cells (xs.map bv).toArray 5 (0, 0))
theorem Cpy.upd (h : Cpy w lo v xs) (hu : Upd S w w') (hS : ∀ x ∈ S, x < lo ∨ w.heap.size ≤ x) : Cpy w' lo v xs := by
  obtain ⟨g, c, e, h1, h2, h3, h4⟩ := h
  have hlt : g < w.heap.size := (Array.getElem?_eq_some_iff.1 h4).1
  exact ⟨g, c, e, h1, h2, h3, (hu.block g hlt (fun hm => by have := hS g hm; omega)).trans h4⟩
theorem Cpy.byt (h : Cpy w lo v xs) : Byt w w.heap.size v xs := by
  obtain ⟨g, c, rfl, h1, h2, h3, h4⟩ := h
  have hlt : g < w.heap.size := (Array.getElem?_eq_some_iff.1 h4).1
  have hl : (xs.map bv).length = xs.length := by simp
  refine ⟨some ⟨g, 0, none⟩, c, by rw [hl], by rw [hl]; exact h2, h3, (by intro e; cases e), fun _ => ⟨g, 0, rfl, hlt, fun j u hj => ?_⟩⟩
  rw [Nat.zero_add]
  have hb : Blk w g 5 (xs.map bv).toArray := h4
  rw [hb.cell j]
  simpa using hj
theorem conv_bytes {B : Nat} {A : Option Addr} {c : Nat} (src : TypeId) (hs : Tryz.prog.underlying src = some (.slice 5)) (h : Byt w B (.slice A xs.length c) xs) : (convert src 9 (.slice A xs.length c)).run Tryz.prog w = .ok (.string ⟨xs.toArray⟩) w := by
  cases A with
  | none =>
    have hx : xs = [] := by
      cases xs with
      | nil => rfl
      | cons y t =>
        obtain ⟨b', o, e, _⟩ := Byt.at_ h (k := 0) (by simp)
        cases e
    subst hx
    exact run_convert_bytes_nil w src 5 hs Tryz.underlying5 _ _ 9 Tryz.underlying9
  | some a =>
    refine run_convert_bytes_back w src 9 5 a c xs hs Tryz.underlying5 Tryz.underlying9 ?_
    intro j hj
    obtain ⟨b', o, e, -, hj', hc⟩ := Byt.at_ h (k := j) hj
    cases e
    rw [add_lit]
    exact hc
end
end Go.Proofs.YtaajmfgplhfncaaGreat
namespace Go.Proofs.YtaajmfgplhfncaaGreat
open Go.RowKit Go.Maps
set_option maxRecDepth 100000
def CpN (w : World) (lo : Nat) (has : Bool) (v : Value) (xs : List UInt8) : Prop := (has = true ∧ Cpy w lo v xs) ∨ (has = false ∧ v = .slice none 0 0 ∧ xs = [])
inductive Fld where
  | val (v : Value)
  | byt (l : List UInt8)
  | row (e : TypeId) (us : List Value)
  | vec (ls : List (List UInt8))
  | prs (e : TypeId) (ls : List (Cel × Cel))
  | cpy (has : Bool) (l : List UInt8)
def Fld.isOwn : Fld → Bool
  | .val _ => false
  | .byt _ => false
  | _ => true
def FOk (w : World) (B lo : Nat) (v : Value) : Fld → Prop
  | .val u => v = u
  | .byt l => Byt w B v l
  | .row e us => Own w lo e v us
  | .vec ls => Vecs w lo B v ls
  | .prs e ls => Prs w lo B e v ls
  | .cpy has l => CpN w lo has v l
section
variable {w w' : World} {B lo hi hi' m : Nat} {v x : Value} {T : TypeId} {cs : Array Value} {fs : List Fld} {f : Fld} {S : List Nat} {i : Nat} {has : Bool} {xs : List UInt8}
theorem CpN.upd (h : CpN w lo has v xs) (hu : Upd S w w') (hS : ∀ g, v.ownBlock = some g → g ∉ S) : CpN w' lo has v xs := by
  rcases h with ⟨h1, g, c, e, h2, h3, h4, h5⟩ | h
  · refine .inl ⟨h1, g, c, e, h2, h3, h4, (hu.block g (Array.getElem?_eq_some_iff.1 h5).1 (hS g ?_)).trans h5⟩
    rw [e]; rfl
  · exact .inr h
theorem CpN.byt (h : CpN w lo has v xs) : Byt w w.heap.size v xs := by
  rcases h with ⟨h1, h2⟩ | ⟨h1, h2, h3⟩
  · exact h2.byt
  · subst h2 h3; exact Row.nil_ _ _
theorem CpN.nil (h : CpN w lo has v xs) : ∃ A c, v = .slice A xs.length c ∧ A.isNone = !has := by
  rcases h with ⟨h1, g, c, e, -⟩ | ⟨h1, h2, h3⟩
  · exact ⟨_, _, e, by rw [h1]; rfl⟩
  · subst h2 h3; exact ⟨none, 0, rfl, by rw [h1]; rfl⟩
theorem FOk.upd (h : FOk w B lo v f) (hu : Upd S w w') (hB : ∀ k ∈ S, B ≤ k) (hS : f.isOwn = true → ∀ g, v.ownBlock = some g → g ∉ S) : FOk w' B lo v f := by
  cases f with
  | val u => exact h
  | byt l => exact Row.upd h hu hB
  | row e us => exact Own.upd h hu (hS rfl)
  | vec ls => exact Vecs.upd h hu (hS rfl) hB
  | prs e ls => exact Prs.upd h hu (hS rfl) hB
  | cpy has l => exact CpN.upd h hu (hS rfl)
structure MSt (w : World) (B lo hi m : Nat) (T : TypeId) (cs : Array Value) (fs : List Fld) : Prop where
  blk : Blk w m T cs
  len : cs.size = fs.length
  ok : ∀ (i : Nat) (v : Value) (f : Fld), cs[i]? = some v → fs[i]? = some f → FOk w B lo v f
  own : ∀ (i : Nat) (v : Value) (f : Fld) (g : Nat), cs[i]? = some v → fs[i]? = some f → f.isOwn = true → v.ownBlock = some g → lo ≤ g ∧ g < hi
  ap : ∀ (i j : Nat) (vi vj : Value) (fi fj : Fld) (g : Nat), i ≠ j → cs[i]? = some vi → cs[j]? = some vj → fs[i]? = some fi → fs[j]? = some fj → fi.isOwn = true → fj.isOwn = true → vi.ownBlock = some g → vj.ownBlock ≠ some g
theorem MSt.get (h : MSt w B lo hi m T cs fs) (hf : fs[i]? = some f) : ∃ v, cs[i]? = some v ∧ FOk w B lo v f := by
  have hi : i < cs.size := by rw [h.len]; exact (List.getElem?_eq_some_iff.1 hf).1
  exact ⟨cs[i], Array.getElem?_eq_getElem hi, h.ok i _ f (Array.getElem?_eq_getElem hi) hf⟩
theorem MSt.cell (h : MSt w B lo hi m T cs fs) (hc : cs[i]? = some v) : w.cell? ⟨m, i, none⟩ = some v := (h.blk.cell i).trans hc
theorem MSt.wide (h : MSt w B lo hi m T cs fs) (hh : hi ≤ hi') : MSt w B lo hi' m T cs fs :=
  ⟨h.blk, h.len, h.ok, fun i v f g h1 h2 h3 h4 => ⟨(h.own i v f g h1 h2 h3 h4).1, Nat.lt_of_lt_of_le (h.own i v f g h1 h2 h3 h4).2 hh⟩, h.ap⟩
theorem MSt.upd (h : MSt w B lo hi m T cs fs) (hu : Upd S w w') (hS : ∀ k ∈ S, B ≤ k ∧ k ≠ m ∧ (k < lo ∨ hi ≤ k)) : MSt w' B lo hi m T cs fs := by
  refine ⟨h.blk.upd hu (fun hm => (hS m hm).2.1 rfl), h.len, fun i v f h1 h2 => (h.ok i v f h1 h2).upd hu (fun k hk => (hS k hk).1) fun h3 g h4 hm => ?_, h.own, h.ap⟩
  have := h.own i v f g h1 h2 h3 h4
  have := hS g hm
  omega
theorem MSt.put (h : MSt w B lo hi m T cs fs) (_ : m < lo) (hu : Upd S w w') (hS : ∀ k ∈ S, B ≤ k ∧ (k < lo ∨ hi ≤ k ∨ ∃ v f0, cs[i]? = some v ∧ fs[i]? = some f0 ∧ f0.isOwn = true ∧ v.ownBlock = some k))
    (hb : Blk w' m T (cs.setIfInBounds i x)) (hf : FOk w' B lo x f) (hx : f.isOwn = true → ∀ g, x.ownBlock = some g → (hi ≤ g ∧ lo ≤ g ∧ g < hi') ∨ ∃ v f0, cs[i]? = some v ∧ fs[i]? = some f0 ∧ f0.isOwn = true ∧ v.ownBlock = some g) (hh : hi ≤ hi') :
    MSt w' B lo hi' m T (cs.setIfInBounds i x) (fs.set i f) := by
  have oth : ∀ {j : Nat} {v : Value} {g0 : Fld}, j ≠ i → (cs.setIfInBounds i x)[j]? = some v → (fs.set i f)[j]? = some g0 → cs[j]? = some v ∧ fs[j]? = some g0 := by
    intro j v g0 hj h1 h2
    rw [Array.getElem?_setIfInBounds_ne (Ne.symm hj)] at h1
    rw [List.getElem?_set_ne (Ne.symm hj)] at h2
    exact ⟨h1, h2⟩
  have slf : ∀ {v : Value} {g0 : Fld}, (cs.setIfInBounds i x)[i]? = some v → (fs.set i f)[i]? = some g0 → v = x ∧ g0 = f := by
    intro v g0 h1 h2
    have hi1 : i < fs.length := by have := (List.getElem?_eq_some_iff.1 h2).1; simpa using this
    rw [Array.getElem?_setIfInBounds_self_of_lt (by rw [h.len]; exact hi1)] at h1
    rw [List.getElem?_set_self hi1] at h2
    exact ⟨(Option.some.inj h1).symm, (Option.some.inj h2).symm⟩
  refine ⟨hb, by simp [h.len], ?_, ?_, ?_⟩
  · intro j v g0 h1 h2
    by_cases hj : j = i
    · subst hj
      obtain ⟨rfl, rfl⟩ := slf h1 h2
      exact hf
    · obtain ⟨h3, h4⟩ := oth hj h1 h2
      refine (h.ok j v g0 h3 h4).upd hu (fun k hk => (hS k hk).1) fun h5 g h6 hm => ?_
      have hl := h.own j v g0 g h3 h4 h5 h6
      rcases (hS g hm).2 with h7 | h7 | ⟨vi, fi, k1, k2, k3, k4⟩
      · omega
      · omega
      · exact h.ap i j vi v fi g0 g (Ne.symm hj) k1 h3 k2 h4 k3 h5 k4 h6
  · intro j v g0 g h1 h2 h3 h4
    by_cases hj : j = i
    · subst hj
      obtain ⟨rfl, rfl⟩ := slf h1 h2
      rcases hx h3 g h4 with h5 | ⟨vi, fi, k1, k2, k3, k4⟩
      · exact ⟨h5.2.1, h5.2.2⟩
      · have := h.own j vi fi g k1 k2 k3 k4; omega
    · obtain ⟨k1, k2⟩ := oth hj h1 h2
      have := h.own j v g0 g k1 k2 h3 h4; omega
  · intro j k vj vk fj fk g hjk h1 h2 h3 h4 h5 h6 h7 h8
    by_cases hj : j = i
    · subst hj
      obtain ⟨rfl, rfl⟩ := slf h1 h3
      obtain ⟨k1, k2⟩ := oth (Ne.symm hjk) h2 h4
      have hl := h.own k vk fk g k1 k2 h6 h8
      rcases hx h5 g h7 with h9 | ⟨vi, fi, p1, p2, p3, p4⟩
      · omega
      · exact h.ap j k vi vk fi fk g hjk p1 k1 p2 k2 p3 h6 p4 h8
    · obtain ⟨p1, p2⟩ := oth hj h1 h3
      by_cases hk : k = i
      · subst hk
        obtain ⟨rfl, rfl⟩ := slf h2 h4
        have hl := h.own j vj fj g p1 p2 h5 h7
        rcases hx h6 g h8 with h9 | ⟨vi, fi, q1, q2, q3, q4⟩
        · omega
        · exact h.ap j k vj vi fj fi g hjk p1 q1 p2 q2 h5 q3 h7 q4
      · obtain ⟨q1, q2⟩ := oth hk h2 h4
        exact h.ap j k vj vk fj fk g hjk p1 q1 p2 q2 h5 h6 h7 h8
theorem MSt.putV (h : MSt w B lo hi m T cs fs) (hml : m < lo) (hu : Upd S w w') (hS : ∀ k ∈ S, B ≤ k ∧ (k < lo ∨ hi ≤ k)) (hb : Blk w' m T (cs.setIfInBounds i x)) (hf : FOk w' B lo x f) (ho : f.isOwn = false) : MSt w' B lo hi m T (cs.setIfInBounds i x) (fs.set i f) :=
  h.put hml hu (fun k hk => ⟨(hS k hk).1, (hS k hk).2.imp id .inl⟩) hb hf (fun e => by rw [ho] at e; cases e) (Nat.le_refl _)
theorem MSt.start {vs : List Value} (hb : Blk w m T vs.toArray) (h : All2 (fun v f => FOk w B lo v f ∧ (f.isOwn = true → v.ownBlock = none)) vs fs) : MSt w B lo hi m T vs.toArray fs := by
  have hl := h.length
  have key : ∀ (i : Nat) (v : Value) (f : Fld), vs.toArray[i]? = some v → fs[i]? = some f → FOk w B lo v f ∧ (f.isOwn = true → v.ownBlock = none) := by
    intro i v f h1 h2
    obtain ⟨hi2, e2⟩ := List.getElem?_eq_some_iff.1 h2
    have h1 : vs[i]? = some v := by simpa using h1
    obtain ⟨hi1, e1⟩ := List.getElem?_eq_some_iff.1 h1
    have := h.get i hi1 hi2
    rw [e1, e2] at this
    exact this
  refine ⟨hb, by simpa using hl, fun i v f h1 h2 => (key i v f h1 h2).1, fun i v f g h1 h2 h3 h4 => ?_, fun i j vi vj fi fj g _ h1 _ h3 _ h5 _ h7 => ?_⟩
  · rw [(key i v f h1 h2).2 h3] at h4; cases h4
  · rw [(key i vi fi h1 h3).2 h5] at h7; cases h7
theorem set_self {cs : Array Value} {i : Nat} {v : Value} (h : cs[i]? = some v) : cs.setIfInBounds i v = cs := by
  apply Array.ext_getElem?
  intro j
  by_cases hj : i = j
  · subst hj
    rw [Array.getElem?_setIfInBounds_self_of_lt (Array.getElem?_eq_some_iff.1 h).1, h]
  · rw [Array.getElem?_setIfInBounds_ne hj]
end
structure USt (w0 : World) (B m sx mb hi : Nat) (T : TypeId) (cs : Array Value) (fs : List Fld) (d : List UInt8) (n : Nat) (ks : List UInt16) (w : World) : Prop where
  sv : Sv w B sx d True
  ms : MSt w B (mb + 1) hi m T cs fs
  se : Seen w mb n ks
  up : Upd [m] w0 w
  lt : B ≤ m ∧ m < sx ∧ sx < mb ∧ mb < hi ∧ hi ≤ w.heap.size ∧ w0.heap.size ≤ sx
section
variable {w0 w w' : World} {B m sx mb hi hi' n : Nat} {v x : Value} {T : TypeId} {cs : Array Value} {fs : List Fld} {f : Fld} {S : List Nat} {i : Nat} {d : List UInt8} {ks : List UInt16}
theorem USt.upd (h : USt w0 B m sx mb hi T cs fs d n ks w) (hu : Upd S w w') (hS : ∀ k ∈ S, hi ≤ k) : USt w0 B m sx mb hi T cs fs d n ks w' := by
  obtain ⟨l1, l2, l3, l4, l5, l6⟩ := h.lt
  have hs := hu.size
  exact ⟨h.sv.upd hu (fun k hk => by have := hS k hk; omega) (fun hk => by have := hS _ hk; omega), h.ms.upd hu (fun k hk => by have := hS k hk; omega), h.se.upd hu (fun hk => by have := hS _ hk; omega),
    h.up.trans hu (fun k hk => .inr (by have := hS k hk; have := h.up.size; omega)), ⟨l1, l2, l3, l4, by omega, l6⟩⟩
theorem USt.next (h : USt w0 B m sx mb hi T cs fs d n ks w) {d' : List UInt8} (hu : Upd S w w') (hS : ∀ k ∈ S, hi ≤ k ∨ k = sx) (hs : Sv w' B sx d' True) : USt w0 B m sx mb hi T cs fs d' n ks w' := by
  obtain ⟨l1, l2, l3, l4, l5, l6⟩ := h.lt
  have hz := hu.size
  have hz0 := h.up.size
  exact ⟨hs, h.ms.upd hu (fun k hk => by have := hS k hk; omega), h.se.upd hu (fun hk => by have := hS _ hk; omega),
    h.up.trans hu (fun k hk => .inr (by have := hS k hk; omega)), ⟨l1, l2, l3, l4, by omega, l6⟩⟩
theorem USt.put (h : USt w0 B m sx mb hi T cs fs d n ks w) (hu : Upd S w w') (hS : ∀ k ∈ S, hi ≤ k ∨ k = m ∨ ∃ v f0, cs[i]? = some v ∧ fs[i]? = some f0 ∧ f0.isOwn = true ∧ v.ownBlock = some k)
    (hb : Blk w' m T (cs.setIfInBounds i x)) (hf : FOk w' B (mb + 1) x f) (hx : f.isOwn = true → ∀ g, x.ownBlock = some g → (hi ≤ g ∧ g < hi') ∨ ∃ v f0, cs[i]? = some v ∧ fs[i]? = some f0 ∧ f0.isOwn = true ∧ v.ownBlock = some g) (hh : hi ≤ hi') (hh2 : hi' ≤ w'.heap.size) :
    USt w0 B m sx mb hi' T (cs.setIfInBounds i x) (fs.set i f) d n ks w' := by
  obtain ⟨l1, l2, l3, l4, l5, l6⟩ := h.lt
  have hz := hu.size
  have hz0 := h.up.size
  have key : ∀ k ∈ S, hi ≤ k ∨ k = m ∨ (mb + 1 ≤ k ∧ ∃ v f0, cs[i]? = some v ∧ fs[i]? = some f0 ∧ f0.isOwn = true ∧ v.ownBlock = some k) := by
    intro k hk
    rcases hS k hk with h1 | h1 | ⟨v, f0, h1, h2, h3, h4⟩
    · exact .inl h1
    · exact .inr (.inl h1)
    · exact .inr (.inr ⟨(h.ms.own i v f0 k h1 h2 h3 h4).1, v, f0, h1, h2, h3, h4⟩)
  refine ⟨h.sv.upd hu (fun k hk => ?_) (fun hk => ?_), h.ms.put (by omega) hu (fun k hk => ?_) hb hf (fun ho g hg => ?_) hh, h.se.upd hu (fun hk => ?_), h.up.trans hu (fun k hk => ?_), ⟨l1, l2, l3, by omega, hh2, l6⟩⟩
  · rcases key k hk with h1 | h1 | ⟨h1, -⟩ <;> omega
  · rcases key _ hk with h1 | h1 | ⟨h1, -⟩ <;> omega
  · rcases key k hk with h1 | h1 | ⟨h1, h2⟩
    · exact ⟨by omega, .inr (.inl h1)⟩
    · exact ⟨by omega, .inl (by omega)⟩
    · exact ⟨by omega, .inr (.inr h2)⟩
  · rcases hx ho g hg with h1 | h1
    · exact .inl ⟨h1.1, by omega, h1.2⟩
    · exact .inr h1
  · rcases key _ hk with h1 | h1 | ⟨h1, -⟩ <;> omega
  · rcases key k hk with h1 | h1 | ⟨h1, -⟩
    · exact .inr (by omega)
    · exact .inl (by simp [h1])
    · exact .inr (by omega)
theorem USt.putV (h : USt w0 B m sx mb hi T cs fs d n ks w) (hu : Upd S w w') (hS : ∀ k ∈ S, hi ≤ k ∨ k = m) (hb : Blk w' m T (cs.setIfInBounds i x)) (hf : FOk w' B (mb + 1) x f) (ho : f.isOwn = false) : USt w0 B m sx mb hi T (cs.setIfInBounds i x) (fs.set i f) d n ks w' :=
  h.put hu (fun k hk => (hS k hk).imp id .inl) hb hf (fun e => by rw [ho] at e; cases e) (Nat.le_refl _) (Nat.le_trans h.lt.2.2.2.2.1 hu.size)
theorem USt.cast {fs' : List Fld} (h : USt w0 B m sx mb hi T cs fs d n ks w) (e : fs = fs') : USt w0 B m sx mb hi T cs fs' d n ks w := e ▸ h
theorem USt.wide (h : USt w0 B m sx mb hi T cs fs d n ks w) (hh : hi ≤ hi') (hh2 : hi' ≤ w.heap.size) : USt w0 B m sx mb hi' T cs fs d n ks w := by
  obtain ⟨l1, l2, l3, l4, l5, l6⟩ := h.lt
  exact ⟨h.sv, h.ms.wide hh, h.se, h.up, ⟨l1, l2, l3, by omega, hh2, l6⟩⟩
end
end Go.Proofs.YtaajmfgplhfncaaGreat
namespace Go.Proofs.YtaajmfgplhfncaaGreat
open Go.RowKit
set_option maxRecDepth 100000
def chFd (t : Ch) : List Fd := [.val (wv t.vers), .byt t.random, .byt t.sid, .row (t.suites.map wv), .byt t.comps, .val (strv t.host), .val (.bool t.ocsp), .row (t.curves.map wv), .byt t.pts, .val (.bool t.ticket), .byt t.tick, .row (t.sig.map wv), .row (t.sigc.map wv), .val (.bool t.rns), .byt t.rn, .val (.bool t.ems),
  .row (t.alpn.map strv), .val (.bool t.scts), .row (t.sv.map wv), .byt t.cookie, .row (t.kg.map wv), .lst t.kd, .val (.bool t.early), .byt t.modes, .lst t.pl, .row (t.pa.map uv), .lst t.pb, .val (.bool t.quic), .byt t.qtp, .byt t.ech, .row (t.exs.map wv)]
abbrev ChV := GV chFd
theorem ChV.ok : VOk 29 ChV := GV.ok (n := 31) (fun _ => rfl) (by kernel_rfl) Tryz.underlying29 rfl
theorem ChV.okT : VOk 72 ChV := GV.ok (n := 31) (fun _ => rfl) (by kernel_rfl) Tryz.underlying72 rfl
section
variable {w : World} {B : Nat} {cs : Array Value} {t : Ch}
theorem ChV.size (h : ChV w B (.agg cs) t) : 31 = cs.size := (GV.size h).symm
end
end Go.Proofs.YtaajmfgplhfncaaGreat

/- Messages of the package as arrays of cells: a list that says what each cell holds; slices of pairs that are read. -/
import Derived.Test.YtaajmfgplhfncaaGreatGV
import Derived.Test.YtaajmfgplhfncaaGreatPrs
namespace Go.Proofs.YtaajmfgplhfncaaGreat
open Go.RowKit
set_option maxRecDepth 100000

/-- a slice of pairs that is read -/
def PrR (w : World) (B : Nat) (v : Value) (ls : List (Cel × Cel)) : Prop :=
  ∃ (A : Option Addr) (c : Nat) (us : List (Value × Value)), v = .slice A ls.length c ∧ ls.length ≤ c ∧ c ≤ maxLen ∧ All2 (fun p c => COk w B p.1 c.1 ∧ COk w B p.2 c.2) us ls ∧
    (ls ≠ [] → ∃ b o, A = some ⟨b, o, none⟩ ∧ b < B ∧ ∀ j u, (prc us)[j]? = some u → w.cell? ⟨b, o + j, none⟩ = some u)
theorem prc_at : ∀ {us : List (Value × Value)} (k : Nat) (h : k < us.length), (prc us)[k * 2]? = some us[k].1 ∧ (prc us)[k * 2 + 1]? = some us[k].2
  | [], k, h => by simp at h
  | p :: us, 0, _ => ⟨rfl, rfl⟩
  | p :: us, k + 1, h => by
    have := prc_at (us := us) k (by simpa using h)
    have e1 : (k + 1) * 2 = k * 2 + 2 := by omega
    rw [e1]
    simpa [prc] using this
section
variable {w w' : World} {B B' lo : Nat} {v u : Value} {ls : List (Cel × Cel)} {S : List Nat} {e : TypeId} {c : Cel}
theorem COk.below (h : COk w B u c) (hb : Below B w w') : COk w' B u c := by
  cases c with
  | val v => exact h
  | byt l => exact Row.below h hb
theorem COk.more (h : COk w B u c) (hB : B ≤ B') : COk w B' u c := by
  cases c with
  | val v => exact h
  | byt l => exact Row.more h hB
theorem COk.shrink (h : COk w B u c) : COk w w.heap.size u c := by
  cases c with
  | val v => exact h
  | byt l => exact Row.shrink h
theorem PrR.below (h : PrR w B v ls) (hb : Below B w w') : PrR w' B v ls := by
  obtain ⟨A, c, us, rfl, h1, h2, h3, h4⟩ := h
  refine ⟨A, c, us, rfl, h1, h2, h3.imp fun _ _ hy => ⟨hy.1.below hb, hy.2.below hb⟩, fun hn => ?_⟩
  obtain ⟨b, o, rfl, hlt, hc⟩ := h4 hn
  exact ⟨b, o, rfl, hlt, fun j u hu => (hb.cell hlt).trans (hc j u hu)⟩
theorem PrR.upd (h : PrR w B v ls) (hu : Upd S w w') (hs : ∀ k ∈ S, B ≤ k) : PrR w' B v ls := by
  obtain ⟨A, c, us, rfl, h1, h2, h3, h4⟩ := h
  refine ⟨A, c, us, rfl, h1, h2, h3.imp fun _ _ hy => ⟨hy.1.upd hu hs, hy.2.upd hu hs⟩, fun hn => ?_⟩
  obtain ⟨b, o, rfl, hlt, hc⟩ := h4 hn
  exact ⟨b, o, rfl, hlt, fun j u hj => hu.cell (hc j u hj) (fun hm => by have := hs _ hm; simp only at this; omega)⟩
theorem PrR.shrink (h : PrR w B v ls) : PrR w w.heap.size v ls := by
  obtain ⟨A, c, us, rfl, h1, h2, h3, h4⟩ := h
  refine ⟨A, c, us, rfl, h1, h2, h3.imp fun _ _ hy => ⟨hy.1.shrink, hy.2.shrink⟩, fun hn => ?_⟩
  obtain ⟨b, o, rfl, hlt, hc⟩ := h4 hn
  have hl : us.length = ls.length := h3.length
  have hpos : 0 < ls.length := List.length_pos_iff.2 hn
  exact ⟨b, o, rfl, World.block_lt_of_cell? w _ (hc 0 _ (prc_at 0 (by omega)).1), hc⟩
theorem PrR.form (h : PrR w B v ls) : ∃ A c, v = .slice A ls.length c ∧ PrR w B (.slice A ls.length c) ls ∧ ls.length ≤ c ∧ c ≤ 9223372036854775807 := by
  have h0 := h
  obtain ⟨A, c, us, rfl, h1, h2, _⟩ := h
  exact ⟨A, c, rfl, h0, h1, by unfold maxLen at h2; omega⟩
theorem PrR.at_ {A : Option Addr} {n c : Nat} (h : PrR w B (.slice A n c) ls) {k : Nat} (hk : k < n) :
    ∃ b o, A = some ⟨b, o, none⟩ ∧ b < B ∧ ∃ hk' : k < ls.length, ∃ x y, w.cell? ⟨b, o + k * 2, none⟩ = some x ∧ w.cell? ⟨b, o + k * 2 + 1, none⟩ = some y ∧ COk w B x (ls[k]'hk').1 ∧ COk w B y (ls[k]'hk').2 := by
  obtain ⟨A1, c1, us, e, h1, h2, h3, h4⟩ := h
  injection e with e1 e2 e3
  subst e1 e2 e3
  obtain ⟨b, o, rfl, hb, hc⟩ := h4 (by intro e; simp [e] at hk)
  have hl : us.length = ls.length := h3.length
  obtain ⟨g1, g2⟩ := prc_at (us := us) k (by omega)
  have hy := h3.get k (by omega) hk
  refine ⟨b, o, rfl, hb, hk, _, _, hc _ _ g1, ?_, hy.1, hy.2⟩
  have := hc _ _ g2
  rw [Nat.add_assoc]
  exact this
theorem PrR.one (h : PrR w B v ls) : v.oneCell' = true := by
  obtain ⟨A, c, us, rfl, _⟩ := h
  rfl
theorem PrR.nil_ (w : World) (B : Nat) : PrR w B (.slice none 0 0) [] := ⟨none, 0, [], rfl, Nat.le_refl _, by unfold maxLen; omega, trivial, fun h => absurd rfl h⟩
theorem Prs.read (h : Prs w lo B e v ls) : PrR w w.heap.size v ls := by
  obtain ⟨us, h1, h2⟩ := h
  rcases h1.2 with ⟨rfl, h0⟩ | ⟨g, cap, cur, rfl, hb, hg, hn, hm, hs, ht⟩
  · have : ls = [] := List.eq_nil_of_length_eq_zero h0
    subst this
    exact PrR.nil_ _ _
  · refine ⟨some ⟨g, 0, none⟩, cap, us, rfl, hn, hm, h2.imp fun _ _ hy => ⟨hy.1.shrink, hy.2.shrink⟩, fun _ => ⟨g, 0, rfl, (Array.getElem?_eq_some_iff.1 hg).1, fun j u hu => ?_⟩⟩
    have := h1.cells (g := g) rfl j u hu
    rwa [add_lit] at this
end
/-- what a cell of the package's message holds: as in a message of the law's; a slice of pairs; bytes that are there or not -/
inductive Fm where
  | fd (f : Fd)
  | prs (ls : List (Cel × Cel))
  | cpy (has : Bool) (l : List UInt8)
def FmOk (w : World) (B : Nat) (v : Value) : Fm → Prop
  | .fd f => FdOk w B v f
  | .prs ls => PrR w B v ls
  | .cpy has l => ∃ (A : Option Addr) (c : Nat), v = .slice A l.length c ∧ A.isSome = has ∧ Byt w B (.slice A l.length c) l
section
variable {w w' : World} {B : Nat} {v : Value} {f : Fm} {S : List Nat}
theorem FdOk.below {f : Fd} (h : FdOk w B v f) (hb : Below B w w') : FdOk w' B v f := by
  cases f with
  | val u => exact h
  | byt l => exact Row.below h hb
  | row us => exact Row.below h hb
  | lst ls =>
    obtain ⟨vs, h1, h2⟩ := h
    exact ⟨vs, Row.below h1 hb, h2.imp fun _ _ hy => Row.below hy hb⟩
theorem FmOk.below (h : FmOk w B v f) (hb : Below B w w') : FmOk w' B v f := by
  cases f with
  | fd f => exact FdOk.below h hb
  | prs ls => exact PrR.below h hb
  | cpy has l =>
    obtain ⟨A, c, rfl, h1, h2⟩ := h
    exact ⟨A, c, rfl, h1, Row.below h2 hb⟩
theorem FmOk.upd (h : FmOk w B v f) (hu : Upd S w w') (hs : ∀ k ∈ S, B ≤ k) : FmOk w' B v f := by
  cases f with
  | fd f => exact FdOk.upd h hu hs
  | prs ls => exact PrR.upd h hu hs
  | cpy has l =>
    obtain ⟨A, c, rfl, h1, h2⟩ := h
    exact ⟨A, c, rfl, h1, Row.upd h2 hu hs⟩
theorem FmOk.shrink (h : FmOk w B v f) : FmOk w w.heap.size v f := by
  cases f with
  | fd f => exact FdOk.shrink h
  | prs ls => exact PrR.shrink h
  | cpy has l =>
    obtain ⟨A, c, rfl, h1, h2⟩ := h
    exact ⟨A, c, rfl, h1, Row.shrink h2⟩
theorem FmOk.one (h : FmOk w B v f) : v.oneCell' = true := by
  cases f with
  | fd f => exact FdOk.one h
  | prs ls => exact PrR.one h
  | cpy has l =>
    obtain ⟨A, c, rfl, h1, h2⟩ := h
    rfl
end
/-- the cells of the package's message -/
def TM (fs : List Fm) (cs : Array Value) (w : World) (B : Nat) : Prop := cs.size = fs.length ∧ ∀ (i : Nat) (v : Value) (f : Fm), cs[i]? = some v → fs[i]? = some f → FmOk w B v f
section
variable {w w' : World} {B i g : Nat} {v : Value} {fs : List Fm} {cs : Array Value} {f : Fm} {S : List Nat}
theorem TM.below (h : TM fs cs w B) (hb : Below B w w') : TM fs cs w' B := ⟨h.1, fun i v f h1 h2 => (h.2 i v f h1 h2).below hb⟩
theorem TM.upd (h : TM fs cs w B) (hu : Upd S w w') (hs : ∀ k ∈ S, B ≤ k) : TM fs cs w' B := ⟨h.1, fun i v f h1 h2 => (h.2 i v f h1 h2).upd hu hs⟩
theorem TM.shrink (h : TM fs cs w B) : TM fs cs w w.heap.size := ⟨h.1, fun i v f h1 h2 => (h.2 i v f h1 h2).shrink⟩
theorem TM.all (h : TM fs cs w B) : cs.all (·.oneCell') = true := by
  rw [Array.all_eq_true]
  intro i hi
  have hif : i < fs.length := by rw [← h.1]; exact hi
  exact (h.2 i _ _ (Array.getElem?_eq_getElem hi) (List.getElem?_eq_getElem hif)).one
theorem TM.at_ (h : TM fs cs w B) (hf : fs[i]? = some f) : ∃ v, cs[i]? = some v ∧ FmOk w B v f := by
  have hi : i < cs.size := by rw [h.1]; exact (List.getElem?_eq_some_iff.1 hf).1
  exact ⟨cs[i], Array.getElem?_eq_getElem hi, h.2 i _ f (Array.getElem?_eq_getElem hi) hf⟩
theorem TM.val (h : TM fs cs w B) {u : Value} (hf : fs[i]? = some (.fd (.val u))) : cs[i]? = some u := by
  obtain ⟨v, h1, h2, -⟩ := h.at_ hf
  rw [h1, h2]
theorem TM.byt (h : TM fs cs w B) {l : List UInt8} (hf : fs[i]? = some (.fd (.byt l))) : ∃ A c, cs[i]? = some (.slice A l.length c) ∧ Byt w B (.slice A l.length c) l := by
  obtain ⟨v, h1, h2⟩ := h.at_ hf
  obtain ⟨A, c, rfl, h3, -⟩ := Byt.form h2 rfl
  exact ⟨A, c, h1, h3⟩
theorem TM.row (h : TM fs cs w B) {us : List Value} (hf : fs[i]? = some (.fd (.row us))) {n : Nat} (hn : us.length = n) : ∃ A c, cs[i]? = some (.slice A n c) ∧ Row w B (.slice A n c) us := by
  obtain ⟨v, h1, h2⟩ := h.at_ hf
  obtain ⟨A, c, rfl, h3, -⟩ := Row.formN h2 hn
  exact ⟨A, c, h1, h3⟩
theorem TM.lst (h : TM fs cs w B) {ls : List (List UInt8)} (hf : fs[i]? = some (.fd (.lst ls))) : ∃ A c, cs[i]? = some (.slice A ls.length c) ∧ Lst w B (.slice A ls.length c) ls := by
  obtain ⟨v, h1, h2⟩ := h.at_ hf
  obtain ⟨A, c, rfl, h3, -⟩ := h2.form
  exact ⟨A, c, h1, h3⟩
theorem TM.prs (h : TM fs cs w B) {ls : List (Cel × Cel)} (hf : fs[i]? = some (.prs ls)) : ∃ A c, cs[i]? = some (.slice A ls.length c) ∧ PrR w B (.slice A ls.length c) ls := by
  obtain ⟨v, h1, h2⟩ := h.at_ hf
  obtain ⟨A, c, rfl, h3, -⟩ := h2.form
  exact ⟨A, c, h1, h3⟩
theorem TM.cpy (h : TM fs cs w B) {has : Bool} {l : List UInt8} (hf : fs[i]? = some (.cpy has l)) : ∃ A c, cs[i]? = some (.slice A l.length c) ∧ A.isSome = has ∧ Byt w B (.slice A l.length c) l := by
  obtain ⟨v, h1, A, c, rfl, h2, h3⟩ := h.at_ hf
  exact ⟨A, c, h1, h2, h3⟩
end
end Go.Proofs.YtaajmfgplhfncaaGreat

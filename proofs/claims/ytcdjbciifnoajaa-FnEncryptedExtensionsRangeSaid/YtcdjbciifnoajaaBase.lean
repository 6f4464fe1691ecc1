/- Words for memory: frames, blocks known whole, slices that read as lists. No program is named here. -/
import Derived.WalkKit
import Derived.Deep.Draws
namespace Go.Proofs.Ytcdjbciifnoajaa
open Go.RowKit

theorem hid {p : Prop} (h : p) : Hid p := h

/-- The world w' is w, but for the blocks in S and new ones. -/
structure Upd (S : List Nat) (w w' : World) : Prop where
  os : w'.os = w.os
  tape : w'.tape = w.tape
  output : w'.output = w.output
  size : w.heap.size ≤ w'.heap.size
  block : ∀ k, k < w.heap.size → k ∉ S → w'.heap[k]? = w.heap[k]?

section
variable {S S' : List Nat} {a b c w w' : World}
theorem Upd.refl (S : List Nat) (w : World) : Upd S w w := ⟨rfl, rfl, rfl, Nat.le_refl _, fun _ _ _ => rfl⟩
theorem Upd.trans (h : Upd S a b) (k : Upd S' b c) (hs : ∀ x ∈ S', x ∈ S ∨ a.heap.size ≤ x) : Upd S a c :=
  ⟨k.os.trans h.os, k.tape.trans h.tape, k.output.trans h.output, Nat.le_trans h.size k.size, fun i hi hn =>
    (k.block i (Nat.lt_of_lt_of_le hi h.size) (fun hm => by
      rcases hs i hm with h1 | h1
      · exact hn h1
      · omega)).trans (h.block i hi hn)⟩
theorem Upd.mono (h : Upd S a b) (hs : ∀ x ∈ S, x ∈ S' ∨ a.heap.size ≤ x) : Upd S' a b := (Upd.refl S' a).trans h hs
theorem Upd.drew (h : Upd S a w) : Upd S a w.drew := ⟨h.os, h.tape, h.output, h.size, h.block⟩
theorem Upd.drewN (h : Upd S a w) (n : Nat) : Upd S a (w.drewN n) := ⟨h.os, h.tape, h.output, h.size, h.block⟩
theorem Upd.alloc (h : Upd S a w) (o : Obj) : Upd S a (w.alloc o) :=
  ⟨h.os, h.tape, h.output, Nat.le_trans h.size (by simp), fun k hk hn => (Below.heap_alloc w o k (Nat.lt_of_lt_of_le hk h.size)).trans (h.block k hk hn)⟩
theorem Upd.setCell (h : Upd S a w) {p : Addr} (hp : p.block ∈ S ∨ a.heap.size ≤ p.block) (u : Value) : Upd S a (w.setCell p u) :=
  ⟨h.os, h.tape, h.output, by simpa [World.setCell] using h.size, fun k hk hn => (Below.heap_setCell w p u k (by
    rintro rfl
    rcases hp with hp | hp
    · exact hn hp
    · omega)).trans (h.block k hk hn)⟩
theorem Upd.grown {row : Option Nat} (h : Upd S a w) (hg : w.grownBy w' row) (hr : ∀ g, row = some g → g ∈ S ∨ a.heap.size ≤ g) : Upd S a w' :=
  ⟨hg.os.trans h.os, hg.tape.trans h.tape, hg.output.trans h.output, Nat.le_trans h.size hg.size, fun k hk hn =>
    (hg.block k (Nat.lt_of_lt_of_le hk h.size) (fun e => by
      rcases hr k e.symm with h1 | h1
      · exact hn h1
      · omega)).trans (h.block k hk hn)⟩
theorem Upd.below {B : Nat} (h : Upd S a b) (hB : B ≤ a.heap.size) (hs : ∀ x ∈ S, B ≤ x) : Below B a b :=
  ⟨h.os, h.tape, h.output, h.size, fun k hk => h.block k (by omega) (fun hm => by have := hs k hm; omega)⟩
theorem Upd.cell (h : Upd S a b) {p : Addr} {v : Value} (hc : a.cell? p = some v) (hn : p.block ∉ S) : b.cell? p = some v :=
  (World.cell?_of_block (h.block p.block (World.block_lt_of_cell? a p hc) hn)).trans hc

/-- Block g is just the cells cs, of element type t, none frozen. -/
def Blk (w : World) (g : Nat) (t : TypeId) (cs : Array Value) : Prop := w.heap[g]? = some (.cells cs t (0, 0))

variable {g : Nat} {t : TypeId} {cs : Array Value}
theorem Blk.lt (h : Blk w g t cs) : g < w.heap.size := by
  rcases Nat.lt_or_ge g w.heap.size with hlt | hge
  · exact hlt
  · unfold Blk at h; rw [Array.getElem?_eq_none hge] at h; cases h
theorem Blk.cell (h : Blk w g t cs) (i : Nat) : w.cell? ⟨g, i, none⟩ = cs[i]? := cell_of_row w g i cs t (0, 0) h
theorem Blk.frozen (h : Blk w g t cs) (i : Nat) : w.frozen? ⟨g, i, none⟩ = false := by
  unfold Blk at h
  simp [World.frozen?, h]
theorem Blk.new (w : World) (t : TypeId) (cs : Array Value) : Blk (w.alloc (.cells cs t)) w.heap.size t cs := heap_alloc_new w _
theorem Blk.drew (h : Blk w g t cs) : Blk w.drew g t cs := h
theorem Blk.drewN (h : Blk w g t cs) (n : Nat) : Blk (w.drewN n) g t cs := h
theorem Blk.alloc (h : Blk w g t cs) (o : Obj) : Blk (w.alloc o) g t cs := (Below.heap_alloc w o g h.lt).trans h
theorem Blk.set_ (h : Blk w g t cs) (i : Nat) (u : Value) : Blk (w.setCell ⟨g, i, none⟩ u) g t (cs.setIfInBounds i u) := by
  unfold Blk at h ⊢
  simp [World.setCell, Array.getElem?_modify, h]
theorem Blk.far (h : Blk w g t cs) {p : Addr} (hp : g ≠ p.block) (u : Value) : Blk (w.setCell p u) g t cs := (Below.heap_setCell w p u g hp).trans h
theorem Blk.upd (h : Blk w g t cs) (hu : Upd S w w') (hg : g ∉ S) : Blk w' g t cs := (hu.block g h.lt hg).trans h
theorem Blk.below {B : Nat} (h : Blk w g t cs) (hb : Below B w w') (hg : g < B) : Blk w' g t cs := (hb.block g hg).trans h
theorem Blk.grown {row : Option Nat} (h : Blk w g t cs) (hb : w.grownBy w' row) (hg : some g ≠ row) : Blk w' g t cs := (hb.block g h.lt hg).trans h
theorem Blk.ne_ {g' : Nat} {t' : TypeId} {cs' : Array Value} (h : Blk w g t cs) (h' : Blk w g' t' cs') (hne : t ≠ t') : g ≠ g' := by
  rintro rfl
  unfold Blk at h h'
  rw [h] at h'
  injection h' with h'
  injection h' with _ ht
  exact hne ht
end

/-- The value v is a slice (of one-cell elements) that reads as xs in w; its cells lie below block B. -/
def Row (w : World) (B : Nat) (v : Value) (xs : List Value) : Prop :=
  ∃ A c, v = .slice A xs.length c ∧ xs.length ≤ c ∧ c ≤ maxLen ∧ (A = none → c = 0) ∧
    (xs ≠ [] → ∃ b o, A = some ⟨b, o, none⟩ ∧ b < B ∧ ∀ j u, xs[j]? = some u → w.cell? ⟨b, o + j, none⟩ = some u)

theorem add_lit (b o n : Nat) : (⟨b, o, none⟩ : Addr).add n = ⟨b, o + n, none⟩ := by
  unfold Addr.add
  split
  · subst_vars; rfl
  · rfl

section
variable {w w' : World} {B B' : Nat} {v : Value} {xs : List Value} {S : List Nat}
theorem Row.nil_ (w : World) (B : Nat) : Row w B (.slice none 0 0) [] := ⟨none, 0, rfl, by simp, by simp, fun _ => rfl, fun h => absurd rfl h⟩
theorem Row.keep (h : Row w B v xs) (hk : ∀ p : Addr, ∀ u, p.block < B → w.cell? p = some u → w'.cell? p = some u) : Row w' B v xs := by
  obtain ⟨A, c, rfl, h1, h2, h3, h4⟩ := h
  refine ⟨A, c, rfl, h1, h2, h3, fun hn => ?_⟩
  obtain ⟨b, o, rfl, hb, hc⟩ := h4 hn
  exact ⟨b, o, rfl, hb, fun j u hu => hk _ _ hb (hc j u hu)⟩
theorem Row.more (h : Row w B v xs) (hB : B ≤ B') : Row w B' v xs := by
  obtain ⟨A, c, rfl, h1, h2, h3, h4⟩ := h
  refine ⟨A, c, rfl, h1, h2, h3, fun hn => ?_⟩
  obtain ⟨b, o, rfl, hb, hc⟩ := h4 hn
  exact ⟨b, o, rfl, by omega, hc⟩
theorem Row.below (h : Row w B v xs) (hb : Below B w w') : Row w' B v xs := h.keep fun _ _ hp hc => (hb.cell hp).trans hc
theorem Row.upd (h : Row w B v xs) (hu : Upd S w w') (hs : ∀ x ∈ S, B ≤ x) : Row w' B v xs :=
  h.keep fun p _ hp hc => hu.cell hc (fun hm => by have := hs _ hm; omega)
theorem Row.drew (h : Row w B v xs) : Row w.drew B v xs := h
theorem Row.drewN (h : Row w B v xs) (k : Nat) : Row (w.drewN k) B v xs := h
theorem Row.alloc (h : Row w B v xs) (o : Obj) : Row (w.alloc o) B v xs :=
  h.keep fun p _ _ hc => (World.cell?_alloc_lt w o p (World.block_lt_of_cell? w p hc)).trans hc
theorem Row.setCell (h : Row w B v xs) {p : Addr} (hB : B ≤ p.block) (u : Value) : Row (w.setCell p u) B v xs :=
  h.keep fun q _ hq hc => (World.cell?_setCell_other w p q u (fun e => by subst e; omega)).trans hc
/-- the row's block is none of S -/
theorem Row.apart (h : Row w B v xs) (hu : Upd S w w') (hs : ∀ g, v.ownBlock = some g → g ∉ S) : Row w' B v xs := by
  obtain ⟨A, c, rfl, h1, h2, h3, h4⟩ := h
  refine ⟨A, c, rfl, h1, h2, h3, fun hn => ?_⟩
  obtain ⟨b, o, rfl, hb, hc⟩ := h4 hn
  exact ⟨b, o, rfl, hb, fun j u hj => hu.cell (hc j u hj) (hs b rfl)⟩
theorem Row.at_ {A : Option Addr} {n c : Nat} (h : Row w B (.slice A n c) xs) {k : Nat} (hk : k < n) :
    ∃ b o, A = some ⟨b, o, none⟩ ∧ b < B ∧ ∃ hk' : k < xs.length, w.cell? ⟨b, o + k, none⟩ = some (xs[k]'hk') := by
  obtain ⟨A', c', e, h1, h2, h3, h4⟩ := h
  injection e with e1 e2 e3
  subst e1 e2 e3
  have hk' : k < xs.length := hk
  obtain ⟨b, o, rfl, hb, hc⟩ := h4 (by intro e; simp [e] at hk')
  exact ⟨b, o, rfl, hb, hk', hc k _ (List.getElem?_eq_getElem hk')⟩
theorem Row.len {A : Option Addr} {n c : Nat} (h : Row w B (.slice A n c) xs) : xs.length = n := by
  obtain ⟨A', c', e, _⟩ := h
  injection e with _ e2 _
  exact e2.symm
/-- 's[k:]', 's[:k:k]' and their kin -/
theorem Row.cutOff {A : Option Addr} {n c k : Nat} (h : Row w B (.slice A n c) xs) (hk : k ≤ n) (_hne : c ≠ k) :
    Row w B (.slice (A.map (·.add k)) (n - k) (c - k)) (xs.drop k) := by
  obtain ⟨A', c', e, h1, h2, h3, h4⟩ := h
  injection e with e1 e2 e3
  subst e1 e2 e3
  refine ⟨A.map (·.add k), c - k, by rw [List.length_drop], by rw [List.length_drop]; omega, by omega, fun hA => ?_, fun hn => ?_⟩
  · cases A with
    | none => have := h3 rfl; omega
    | some a => cases hA
  · obtain ⟨b, o, rfl, hb, hc⟩ := h4 (by intro e; simp [e] at hn)
    refine ⟨b, o + k, by rw [Option.map_some, add_lit], hb, fun j u hj => ?_⟩
    rw [List.getElem?_drop] at hj
    rw [Nat.add_assoc]
    exact hc _ u hj
theorem Row.cutEnd {A : Option Addr} {n c k : Nat} (h : Row w B (.slice A n c) xs) (hk : k ≤ n) (he : c = k) :
    Row w B (.slice A (n - k) 0) (xs.drop k) := by
  obtain ⟨A', c', e, h1, h2, h3, h4⟩ := h
  injection e with e1 e2 e3
  subst e1 e2 e3
  have hl : xs.length = k := by omega
  have hd : xs.drop k = [] := by rw [List.drop_eq_nil_iff]; omega
  rw [hd]
  exact ⟨A, 0, by simp; omega, by simp, by omega, fun _ => rfl, fun h => absurd rfl h⟩
theorem Row.cut {A : Option Addr} {n c k : Nat} (h : Row w B (.slice A n c) xs) (hk : k ≤ n) :
    Row w B (.slice (if c = k then A else A.map (·.add k)) (n - k) (c - k)) (xs.drop k) := by
  split
  · rename_i he
    have := h.cutEnd hk he
    rwa [show c - k = 0 by omega]
  · rename_i he
    exact h.cutOff hk he
theorem Row.takeTo {A : Option Addr} {n c k m : Nat} (h : Row w B (.slice A n c) xs) (hk : k ≤ n) (hm : k ≤ m) (hc' : m ≤ c) (h0 : A = none → m = 0) :
    Row w B (.slice A k m) (xs.take k) := by
  obtain ⟨A', c', e, h1, h2, h3, h4⟩ := h
  injection e with e1 e2 e3
  subst e1 e2 e3
  refine ⟨A, m, by rw [List.length_take]; congr 1; omega, by rw [List.length_take]; omega, by omega, h0, fun hn => ?_⟩
  obtain ⟨b, o, rfl, hb, hc⟩ := h4 (by intro e; simp [e] at hn)
  refine ⟨b, o, rfl, hb, fun j u hj => ?_⟩
  rw [List.getElem?_take] at hj
  split at hj
  · exact hc j u hj
  · cases hj
theorem Row.capNone {A : Option Addr} {n c : Nat} (h : Row w B (.slice A n c) xs) : A = none → c = 0 := by
  obtain ⟨A', c', e, h1, h2, h3, h4⟩ := h
  injection e with e1 e2 e3
  subst e1 e2 e3
  exact h3
theorem Row.lenCap {A : Option Addr} {n c : Nat} (h : Row w B (.slice A n c) xs) : n ≤ c ∧ c ≤ maxLen := by
  obtain ⟨A', c', e, h1, h2, h3, h4⟩ := h
  injection e with e1 e2 e3
  subst e1 e2 e3
  exact ⟨h1, h2⟩
end

/-- A byte as a value. -/
abbrev bv (u : UInt8) : Value := .int .u8 (u.toNat : Int)
/-- The slice value v reads as the bytes bs. -/
abbrev Byt (w : World) (B : Nat) (v : Value) (bs : List UInt8) : Prop := Row w B v (bs.map bv)

theorem Byt.cutOff {w : World} {B : Nat} {bs : List UInt8} {A : Option Addr} {n c k : Nat} (h : Byt w B (.slice A n c) bs) (hk : k ≤ n) (hne : c ≠ k) :
    Byt w B (.slice (A.map (·.add k)) (n - k) (c - k)) (bs.drop k) := by
  have := Row.cutOff h hk hne
  rwa [← List.map_drop] at this
theorem Byt.cutEnd {w : World} {B : Nat} {bs : List UInt8} {A : Option Addr} {n c k : Nat} (h : Byt w B (.slice A n c) bs) (hk : k ≤ n) (he : c = k) :
    Byt w B (.slice A (n - k) 0) (bs.drop k) := by
  have := Row.cutEnd h hk he
  rwa [← List.map_drop] at this
theorem Byt.takeTo {w : World} {B : Nat} {bs : List UInt8} {A : Option Addr} {n c k m : Nat} (h : Byt w B (.slice A n c) bs) (hk : k ≤ n) (hm : k ≤ m) (hc' : m ≤ c) (h0 : A = none → m = 0) :
    Byt w B (.slice A k m) (bs.take k) := by
  have := Row.takeTo h hk hm hc' h0
  rwa [← List.map_take] at this
theorem Byt.len {w : World} {B : Nat} {bs : List UInt8} {A : Option Addr} {n c : Nat} (h : Byt w B (.slice A n c) bs) : bs.length = n := by
  have := Row.len h
  simpa using this

theorem Row.formN {w : World} {B : Nat} {v : Value} {xs : List Value} (h : Row w B v xs) {n : Nat} (hn : xs.length = n) : ∃ A c, v = .slice A n c ∧ Row w B (.slice A n c) xs ∧ n ≤ c ∧ c ≤ 9223372036854775807 := by
  subst hn
  have h0 := h
  obtain ⟨A, c, rfl, h1, h2, _⟩ := h
  exact ⟨A, c, rfl, h0, h1, h2⟩
theorem Byt.form {w : World} {B : Nat} {v : Value} {bs : List UInt8} (h : Byt w B v bs) {n : Nat} (hn : bs.length = n) : ∃ A c, v = .slice A n c ∧ Byt w B (.slice A n c) bs ∧ n ≤ c ∧ c ≤ 9223372036854775807 := by
  have h0 := h
  obtain ⟨A, c, rfl, h1, h2, _⟩ := h
  rw [List.length_map, hn] at h0 h1
  refine ⟨A, c, ?_, h0, h1, h2⟩
  rw [List.length_map, hn]
theorem Byt.at_ {w : World} {B : Nat} {A : Option Addr} {n c : Nat} {bs : List UInt8} (h : Byt w B (.slice A n c) bs) {k : Nat} (hk : k < n) :
    ∃ b o, A = some ⟨b, o, none⟩ ∧ b < B ∧ ∃ hk' : k < bs.length, w.cell? ⟨b, o + k, none⟩ = some (bv (bs[k]'hk')) := by
  obtain ⟨b, o, h1, h2, h3, h4⟩ := Row.at_ h hk
  refine ⟨b, o, h1, h2, by simpa using h3, ?_⟩
  rw [h4, List.getElem_map]
theorem ofInt_i64 (a : Nat) (ha : a < 9223372036854775808) : (BitVec.ofInt 64 (a : Int)).toNat = a := by
  rw [BitVec.ofInt_natCast, BitVec.toNat_ofNat]; exact Nat.mod_eq_of_lt (by omega)
theorem i64_or_nat (a b : Nat) (ha : a < 9223372036854775808) (hb : b < 9223372036854775808) : bits .or .i64 (a : Int) (b : Int) = ((a ||| b : Nat) : Int) := by
  have hx : a ||| b < 2 ^ 63 := Nat.or_lt_two_pow (by omega) (by omega)
  show IntKind.i64.wrap ((BitVec.ofInt 64 (a : Int) ||| BitVec.ofInt 64 (b : Int)).toNat : Int) = _
  rw [BitVec.toNat_or, ofInt_i64 a ha, ofInt_i64 b hb, IntKind.wrap_i64]
  omega
theorem or_byte (a u : Nat) (ha : a < 1099511627776) (hu : u < 256) : bits .or .i64 ((a : Int) * 256) (u : Int) = ((a * 256 + u : Nat) : Int) := by
  have h : ((a : Int) * 256) = ((a * 256 : Nat) : Int) := by omega
  rw [h, i64_or_nat _ _ (by omega) (by omega)]
  have := Nat.shiftLeft_add_eq_or_of_lt (i := 8) (b := u) (by omega) a
  rw [Nat.shiftLeft_eq] at this
  rw [← this]

/-- the value v is a slice of whatever kind -/
def isSlice (v : Value) : Prop := ∃ A n c, v = .slice A n c
theorem Row.form {w : World} {B : Nat} {v : Value} {xs : List Value} (h : Row w B v xs) : ∃ A c, v = .slice A xs.length c := by
  obtain ⟨A, c, rfl, _⟩ := h
  exact ⟨A, c, rfl⟩

/-- The slice value v owns its row: a new block of element type e whose head reads as xs. -/
abbrev Own (w : World) (base : Nat) (e : TypeId) (v : Value) (xs : List Value) : Prop := w.ownsRow base e 1 v xs.length xs
theorem Own.row {w : World} {base : Nat} {e : TypeId} {v : Value} {xs : List Value} (h : Own w base e v xs) : Row w w.heap.size v xs := by
  rcases h.2 with ⟨rfl, h0⟩ | ⟨g, cap, cur, rfl, hb, hg, hn, hm, hs, ht⟩
  · have : xs = [] := List.eq_nil_of_length_eq_zero h0
    subst this
    exact Row.nil_ _ _
  · refine ⟨some ⟨g, 0, none⟩, cap, rfl, hn, hm, fun e => by (cases e), fun _ => ⟨g, 0, rfl, (Array.getElem?_eq_some_iff.1 hg).1, fun j u hu => ?_⟩⟩
    have := h.cells (g := g) rfl j u hu
    rwa [add_lit] at this


/-- a law answers true; nothing of what was there has turned -/
def LawP (w : World) (e : Ending) (w' : World) : Prop := e = .returned (.bool true) ∧ Upd [] w w'
end Go.Proofs.Ytcdjbciifnoajaa

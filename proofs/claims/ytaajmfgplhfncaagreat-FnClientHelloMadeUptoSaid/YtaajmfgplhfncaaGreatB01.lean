/- Texts joined: Base, Append, Model, ModelW, Reader, Reader2, Reader3, Reader4, Reader5. -/
import Derived.WalkKit
import Derived.Deep.Draws
import Derived.Maps.AppendAt
import Derived.RegionTactic
import Derived.OwnWalk
import Derived.Test.YtaajmfgplhfncaaGreatChecked
import Derived.BigQuiet
import Derived.Deep.QuietTactic
import Derived.Deep.LoopGhost
import Derived.Deep.DeepMust
namespace Go.Proofs.YtaajmfgplhfncaaGreat
open Go.RowKit
theorem hid {p : Prop} (h : p) : Hid p := h
structure Upd (S : List Nat) (w w' : World) : Prop where
  os : w'.os = w.os
  tape : w'.tape = w.tape
  output : w'.output = w.output
  size : w.heap.size ≤ w'.heap.size
  block : ∀ k, k < w.heap.size → k ∉ S → w'.heap[k]? = w.heap[k]?
section
variable {S S' : List Nat} {a b c w w' : World}
theorem Upd.refl (S : List Nat) (w : World) : Upd S w w := ⟨rfl, rfl, rfl, Nat.le_refl _, fun _ _ _ => rfl⟩
theorem Upd.trans (h : Upd S a b) (k : Upd S' b c) (hs : ∀ x ∈ S', x ∈ S ∨ a.heap.size ≤ x) : Upd S a c :=
  ⟨k.os.trans h.os, k.tape.trans h.tape, k.output.trans h.output, Nat.le_trans h.size k.size, fun i hi hn =>
    (k.block i (Nat.lt_of_lt_of_le hi h.size) (fun hm => by
      rcases hs i hm with h1 | h1
      · exact hn h1
      · omega)).trans (h.block i hi hn)⟩
theorem Upd.mono (h : Upd S a b) (hs : ∀ x ∈ S, x ∈ S' ∨ a.heap.size ≤ x) : Upd S' a b := (Upd.refl S' a).trans h hs
theorem Upd.drew (h : Upd S a w) : Upd S a w.drew := ⟨h.os, h.tape, h.output, h.size, h.block⟩
theorem Upd.drewN (h : Upd S a w) (n : Nat) : Upd S a (w.drewN n) := ⟨h.os, h.tape, h.output, h.size, h.block⟩
theorem Upd.alloc (h : Upd S a w) (o : Obj) : Upd S a (w.alloc o) :=
  ⟨h.os, h.tape, h.output, Nat.le_trans h.size (by simp), fun k hk hn => (Below.heap_alloc w o k (Nat.lt_of_lt_of_le hk h.size)).trans (h.block k hk hn)⟩
theorem Upd.setCell (h : Upd S a w) {p : Addr} (hp : p.block ∈ S ∨ a.heap.size ≤ p.block) (u : Value) : Upd S a (w.setCell p u) :=
  ⟨h.os, h.tape, h.output, by simpa [World.setCell] using h.size, fun k hk hn => (Below.heap_setCell w p u k (by
    rintro rfl
    rcases hp with hp | hp
    · exact hn hp
    · omega)).trans (h.block k hk hn)⟩
theorem Upd.grown {row : Option Nat} (h : Upd S a w) (hg : w.grownBy w' row) (hr : ∀ g, row = some g → g ∈ S ∨ a.heap.size ≤ g) : Upd S a w' :=
  ⟨hg.os.trans h.os, hg.tape.trans h.tape, hg.output.trans h.output, Nat.le_trans h.size hg.size, fun k hk hn =>
    (hg.block k (Nat.lt_of_lt_of_le hk h.size) (fun e => by
      rcases hr k e.symm with h1 | h1
      · exact hn h1
      · omega)).trans (h.block k hk hn)⟩
theorem Upd.below {B : Nat} (h : Upd S a b) (hB : B ≤ a.heap.size) (hs : ∀ x ∈ S, B ≤ x) : Below B a b :=
  ⟨h.os, h.tape, h.output, h.size, fun k hk => h.block k (by omega) (fun hm => by have := hs k hm; omega)⟩
theorem Upd.cell (h : Upd S a b) {p : Addr} {v : Value} (hc : a.cell? p = some v) (hn : p.block ∉ S) : b.cell? p = some v :=
  (World.cell?_of_block (h.block p.block (World.block_lt_of_cell? a p hc) hn)).trans hc
def Blk (w : World) (g : Nat) (t : TypeId) (cs : Array Value) : Prop := w.heap[g]? = some (.cells cs t (0, 0))
variable {g : Nat} {t : TypeId} {cs : Array Value}
theorem Blk.lt (h : Blk w g t cs) : g < w.heap.size := by
  rcases Nat.lt_or_ge g w.heap.size with hlt | hge
  · exact hlt
  · unfold Blk at h; rw [Array.getElem?_eq_none hge] at h; cases h
theorem Blk.cell (h : Blk w g t cs) (i : Nat) : w.cell? ⟨g, i, none⟩ = cs[i]? := cell_of_row w g i cs t (0, 0) h
theorem Blk.frozen (h : Blk w g t cs) (i : Nat) : w.frozen? ⟨g, i, none⟩ = false := by
  unfold Blk at h
  simp [World.frozen?, h]
theorem Blk.new (w : World) (t : TypeId) (cs : Array Value) : Blk (w.alloc (.cells cs t)) w.heap.size t cs := heap_alloc_new w _
theorem Blk.drew (h : Blk w g t cs) : Blk w.drew g t cs := h
theorem Blk.drewN (h : Blk w g t cs) (n : Nat) : Blk (w.drewN n) g t cs := h
theorem Blk.alloc (h : Blk w g t cs) (o : Obj) : Blk (w.alloc o) g t cs := (Below.heap_alloc w o g h.lt).trans h
theorem Blk.set_ (h : Blk w g t cs) (i : Nat) (u : Value) : Blk (w.setCell ⟨g, i, none⟩ u) g t (cs.setIfInBounds i u) := by
  unfold Blk at h ⊢
  simp [World.setCell, Array.getElem?_modify, h]
theorem Blk.far (h : Blk w g t cs) {p : Addr} (hp : g ≠ p.block) (u : Value) : Blk (w.setCell p u) g t cs := (Below.heap_setCell w p u g hp).trans h
theorem Blk.upd (h : Blk w g t cs) (hu : Upd S w w') (hg : g ∉ S) : Blk w' g t cs := (hu.block g h.lt hg).trans h
theorem Blk.below {B : Nat} (h : Blk w g t cs) (hb : Below B w w') (hg : g < B) : Blk w' g t cs := (hb.block g hg).trans h
theorem Blk.grown {row : Option Nat} (h : Blk w g t cs) (hb : w.grownBy w' row) (hg : some g ≠ row) : Blk w' g t cs := (hb.block g h.lt hg).trans h
theorem Blk.ne_ {g' : Nat} {t' : TypeId} {cs' : Array Value} (h : Blk w g t cs) (h' : Blk w g' t' cs') (hne : t ≠ t') : g ≠ g' := by
  rintro rfl
  unfold Blk at h h'
  rw [h] at h'
  injection h' with h'
  injection h' with _ ht
  exact hne ht
end
def Row (w : World) (B : Nat) (v : Value) (xs : List Value) : Prop :=
  ∃ A c, v = .slice A xs.length c ∧ xs.length ≤ c ∧ c ≤ maxLen ∧ (A = none → c = 0) ∧
    (xs ≠ [] → ∃ b o, A = some ⟨b, o, none⟩ ∧ b < B ∧ ∀ j u, xs[j]? = some u → w.cell? ⟨b, o + j, none⟩ = some u)
theorem add_lit (b o n : Nat) : (⟨b, o, none⟩ : Addr).add n = ⟨b, o + n, none⟩ := by
  unfold Addr.add
  split
  · subst_vars; rfl
  · rfl
section
variable {w w' : World} {B B' : Nat} {v : Value} {xs : List Value} {S : List Nat}
theorem Row.nil_ (w : World) (B : Nat) : Row w B (.slice none 0 0) [] := ⟨none, 0, rfl, by simp, by simp, fun _ => rfl, fun h => absurd rfl h⟩
theorem Row.keep (h : Row w B v xs) (hk : ∀ p : Addr, ∀ u, p.block < B → w.cell? p = some u → w'.cell? p = some u) : Row w' B v xs := by
  obtain ⟨A, c, rfl, h1, h2, h3, h4⟩ := h
  refine ⟨A, c, rfl, h1, h2, h3, fun hn => ?_⟩
  obtain ⟨b, o, rfl, hb, hc⟩ := h4 hn
  exact ⟨b, o, rfl, hb, fun j u hu => hk _ _ hb (hc j u hu)⟩
theorem Row.more (h : Row w B v xs) (hB : B ≤ B') : Row w B' v xs := by
  obtain ⟨A, c, rfl, h1, h2, h3, h4⟩ := h
  refine ⟨A, c, rfl, h1, h2, h3, fun hn => ?_⟩
  obtain ⟨b, o, rfl, hb, hc⟩ := h4 hn
  exact ⟨b, o, rfl, by omega, hc⟩
theorem Row.below (h : Row w B v xs) (hb : Below B w w') : Row w' B v xs := h.keep fun _ _ hp hc => (hb.cell hp).trans hc
theorem Row.upd (h : Row w B v xs) (hu : Upd S w w') (hs : ∀ x ∈ S, B ≤ x) : Row w' B v xs :=
  h.keep fun p _ hp hc => hu.cell hc (fun hm => by have := hs _ hm; omega)
theorem Row.drew (h : Row w B v xs) : Row w.drew B v xs := h
theorem Row.drewN (h : Row w B v xs) (k : Nat) : Row (w.drewN k) B v xs := h
theorem Row.alloc (h : Row w B v xs) (o : Obj) : Row (w.alloc o) B v xs :=
  h.keep fun p _ _ hc => (World.cell?_alloc_lt w o p (World.block_lt_of_cell? w p hc)).trans hc
theorem Row.setCell (h : Row w B v xs) {p : Addr} (hB : B ≤ p.block) (u : Value) : Row (w.setCell p u) B v xs :=
  h.keep fun q _ hq hc => (World.cell?_setCell_other w p q u (fun e => by subst e; omega)).trans hc
theorem Row.apart (h : Row w B v xs) (hu : Upd S w w') (hs : ∀ g, v.ownBlock = some g → g ∉ S) : Row w' B v xs := by
  obtain ⟨A, c, rfl, h1, h2, h3, h4⟩ := h
  refine ⟨A, c, rfl, h1, h2, h3, fun hn => ?_⟩
  obtain ⟨b, o, rfl, hb, hc⟩ := h4 hn
  exact ⟨b, o, rfl, hb, fun j u hj => hu.cell (hc j u hj) (hs b rfl)⟩
theorem Row.at_ {A : Option Addr} {n c : Nat} (h : Row w B (.slice A n c) xs) {k : Nat} (hk : k < n) :
    ∃ b o, A = some ⟨b, o, none⟩ ∧ b < B ∧ ∃ hk' : k < xs.length, w.cell? ⟨b, o + k, none⟩ = some (xs[k]'hk') := by
  obtain ⟨A', c', e, h1, h2, h3, h4⟩ := h
  injection e with e1 e2 e3
  subst e1 e2 e3
  have hk' : k < xs.length := hk
  obtain ⟨b, o, rfl, hb, hc⟩ := h4 (by intro e; simp [e] at hk')
  exact ⟨b, o, rfl, hb, hk', hc k _ (List.getElem?_eq_getElem hk')⟩
theorem Row.len {A : Option Addr} {n c : Nat} (h : Row w B (.slice A n c) xs) : xs.length = n := by
  obtain ⟨A', c', e, _⟩ := h
  injection e with _ e2 _
  exact e2.symm
theorem Row.cutOff {A : Option Addr} {n c k : Nat} (h : Row w B (.slice A n c) xs) (hk : k ≤ n) (_hne : c ≠ k) :
    Row w B (.slice (A.map (·.add k)) (n - k) (c - k)) (xs.drop k) := by
  obtain ⟨A', c', e, h1, h2, h3, h4⟩ := h
  injection e with e1 e2 e3
  subst e1 e2 e3
  refine ⟨A.map (·.add k), c - k, by rw [List.length_drop], by rw [List.length_drop]; omega, by omega, fun hA => ?_, fun hn => ?_⟩
  · cases A with
    | none => have := h3 rfl; omega
    | some a => cases hA
  · obtain ⟨b, o, rfl, hb, hc⟩ := h4 (by intro e; simp [e] at hn)
    refine ⟨b, o + k, by rw [Option.map_some, add_lit], hb, fun j u hj => ?_⟩
    rw [List.getElem?_drop] at hj
    rw [Nat.add_assoc]
    exact hc _ u hj
theorem Row.cutEnd {A : Option Addr} {n c k : Nat} (h : Row w B (.slice A n c) xs) (hk : k ≤ n) (he : c = k) :
    Row w B (.slice A (n - k) 0) (xs.drop k) := by
  obtain ⟨A', c', e, h1, h2, h3, h4⟩ := h
  injection e with e1 e2 e3
  subst e1 e2 e3
  have hl : xs.length = k := by omega
  have hd : xs.drop k = [] := by rw [List.drop_eq_nil_iff]; omega
  rw [hd]
  exact ⟨A, 0, by simp; omega, by simp, by omega, fun _ => rfl, fun h => absurd rfl h⟩
theorem Row.takeTo {A : Option Addr} {n c k m : Nat} (h : Row w B (.slice A n c) xs) (hk : k ≤ n) (hm : k ≤ m) (hc' : m ≤ c) (h0 : A = none → m = 0) :
    Row w B (.slice A k m) (xs.take k) := by
  obtain ⟨A', c', e, h1, h2, h3, h4⟩ := h
  injection e with e1 e2 e3
  subst e1 e2 e3
  refine ⟨A, m, by rw [List.length_take]; congr 1; omega, by rw [List.length_take]; omega, by omega, h0, fun hn => ?_⟩
  obtain ⟨b, o, rfl, hb, hc⟩ := h4 (by intro e; simp [e] at hn)
  refine ⟨b, o, rfl, hb, fun j u hj => ?_⟩
  rw [List.getElem?_take] at hj
  split at hj
  · exact hc j u hj
  · cases hj
theorem Row.capNone {A : Option Addr} {n c : Nat} (h : Row w B (.slice A n c) xs) : A = none → c = 0 := by
  obtain ⟨A', c', e, h1, h2, h3, h4⟩ := h
  injection e with e1 e2 e3
  subst e1 e2 e3
  exact h3
theorem Row.lenCap {A : Option Addr} {n c : Nat} (h : Row w B (.slice A n c) xs) : n ≤ c ∧ c ≤ maxLen := by
  obtain ⟨A', c', e, h1, h2, h3, h4⟩ := h
  injection e with e1 e2 e3
  subst e1 e2 e3
  exact ⟨h1, h2⟩
end
abbrev bv (u : UInt8) : Value := .int .u8 (u.toNat : Int)
abbrev Byt (w : World) (B : Nat) (v : Value) (bs : List UInt8) : Prop := Row w B v (bs.map bv)
theorem Byt.cutOff {w : World} {B : Nat} {bs : List UInt8} {A : Option Addr} {n c k : Nat} (h : Byt w B (.slice A n c) bs) (hk : k ≤ n) (hne : c ≠ k) :
    Byt w B (.slice (A.map (·.add k)) (n - k) (c - k)) (bs.drop k) := by
  have := Row.cutOff h hk hne
  rwa [← List.map_drop] at this
theorem Byt.cutEnd {w : World} {B : Nat} {bs : List UInt8} {A : Option Addr} {n c k : Nat} (h : Byt w B (.slice A n c) bs) (hk : k ≤ n) (he : c = k) :
    Byt w B (.slice A (n - k) 0) (bs.drop k) := by
  have := Row.cutEnd h hk he
  rwa [← List.map_drop] at this
theorem Byt.takeTo {w : World} {B : Nat} {bs : List UInt8} {A : Option Addr} {n c k m : Nat} (h : Byt w B (.slice A n c) bs) (hk : k ≤ n) (hm : k ≤ m) (hc' : m ≤ c) (h0 : A = none → m = 0) :
    Byt w B (.slice A k m) (bs.take k) := by
  have := Row.takeTo h hk hm hc' h0
  rwa [← List.map_take] at this
theorem Byt.len {w : World} {B : Nat} {bs : List UInt8} {A : Option Addr} {n c : Nat} (h : Byt w B (.slice A n c) bs) : bs.length = n := by
  have := Row.len h
  simpa using this
theorem Row.formN {w : World} {B : Nat} {v : Value} {xs : List Value} (h : Row w B v xs) {n : Nat} (hn : xs.length = n) : ∃ A c, v = .slice A n c ∧ Row w B (.slice A n c) xs ∧ n ≤ c ∧ c ≤ 9223372036854775807 := by
  subst hn
  have h0 := h
  obtain ⟨A, c, rfl, h1, h2, _⟩ := h
  exact ⟨A, c, rfl, h0, h1, h2⟩
theorem Byt.form {w : World} {B : Nat} {v : Value} {bs : List UInt8} (h : Byt w B v bs) {n : Nat} (hn : bs.length = n) : ∃ A c, v = .slice A n c ∧ Byt w B (.slice A n c) bs ∧ n ≤ c ∧ c ≤ 9223372036854775807 := by
  have h0 := h
  obtain ⟨A, c, rfl, h1, h2, _⟩ := h
  rw [List.length_map, hn] at h0 h1
  refine ⟨A, c, ?_, h0, h1, h2⟩
  rw [List.length_map, hn]
theorem Byt.at_ {w : World} {B : Nat} {A : Option Addr} {n c : Nat} {bs : List UInt8} (h : Byt w B (.slice A n c) bs) {k : Nat} (hk : k < n) :
    ∃ b o, A = some ⟨b, o, none⟩ ∧ b < B ∧ ∃ hk' : k < bs.length, w.cell? ⟨b, o + k, none⟩ = some (bv (bs[k]'hk')) := by
  obtain ⟨b, o, h1, h2, h3, h4⟩ := Row.at_ h hk
  refine ⟨b, o, h1, h2, by simpa using h3, ?_⟩
  rw [h4, List.getElem_map]
theorem ofInt_i64 (a : Nat) (ha : a < 9223372036854775808) : (BitVec.ofInt 64 (a : Int)).toNat = a := by
  rw [BitVec.ofInt_natCast, BitVec.toNat_ofNat]; exact Nat.mod_eq_of_lt (by omega)
theorem i64_or_nat (a b : Nat) (ha : a < 9223372036854775808) (hb : b < 9223372036854775808) : bits .or .i64 (a : Int) (b : Int) = ((a ||| b : Nat) : Int) := by
  have hx : a ||| b < 2 ^ 63 := Nat.or_lt_two_pow (by omega) (by omega)
  show IntKind.i64.wrap ((BitVec.ofInt 64 (a : Int) ||| BitVec.ofInt 64 (b : Int)).toNat : Int) = _
  rw [BitVec.toNat_or, ofInt_i64 a ha, ofInt_i64 b hb, IntKind.wrap_i64]
  omega
theorem or_byte (a u : Nat) (ha : a < 1099511627776) (hu : u < 256) : bits .or .i64 ((a : Int) * 256) (u : Int) = ((a * 256 + u : Nat) : Int) := by
  have h : ((a : Int) * 256) = ((a * 256 : Nat) : Int) := by omega
  rw [h, i64_or_nat _ _ (by omega) (by omega)]
  have := Nat.shiftLeft_add_eq_or_of_lt (i := 8) (b := u) (by omega) a
  rw [Nat.shiftLeft_eq] at this
  rw [← this]
def isSlice (v : Value) : Prop := ∃ A n c, v = .slice A n c
theorem Row.form {w : World} {B : Nat} {v : Value} {xs : List Value} (h : Row w B v xs) : ∃ A c, v = .slice A xs.length c := by
  obtain ⟨A, c, rfl, _⟩ := h
  exact ⟨A, c, rfl⟩
abbrev Own (w : World) (base : Nat) (e : TypeId) (v : Value) (xs : List Value) : Prop := w.ownsRow base e 1 v xs.length xs
theorem Own.row {w : World} {base : Nat} {e : TypeId} {v : Value} {xs : List Value} (h : Own w base e v xs) : Row w w.heap.size v xs := by
  rcases h.2 with ⟨rfl, h0⟩ | ⟨g, cap, cur, rfl, hb, hg, hn, hm, hs, ht⟩
  · have : xs = [] := List.eq_nil_of_length_eq_zero h0
    subst this
    exact Row.nil_ _ _
  · refine ⟨some ⟨g, 0, none⟩, cap, rfl, hn, hm, fun e => by (cases e), fun _ => ⟨g, 0, rfl, (Array.getElem?_eq_some_iff.1 hg).1, fun j u hu => ?_⟩⟩
    have := h.cells (g := g) rfl j u hu
    rwa [add_lit] at this
def LawP (w : World) (e : Ending) (w' : World) : Prop := e = .returned (.bool true) ∧ Upd [] w w'
end Go.Proofs.YtaajmfgplhfncaaGreat
namespace Go.Proofs.YtaajmfgplhfncaaGreat
open Go.RowKit
section
variable {P : Program} (w : World)
theorem run_append_of_nil (base : Nat) (t ty e : TypeId) (i : TypeInfo) (size : Nat) (ht : P.underlying t = some (.slice e)) (hi : P.info? e = some i)
    (v : Value) (n : Nat) (xs : List Value) (hown : w.ownsRow base e size v n xs) (c : Nat) : (Builtin.append_ #[t, t] ty #[v, .slice none 0 c]).run P w = .ok v w := by
  rcases hown.2 with ⟨rfl, rfl⟩ | ⟨g, cap, cur, rfl, _, _, hnc, _⟩
  · simp [Builtin.append_, run_underlying ht, sizeOf, typeInfo, hi, Builtin.lenOf, Builtin.firstCells]
  · simp [Builtin.append_, run_underlying ht, sizeOf, typeInfo, hi, Builtin.lenOf, Builtin.firstCells, hnc, storeCells]
def Appended (w : World) (base : Nat) (e : TypeId) (v : Value) (zs : List Value) (v' : Value) (w' : World) : Prop :=
  Own w' base e v' zs ∧ Upd v.ownBlock.toList w w' ∧ (v'.ownBlock = v.ownBlock ∨ v'.ownBlock = some w.heap.size)
theorem upd_of_grown {w w' : World} {row : Option Nat} (h : w.grownBy w' row) : Upd row.toList w w' :=
  (Upd.refl _ _).grown h fun g hg => .inl (by subst hg; simp)
theorem run_append_row (base : Nat) (t ty e : TypeId) (z : Value) (bytes : Nat) (ht : P.underlying t = some (.slice e))
    (hinfo : (P.info? e).map (fun i => (i.zero, i.size, i.bytes)) = some (some z, 1, bytes)) (hzs : z.cells.size = 1)
    {v : Value} {xs : List Value} (hown : Own w base e v xs) {B : Nat} {x : Value} {news : List Value} (hr : Row w B x news) (h1 : ∀ u ∈ news, u.oneCell' = true)
    (hlen : (xs.length + news.length) * bytes ≤ 140737488355328) (hl63 : xs.length + news.length ≤ 140737488355328) (hbase : base ≤ w.heap.size) :
    ∃ v' w', (Builtin.append_ #[t, t] ty #[v, x]).run P w = .ok v' w' ∧ Appended w base e v (xs ++ news) v' w' := by
  obtain ⟨i, hi, hz, hsize, hby⟩ := info_parts hinfo
  obtain ⟨A, c, rfl, hc1, hc2, hcn, hcell⟩ := hr
  rcases A with _ | ad
  · have hc0 := hcn rfl
    subst hc0
    have hn : news = [] := List.eq_nil_of_length_eq_zero (by omega)
    subst hn
    exact ⟨v, w, run_append_of_nil w base t ty e i 1 ht hi v _ xs hown 0, by simpa using hown, Upd.refl _ _, .inl rfl⟩
  · have hcells : ∀ j u, news[j]? = some u → w.cell? (ad.add j) = some u := by
      intro j u hu
      obtain ⟨b, o, e, _, hc⟩ := hcell (by intro e; simp [e] at hu)
      injection e with e
      subst e
      rw [add_lit]
      exact hc j u hu
    obtain ⟨v', w', hrun, h2, h3, _, h5⟩ := run_append_own_at (P := P) w base t ty e i z 1 bytes ht hi hz hsize hby hzs (by omega) v xs.length xs hown ad news.length c news (by omega) hcells h1
      (by simp only [maxLen]; omega) hlen hbase
    refine ⟨v', w', hrun, ?_, upd_of_grown h3, h5⟩
    show w'.ownsRow base e 1 v' (xs ++ news).length (xs ++ news)
    rw [List.length_append]
    exact h2
theorem wp_append_row {o : Oper} {a : Act} {K : Act → World → Prop} {Q : Exit → Act → World → Prop} (s x : Operand) (t : TypeId)
    (ho : o.op = .call { callee := .builtin .append, args := #[s, x], argTypes := #[t, t] })
    (base : Nat) (e : TypeId) (z : Value) (bytes : Nat) (ht : P.underlying t = some (.slice e))
    (hinfo : (P.info? e).map (fun i => (i.zero, i.size, i.bytes)) = some (some z, 1, bytes)) (hzs : z.cells.size = 1)
    {v : Value} {xs : List Value} (hs : a.eval s = v) (hown : Own w base e v xs) {B : Nat} {xv : Value} {news : List Value} (hx : a.eval x = xv) (hr : Row w B xv news) (h1 : ∀ u ∈ news, u.oneCell' = true)
    (hlen : (xs.length + news.length) * bytes ≤ 140737488355328) (hl63 : xs.length + news.length ≤ 140737488355328) (hbase : base ≤ w.heap.size)
    (h : ∀ v' w', Appended w base e v (xs ++ news) v' w' → K (a.put o.dst v') w') : o.wp P a w K Q := by
  obtain ⟨v', w', hrun, h2⟩ := run_append_row (P := P) w base t o.type e z bytes ht hinfo hzs hown hr h1 hlen hl63 hbase
  unfold Oper.wp execOp
  simp only [ho, resolve, invoke, builtin, Sem.run_bind, Sem.run_pure, Result.andThen_ok, List.map_toArray, List.map_cons, List.map_nil, hs, hx, hrun]
  exact h v' w' h2
theorem wpList_append_row {ops : Array Oper} {rest : List Oper} {o : Oper} {a : Act} {Q : Exit → Act → World → Prop} (hgd : o.guard = none) (s x : Operand) (t : TypeId)
    (ho : o.op = .call { callee := .builtin .append, args := #[s, x], argTypes := #[t, t] })
    (base : Nat) (e : TypeId) (z : Value) (bytes : Nat) (ht : P.underlying t = some (.slice e))
    (hinfo : (P.info? e).map (fun i => (i.zero, i.size, i.bytes)) = some (some z, 1, bytes)) (hzs : z.cells.size = 1)
    {v : Value} {xs : List Value} (hs : a.eval s = v) (hown : Own w base e v xs) {B : Nat} {xv : Value} {news : List Value} (hx : a.eval x = xv) (hr : Row w B xv news) (h1 : ∀ u ∈ news, u.oneCell' = true)
    (hlen : (xs.length + news.length) * bytes ≤ 140737488355328) (hl63 : xs.length + news.length ≤ 140737488355328) (hbase : base ≤ w.heap.size)
    (h : ∀ v' w', Appended w base e v (xs ++ news) v' w' → wpList P ops Q rest (a.put o.dst v') w') : wpList P ops Q (o :: rest) a w :=
  wpList_plain hgd fun _ hK => wp_append_row w s x t ho base e z bytes ht hinfo hzs hs hown hx hr h1 hlen hl63 hbase fun v' w' h2 => hK _ _ (h v' w' h2)
theorem step_append_row {ops : Array Oper} {o : Oper} {a : Act} {K : Act → World → Prop} {Q : Exit → Act → World → Prop} {E : Prop} (hgd : o.guard = none) (s x : Operand) (t : TypeId)
    (ho : o.op = .call { callee := .builtin .append, args := #[s, x], argTypes := #[t, t] })
    (base : Nat) (e : TypeId) (z : Value) (bytes : Nat) (ht : P.underlying t = some (.slice e))
    (hinfo : (P.info? e).map (fun i => (i.zero, i.size, i.bytes)) = some (some z, 1, bytes)) (hzs : z.cells.size = 1)
    {v : Value} {xs : List Value} (hs : a.eval s = v) (hown : Own w base e v xs) {B : Nat} {xv : Value} {news : List Value} (hx : a.eval x = xv) (hr : Row w B xv news) (h1 : ∀ u ∈ news, u.oneCell' = true)
    (hlen : (xs.length + news.length) * bytes ≤ 140737488355328) (hl63 : xs.length + news.length ≤ 140737488355328) (hbase : base ≤ w.heap.size)
    (h : ∀ v' w', Appended w base e v (xs ++ news) v' w' → K (a.put o.dst v') w') :
    if Region.wanted o (yielded ops a.tmps) = true then Oper.wp P o a w K Q else E := by
  have hw : Region.wanted o (yielded ops a.tmps) = true := by simp [Region.wanted, hgd]
  rw [if_pos hw]
  exact wp_append_row w s x t ho base e z bytes ht hinfo hzs hs hown hx hr h1 hlen hl63 hbase h
end
theorem Row.one (w : World) (e : TypeId) (u : Value) : Row (w.alloc (.cells #[u] e)) (w.heap.size + 1) (.slice (some ⟨w.heap.size, 0, none⟩) 1 1) [u] :=
  ⟨some ⟨w.heap.size, 0, none⟩, 1, rfl, by simp, by unfold maxLen; omega, fun e => (by cases e), fun _ => ⟨w.heap.size, 0, rfl, by omega, fun j u' hj => by
    match j, hj with
    | 0, hj =>
      rw [(Blk.new w e _).cell]
      simpa using hj
    | j + 1, hj => simp at hj⟩⟩
section
variable {w w' : World} {base : Nat} {e : TypeId} {v : Value} {xs : List Value} {S : List Nat}
theorem Own.upd (h : Own w base e v xs) (hu : Upd S w w') (hs : ∀ g, v.ownBlock = some g → g ∉ S) : Own w' base e v xs := by
  refine ⟨h.1, ?_⟩
  rcases h.2 with hn | ⟨g, cap, cur, rfl, hb, hg, rest⟩
  · exact .inl hn
  · exact .inr ⟨g, cap, cur, rfl, hb, (hu.block g (Array.getElem?_eq_some_iff.1 hg).1 (hs g rfl)).trans hg, rest⟩
theorem Own.nil_ (w : World) (base : Nat) (e : TypeId) : Own w base e (.slice none 0 0) [] := World.ownsRow_nil w base e 1
theorem Own.ge (h : Own w base e v xs) {g : Nat} (hg : v.ownBlock = some g) : base ≤ g ∧ g < w.heap.size := World.ownsRow.lt h g hg
theorem Own.ne {g : Nat} {t : TypeId} {cs : Array Value} (h : Own w base e v xs) (hb : Blk w g t cs) (hne : e ≠ t) : ∀ k, v.ownBlock = some k → k ≠ g := by
  intro k hk
  rcases h.2 with ⟨rfl, _⟩ | ⟨g', cap, cur, rfl, _, hh, _⟩
  · simp [Value.ownBlock] at hk
  · have : g' = k := by simpa [Value.ownBlock] using hk
    subst this
    exact Blk.ne_ (t := e) hh hb hne
theorem Own.formN (h : Own w base e v xs) {n : Nat} (hn : xs.length = n) : ∃ A c, v = .slice A n c := by
  subst hn
  obtain ⟨A, c, e, _⟩ := h.row
  exact ⟨A, c, e⟩
theorem Own.form (h : Own w base e v xs) : ∃ A c, v = .slice A xs.length c ∧ xs.length ≤ c ∧ c ≤ 9223372036854775807 := by
  obtain ⟨A, c, e, h1, h2, _⟩ := h.row
  exact ⟨A, c, e, h1, h2⟩
end
theorem Appended.one {w w' : World} {base : Nat} {e : TypeId} {v v' : Value} {zs : List Value} {o : Obj} (h : Appended (w.alloc o) base e v zs v' w') :
    Own w' base e v' zs ∧ Upd v.ownBlock.toList w w' ∧ (v'.ownBlock = v.ownBlock ∨ ∃ g, v'.ownBlock = some g ∧ w.heap.size < g) := by
  obtain ⟨h1, h2, h3⟩ := h
  refine ⟨h1, (((Upd.refl v.ownBlock.toList w).alloc o).trans h2 fun x hx => .inl hx), ?_⟩
  · rcases h3 with h3 | h3
    · exact .inl h3
    · exact .inr ⟨_, h3, by simp⟩
end Go.Proofs.YtaajmfgplhfncaaGreat
namespace Go.Proofs.YtaajmfgplhfncaaGreat
structure R where
  bs : List UInt8
  code : Nat
def beNat (l : List UInt8) : Nat := l.foldl (fun n u => n * 256 + u.toNat) 0
theorem beNat_snoc (l : List UInt8) (u : UInt8) : beNat (l ++ [u]) = beNat l * 256 + u.toNat := by simp [beNat]
theorem beNat_lt (l : List UInt8) : beNat l < 256 ^ l.length := by
  suffices h : ∀ l : List UInt8, beNat l.reverse < 256 ^ l.length by have := h l.reverse; simpa using this
  intro l
  induction l with
  | nil => simp [beNat]
  | cons u l ih =>
    rw [List.reverse_cons, beNat_snoc, List.length_cons, Nat.pow_succ]
    have := u.toNat_lt
    omega
namespace R
def fail (s : R) (c : Nat) : R := ⟨[], if s.code = 0 then c else s.code⟩
def take (s : R) (k : Nat) : List UInt8 × R :=
  if s.bs.length < k then (List.replicate k 0, s.fail 3) else (s.bs.take k, ⟨s.bs.drop k, s.code⟩)
def num (s : R) (k : Nat) : Nat × R := (beNat (s.take k).1, (s.take k).2)
def long (s : R) (n : Nat) : R := if s.code = 0 ∧ s.bs.length < n then s.fail 3 else s
def rng (s : R) (n lo hi : Nat) : R := if n < lo ∨ hi < n then s.fail 2 else s
def vec (s : R) (size lo hi : Nat) : List UInt8 × R :=
  let n := (s.num size).1
  let s2 := (s.num size).2.long n
  if s2.code = 0 then ((s2.take n).1, (s2.take n).2.rng n lo hi) else ([], s2)
def fin (s : R) : R := if s.bs = [] then s else s.fail 3
def within (s : R) (b : List UInt8) : R := ⟨if s.code = 0 then b else [], s.code⟩
def done (s : R) (part : R) : R := if part.fin.code = 0 then s else s.fail part.fin.code
end R
def bodyR (kind : Nat) (data : List UInt8) : R :=
  let r : R := ⟨data, 0⟩
  if data.length < 4 then r.fail 1 else
  let s1 := (r.num 1).2
  let s1' := if (r.num 1).1 = kind then s1 else s1.fail 1
  let s2 := (s1'.num 3).2
  if (s1'.num 3).1 = s2.bs.length then s2 else s2.fail 1
theorem take_len (s : R) (k : Nat) : (s.take k).1.length = k := by
  unfold R.take
  split
  · simp
  · simp; omega
def wordsOf : List UInt8 → List UInt16
  | a :: b :: t => UInt16.ofNat (a.toNat * 256 + b.toNat) :: wordsOf t
  | [_] => [0]
  | [] => []
namespace R
def wEnd (x : R) : R := if x.bs.length % 2 = 0 then ⟨[], x.code⟩ else ⟨[], (x.fail 3).code⟩
def words (s : R) (b : List UInt8) : List UInt16 × R := (wordsOf (s.within b).bs, s.done (s.within b).wEnd)
def vecsGo (size low : Nat) : Nat → R → List (List UInt8) × R
  | 0, x => ([], x)
  | f + 1, x => if x.bs = [] then ([], x) else ((x.vec size low (256 ^ size - 1)).1 :: (vecsGo size low f (x.vec size low (256 ^ size - 1)).2).1, (vecsGo size low f (x.vec size low (256 ^ size - 1)).2).2)
def vectors (s : R) (b : List UInt8) (size low : Nat) : List (List UInt8) × R :=
  ((vecsGo size low (s.within b).bs.length (s.within b)).1, s.done (vecsGo size low (s.within b).bs.length (s.within b)).2)
end R
theorem fail_bs (s : R) (c : Nat) : (s.fail c).bs = [] := rfl
theorem take_bs_len (s : R) (k : Nat) : (s.take k).2.bs.length = s.bs.length - k := by
  unfold R.take
  split
  · rw [fail_bs]; simp; omega
  · simp
theorem vec_bs_len (s : R) (size lo hi : Nat) : (s.vec size lo hi).2.bs.length ≤ s.bs.length - size := by
  have h1 : (s.num size).2.bs.length = s.bs.length - size := take_bs_len s size
  have h2 : ((s.num size).2.long (s.num size).1).bs.length ≤ s.bs.length - size := by
    unfold R.long
    split
    · simp [fail_bs]
    · omega
  unfold R.vec
  simp only
  split
  · unfold R.rng
    split
    · simp [fail_bs]
    · rw [take_bs_len]; omega
  · exact h2
theorem vecsGo_eq (size low : Nat) (hs : 1 ≤ size) (f g : Nat) (x : R) (hf : x.bs.length ≤ f) (hg : x.bs.length ≤ g) : R.vecsGo size low f x = R.vecsGo size low g x := by
  induction f generalizing g x with
  | zero =>
    have hx : x.bs = [] := List.eq_nil_of_length_eq_zero (by omega)
    cases g with
    | zero => rfl
    | succ g => simp [R.vecsGo, hx]
  | succ f ih =>
    cases g with
    | zero =>
      have hx : x.bs = [] := List.eq_nil_of_length_eq_zero (by omega)
      simp [R.vecsGo, hx]
    | succ g =>
      unfold R.vecsGo
      have hv := vec_bs_len x size low (256 ^ size - 1)
      by_cases h : x.bs = []
      · rw [if_pos h, if_pos h]
      · have hp : 0 < x.bs.length := List.length_pos_iff.2 h
        rw [if_neg h, if_neg h, ih g _ (by omega) (by omega)]
theorem wEnd_two (a b : UInt8) (t : List UInt8) (c : Nat) : (R.mk (a :: b :: t) c).wEnd = (R.mk t c).wEnd := by
  unfold R.wEnd
  have h : (a :: b :: t).length % 2 = t.length % 2 := by simp only [List.length_cons]; omega
  simp only [h]
  rfl
def All2 {α β : Type} (p : α → β → Prop) : List α → List β → Prop
  | [], [] => True
  | a :: l, b :: m => p a b ∧ All2 p l m
  | _, _ => False
theorem All2.length {α β : Type} {p : α → β → Prop} {l : List α} {m : List β} (h : All2 p l m) : l.length = m.length := by
  induction l generalizing m with
  | nil => cases m with
    | nil => rfl
    | cons b m => exact h.elim
  | cons a l ih => cases m with
    | nil => exact h.elim
    | cons b m => simp [ih h.2]
theorem All2.imp {α β : Type} {p q : α → β → Prop} {l : List α} {m : List β} (h : All2 p l m) (hpq : ∀ a b, p a b → q a b) : All2 q l m := by
  induction l generalizing m with
  | nil => cases m with
    | nil => trivial
    | cons b m => exact h.elim
  | cons a l ih => cases m with
    | nil => exact h.elim
    | cons b m => exact ⟨hpq _ _ h.1, ih h.2⟩
theorem All2.snoc {α β : Type} {p : α → β → Prop} {l : List α} {m : List β} {a : α} {b : β} (h : All2 p l m) (hab : p a b) : All2 p (l ++ [a]) (m ++ [b]) := by
  induction l generalizing m with
  | nil => cases m with
    | nil => exact ⟨hab, trivial⟩
    | cons b m => exact h.elim
  | cons a l ih => cases m with
    | nil => exact h.elim
    | cons b m => exact ⟨h.1, ih h.2⟩
theorem All2.get {α β : Type} {p : α → β → Prop} {l : List α} {m : List β} (h : All2 p l m) (i : Nat) (hl : i < l.length) (hm : i < m.length) : p l[i] m[i] := by
  induction l generalizing m i with
  | nil => simp at hl
  | cons a l ih => cases m with
    | nil => exact h.elim
    | cons b m => cases i with
      | zero => exact h.1
      | succ i => exact ih h.2 i _ _
end Go.Proofs.YtaajmfgplhfncaaGreat
namespace Go.Proofs.YtaajmfgplhfncaaGreat
structure Wr where
  b : List UInt8
  bad : Bool
def be (size n : Nat) : List UInt8 := match size with
  | 0 => []
  | k + 1 => UInt8.ofNat (n / 256 ^ k) :: be k n
theorem be_len (size n : Nat) : (be size n).length = size := by
  induction size with
  | zero => rfl
  | succ k ih => simp [be, ih]
namespace Wr
def num (s : Wr) (size n : Nat) : Wr := ⟨s.b ++ be size n, s.bad⟩
def vec (s : Wr) (size : Nat) (c : List UInt8) : Wr := ⟨s.b ++ be size c.length ++ c, s.bad || decide (256 ^ size ≤ c.length)⟩
def inner (s : Wr) (size : Nat) (x : Wr) : Wr := Wr.vec ⟨s.b, s.bad || x.bad⟩ size x.b
def nil : Wr := ⟨[], false⟩
def vector (size : Nat) (x : Wr) : Wr := nil.inner size x
def plain (b : List UInt8) : Wr := ⟨b, false⟩
end Wr
def messageW (kind : Nat) (x : Wr) : Wr := (Wr.nil.num 1 kind).inner 3 x
end Go.Proofs.YtaajmfgplhfncaaGreat
namespace Go.Proofs.YtaajmfgplhfncaaGreat
open Go.RowKit
theorem info_u8 : (Tryz.prog.info? 5).map (fun i => (i.zero, i.size, i.bytes)) = some (some (.int .u8 0), 1, 1) := by kernel_rfl
theorem vec_eq (s : R) (size lo hi : Nat) {n : Nat} {s1 : R} (h : s.num size = (n, s1)) :
    s.vec size lo hi = if (s1.long n).code = 0 then (((s1.long n).take n).1, ((s1.long n).take n).2.rng n lo hi) else ([], s1.long n) := by
  simp [R.vec, h]
theorem num_lt (s : R) (size : Nat) (h : size ≤ 4) : (s.num size).1 < 4294967296 := by
  have h1 := beNat_lt (s.take size).1
  rw [take_len] at h1
  have h2 : 256 ^ size ≤ 256 ^ 4 := Nat.pow_le_pow_right (by omega) (by omega)
  show beNat (s.take size).1 < _
  omega
theorem Upd.two {S : List Nat} {a b c : World} (h : Upd S a b) (k : Upd S b c) : Upd S a c := h.trans k fun _ hx => .inl hx
def Rd (w : World) (N r : Nat) (s : R) : Prop := N ≤ r ∧ ∃ v, Blk w r 84 #[v, .int .i64 (s.code : Int)] ∧ Byt w N v s.bs
section
variable {w w' : World} {N r : Nat} {s : R} {S : List Nat}
theorem Rd.lt (h : Rd w N r s) : r < w.heap.size := by obtain ⟨_, v, hb, _⟩ := h; exact hb.lt
theorem Rd.upd (h : Rd w N r s) (hu : Upd S w w') (hs : ∀ x ∈ S, N ≤ x) (hr : r ∉ S) : Rd w' N r s := by
  obtain ⟨h1, v, h2, h3⟩ := h
  exact ⟨h1, v, h2.upd hu hr, h3.upd hu hs⟩
theorem Rd.stored {code : Int} {v v' : Value} {s' : R} (hb : Blk w r 84 #[v, .int .i64 code]) (hN : N ≤ r) {bs : List UInt8} (hv : Byt w N v' bs) (hs : s' = ⟨bs, s'.code⟩) :
    Rd ((w.setCell ⟨r, 1, none⟩ (.int .i64 (s'.code : Int))).setCell ⟨r, 0, none⟩ v') N r s' := by
  refine ⟨hN, v', ?_, ?_⟩
  · have := (hb.set_ 1 (.int .i64 (s'.code : Int))).set_ 0 v'
    simpa using this
  · rw [hs]
    exact (hv.setCell (p := ⟨r, 1, none⟩) hN _).setCell (p := ⟨r, 0, none⟩) hN _
theorem Rd.open_ (h : Rd w N r s) : ∃ A c, w.cell? ⟨r, 0, none⟩ = some (.slice A s.bs.length c) ∧ w.cell? ⟨r, 1, none⟩ = some (.int .i64 (s.code : Int)) ∧ w.frozen? ⟨r, 0, none⟩ = false ∧ w.frozen? ⟨r, 1, none⟩ = false ∧
    s.bs.length ≤ c ∧ c ≤ 9223372036854775807 := by
  obtain ⟨hN, v, hb, hv⟩ := h
  obtain ⟨A, c, rfl, hv', h1, h2⟩ := Byt.form hv rfl
  exact ⟨A, c, by rw [hb.cell]; rfl, by rw [hb.cell]; rfl, hb.frozen 0, hb.frozen 1, h1, h2⟩
theorem fail_any (hr : Rd w N r s) (c : Nat) :
    Calls Tryz.prog 48 #[.pointer (some ⟨r, 0, none⟩), .int .i64 c] w fun e w' => e = .returned (.tuple #[]) ∧ Upd [r] w w' ∧ Rd w' N r (s.fail c) := by
  obtain ⟨hN, v, hb, hv⟩ := hr
  have c0 : w.cell? ⟨r, 0, none⟩ = some v := by rw [hb.cell]; rfl
  have c1 : w.cell? ⟨r, 1, none⟩ = some (.int .i64 s.code) := by rw [hb.cell]; rfl
  have f0 : w.frozen? ⟨r, 0, none⟩ = false := hb.frozen 0
  have f1 : w.frozen? ⟨r, 1, none⟩ = false := hb.frozen 1
  by_cases h0 : s.code = 0
  · have hz : ((s.code : Int) == 0) = true := by simp [h0]
    have H0 : Hid (s.code = 0) := h0
    clear h0
    go_enter Tryz.func48, Tryz.ntmps48
    go_wp2
    go_end0
    refine ⟨rfl, ((Upd.refl _ _).setCell (by simp) _).setCell (by simp) _, ?_⟩
    have := Rd.stored (v' := .slice none 0 0) (bs := []) (s' := s.fail c) hb hN (Row.nil_ _ _) rfl
    simpa [R.fail, H0.out] using this
  · have hz : ((s.code : Int) == 0) = false := by rw [beq_eq_false_iff_ne]; omega
    go_enter Tryz.func48, Tryz.ntmps48
    go_wp2
    go_end0
    refine ⟨rfl, (Upd.refl _ _).setCell (by simp) _, hN, .slice none 0 0, ?_, ?_⟩
    · have := hb.set_ 0 (.slice none 0 0)
      simpa [R.fail, h0] using this
    · exact Row.nil_ _ _
def TakeP (w : World) (N r : Nat) (s : R) (k : Nat) (e : Ending) (w' : World) : Prop :=
  ∃ v, e = .returned v ∧ Upd [r] w w' ∧ Rd w' N r (s.take k).2 ∧ Byt w' w'.heap.size v (s.take k).1 ∧ (s.bs.length < k ∨ Byt w' N v (s.take k).1)
set_option maxHeartbeats 400000 in
theorem take_any (hr : Rd w N r s) (k : Nat) (hk : k ≤ 4294967296) :
    Calls Tryz.prog 45 #[.pointer (some ⟨r, 0, none⟩), .int .i64 k] w (TakeP w N r s k) := by
  have hr0 := hr
  obtain ⟨hN, v, hb, hv⟩ := hr
  obtain ⟨A, c, rfl⟩ := Row.form hv
  have hl := hv.lenCap
  have hcn := hv.capNone
  rw [List.length_map] at hv hb hl
  have hm := hl.2
  have hlc := hl.1
  unfold maxLen at hm
  have c0 : w.cell? ⟨r, 0, none⟩ = some (.slice A s.bs.length c) := by rw [hb.cell]; rfl
  have f0 : w.frozen? ⟨r, 0, none⟩ = false := hb.frozen 0
  by_cases h : s.bs.length < k
  · have hcode : (s.take k) = (List.replicate k 0, s.fail 3) := by simp [R.take, h]
    have H : Hid (s.take k = (List.replicate k 0, s.fail 3)) := hcode
    have hmk : ∀ u : World, (Instr.makeSlice 23 (.int .i64 (k : Int)) (.int .i64 (k : Int))).run Tryz.prog u =
        .ok (.slice (some ⟨u.heap.size, 0, none⟩) k k) (u.alloc (.cells (madeCells #[.int .u8 0] k) 5)) := fun u => by
      obtain ⟨i0, hi, hz0, hz1, hz2⟩ := info_parts info_u8
      have h := run_make (P := Tryz.prog) u 23 5 i0 (.int .u8 0) Tryz.underlying23 hi hz0 .i64 .i64 (k : Int) (k : Int) (by omega) (Int.le_refl _) (by rw [hz2]; omega) (by omega)
      rw [Int.toNat_natCast] at h
      simpa [hz1, Value.cells] using h
    clear hcode hl
    go_enter Tryz.func45, Tryz.ntmps45
    go_wp2_with (go_at_call 48; refine (fail_any hr0 3).mono ?_; rintro e w1 ⟨rfl, hu1, hr1⟩)
    go_ret
    unfold TakeP
    have hn1 : N ≤ w1.heap.size := by have := hr1.lt; omega
    rw [H.out]
    have hrow : Byt (w1.alloc (.cells (madeCells #[.int .u8 0] k) 5)) (w1.alloc (.cells (madeCells #[.int .u8 0] k) 5)).heap.size (.slice (some ⟨w1.heap.size, 0, none⟩) k k) (List.replicate k 0) := by
      refine ⟨some ⟨w1.heap.size, 0, none⟩, k, by simp, by simp, by unfold maxLen; omega, fun e => (by cases e), fun _ => ⟨w1.heap.size, 0, rfl, by simp, fun j u hu => ?_⟩⟩
      rw [(Blk.new w1 5 _).cell, Nat.zero_add, ← Array.getElem?_toList, toList_madeCells_one]
      rw [List.map_replicate] at hu
      exact hu
    exact ⟨.slice (some ⟨w1.heap.size, 0, none⟩) k k, rfl, hu1.alloc _, hr1.upd (S := []) ((Upd.refl _ _).alloc _) (by simp) (by simp), hrow, Or.inl h⟩
  · have hcode : (s.take k) = (s.bs.take k, ⟨s.bs.drop k, s.code⟩) := by simp [R.take, h]
    have H : Hid (s.take k = (s.bs.take k, ⟨s.bs.drop k, s.code⟩)) := hcode
    have hN' := hb.lt
    clear hcode hl
    go_enter Tryz.func45, Tryz.ntmps45
    go_wp2
    all_goals go_ret
    all_goals unfold TakeP
    all_goals rw [H.out]
    all_goals
      have hu : ∀ u : Value, Upd [r] w (w.setCell ⟨r, 0, none⟩ u) := fun u => (Upd.refl _ _).setCell (by simp) u
      have h1 := Byt.takeTo (k := k) (m := k) hv (by omega) (by omega) (by omega) (by intro e; have := hcn e; omega)
    · rename_i hck
      have hck' : c = k := by assumption
      have h2 := Byt.cutEnd (k := k) hv (by omega) hck'
      have h1' := h1.upd (hu (.slice A (s.bs.length - k) 0)) (by simpa using hN)
      refine ⟨.slice A k k, rfl, hu _, ⟨hN, _, ?_, h2.upd (hu _) (by simpa using hN)⟩, Row.more h1' (by simp [World.setCell]; omega), Or.inr h1'⟩
      have := hb.set_ 0 (.slice A (s.bs.length - k) 0)
      simpa using this
    · have hck' : ¬ c = k := by assumption
      have h2 := Byt.cutOff (k := k) hv (by omega) hck'
      have h1' := h1.upd (hu (.slice (A.map (·.add k)) (s.bs.length - k) (c - k))) (by simpa using hN)
      refine ⟨.slice A k k, rfl, hu _, ⟨hN, _, ?_, h2.upd (hu _) (by simpa using hN)⟩, Row.more h1' (by simp [World.setCell]; omega), Or.inr h1'⟩
      have := hb.set_ 0 (.slice (A.map (·.add k)) (s.bs.length - k) (c - k))
      simpa using this
set_option maxHeartbeats 400000 in
theorem num_any (hr : Rd w N r s) (k : Nat) (hk : k ≤ 4) :
    Calls Tryz.prog 44 #[.pointer (some ⟨r, 0, none⟩), .int .i64 k] w fun e w' => e = .returned (.int .i64 ((s.num k).1 : Int)) ∧ Upd [r] w w' ∧ Rd w' N r (s.num k).2 := by
  go_enter Tryz.func44, Tryz.ntmps44
  go_wp2_with (go_at_call 45; refine (take_any hr k (by omega)).mono ?_; rintro e w1 ⟨v, rfl, hu1, hr1, hv, -⟩; obtain ⟨A, c, rfl, hv', hkc, hcm⟩ := hv.form (take_len s k); clear hv)
  go_loop [5, 7, 12] (fun n _ i => ∃ j : Nat, j ≤ k ∧ i = .int .i64 j ∧ n = .int .i64 (beNat ((s.take k).1.take j) : Int)) (fun _ _ i => k - (intOf i).toNat)
  case atStart => exact ⟨0, Nat.zero_le _, rfl, rfl⟩
  case round =>
    obtain ⟨j, hj, rfl, rfl⟩ := hrel
    by_cases hlt : j < k
    · obtain ⟨b, o, rfl, hb, hj', hcell⟩ := hv'.at_ hlt
      have hu := ((s.take k).1[j]).toNat_lt
      have hb1 : ((beNat ((s.take k).1.take j) : Nat) : Int) ≤ 4294967296 := by
        have h1 := beNat_lt ((s.take k).1.take j)
        rw [List.length_take, take_len, Nat.min_eq_left hj] at h1
        have h2 : 256 ^ j ≤ 256 ^ 4 := Nat.pow_le_pow_right (by omega) (by omega)
        omega
      have HS : Hid (beNat ((s.take k).1.take (j + 1)) = beNat ((s.take k).1.take j) * 256 + ((s.take k).1[j]).toNat) := by
        have e : (s.take k).1.take (j + 1) = (s.take k).1.take j ++ [(s.take k).1[j]] := List.take_succ_eq_append_getElem hj'
        show _ = _
        rw [e, beNat_snoc]
      go_wp2
      go_round
      case rel => exact ⟨j + 1, by omega, by go_num, by rw [HS.out, or_byte _ _ (by omega) hu]⟩
      case measure => simp [intOf]; omega
    · obtain rfl : j = k := by omega
      go_wp2
      go_ret
      refine ⟨?_, hu1, hr1⟩
      rw [List.take_of_length_le (by rw [take_len]; omega)]
      rfl
def VecP (w : World) (N r : Nat) (s : R) (size lo hi : Nat) (e : Ending) (w' : World) : Prop :=
  ∃ v, e = .returned v ∧ Upd [r] w w' ∧ Rd w' N r (s.vec size lo hi).2 ∧ Byt w' N v (s.vec size lo hi).1
set_option maxHeartbeats 400000 in
theorem vec_any (hr : Rd w N r s) (size lo hi : Nat) (hk : size ≤ 4) :
    Calls Tryz.prog 46 #[.pointer (some ⟨r, 0, none⟩), .int .i64 size, .int .i64 lo, .int .i64 hi] w (VecP w N r s size lo hi) := by
  have hnl := num_lt s size hk
  obtain ⟨n, s1, hns⟩ : ∃ n s1, s.num size = (n, s1) := ⟨_, _, rfl⟩
  have Hve := hid (vec_eq s size lo hi hns)
  have hn1 := num_any hr size hk
  rw [hns] at hn1 hnl
  have Hns := hid hns
  clear hns
  simp only [] at hn1 hnl
  have HN := hid hn1
  clear hn1
  go_enter Tryz.func46, Tryz.ntmps46
  go_wp2_with fail
  refine (HN.out).mono ?_
  rintro e w1 ⟨rfl, hu1, hr1⟩
  obtain ⟨A, c, c0, c1, f0, f1, hl, hc⟩ := hr1.open_
  by_cases h0 : s1.code = 0
  · have hz : ((s1.code : Int) == 0) = true := by simp [h0]
    by_cases hlong : s1.bs.length < n
    · -- too long
      have Hl : Hid (s1.long n = ⟨[], 3⟩) := by
        show _ = _
        simp [R.long, R.fail, h0, hlong]
      have Hf : Hid (s1.fail 3 = ⟨[], 3⟩) := by
        show _ = _
        simp [R.fail, h0]
      clear h0
      go_wp2_with fail
      refine (fail_any hr1 3).mono ?_
      rintro e w2 ⟨rfl, hu2, hr2⟩
      rw [Hf.out] at hr2
      obtain ⟨A', c', d0, d1, -⟩ := hr2.open_
      go_wp2
      go_ret
      refine ⟨.slice none 0 0, rfl, hu1.two hu2, ?_, ?_⟩
      · rw [Hve.out, Hl.out]
        exact hr2
      · rw [Hve.out, Hl.out]
        exact Row.nil_ _ _
    · have Hl : Hid (s1.long n = s1) := by
        show _ = _
        simp [R.long, hlong]
      have Hz : Hid (s1.code = 0) := h0
      have Ht := hid (show s1.take n = (s1.bs.take n, ⟨s1.bs.drop n, s1.code⟩) by simp [R.take, hlong])
      clear h0
      go_wp2_with fail
      refine (take_any hr1 n (by omega)).mono ?_
      rintro e w2 ⟨v, rfl, hu2, hr2, -, hv⟩
      have hv' := hv.resolve_left hlong
      clear hv
      by_cases hlo : n < lo
      · have HR := hid (show ∀ x : R, x.rng n lo hi = x.fail 2 by intro x; simp [R.rng, hlo])
        go_wp2_with fail
        refine (fail_any hr2 2).mono ?_
        rintro e w3 ⟨rfl, hu3, hr3⟩
        have hN := hr2.1
        go_wp2
        go_ret
        refine ⟨v, rfl, (hu1.two hu2).two hu3, ?_, ?_⟩
        · rw [Hve.out, Hl.out, if_pos Hz.out, HR.out]
          exact hr3
        · rw [Hve.out, Hl.out, if_pos Hz.out]
          exact hv'.upd hu3 (by simpa using hN)
      · by_cases hhi : hi < n
        · have HR := hid (show ∀ x : R, x.rng n lo hi = x.fail 2 by intro x; simp [R.rng, hhi])
          go_wp2_with fail
          refine (fail_any hr2 2).mono ?_
          rintro e w3 ⟨rfl, hu3, hr3⟩
          have hN := hr2.1
          go_wp2
          go_ret
          refine ⟨v, rfl, (hu1.two hu2).two hu3, ?_, ?_⟩
          · rw [Hve.out, Hl.out, if_pos Hz.out, HR.out]
            exact hr3
          · rw [Hve.out, Hl.out, if_pos Hz.out]
            exact hv'.upd hu3 (by simpa using hN)
        · have HR := hid (show ∀ x : R, x.rng n lo hi = x by intro x; simp [R.rng, hlo, hhi])
          go_wp2
          go_ret
          refine ⟨v, rfl, hu1.two hu2, ?_, ?_⟩
          · rw [Hve.out, Hl.out, if_pos Hz.out, HR.out]
            exact hr2
          · rw [Hve.out, Hl.out, if_pos Hz.out]
            exact hv'
  · have hz : ((s1.code : Int) == 0) = false := by rw [beq_eq_false_iff_ne]; omega
    have hz' : ((s1.code : Int) != 0) = true := by simp [h0]
    have Hl := hid (show s1.long n = s1 by simp [R.long, h0])
    have H0 : Hid (s1.code ≠ 0) := h0
    clear h0
    go_wp2
    go_ret
    refine ⟨.slice none 0 0, rfl, hu1, ?_, ?_⟩
    · rw [Hve.out, Hl.out, if_neg H0.out]
      exact hr1
    · rw [Hve.out, Hl.out, if_neg H0.out]
      exact Row.nil_ _ _
end
end Go.Proofs.YtaajmfgplhfncaaGreat
namespace Go.Proofs.YtaajmfgplhfncaaGreat
open Go.RowKit
section
variable {w w' : World} {N r : Nat} {s : R} {S : List Nat}
theorem end_any (hr : Rd w N r s) :
    Calls Tryz.prog 50 #[.pointer (some ⟨r, 0, none⟩)] w fun e w' => e = .returned (.tuple #[]) ∧ Upd [r] w w' ∧ Rd w' N r s.fin := by
  obtain ⟨A, c, c0, c1, f0, f1, hl, hc⟩ := hr.open_
  by_cases h : s.bs = []
  · have Hf := hid (show s.fin = s by simp [R.fin, h])
    have hz : ¬ 0 < s.bs.length := by simp [h]
    clear h
    go_enter Tryz.func50, Tryz.ntmps50
    go_wp2
    go_end0
    exact ⟨rfl, Upd.refl _ _, by rw [Hf.out]; exact hr⟩
  · have Hf := hid (show s.fin = s.fail 3 by simp [R.fin, h])
    have hz : 0 < s.bs.length := List.length_pos_iff.2 h
    clear h
    go_enter Tryz.func50, Tryz.ntmps50
    go_wp2_with (go_at_call 48; refine (fail_any hr 3).mono ?_; rintro e w1 ⟨rfl, hu1, hr1⟩)
    go_end0
    exact ⟨rfl, hu1, by rw [Hf.out]; exact hr1⟩
def WithinP (w : World) (N : Nat) (s : R) (e : Ending) (w' : World) : Prop :=
  e = .returned (.pointer (some ⟨w.heap.size, 0, none⟩)) ∧ Upd [] w w' ∧ Rd w' N w.heap.size s
theorem within_any (hr : Rd w N r s) {N' : Nat} (hN : N' ≤ w.heap.size) {v : Value} {b : List UInt8} (hv : Byt w N' v b) :
    Calls Tryz.prog 52 #[.pointer (some ⟨r, 0, none⟩), v] w (WithinP w N' (s.within b)) := by
  obtain ⟨A, c, c0, c1, f0, f1, hl, hc⟩ := hr.open_
  obtain ⟨A', c', rfl, hv, -⟩ := Byt.form hv rfl
  by_cases h0 : s.code = 0
  · have hz : ((s.code : Int) != 0) = false := by simp [h0]
    have H := hid (show s.within b = ⟨b, s.code⟩ by simp [R.within, h0])
    clear h0
    go_enter Tryz.func52, Tryz.ntmps52
    go_wp2
    go_ret
    rw [H.out]
    exact ⟨rfl, (Upd.refl _ _).alloc _, hN, _, Blk.new _ _ _, hv.alloc _⟩
  · have hz : ((s.code : Int) != 0) = true := by simp [h0]
    have H := hid (show s.within b = ⟨[], s.code⟩ by simp [R.within, h0])
    clear h0
    go_enter Tryz.func52, Tryz.ntmps52
    go_wp2
    go_ret
    rw [H.out]
    exact ⟨rfl, (Upd.refl _ _).alloc _, hN, .slice none 0 0, Blk.new _ _ _, Row.nil_ _ _⟩
def DoneP (w : World) (N r q : Nat) (s : R) (e : Ending) (w' : World) : Prop :=
  e = .returned (.tuple #[]) ∧ Upd [r, q] w w' ∧ Rd w' N r s
theorem done_any (hr : Rd w N r s) {q N' : Nat} {x : R} (hq : Rd w N' q x) (hne : q ≠ r) (hNq : N ≤ q) :
    Calls Tryz.prog 54 #[.pointer (some ⟨r, 0, none⟩), .pointer (some ⟨q, 0, none⟩)] w (DoneP w N r q (s.done x)) := by
  have hr1 : ∀ w1, Upd [q] w w1 → Rd w1 N r s := fun w1 hu => hr.upd hu (by simpa using hNq) (by simpa using Ne.symm hne)
  by_cases h0 : x.fin.code = 0
  · have hz : ((x.fin.code : Int) != 0) = false := by simp [h0]
    have H := hid (show s.done x = s by simp [R.done, h0])
    clear h0
    go_enter Tryz.func54, Tryz.ntmps54
    go_wp2_with (go_at_call 50; refine (end_any hq).mono ?_; rintro e w1 ⟨rfl, hu1, hq1⟩; obtain ⟨A, c, d0, d1, g0, g1, hl1, hc1⟩ := hq1.open_)
    go_end0
    rw [H.out]
    exact ⟨rfl, hu1.mono (by simp), hr1 _ hu1⟩
  · have hz : ((x.fin.code : Int) != 0) = true := by simp [h0]
    have H := hid (show s.done x = s.fail x.fin.code by simp [R.done, h0])
    clear h0
    go_enter Tryz.func54, Tryz.ntmps54
    go_wp2_with (go_at_call 50; refine (end_any hq).mono ?_; rintro e w1 ⟨rfl, hu1, hq1⟩; obtain ⟨A, c, d0, d1, g0, g1, hl1, hc1⟩ := hq1.open_)
    refine (fail_any (hr1 _ hu1) _).mono ?_
    rintro e w2 ⟨rfl, hu2, hr2⟩
    go_wp2
    go_end0
    rw [H.out]
    exact ⟨rfl, (hu1.mono (by simp)).trans hu2 (by simp), hr2⟩
end
end Go.Proofs.YtaajmfgplhfncaaGreat
namespace Go.Proofs.YtaajmfgplhfncaaGreat
open Go.RowKit
abbrev wv (u : UInt16) : Value := .int .u16 (u.toNat : Int)
theorem info_u16 : (Tryz.prog.info? 22).map (fun i => (i.zero, i.size, i.bytes)) = some (some (.int .u16 0), 1, 2) := by kernel_rfl
theorem info_bytes : (Tryz.prog.info? 23).map (fun i => (i.zero, i.size, i.bytes)) = some (some (.slice none 0 0), 1, 24) := by kernel_rfl
section
variable {w w' : World} {N r : Nat} {s : R} {S : List Nat}
theorem words_step2 (a b : UInt8) (t : List UInt8) (c : Nat) :
    (R.mk (a :: b :: t) c).num 2 = (a.toNat * 256 + b.toNat, ⟨t, c⟩) := by
  have h : (R.mk (a :: b :: t) c).take 2 = ([a, b], ⟨t, c⟩) := by
    unfold R.take
    rw [if_neg (by simp)]
    rfl
  simp [R.num, h, beNat]
theorem words_step1 (a : UInt8) (c : Nat) : (R.mk [a] c).num 2 = (0, (R.mk [a] c).fail 3) := by
  simp [R.num, R.take, beNat]
def WordsP (w : World) (N r : Nat) (l : List UInt16) (s : R) (e : Ending) (w' : World) : Prop :=
  ∃ v, e = .returned v ∧ Own w' w.heap.size 22 v (l.map wv) ∧ Upd [r] w w' ∧ Rd w' N r s
def WRel (w : World) (N q : Nat) (x0 : R) (l0 : List UInt16) (gk : Nat) (v : Value) (wr : World) : Prop :=
  ∃ (x : R) (l : List UInt16), gk = x.bs.length ∧ l.length + x.bs.length ≤ x0.bs.length + 1 ∧ Rd wr N q x ∧ Own wr w.heap.size 22 v (l.map wv) ∧ Upd [] w wr ∧ l0 = l ++ wordsOf x.bs ∧ x.wEnd = x0.wEnd
theorem wv_ofNat (n : Nat) (h : n < 65536) : Value.int .u16 (n : Int) = wv (UInt16.ofNat n) := by
  show _ = Value.int .u16 (((UInt16.ofNat n).toNat : Nat) : Int)
  rw [UInt16.toNat_ofNat', Nat.mod_eq_of_lt h]
theorem wrel_step {N q : Nat} {x0 x x2 : R} {l : List UInt16} {u : UInt16} {v v3 : Value} {wr w2 w3 : World} {o : Obj} {l0 : List UInt16}
    (hxl : (l ++ [u]).length + x2.bs.length ≤ x0.bs.length + 1) (hqw : w.heap.size ≤ q) (hNw : N ≤ w.heap.size)
    (hx : Rd wr N q x) (hx2 : Rd w2 N q x2) (hu2 : Upd [q] wr w2)
    (hown : Own wr w.heap.size 22 v (l.map wv)) (hu : Upd [] w wr) (hap : Appended (w2.alloc o) w.heap.size 22 v (l.map wv ++ [wv u]) v3 w3)
    (hl0 : l0 = (l ++ [u]) ++ wordsOf x2.bs) (hE : x2.wEnd = x0.wEnd) : WRel w N q x0 l0 x2.bs.length v3 w3 := by
  obtain ⟨h1, h2, h3⟩ := hap.one
  have hq : ∀ g, v.ownBlock = some g → g ≠ q := by
    obtain ⟨_, vx, hbx, _⟩ := hx
    exact hown.ne hbx (by decide)
  refine ⟨x2, l ++ [u], rfl, hxl, hx2.upd h2 ?_ ?_, ?_, ?_, hl0, hE⟩
  · intro k hk
    have := hown.ge (Option.mem_toList.1 hk)
    omega
  · intro hk
    exact hq _ (Option.mem_toList.1 hk) rfl
  · rw [List.map_append]; exact h1
  · refine (hu.trans hu2 ?_).trans h2 ?_
    · intro k hk; right; simp at hk; omega
    · intro k hk; right; exact (hown.ge (Option.mem_toList.1 hk)).1
set_option maxHeartbeats 1000000 in
theorem words_any (hr : Rd w N r s) {v : Value} {b : List UInt8} (hv : Byt w N v b) (hb : b.length ≤ 4294967296) :
    Calls Tryz.prog 47 #[.pointer (some ⟨r, 0, none⟩), v] w (WordsP w N r (s.words b).1 (s.words b).2) := by
  have hlt := hr.lt
  have hN := hr.1
  go_enter Tryz.func47, Tryz.ntmps47
  go_wp2_with (go_at_call 52; refine (within_any hr (by omega) hv).mono ?_; rintro e w1 ⟨rfl, hu1, hx1⟩)
  obtain ⟨x0, hx0⟩ : ∃ x0, s.within b = x0 := ⟨_, rfl⟩
  have hxb : x0.bs.length ≤ b.length := by rw [← hx0]; unfold R.within; simp only; split <;> simp
  have HX := hid hx0
  rw [hx0] at hx1
  clear hx0
  go_loopg [5] x0.bs.length (fun gk v wr => WRel w N w.heap.size x0 (wordsOf x0.bs) gk v wr)
  case atStart =>
    exact ⟨x0, [], rfl, by simp, hx1, Own.nil_ _ _ _, hu1, by simp, rfl⟩
  case round =>
    obtain ⟨x, l, rfl, hxl, hx, hown, hu, hl0, hE⟩ := hrel
    have HL := hid hl0
    have HE := hid hE
    clear hl0 hE
    obtain ⟨A, c, c0, c1, f0, f1, hl, hc⟩ := hx.open_
    obtain ⟨bs, cd⟩ := x
    match bs with
    | [] =>
      have hz : ¬ 0 < ([] : List UInt8).length := by simp
      go_wp2_with fail
      refine (done_any (hr.upd hu (by simp) (by simp)) hx (by omega) (by omega)).mono ?_
      rintro e w2 ⟨rfl, hu2, hr2⟩
      go_wp2
      go_ret
      have hq : ∀ g, u5.ownBlock = some g → g ≠ w.heap.size := by
        obtain ⟨_, vx, hbx, _⟩ := hx
        exact hown.ne hbx (by decide)
      have hl : (s.words b).1 = l := by
        show wordsOf (s.within b).bs = l
        rw [HX.out, HL.out]; simp [wordsOf]
      have hs : (s.words b).2 = s.done ⟨[], cd⟩ := by
        show s.done (s.within b).wEnd = _
        rw [HX.out, ← HE.out]
        rfl
      refine ⟨u5, rfl, ?_, ?_, ?_⟩
      · rw [hl]
        exact hown.upd hu2 (fun g hg hk => by
          have h1 := hown.ge hg
          have h2 := hq g hg
          simp at hk
          omega)
      · exact (hu.mono (by simp)).trans hu2 (by intro k hk; simp at hk ⊢; omega)
      · rw [hs]; exact hr2
    | [a1] =>
      have hn := num_any hx 2 (by omega)
      rw [words_step1] at hn
      have HN := hid hn
      clear hn hl hc
      go_wp2_with fail
      refine HN.out.mono ?_
      rintro e w2 ⟨rfl, hu2, hx2⟩
      have hn2 := hx2.lt
      have hs2 : Own w2 w.heap.size 22 u5 (l.map wv) := hown.upd hu2 (fun g hg => by
        obtain ⟨_, vx, hbx, _⟩ := hx
        have := hown.ne hbx (by decide) g hg
        simpa using this)
      simp only [List.length_cons, List.length_nil] at hxl
      go_wp2_with (at_builtin; go_must (refine wpList_append_row _ rfl _ _ _ rfl w.heap.size 22 (.int .u16 0) 2 Tryz.underlying24 info_u16 rfl rfl (Own.upd hs2 ((Upd.refl [] _).alloc _) (by simp)) rfl (Row.one _ _ _) (by intro u hu; simp at hu; subst hu; rfl) (by simp; omega) (by simp; omega) (by simp; omega) ?_; intro v3 w3 hap))
      go_roundg 0
      case measure => simp
      case rel =>
        have hap' : Appended (w2.alloc (.cells #[.int .u16 0] 22)) w.heap.size 22 u5 (l.map wv ++ [wv 0]) v3 w3 := hap
        refine wrel_step (x0 := x0) (l := l) (x2 := (R.mk [a1] cd).fail 3) ?_ (Nat.le_refl _) (by omega) hx hx2 hu2 hown hu hap' ?_ ?_
        · simp [fail_bs]; omega
        · rw [HL.out, fail_bs]; simp [wordsOf]
        · rw [← HE.out]; rfl
    | a1 :: a2 :: t =>
      have hn := num_any hx 2 (by omega)
      rw [words_step2] at hn
      have h1 := a1.toNat_lt
      have h2 := a2.toNat_lt
      obtain ⟨n, hnn⟩ : ∃ n : Nat, a1.toNat * 256 + a2.toNat = n := ⟨_, rfl⟩
      have hnlt : n < 65536 := by omega
      rw [hnn] at hn
      have HN := hid hn
      have Hn := hid hnn
      clear hn hnn h1 h2 hl hc
      go_wp2_with fail
      refine HN.out.mono ?_
      rintro e w2 ⟨rfl, hu2, hx2⟩
      have hn2 := hx2.lt
      have hs2 : Own w2 w.heap.size 22 u5 (l.map wv) := hown.upd hu2 (fun g hg => by
        obtain ⟨_, vx, hbx, _⟩ := hx
        have := hown.ne hbx (by decide) g hg
        simpa using this)
      simp only [List.length_cons] at hxl
      go_wp2_with (at_builtin; go_must (refine wpList_append_row _ rfl _ _ _ rfl w.heap.size 22 (.int .u16 0) 2 Tryz.underlying24 info_u16 rfl rfl (Own.upd hs2 ((Upd.refl [] _).alloc _) (by simp)) rfl (Row.one _ _ _) (by intro u hu; simp at hu; subst hu; rfl) (by simp; omega) (by simp; omega) (by simp; omega) ?_; intro v3 w3 hap))
      go_roundg t.length
      case measure => simp; omega
      case rel =>
        have hap' : Appended (w2.alloc (.cells #[.int .u16 n] 22)) w.heap.size 22 u5 (l.map wv ++ [.int .u16 n]) v3 w3 := hap
        rw [wv_ofNat n hnlt] at hap'
        refine wrel_step (x0 := x0) (l := l) (x2 := ⟨t, cd⟩) ?_ (Nat.le_refl _) (by omega) hx hx2 hu2 hown hu hap' ?_ ?_
        · simp; omega
        · rw [HL.out, wordsOf, Hn.out]; simp
        · rw [← HE.out, wEnd_two]
end
end Go.Proofs.YtaajmfgplhfncaaGreat
namespace Go.Proofs.YtaajmfgplhfncaaGreat
open Go.RowKit
section
variable {w w' : World} {N r : Nat} {s : R} {S : List Nat}
def Vecs (w : World) (base N : Nat) (v : Value) (ls : List (List UInt8)) : Prop := ∃ vs, Own w base 23 v vs ∧ All2 (fun u l => Byt w N u l) vs ls
theorem Vecs.upd {base : Nat} {v : Value} {ls : List (List UInt8)} (h : Vecs w base N v ls) (hu : Upd S w w') (hs : ∀ g, v.ownBlock = some g → g ∉ S) (hN : ∀ x ∈ S, N ≤ x) : Vecs w' base N v ls := by
  obtain ⟨vs, h1, h2⟩ := h
  exact ⟨vs, h1.upd hu hs, h2.imp fun _ _ hb => hb.upd hu hN⟩
def VectorsP (w : World) (N r : Nat) (l : List (List UInt8)) (s : R) (e : Ending) (w' : World) : Prop :=
  ∃ v, e = .returned v ∧ Vecs w' w.heap.size N v l ∧ Upd [r] w w' ∧ Rd w' N r s
def VRel (w : World) (N q size low : Nat) (x0 : R) (gk : Nat) (v : Value) (wr : World) : Prop :=
  ∃ (x : R) (l : List (List UInt8)), gk = x.bs.length ∧ l.length + x.bs.length ≤ x0.bs.length ∧ Rd wr N q x ∧ Vecs wr w.heap.size N v l ∧ Upd [] w wr ∧
    R.vecsGo size low x0.bs.length x0 = (l ++ (R.vecsGo size low x.bs.length x).1, (R.vecsGo size low x.bs.length x).2)
theorem vecsGo_unroll (size low : Nat) (hs : 1 ≤ size) (x : R) (h : x.bs ≠ []) :
    R.vecsGo size low x.bs.length x = ((x.vec size low (256 ^ size - 1)).1 :: (R.vecsGo size low (x.vec size low (256 ^ size - 1)).2.bs.length (x.vec size low (256 ^ size - 1)).2).1,
      (R.vecsGo size low (x.vec size low (256 ^ size - 1)).2.bs.length (x.vec size low (256 ^ size - 1)).2).2) := by
  have hp : 0 < x.bs.length := List.length_pos_iff.2 h
  obtain ⟨f, hf⟩ : ∃ f, x.bs.length = f + 1 := ⟨x.bs.length - 1, by omega⟩
  have hv := vec_bs_len x size low (256 ^ size - 1)
  rw [hf, R.vecsGo, if_neg h, vecsGo_eq size low hs f _ (x.vec size low (256 ^ size - 1)).2 (by omega) (Nat.le_refl _)]
theorem vrel_step {q size low : Nat} {x0 x : R} {l : List (List UInt8)} {v v3 u : Value} {vs : List Value} {wr w2 w3 : World} {o : Obj} (hs : 1 ≤ size) (hxe : x.bs ≠ [])
    (hxl : l.length + x.bs.length ≤ x0.bs.length) (hqw : w.heap.size ≤ q) (hNw : N ≤ w.heap.size)
    (hx : Rd wr N q x) (hx2 : Rd w2 N q (x.vec size low (256 ^ size - 1)).2) (hu2 : Upd [q] wr w2) (hb : Byt w2 N u (x.vec size low (256 ^ size - 1)).1)
    (hown : Own wr w.heap.size 23 v vs) (hall : All2 (fun u l => Byt wr N u l) vs l) (hu : Upd [] w wr) (hap : Appended (w2.alloc o) w.heap.size 23 v (vs ++ [u]) v3 w3)
    (hE : R.vecsGo size low x0.bs.length x0 = (l ++ (R.vecsGo size low x.bs.length x).1, (R.vecsGo size low x.bs.length x).2)) :
    VRel w N q size low x0 (x.vec size low (256 ^ size - 1)).2.bs.length v3 w3 := by
  obtain ⟨h1, h2, h3⟩ := hap.one
  have hv := vec_bs_len x size low (256 ^ size - 1)
  have hp : 0 < x.bs.length := List.length_pos_iff.2 hxe
  have hq : ∀ g, v.ownBlock = some g → g ≠ q := by
    obtain ⟨_, vx, hbx, _⟩ := hx
    exact hown.ne hbx (by decide)
  have hS : ∀ k ∈ v.ownBlock.toList, w.heap.size ≤ k ∧ k ≠ q := fun k hk => ⟨(hown.ge (Option.mem_toList.1 hk)).1, hq _ (Option.mem_toList.1 hk)⟩
  refine ⟨_, l ++ [(x.vec size low (256 ^ size - 1)).1], rfl, ?_, hx2.upd h2 ?_ ?_, ⟨vs ++ [u], h1, ?_⟩, ?_, ?_⟩
  · simp; omega
  · intro k hk
    have := hS k hk
    omega
  · intro hk
    exact (hS q hk).2 rfl
  · refine All2.snoc ?_ ?_
    · refine hall.imp fun a b hab => ?_
      exact (hab.upd hu2 (by simp; omega)).upd h2 (fun k hk => by have := hS k hk; omega)
    · exact hb.upd h2 (fun k hk => by have := hS k hk; omega)
  · refine (hu.trans hu2 ?_).trans h2 ?_
    · intro k hk; right; simp at hk; omega
    · intro k hk; right; exact (hS k hk).1
  · rw [hE, vecsGo_unroll size low hs x hxe]
    simp
set_option maxHeartbeats 1000000 in
theorem vectors_any1 (hr : Rd w N r s) {v : Value} {b : List UInt8} (hv : Byt w N v b) (hb : b.length ≤ 4294967296) (low : Nat) :
    Calls Tryz.prog 61 #[.pointer (some ⟨r, 0, none⟩), v, .int .i64 1, .int .i64 low] w (VectorsP w N r (s.vectors b 1 low).1 (s.vectors b 1 low).2) := by
  have hlt := hr.lt
  have hN := hr.1
  go_enter Tryz.func61, Tryz.ntmps61
  go_wp2_with (go_at_call 52; refine (within_any hr (by omega) hv).mono ?_; rintro e w1 ⟨rfl, hu1, hx1⟩)
  obtain ⟨x0, hx0⟩ : ∃ x0, s.within b = x0 := ⟨_, rfl⟩
  have hxb : x0.bs.length ≤ b.length := by rw [← hx0]; unfold R.within; simp only; split <;> simp
  have HX := hid hx0
  rw [hx0] at hx1
  clear hx0
  go_loopg [9] x0.bs.length (fun gk v wr => VRel w N w.heap.size 1 low x0 gk v wr)
  case atStart =>
    exact ⟨x0, [], rfl, by simp, hx1, ⟨[], Own.nil_ _ _ _, trivial⟩, hu1, by simp⟩
  case round =>
    obtain ⟨x, l, rfl, hxl, hx, ⟨vs, hown, hall⟩, hu, hE⟩ := hrel
    have HE := hid hE
    clear hE
    obtain ⟨A, c, c0, c1, f0, f1, hl, hc⟩ := hx.open_
    by_cases hxe : x.bs = []
    · have hz : ¬ 0 < x.bs.length := by simp [hxe]
      have Hxe := hid hxe
      clear hxe hl hc
      go_wp2_with fail
      refine (done_any (hr.upd hu (by simp) (by simp)) hx (by omega) (by omega)).mono ?_
      rintro e w2 ⟨rfl, hu2, hr2⟩
      go_wp2
      go_ret
      have hq : ∀ g, u9.ownBlock = some g → g ≠ w.heap.size := by
        obtain ⟨_, vx, hbx, _⟩ := hx
        exact hown.ne hbx (by decide)
      have hgo : ∀ size, R.vecsGo size low x.bs.length x = ([], x) := by intro size; rw [Hxe.out]; rfl
      have he := HE.out
      rw [hgo] at he
      simp only [List.append_nil] at he
      refine ⟨u9, rfl, ?_, ?_, ?_⟩
      · show Vecs w2 w.heap.size N u9 (R.vecsGo 1 low (s.within b).bs.length (s.within b)).1
        rw [HX.out, he]
        refine Vecs.upd ⟨vs, hown, hall⟩ hu2 (fun g hg hk => ?_) (by simp; omega)
        have h1 := hown.ge hg
        have h2 := hq g hg
        simp at hk
        omega
      · exact (hu.mono (by simp)).trans hu2 (by intro k hk; simp at hk ⊢; omega)
      · show Rd w2 N r (s.done (R.vecsGo 1 low (s.within b).bs.length (s.within b)).2)
        rw [HX.out, he]
        exact hr2
    · have hz : 0 < x.bs.length := List.length_pos_iff.2 hxe
      have Hxe := hid hxe
      clear hxe hl hc
      go_wp2_with fail
      refine (vec_any hx 1 low 255 (by omega)).mono ?_
      rintro e w2 ⟨y, rfl, hu2, hx2, hy⟩
      have hn2 := hx2.lt
      have hs2 : Own w2 w.heap.size 23 u9 vs := hown.upd hu2 (fun g hg => by
        obtain ⟨_, vx, hbx, _⟩ := hx
        have := hown.ne hbx (by decide) g hg
        simpa using this)
      have hvl := hall.length
      obtain ⟨yA, yc, rfl, hy, hyl, hyc⟩ := Byt.form hy rfl
      go_wp2_with (at_builtin; go_must (refine wpList_append_row _ rfl _ _ _ rfl w.heap.size 23 (.slice none 0 0) 24 Tryz.underlying26 info_bytes rfl rfl (Own.upd hs2 ((Upd.refl [] _).alloc _) (by simp)) rfl (Row.one _ _ _) (by intro u hu; simp at hu; subst hu; rfl) (by simp; omega) (by simp; omega) (by simp; omega) ?_; intro v3 w3 hap))
      go_roundg (x.vec 1 low 255).2.bs.length
      case measure =>
        have hv2 := vec_bs_len x 1 low 255
        omega
      case rel =>
        have hap' : Appended (w2.alloc (.cells #[.slice yA (x.vec 1 low 255).1.length yc] 23)) w.heap.size 23 u9 (vs ++ [.slice yA (x.vec 1 low 255).1.length yc]) v3 w3 := hap
        exact vrel_step (size := 1) (by omega) Hxe.out hxl (Nat.le_refl _) (by omega) hx hx2 hu2 hy hown hall hu hap' HE.out
set_option maxHeartbeats 1000000 in
theorem vectors_any2 (hr : Rd w N r s) {v : Value} {b : List UInt8} (hv : Byt w N v b) (hb : b.length ≤ 4294967296) (low : Nat) :
    Calls Tryz.prog 61 #[.pointer (some ⟨r, 0, none⟩), v, .int .i64 2, .int .i64 low] w (VectorsP w N r (s.vectors b 2 low).1 (s.vectors b 2 low).2) := by
  have hlt := hr.lt
  have hN := hr.1
  go_enter Tryz.func61, Tryz.ntmps61
  go_wp2_with (go_at_call 52; refine (within_any hr (by omega) hv).mono ?_; rintro e w1 ⟨rfl, hu1, hx1⟩)
  obtain ⟨x0, hx0⟩ : ∃ x0, s.within b = x0 := ⟨_, rfl⟩
  have hxb : x0.bs.length ≤ b.length := by rw [← hx0]; unfold R.within; simp only; split <;> simp
  have HX := hid hx0
  rw [hx0] at hx1
  clear hx0
  go_loopg [9] x0.bs.length (fun gk v wr => VRel w N w.heap.size 2 low x0 gk v wr)
  case atStart =>
    exact ⟨x0, [], rfl, by simp, hx1, ⟨[], Own.nil_ _ _ _, trivial⟩, hu1, by simp⟩
  case round =>
    obtain ⟨x, l, rfl, hxl, hx, ⟨vs, hown, hall⟩, hu, hE⟩ := hrel
    have HE := hid hE
    clear hE
    obtain ⟨A, c, c0, c1, f0, f1, hl, hc⟩ := hx.open_
    by_cases hxe : x.bs = []
    · have hz : ¬ 0 < x.bs.length := by simp [hxe]
      have Hxe := hid hxe
      clear hxe hl hc
      go_wp2_with fail
      refine (done_any (hr.upd hu (by simp) (by simp)) hx (by omega) (by omega)).mono ?_
      rintro e w2 ⟨rfl, hu2, hr2⟩
      go_wp2
      go_ret
      have hq : ∀ g, u9.ownBlock = some g → g ≠ w.heap.size := by
        obtain ⟨_, vx, hbx, _⟩ := hx
        exact hown.ne hbx (by decide)
      have hgo : ∀ size, R.vecsGo size low x.bs.length x = ([], x) := by intro size; rw [Hxe.out]; rfl
      have he := HE.out
      rw [hgo] at he
      simp only [List.append_nil] at he
      refine ⟨u9, rfl, ?_, ?_, ?_⟩
      · show Vecs w2 w.heap.size N u9 (R.vecsGo 2 low (s.within b).bs.length (s.within b)).1
        rw [HX.out, he]
        refine Vecs.upd ⟨vs, hown, hall⟩ hu2 (fun g hg hk => ?_) (by simp; omega)
        have h1 := hown.ge hg
        have h2 := hq g hg
        simp at hk
        omega
      · exact (hu.mono (by simp)).trans hu2 (by intro k hk; simp at hk ⊢; omega)
      · show Rd w2 N r (s.done (R.vecsGo 2 low (s.within b).bs.length (s.within b)).2)
        rw [HX.out, he]
        exact hr2
    · have hz : 0 < x.bs.length := List.length_pos_iff.2 hxe
      have Hxe := hid hxe
      clear hxe hl hc
      go_wp2_with fail
      refine (vec_any hx 2 low 65535 (by omega)).mono ?_
      rintro e w2 ⟨y, rfl, hu2, hx2, hy⟩
      have hn2 := hx2.lt
      have hs2 : Own w2 w.heap.size 23 u9 vs := hown.upd hu2 (fun g hg => by
        obtain ⟨_, vx, hbx, _⟩ := hx
        have := hown.ne hbx (by decide) g hg
        simpa using this)
      have hvl := hall.length
      obtain ⟨yA, yc, rfl, hy, hyl, hyc⟩ := Byt.form hy rfl
      go_wp2_with (at_builtin; go_must (refine wpList_append_row _ rfl _ _ _ rfl w.heap.size 23 (.slice none 0 0) 24 Tryz.underlying26 info_bytes rfl rfl (Own.upd hs2 ((Upd.refl [] _).alloc _) (by simp)) rfl (Row.one _ _ _) (by intro u hu; simp at hu; subst hu; rfl) (by simp; omega) (by simp; omega) (by simp; omega) ?_; intro v3 w3 hap))
      go_roundg (x.vec 2 low 65535).2.bs.length
      case measure =>
        have hv2 := vec_bs_len x 2 low 65535
        omega
      case rel =>
        have hap' : Appended (w2.alloc (.cells #[.slice yA (x.vec 2 low 65535).1.length yc] 23)) w.heap.size 23 u9 (vs ++ [.slice yA (x.vec 2 low 65535).1.length yc]) v3 w3 := hap
        exact vrel_step (size := 2) (by omega) Hxe.out hxl (Nat.le_refl _) (by omega) hx hx2 hu2 hy hown hall hu hap' HE.out
end
end Go.Proofs.YtaajmfgplhfncaaGreat
namespace Go.Proofs.YtaajmfgplhfncaaGreat
open Go.RowKit
section
variable {w w' : World} {N r : Nat} {s : R} {S : List Nat}
theorem neq_true {a b : Nat} (h : a ≠ b) : (((a : Int) != (b : Int)) = true) := by rw [bne_iff_ne]; omega
theorem neq_false {a b : Nat} (h : a = b) : (((a : Int) != (b : Int)) = false) := by subst h; simp
def bodyK (kind : Nat) (data : List UInt8) : R := if ((R.mk data 0).num 1).1 = kind then ((R.mk data 0).num 1).2 else ((R.mk data 0).num 1).2.fail 1
theorem bodyR_eq (kind : Nat) (data : List UInt8) (h : ¬ data.length < 4) :
    bodyR kind data = if ((bodyK kind data).num 3).1 = ((bodyK kind data).num 3).2.bs.length then ((bodyK kind data).num 3).2 else ((bodyK kind data).num 3).2.fail 1 := by
  unfold bodyR
  simp only [if_neg h]
  rfl
set_option maxHeartbeats 1000000 in
theorem body_any {N : Nat} (hN : N ≤ w.heap.size) {v : Value} {data : List UInt8} (hv : Byt w N v data) (kind : Nat) :
    Calls Tryz.prog 43 #[.int .i64 kind, v] w (WithinP w N (bodyR kind data)) := by
  obtain ⟨A, c, rfl, hv, hl, hc⟩ := Byt.form hv rfl
  have hr0 : Rd (w.alloc (.cells #[.slice A data.length c, .int .i64 0] 84)) N w.heap.size ⟨data, 0⟩ := ⟨hN, _, Blk.new _ _ _, hv.alloc _⟩
  by_cases h4 : data.length < 4
  · have H := hid (show bodyR kind data = (R.mk data 0).fail 1 by simp [bodyR, h4])
    go_enter Tryz.func43, Tryz.ntmps43
    go_wp2_with fail
    refine (fail_any hr0 1).mono ?_
    rintro e w1 ⟨rfl, hu1, hr1⟩
    go_wp2
    go_ret
    rw [H.out]
    exact ⟨rfl, ((Upd.refl [] w).alloc _).trans hu1 (by simp), hr1⟩
  · have H := hid (bodyR_eq kind data h4)
    have hn1 := num_any hr0 1 (by omega)
    go_enter Tryz.func43, Tryz.ntmps43
    go_wp2_with fail
    refine hn1.mono ?_
    rintro e w1 ⟨rfl, hu1, hr1⟩
    have hmid : ∀ w2, Upd [] w w2 → Rd w2 N w.heap.size (bodyK kind data) → True := fun _ _ _ => trivial
    by_cases hk : ((R.mk data 0).num 1).1 = kind
    · have Hk := hid (show bodyK kind data = ((R.mk data 0).num 1).2 by unfold bodyK; rw [if_pos hk])
      have hne := neq_false hk
      clear hk
      rw [← Hk.out] at hr1
      go_wp2_with fail
      refine (num_any hr1 3 (by omega)).mono ?_
      rintro e w2 ⟨rfl, hu2, hr2⟩
      obtain ⟨A2, c2, d0, d1, g0, g1, hl2, hc2⟩ := hr2.open_
      by_cases hL : ((bodyK kind data).num 3).1 = ((bodyK kind data).num 3).2.bs.length
      · have hne2 := neq_false hL
        rw [if_pos hL] at H
        clear hL
        go_wp2
        go_ret
        rw [H.out]
        exact ⟨rfl, (((Upd.refl [] w).alloc _).trans hu1 (by simp)).trans hu2 (by simp), hr2⟩
      · have hne2 := neq_true hL
        rw [if_neg hL] at H
        clear hL
        go_wp2_with fail
        refine (fail_any hr2 1).mono ?_
        rintro e w3 ⟨rfl, hu3, hr3⟩
        go_wp2
        go_ret
        rw [H.out]
        exact ⟨rfl, ((((Upd.refl [] w).alloc _).trans hu1 (by simp)).trans hu2 (by simp)).trans hu3 (by simp), hr3⟩
    · have Hk := hid (show bodyK kind data = ((R.mk data 0).num 1).2.fail 1 by unfold bodyK; rw [if_neg hk])
      have hne := neq_true hk
      clear hk
      go_wp2_with fail
      refine (fail_any hr1 1).mono ?_
      rintro e w1' ⟨rfl, hu1', hr1'⟩
      rw [← Hk.out] at hr1'
      go_wp2_with fail
      refine (num_any hr1' 3 (by omega)).mono ?_
      rintro e w2 ⟨rfl, hu2, hr2⟩
      obtain ⟨A2, c2, d0, d1, g0, g1, hl2, hc2⟩ := hr2.open_
      by_cases hL : ((bodyK kind data).num 3).1 = ((bodyK kind data).num 3).2.bs.length
      · have hne2 := neq_false hL
        rw [if_pos hL] at H
        clear hL
        go_wp2
        go_ret
        rw [H.out]
        exact ⟨rfl, ((((Upd.refl [] w).alloc _).trans hu1 (by simp)).trans hu1' (by simp)).trans hu2 (by simp), hr2⟩
      · have hne2 := neq_true hL
        rw [if_neg hL] at H
        clear hL
        go_wp2_with fail
        refine (fail_any hr2 1).mono ?_
        rintro e w3 ⟨rfl, hu3, hr3⟩
        go_wp2
        go_ret
        rw [H.out]
        exact ⟨rfl, (((((Upd.refl [] w).alloc _).trans hu1 (by simp)).trans hu1' (by simp)).trans hu2 (by simp)).trans hu3 (by simp), hr3⟩
end
end Go.Proofs.YtaajmfgplhfncaaGreat

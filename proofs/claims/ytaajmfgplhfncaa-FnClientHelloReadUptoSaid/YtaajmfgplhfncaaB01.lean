/- Texts joined: Base, Append, Model, ModelW, Reader, Reader2, Reader3, Reader4, Reader5. -/
import Derived.WalkKit
import Derived.Deep.Draws
import Derived.Maps.AppendAt
import Derived.RegionTactic
import Derived.OwnWalk
import Derived.Test.YtaajmfgplhfncaaChecked
import Derived.BigQuiet
import Derived.Deep.QuietTactic
import Derived.Deep.LoopGhost
import Derived.Deep.DeepMust
namespace Go.Proofs.Ytaajmfgplhfncaa
open Go.RowKit
theorem hid {p : Prop} (h : p) : Hid p := h
structure Upd (S : List Nat) (w w' : World) : Prop where
  os : w'.os = w.os
  tape : w'.tape = w.tape
  output : w'.output = w.output
  size : w.heap.size ≤ w'.heap.size
  block : ∀ k, k < w.heap.size → k ∉ S → w'.heap[k]? = w.heap[k]?
section
variable {S S' : List Nat} {a b c w w' : World}
theorem Upd.refl (S : List Nat) (w : World) : Upd S w w := ⟨rfl, rfl, rfl, Nat.le_refl _, fun _ _ _ => rfl⟩
theorem Upd.trans (h : Upd S a b) (k : Upd S' b c) (hs : ∀ x ∈ S', x ∈ S ∨ a.heap.size ≤ x) : Upd S a c :=
  ⟨k.os.trans h.os, k.tape.trans h.tape, k.output.trans h.output, Nat.le_trans h.size k.size, fun i hi hn =>
    (k.block i (Nat.lt_of_lt_of_le hi h.size) (fun hm => by
      rcases hs i hm with h1 | h1
      · exact hn h1
      · omega)).trans (h.block i hi hn)⟩
theorem Upd.mono (h : Upd S a b) (hs : ∀ x ∈ S, x ∈ S' ∨ a.heap.size ≤ x) : Upd S' a b := (Upd.refl S' a).trans h hs
theorem Upd.drew (h : Upd S a w) : Upd S a w.drew := ⟨h.os, h.tape, h.output, h.size, h.block⟩
theorem Upd.drewN (h : Upd S a w) (n : Nat) : Upd S a (w.drewN n) := ⟨h.os, h.tape, h.output, h.size, h.block⟩
theorem Upd.alloc (h : Upd S a w) (o : Obj) : Upd S a (w.alloc o) :=
  ⟨h.os, h.tape, h.output, Nat.le_trans h.size (by simp), fun k hk hn => (Below.heap_alloc w o k (Nat.lt_of_lt_of_le hk h.size)).trans (h.block k hk hn)⟩
theorem Upd.setCell (h : Upd S a w) {p : Addr} (hp : p.block ∈ S ∨ a.heap.size ≤ p.block) (u : Value) : Upd S a (w.setCell p u) :=
  ⟨h.os, h.tape, h.output, by simpa [World.setCell] using h.size, fun k hk hn => (Below.heap_setCell w p u k (by
    rintro rfl
    rcases hp with hp | hp
    · exact hn hp
    · omega)).trans (h.block k hk hn)⟩
theorem Upd.grown {row : Option Nat} (h : Upd S a w) (hg : w.grownBy w' row) (hr : ∀ g, row = some g → g ∈ S ∨ a.heap.size ≤ g) : Upd S a w' :=
  ⟨hg.os.trans h.os, hg.tape.trans h.tape, hg.output.trans h.output, Nat.le_trans h.size hg.size, fun k hk hn =>
    (hg.block k (Nat.lt_of_lt_of_le hk h.size) (fun e => by
      rcases hr k e.symm with h1 | h1
      · exact hn h1
      · omega)).trans (h.block k hk hn)⟩
theorem Upd.below {B : Nat} (h : Upd S a b) (hB : B ≤ a.heap.size) (hs : ∀ x ∈ S, B ≤ x) : Below B a b :=
  ⟨h.os, h.tape, h.output, h.size, fun k hk => h.block k (by omega) (fun hm => by have := hs k hm; omega)⟩
theorem Upd.cell (h : Upd S a b) {p : Addr} {v : Value} (hc : a.cell? p = some v) (hn : p.block ∉ S) : b.cell? p = some v :=
  (World.cell?_of_block (h.block p.block (World.block_lt_of_cell? a p hc) hn)).trans hc
def Blk (w : World) (g : Nat) (t : TypeId) (cs : Array Value) : Prop := w.heap[g]? = some (.cells cs t (0, 0))
variable {g : Nat} {t : TypeId} {cs : Array Value}
theorem Blk.lt (h : Blk w g t cs) : g < w.heap.size := by
  rcases Nat.lt_or_ge g w.heap.size with hlt | hge
  · exact hlt
  · unfold Blk at h; rw [Array.getElem?_eq_none hge] at h; cases h
theorem Blk.cell (h : Blk w g t cs) (i : Nat) : w.cell? ⟨g, i, none⟩ = cs[i]? := cell_of_row w g i cs t (0, 0) h
theorem Blk.frozen (h : Blk w g t cs) (i : Nat) : w.frozen? ⟨g, i, none⟩ = false := by
  unfold Blk at h
  simp [World.frozen?, h]
theorem Blk.new (w : World) (t : TypeId) (cs : Array Value) : Blk (w.alloc (.cells cs t)) w.heap.size t cs := heap_alloc_new w _
theorem Blk.drew (h : Blk w g t cs) : Blk w.drew g t cs := h
theorem Blk.drewN (h : Blk w g t cs) (n : Nat) : Blk (w.drewN n) g t cs := h
theorem Blk.alloc (h : Blk w g t cs) (o : Obj) : Blk (w.alloc o) g t cs := (Below.heap_alloc w o g h.lt).trans h
theorem Blk.set_ (h : Blk w g t cs) (i : Nat) (u : Value) : Blk (w.setCell ⟨g, i, none⟩ u) g t (cs.setIfInBounds i u) := by
  unfold Blk at h ⊢
  simp [World.setCell, Array.getElem?_modify, h]
theorem Blk.upd (h : Blk w g t cs) (hu : Upd S w w') (hg : g ∉ S) : Blk w' g t cs := (hu.block g h.lt hg).trans h
theorem Blk.below {B : Nat} (h : Blk w g t cs) (hb : Below B w w') (hg : g < B) : Blk w' g t cs := (hb.block g hg).trans h
theorem Blk.grown {row : Option Nat} (h : Blk w g t cs) (hb : w.grownBy w' row) (hg : some g ≠ row) : Blk w' g t cs := (hb.block g h.lt hg).trans h
theorem Blk.ne_ {g' : Nat} {t' : TypeId} {cs' : Array Value} (h : Blk w g t cs) (h' : Blk w g' t' cs') (hne : t ≠ t') : g ≠ g' := by
  rintro rfl
  unfold Blk at h h'
  rw [h] at h'
  injection h' with h'
  injection h' with _ ht
  exact hne ht
end
def Row (w : World) (B : Nat) (v : Value) (xs : List Value) : Prop :=
  ∃ A c, v = .slice A xs.length c ∧ xs.length ≤ c ∧ c ≤ maxLen ∧ (A = none → c = 0) ∧
    (xs ≠ [] → ∃ b o, A = some ⟨b, o, none⟩ ∧ b < B ∧ ∀ j u, xs[j]? = some u → w.cell? ⟨b, o + j, none⟩ = some u)
theorem add_lit (b o n : Nat) : (⟨b, o, none⟩ : Addr).add n = ⟨b, o + n, none⟩ := by
  unfold Addr.add
  split
  · subst_vars; rfl
  · rfl
section
variable {w w' : World} {B B' : Nat} {v : Value} {xs : List Value} {S : List Nat}
theorem Row.nil_ (w : World) (B : Nat) : Row w B (.slice none 0 0) [] := ⟨none, 0, rfl, by simp, by simp, fun _ => rfl, fun h => absurd rfl h⟩
theorem Row.keep (h : Row w B v xs) (hk : ∀ p : Addr, ∀ u, p.block < B → w.cell? p = some u → w'.cell? p = some u) : Row w' B v xs := by
  obtain ⟨A, c, rfl, h1, h2, h3, h4⟩ := h
  refine ⟨A, c, rfl, h1, h2, h3, fun hn => ?_⟩
  obtain ⟨b, o, rfl, hb, hc⟩ := h4 hn
  exact ⟨b, o, rfl, hb, fun j u hu => hk _ _ hb (hc j u hu)⟩
theorem Row.more (h : Row w B v xs) (hB : B ≤ B') : Row w B' v xs := by
  obtain ⟨A, c, rfl, h1, h2, h3, h4⟩ := h
  refine ⟨A, c, rfl, h1, h2, h3, fun hn => ?_⟩
  obtain ⟨b, o, rfl, hb, hc⟩ := h4 hn
  exact ⟨b, o, rfl, by omega, hc⟩
theorem Row.below (h : Row w B v xs) (hb : Below B w w') : Row w' B v xs := h.keep fun _ _ hp hc => (hb.cell hp).trans hc
theorem Row.upd (h : Row w B v xs) (hu : Upd S w w') (hs : ∀ x ∈ S, B ≤ x) : Row w' B v xs :=
  h.keep fun p _ hp hc => hu.cell hc (fun hm => by have := hs _ hm; omega)
theorem Row.drew (h : Row w B v xs) : Row w.drew B v xs := h
theorem Row.drewN (h : Row w B v xs) (k : Nat) : Row (w.drewN k) B v xs := h
theorem Row.alloc (h : Row w B v xs) (o : Obj) : Row (w.alloc o) B v xs :=
  h.keep fun p _ _ hc => (World.cell?_alloc_lt w o p (World.block_lt_of_cell? w p hc)).trans hc
theorem Row.setCell (h : Row w B v xs) {p : Addr} (hB : B ≤ p.block) (u : Value) : Row (w.setCell p u) B v xs :=
  h.keep fun q _ hq hc => (World.cell?_setCell_other w p q u (fun e => by subst e; omega)).trans hc
theorem Row.apart (h : Row w B v xs) (hu : Upd S w w') (hs : ∀ g, v.ownBlock = some g → g ∉ S) : Row w' B v xs := by
  obtain ⟨A, c, rfl, h1, h2, h3, h4⟩ := h
  refine ⟨A, c, rfl, h1, h2, h3, fun hn => ?_⟩
  obtain ⟨b, o, rfl, hb, hc⟩ := h4 hn
  exact ⟨b, o, rfl, hb, fun j u hj => hu.cell (hc j u hj) (hs b rfl)⟩
theorem Row.at_ {A : Option Addr} {n c : Nat} (h : Row w B (.slice A n c) xs) {k : Nat} (hk : k < n) :
    ∃ b o, A = some ⟨b, o, none⟩ ∧ b < B ∧ ∃ hk' : k < xs.length, w.cell? ⟨b, o + k, none⟩ = some (xs[k]'hk') := by
  obtain ⟨A', c', e, h1, h2, h3, h4⟩ := h
  injection e with e1 e2 e3
  subst e1 e2 e3
  have hk' : k < xs.length := hk
  obtain ⟨b, o, rfl, hb, hc⟩ := h4 (by intro e; simp [e] at hk')
  exact ⟨b, o, rfl, hb, hk', hc k _ (List.getElem?_eq_getElem hk')⟩
theorem Row.len {A : Option Addr} {n c : Nat} (h : Row w B (.slice A n c) xs) : xs.length = n := by
  obtain ⟨A', c', e, _⟩ := h
  injection e with _ e2 _
  exact e2.symm
theorem Row.cutOff {A : Option Addr} {n c k : Nat} (h : Row w B (.slice A n c) xs) (hk : k ≤ n) (_hne : c ≠ k) :
    Row w B (.slice (A.map (·.add k)) (n - k) (c - k)) (xs.drop k) := by
  obtain ⟨A', c', e, h1, h2, h3, h4⟩ := h
  injection e with e1 e2 e3
  subst e1 e2 e3
  refine ⟨A.map (·.add k), c - k, by rw [List.length_drop], by rw [List.length_drop]; omega, by omega, fun hA => ?_, fun hn => ?_⟩
  · cases A with
    | none => have := h3 rfl; omega
    | some a => cases hA
  · obtain ⟨b, o, rfl, hb, hc⟩ := h4 (by intro e; simp [e] at hn)
    refine ⟨b, o + k, by rw [Option.map_some, add_lit], hb, fun j u hj => ?_⟩
    rw [List.getElem?_drop] at hj
    rw [Nat.add_assoc]
    exact hc _ u hj
theorem Row.cutEnd {A : Option Addr} {n c k : Nat} (h : Row w B (.slice A n c) xs) (hk : k ≤ n) (he : c = k) :
    Row w B (.slice A (n - k) 0) (xs.drop k) := by
  obtain ⟨A', c', e, h1, h2, h3, h4⟩ := h
  injection e with e1 e2 e3
  subst e1 e2 e3
  have hl : xs.length = k := by omega
  have hd : xs.drop k = [] := by rw [List.drop_eq_nil_iff]; omega
  rw [hd]
  exact ⟨A, 0, by simp; omega, by simp, by omega, fun _ => rfl, fun h => absurd rfl h⟩
theorem Row.takeTo {A : Option Addr} {n c k m : Nat} (h : Row w B (.slice A n c) xs) (hk : k ≤ n) (hm : k ≤ m) (hc' : m ≤ c) (h0 : A = none → m = 0) :
    Row w B (.slice A k m) (xs.take k) := by
  obtain ⟨A', c', e, h1, h2, h3, h4⟩ := h
  injection e with e1 e2 e3
  subst e1 e2 e3
  refine ⟨A, m, by rw [List.length_take]; congr 1; omega, by rw [List.length_take]; omega, by omega, h0, fun hn => ?_⟩
  obtain ⟨b, o, rfl, hb, hc⟩ := h4 (by intro e; simp [e] at hn)
  refine ⟨b, o, rfl, hb, fun j u hj => ?_⟩
  rw [List.getElem?_take] at hj
  split at hj
  · exact hc j u hj
  · cases hj
theorem Row.capNone {A : Option Addr} {n c : Nat} (h : Row w B (.slice A n c) xs) : A = none → c = 0 := by
  obtain ⟨A', c', e, h1, h2, h3, h4⟩ := h
  injection e with e1 e2 e3
  subst e1 e2 e3
  exact h3
theorem Row.lenCap {A : Option Addr} {n c : Nat} (h : Row w B (.slice A n c) xs) : n ≤ c ∧ c ≤ maxLen := by
  obtain ⟨A', c', e, h1, h2, h3, h4⟩ := h
  injection e with e1 e2 e3
  subst e1 e2 e3
  exact ⟨h1, h2⟩
end
abbrev bv (u : UInt8) : Value := .int .u8 (u.toNat : Int)
abbrev Byt (w : World) (B : Nat) (v : Value) (bs : List UInt8) : Prop := Row w B v (bs.map bv)
theorem Byt.cutOff {w : World} {B : Nat} {bs : List UInt8} {A : Option Addr} {n c k : Nat} (h : Byt w B (.slice A n c) bs) (hk : k ≤ n) (hne : c ≠ k) :
    Byt w B (.slice (A.map (·.add k)) (n - k) (c - k)) (bs.drop k) := by
  have := Row.cutOff h hk hne
  rwa [← List.map_drop] at this
theorem Byt.cutEnd {w : World} {B : Nat} {bs : List UInt8} {A : Option Addr} {n c k : Nat} (h : Byt w B (.slice A n c) bs) (hk : k ≤ n) (he : c = k) :
    Byt w B (.slice A (n - k) 0) (bs.drop k) := by
  have := Row.cutEnd h hk he
  rwa [← List.map_drop] at this
theorem Byt.takeTo {w : World} {B : Nat} {bs : List UInt8} {A : Option Addr} {n c k m : Nat} (h : Byt w B (.slice A n c) bs) (hk : k ≤ n) (hm : k ≤ m) (hc' : m ≤ c) (h0 : A = none → m = 0) :
    Byt w B (.slice A k m) (bs.take k) := by
  have := Row.takeTo h hk hm hc' h0
  rwa [← List.map_take] at this
theorem Byt.len {w : World} {B : Nat} {bs : List UInt8} {A : Option Addr} {n c : Nat} (h : Byt w B (.slice A n c) bs) : bs.length = n := by
  have := Row.len h
  simpa using this
theorem Row.formN {w : World} {B : Nat} {v : Value} {xs : List Value} (h : Row w B v xs) {n : Nat} (hn : xs.length = n) : ∃ A c, v = .slice A n c ∧ Row w B (.slice A n c) xs ∧ n ≤ c ∧ c ≤ 9223372036854775807 := by
  subst hn
  have h0 := h
  obtain ⟨A, c, rfl, h1, h2, _⟩ := h
  exact ⟨A, c, rfl, h0, h1, h2⟩
theorem Byt.form {w : World} {B : Nat} {v : Value} {bs : List UInt8} (h : Byt w B v bs) {n : Nat} (hn : bs.length = n) : ∃ A c, v = .slice A n c ∧ Byt w B (.slice A n c) bs ∧ n ≤ c ∧ c ≤ 9223372036854775807 := by
  have h0 := h
  obtain ⟨A, c, rfl, h1, h2, _⟩ := h
  rw [List.length_map, hn] at h0 h1
  refine ⟨A, c, ?_, h0, h1, h2⟩
  rw [List.length_map, hn]
theorem Byt.at_ {w : World} {B : Nat} {A : Option Addr} {n c : Nat} {bs : List UInt8} (h : Byt w B (.slice A n c) bs) {k : Nat} (hk : k < n) :
    ∃ b o, A = some ⟨b, o, none⟩ ∧ b < B ∧ ∃ hk' : k < bs.length, w.cell? ⟨b, o + k, none⟩ = some (bv (bs[k]'hk')) := by
  obtain ⟨b, o, h1, h2, h3, h4⟩ := Row.at_ h hk
  refine ⟨b, o, h1, h2, by simpa using h3, ?_⟩
  rw [h4, List.getElem_map]
def isSlice (v : Value) : Prop := ∃ A n c, v = .slice A n c
theorem Row.form {w : World} {B : Nat} {v : Value} {xs : List Value} (h : Row w B v xs) : ∃ A c, v = .slice A xs.length c := by
  obtain ⟨A, c, rfl, _⟩ := h
  exact ⟨A, c, rfl⟩
abbrev Own (w : World) (base : Nat) (e : TypeId) (v : Value) (xs : List Value) : Prop := w.ownsRow base e 1 v xs.length xs
theorem Own.row {w : World} {base : Nat} {e : TypeId} {v : Value} {xs : List Value} (h : Own w base e v xs) : Row w w.heap.size v xs := by
  rcases h.2 with ⟨rfl, h0⟩ | ⟨g, cap, cur, rfl, hb, hg, hn, hm, hs, ht⟩
  · have : xs = [] := List.eq_nil_of_length_eq_zero h0
    subst this
    exact Row.nil_ _ _
  · refine ⟨some ⟨g, 0, none⟩, cap, rfl, hn, hm, fun e => by (cases e), fun _ => ⟨g, 0, rfl, (Array.getElem?_eq_some_iff.1 hg).1, fun j u hu => ?_⟩⟩
    have := h.cells (g := g) rfl j u hu
    rwa [add_lit] at this
def LawP (w : World) (e : Ending) (w' : World) : Prop := e = .returned (.bool true) ∧ Upd [] w w'
end Go.Proofs.Ytaajmfgplhfncaa
namespace Go.Proofs.Ytaajmfgplhfncaa
open Go.RowKit
section
variable {P : Program} (w : World)
theorem run_append_of_nil (base : Nat) (t ty e : TypeId) (i : TypeInfo) (size : Nat) (ht : P.underlying t = some (.slice e)) (hi : P.info? e = some i)
    (v : Value) (n : Nat) (xs : List Value) (hown : w.ownsRow base e size v n xs) (c : Nat) : (Builtin.append_ #[t, t] ty #[v, .slice none 0 c]).run P w = .ok v w := by
  rcases hown.2 with ⟨rfl, rfl⟩ | ⟨g, cap, cur, rfl, _, _, hnc, _⟩
  · simp [Builtin.append_, run_underlying ht, sizeOf, typeInfo, hi, Builtin.lenOf, Builtin.firstCells]
  · simp [Builtin.append_, run_underlying ht, sizeOf, typeInfo, hi, Builtin.lenOf, Builtin.firstCells, hnc, storeCells]
def Appended (w : World) (base : Nat) (e : TypeId) (v : Value) (zs : List Value) (v' : Value) (w' : World) : Prop :=
  Own w' base e v' zs ∧ Upd v.ownBlock.toList w w' ∧ (v'.ownBlock = v.ownBlock ∨ v'.ownBlock = some w.heap.size)
theorem upd_of_grown {w w' : World} {row : Option Nat} (h : w.grownBy w' row) : Upd row.toList w w' :=
  (Upd.refl _ _).grown h fun g hg => .inl (by subst hg; simp)
theorem run_append_row (base : Nat) (t ty e : TypeId) (z : Value) (bytes : Nat) (ht : P.underlying t = some (.slice e))
    (hinfo : (P.info? e).map (fun i => (i.zero, i.size, i.bytes)) = some (some z, 1, bytes)) (hzs : z.cells.size = 1)
    {v : Value} {xs : List Value} (hown : Own w base e v xs) {B : Nat} {x : Value} {news : List Value} (hr : Row w B x news) (h1 : ∀ u ∈ news, u.oneCell' = true)
    (hlen : (xs.length + news.length) * bytes ≤ 140737488355328) (hl63 : xs.length + news.length ≤ 140737488355328) (hbase : base ≤ w.heap.size) :
    ∃ v' w', (Builtin.append_ #[t, t] ty #[v, x]).run P w = .ok v' w' ∧ Appended w base e v (xs ++ news) v' w' := by
  obtain ⟨i, hi, hz, hsize, hby⟩ := info_parts hinfo
  obtain ⟨A, c, rfl, hc1, hc2, hcn, hcell⟩ := hr
  rcases A with _ | ad
  · have hc0 := hcn rfl
    subst hc0
    have hn : news = [] := List.eq_nil_of_length_eq_zero (by omega)
    subst hn
    exact ⟨v, w, run_append_of_nil w base t ty e i 1 ht hi v _ xs hown 0, by simpa using hown, Upd.refl _ _, .inl rfl⟩
  · have hcells : ∀ j u, news[j]? = some u → w.cell? (ad.add j) = some u := by
      intro j u hu
      obtain ⟨b, o, e, _, hc⟩ := hcell (by intro e; simp [e] at hu)
      injection e with e
      subst e
      rw [add_lit]
      exact hc j u hu
    obtain ⟨v', w', hrun, h2, h3, _, h5⟩ := run_append_own_at (P := P) w base t ty e i z 1 bytes ht hi hz hsize hby hzs (by omega) v xs.length xs hown ad news.length c news (by omega) hcells h1
      (by simp only [maxLen]; omega) hlen hbase
    refine ⟨v', w', hrun, ?_, upd_of_grown h3, h5⟩
    show w'.ownsRow base e 1 v' (xs ++ news).length (xs ++ news)
    rw [List.length_append]
    exact h2
theorem wp_append_row {o : Oper} {a : Act} {K : Act → World → Prop} {Q : Exit → Act → World → Prop} (s x : Operand) (t : TypeId)
    (ho : o.op = .call { callee := .builtin .append, args := #[s, x], argTypes := #[t, t] })
    (base : Nat) (e : TypeId) (z : Value) (bytes : Nat) (ht : P.underlying t = some (.slice e))
    (hinfo : (P.info? e).map (fun i => (i.zero, i.size, i.bytes)) = some (some z, 1, bytes)) (hzs : z.cells.size = 1)
    {v : Value} {xs : List Value} (hs : a.eval s = v) (hown : Own w base e v xs) {B : Nat} {xv : Value} {news : List Value} (hx : a.eval x = xv) (hr : Row w B xv news) (h1 : ∀ u ∈ news, u.oneCell' = true)
    (hlen : (xs.length + news.length) * bytes ≤ 140737488355328) (hl63 : xs.length + news.length ≤ 140737488355328) (hbase : base ≤ w.heap.size)
    (h : ∀ v' w', Appended w base e v (xs ++ news) v' w' → K (a.put o.dst v') w') : o.wp P a w K Q := by
  obtain ⟨v', w', hrun, h2⟩ := run_append_row (P := P) w base t o.type e z bytes ht hinfo hzs hown hr h1 hlen hl63 hbase
  unfold Oper.wp execOp
  simp only [ho, resolve, invoke, builtin, Sem.run_bind, Sem.run_pure, Result.andThen_ok, List.map_toArray, List.map_cons, List.map_nil, hs, hx, hrun]
  exact h v' w' h2
theorem wpList_append_row {ops : Array Oper} {rest : List Oper} {o : Oper} {a : Act} {Q : Exit → Act → World → Prop} (hgd : o.guard = none) (s x : Operand) (t : TypeId)
    (ho : o.op = .call { callee := .builtin .append, args := #[s, x], argTypes := #[t, t] })
    (base : Nat) (e : TypeId) (z : Value) (bytes : Nat) (ht : P.underlying t = some (.slice e))
    (hinfo : (P.info? e).map (fun i => (i.zero, i.size, i.bytes)) = some (some z, 1, bytes)) (hzs : z.cells.size = 1)
    {v : Value} {xs : List Value} (hs : a.eval s = v) (hown : Own w base e v xs) {B : Nat} {xv : Value} {news : List Value} (hx : a.eval x = xv) (hr : Row w B xv news) (h1 : ∀ u ∈ news, u.oneCell' = true)
    (hlen : (xs.length + news.length) * bytes ≤ 140737488355328) (hl63 : xs.length + news.length ≤ 140737488355328) (hbase : base ≤ w.heap.size)
    (h : ∀ v' w', Appended w base e v (xs ++ news) v' w' → wpList P ops Q rest (a.put o.dst v') w') : wpList P ops Q (o :: rest) a w :=
  wpList_plain hgd fun _ hK => wp_append_row w s x t ho base e z bytes ht hinfo hzs hs hown hx hr h1 hlen hl63 hbase fun v' w' h2 => hK _ _ (h v' w' h2)
theorem step_append_row {ops : Array Oper} {o : Oper} {a : Act} {K : Act → World → Prop} {Q : Exit → Act → World → Prop} {E : Prop} (hgd : o.guard = none) (s x : Operand) (t : TypeId)
    (ho : o.op = .call { callee := .builtin .append, args := #[s, x], argTypes := #[t, t] })
    (base : Nat) (e : TypeId) (z : Value) (bytes : Nat) (ht : P.underlying t = some (.slice e))
    (hinfo : (P.info? e).map (fun i => (i.zero, i.size, i.bytes)) = some (some z, 1, bytes)) (hzs : z.cells.size = 1)
    {v : Value} {xs : List Value} (hs : a.eval s = v) (hown : Own w base e v xs) {B : Nat} {xv : Value} {news : List Value} (hx : a.eval x = xv) (hr : Row w B xv news) (h1 : ∀ u ∈ news, u.oneCell' = true)
    (hlen : (xs.length + news.length) * bytes ≤ 140737488355328) (hl63 : xs.length + news.length ≤ 140737488355328) (hbase : base ≤ w.heap.size)
    (h : ∀ v' w', Appended w base e v (xs ++ news) v' w' → K (a.put o.dst v') w') :
    if Region.wanted o (yielded ops a.tmps) = true then Oper.wp P o a w K Q else E := by
  have hw : Region.wanted o (yielded ops a.tmps) = true := by simp [Region.wanted, hgd]
  rw [if_pos hw]
  exact wp_append_row w s x t ho base e z bytes ht hinfo hzs hs hown hx hr h1 hlen hl63 hbase h
end
theorem Row.one (w : World) (e : TypeId) (u : Value) : Row (w.alloc (.cells #[u] e)) (w.heap.size + 1) (.slice (some ⟨w.heap.size, 0, none⟩) 1 1) [u] :=
  ⟨some ⟨w.heap.size, 0, none⟩, 1, rfl, by simp, by unfold maxLen; omega, fun e => (by cases e), fun _ => ⟨w.heap.size, 0, rfl, by omega, fun j u' hj => by
    match j, hj with
    | 0, hj =>
      rw [(Blk.new w e _).cell]
      simpa using hj
    | j + 1, hj => simp at hj⟩⟩
section
variable {w w' : World} {base : Nat} {e : TypeId} {v : Value} {xs : List Value} {S : List Nat}
theorem Own.upd (h : Own w base e v xs) (hu : Upd S w w') (hs : ∀ g, v.ownBlock = some g → g ∉ S) : Own w' base e v xs := by
  refine ⟨h.1, ?_⟩
  rcases h.2 with hn | ⟨g, cap, cur, rfl, hb, hg, rest⟩
  · exact .inl hn
  · exact .inr ⟨g, cap, cur, rfl, hb, (hu.block g (Array.getElem?_eq_some_iff.1 hg).1 (hs g rfl)).trans hg, rest⟩
theorem Own.nil_ (w : World) (base : Nat) (e : TypeId) : Own w base e (.slice none 0 0) [] := World.ownsRow_nil w base e 1
theorem Own.ge (h : Own w base e v xs) {g : Nat} (hg : v.ownBlock = some g) : base ≤ g ∧ g < w.heap.size := World.ownsRow.lt h g hg
theorem Own.ne {g : Nat} {t : TypeId} {cs : Array Value} (h : Own w base e v xs) (hb : Blk w g t cs) (hne : e ≠ t) : ∀ k, v.ownBlock = some k → k ≠ g := by
  intro k hk
  rcases h.2 with ⟨rfl, _⟩ | ⟨g', cap, cur, rfl, _, hh, _⟩
  · simp [Value.ownBlock] at hk
  · have : g' = k := by simpa [Value.ownBlock] using hk
    subst this
    exact Blk.ne_ (t := e) hh hb hne
theorem Own.formN (h : Own w base e v xs) {n : Nat} (hn : xs.length = n) : ∃ A c, v = .slice A n c := by
  subst hn
  obtain ⟨A, c, e, _⟩ := h.row
  exact ⟨A, c, e⟩
theorem Own.form (h : Own w base e v xs) : ∃ A c, v = .slice A xs.length c ∧ xs.length ≤ c ∧ c ≤ 9223372036854775807 := by
  obtain ⟨A, c, e, h1, h2, _⟩ := h.row
  exact ⟨A, c, e, h1, h2⟩
end
theorem Appended.one {w w' : World} {base : Nat} {e : TypeId} {v v' : Value} {zs : List Value} {o : Obj} (h : Appended (w.alloc o) base e v zs v' w') :
    Own w' base e v' zs ∧ Upd v.ownBlock.toList w w' ∧ (v'.ownBlock = v.ownBlock ∨ ∃ g, v'.ownBlock = some g ∧ w.heap.size < g) := by
  obtain ⟨h1, h2, h3⟩ := h
  refine ⟨h1, (((Upd.refl v.ownBlock.toList w).alloc o).trans h2 fun x hx => .inl hx), ?_⟩
  · rcases h3 with h3 | h3
    · exact .inl h3
    · exact .inr ⟨_, h3, by simp⟩
end Go.Proofs.Ytaajmfgplhfncaa
namespace Go.Proofs.Ytaajmfgplhfncaa
structure R where
  bs : List UInt8
  code : Nat
def beNat (l : List UInt8) : Nat := l.foldl (fun n u => n * 256 + u.toNat) 0
theorem beNat_snoc (l : List UInt8) (u : UInt8) : beNat (l ++ [u]) = beNat l * 256 + u.toNat := by simp [beNat]
theorem beNat_lt (l : List UInt8) : beNat l < 256 ^ l.length := by
  suffices h : ∀ l : List UInt8, beNat l.reverse < 256 ^ l.length by have := h l.reverse; simpa using this
  intro l
  induction l with
  | nil => simp [beNat]
  | cons u l ih =>
    rw [List.reverse_cons, beNat_snoc, List.length_cons, Nat.pow_succ]
    have := u.toNat_lt
    omega
namespace R
def fail (s : R) (c : Nat) : R := ⟨[], if s.code = 0 then c else s.code⟩
def take (s : R) (k : Nat) : List UInt8 × R :=
  if s.bs.length < k then (List.replicate k 0, s.fail 3) else (s.bs.take k, ⟨s.bs.drop k, s.code⟩)
def num (s : R) (k : Nat) : Nat × R := (beNat (s.take k).1, (s.take k).2)
def long (s : R) (n : Nat) : R := if s.code = 0 ∧ s.bs.length < n then s.fail 3 else s
def rng (s : R) (n lo hi : Nat) : R := if n < lo ∨ hi < n then s.fail 2 else s
def vec (s : R) (size lo hi : Nat) : List UInt8 × R :=
  let n := (s.num size).1
  let s2 := (s.num size).2.long n
  if s2.code = 0 then ((s2.take n).1, (s2.take n).2.rng n lo hi) else ([], s2)
def fin (s : R) : R := if s.bs = [] then s else s.fail 3
def within (s : R) (b : List UInt8) : R := ⟨if s.code = 0 then b else [], s.code⟩
def done (s : R) (part : R) : R := if part.fin.code = 0 then s else s.fail part.fin.code
end R
namespace R
end R
def All2 {α β : Type} (p : α → β → Prop) : List α → List β → Prop
  | [], [] => True
  | a :: l, b :: m => p a b ∧ All2 p l m
  | _, _ => False
theorem All2.length {α β : Type} {p : α → β → Prop} {l : List α} {m : List β} (h : All2 p l m) : l.length = m.length := by
  induction l generalizing m with
  | nil => cases m with
    | nil => rfl
    | cons b m => exact h.elim
  | cons a l ih => cases m with
    | nil => exact h.elim
    | cons b m => simp [ih h.2]
theorem All2.imp {α β : Type} {p q : α → β → Prop} {l : List α} {m : List β} (h : All2 p l m) (hpq : ∀ a b, p a b → q a b) : All2 q l m := by
  induction l generalizing m with
  | nil => cases m with
    | nil => trivial
    | cons b m => exact h.elim
  | cons a l ih => cases m with
    | nil => exact h.elim
    | cons b m => exact ⟨hpq _ _ h.1, ih h.2⟩
theorem All2.snoc {α β : Type} {p : α → β → Prop} {l : List α} {m : List β} {a : α} {b : β} (h : All2 p l m) (hab : p a b) : All2 p (l ++ [a]) (m ++ [b]) := by
  induction l generalizing m with
  | nil => cases m with
    | nil => exact ⟨hab, trivial⟩
    | cons b m => exact h.elim
  | cons a l ih => cases m with
    | nil => exact h.elim
    | cons b m => exact ⟨h.1, ih h.2⟩
theorem All2.get {α β : Type} {p : α → β → Prop} {l : List α} {m : List β} (h : All2 p l m) (i : Nat) (hl : i < l.length) (hm : i < m.length) : p l[i] m[i] := by
  induction l generalizing m i with
  | nil => simp at hl
  | cons a l ih => cases m with
    | nil => exact h.elim
    | cons b m => cases i with
      | zero => exact h.1
      | succ i => exact ih h.2 i _ _
end Go.Proofs.Ytaajmfgplhfncaa
namespace Go.Proofs.Ytaajmfgplhfncaa
structure Wr where
  b : List UInt8
  bad : Bool
def be (size n : Nat) : List UInt8 := match size with
  | 0 => []
  | k + 1 => UInt8.ofNat (n / 256 ^ k) :: be k n
theorem be_len (size n : Nat) : (be size n).length = size := by
  induction size with
  | zero => rfl
  | succ k ih => simp [be, ih]
namespace Wr
def num (s : Wr) (size n : Nat) : Wr := ⟨s.b ++ be size n, s.bad⟩
def vec (s : Wr) (size : Nat) (c : List UInt8) : Wr := ⟨s.b ++ be size c.length ++ c, s.bad || decide (256 ^ size ≤ c.length)⟩
def inner (s : Wr) (size : Nat) (x : Wr) : Wr := Wr.vec ⟨s.b, s.bad || x.bad⟩ size x.b
def nil : Wr := ⟨[], false⟩
def vector (size : Nat) (x : Wr) : Wr := nil.inner size x
def plain (b : List UInt8) : Wr := ⟨b, false⟩
end Wr
def messageW (kind : Nat) (x : Wr) : Wr := (Wr.nil.num 1 kind).inner 3 x
end Go.Proofs.Ytaajmfgplhfncaa
namespace Go.Proofs.Ytaajmfgplhfncaa
open Go.RowKit
theorem info_u8 : (Try.prog.info? 5).map (fun i => (i.zero, i.size, i.bytes)) = some (some (.int .u8 0), 1, 1) := by kernel_rfl
theorem Upd.two {S : List Nat} {a b c : World} (h : Upd S a b) (k : Upd S b c) : Upd S a c := h.trans k fun _ hx => .inl hx
end Go.Proofs.Ytaajmfgplhfncaa
namespace Go.Proofs.Ytaajmfgplhfncaa
open Go.RowKit
end Go.Proofs.Ytaajmfgplhfncaa
namespace Go.Proofs.Ytaajmfgplhfncaa
open Go.RowKit
abbrev wv (u : UInt16) : Value := .int .u16 (u.toNat : Int)
theorem info_u16 : (Try.prog.info? 22).map (fun i => (i.zero, i.size, i.bytes)) = some (some (.int .u16 0), 1, 2) := by kernel_rfl
theorem info_bytes : (Try.prog.info? 23).map (fun i => (i.zero, i.size, i.bytes)) = some (some (.slice none 0 0), 1, 24) := by kernel_rfl
section
variable {w w' : World} {N r : Nat} {s : R} {S : List Nat}
theorem wv_ofNat (n : Nat) (h : n < 65536) : Value.int .u16 (n : Int) = wv (UInt16.ofNat n) := by
  show _ = Value.int .u16 (((UInt16.ofNat n).toNat : Nat) : Int)
  rw [UInt16.toNat_ofNat', Nat.mod_eq_of_lt h]
end
end Go.Proofs.Ytaajmfgplhfncaa
namespace Go.Proofs.Ytaajmfgplhfncaa
open Go.RowKit
section
variable {w w' : World} {N r : Nat} {s : R} {S : List Nat}
def Vecs (w : World) (base N : Nat) (v : Value) (ls : List (List UInt8)) : Prop := ∃ vs, Own w base 23 v vs ∧ All2 (fun u l => Byt w N u l) vs ls
theorem Vecs.upd {base : Nat} {v : Value} {ls : List (List UInt8)} (h : Vecs w base N v ls) (hu : Upd S w w') (hs : ∀ g, v.ownBlock = some g → g ∉ S) (hN : ∀ x ∈ S, N ≤ x) : Vecs w' base N v ls := by
  obtain ⟨vs, h1, h2⟩ := h
  exact ⟨vs, h1.upd hu hs, h2.imp fun _ _ hb => hb.upd hu hN⟩
end
end Go.Proofs.Ytaajmfgplhfncaa
namespace Go.Proofs.Ytaajmfgplhfncaa
open Go.RowKit
section
variable {w w' : World} {N r : Nat} {s : R} {S : List Nat}
theorem neq_true {a b : Nat} (h : a ≠ b) : (((a : Int) != (b : Int)) = true) := by rw [bne_iff_ne]; omega
theorem neq_false {a b : Nat} (h : a = b) : (((a : Int) != (b : Int)) = false) := by subst h; simp
end
end Go.Proofs.Ytaajmfgplhfncaa

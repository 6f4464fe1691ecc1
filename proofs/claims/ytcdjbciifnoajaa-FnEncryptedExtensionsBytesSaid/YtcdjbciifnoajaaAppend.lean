/- 'append' onto a row of the call's own, as a law for the walk: the source is nil, empty or not. No program is named here. -/
import Derived.Test.YtcdjbciifnoajaaBase
import Derived.Maps.AppendAt
import Derived.RegionTactic
import Derived.OwnWalk
namespace Go.Proofs.Ytcdjbciifnoajaa
open Go.RowKit

section
variable {P : Program} (w : World)

theorem run_append_of_nil (base : Nat) (t ty e : TypeId) (i : TypeInfo) (size : Nat) (ht : P.underlying t = some (.slice e)) (hi : P.info? e = some i)
    (v : Value) (n : Nat) (xs : List Value) (hown : w.ownsRow base e size v n xs) (c : Nat) : (Builtin.append_ #[t, t] ty #[v, .slice none 0 c]).run P w = .ok v w := by
  rcases hown.2 with ⟨rfl, rfl⟩ | ⟨g, cap, cur, rfl, _, _, hnc, _⟩
  · simp [Builtin.append_, run_underlying ht, sizeOf, typeInfo, hi, Builtin.lenOf, Builtin.firstCells]
  · simp [Builtin.append_, run_underlying ht, sizeOf, typeInfo, hi, Builtin.lenOf, Builtin.firstCells, hnc, storeCells]

/-- what a law on append leaves: the new value owns what it owned and the news; only its old row, or new blocks, have turned -/
def Appended (w : World) (base : Nat) (e : TypeId) (v : Value) (zs : List Value) (v' : Value) (w' : World) : Prop :=
  Own w' base e v' zs ∧ Upd v.ownBlock.toList w w' ∧ (v'.ownBlock = v.ownBlock ∨ v'.ownBlock = some w.heap.size)

theorem upd_of_grown {w w' : World} {row : Option Nat} (h : w.grownBy w' row) : Upd row.toList w w' :=
  (Upd.refl _ _).grown h fun g hg => .inl (by subst hg; simp)

theorem run_append_row (base : Nat) (t ty e : TypeId) (z : Value) (bytes : Nat) (ht : P.underlying t = some (.slice e))
    (hinfo : (P.info? e).map (fun i => (i.zero, i.size, i.bytes)) = some (some z, 1, bytes)) (hzs : z.cells.size = 1)
    {v : Value} {xs : List Value} (hown : Own w base e v xs) {B : Nat} {x : Value} {news : List Value} (hr : Row w B x news) (h1 : ∀ u ∈ news, u.oneCell' = true)
    (hlen : (xs.length + news.length) * bytes ≤ 140737488355328) (hl63 : xs.length + news.length ≤ 140737488355328) (hbase : base ≤ w.heap.size) :
    ∃ v' w', (Builtin.append_ #[t, t] ty #[v, x]).run P w = .ok v' w' ∧ Appended w base e v (xs ++ news) v' w' := by
  obtain ⟨i, hi, hz, hsize, hby⟩ := info_parts hinfo
  obtain ⟨A, c, rfl, hc1, hc2, hcn, hcell⟩ := hr
  rcases A with _ | ad
  · have hc0 := hcn rfl
    subst hc0
    have hn : news = [] := List.eq_nil_of_length_eq_zero (by omega)
    subst hn
    exact ⟨v, w, run_append_of_nil w base t ty e i 1 ht hi v _ xs hown 0, by simpa using hown, Upd.refl _ _, .inl rfl⟩
  · have hcells : ∀ j u, news[j]? = some u → w.cell? (ad.add j) = some u := by
      intro j u hu
      obtain ⟨b, o, e, _, hc⟩ := hcell (by intro e; simp [e] at hu)
      injection e with e
      subst e
      rw [add_lit]
      exact hc j u hu
    obtain ⟨v', w', hrun, h2, h3, _, h5⟩ := run_append_own_at (P := P) w base t ty e i z 1 bytes ht hi hz hsize hby hzs (by omega) v xs.length xs hown ad news.length c news (by omega) hcells h1
      (by simp only [maxLen]; omega) hlen hbase
    refine ⟨v', w', hrun, ?_, upd_of_grown h3, h5⟩
    show w'.ownsRow base e 1 v' (xs ++ news).length (xs ++ news)
    rw [List.length_append]
    exact h2

theorem wp_append_row {o : Oper} {a : Act} {K : Act → World → Prop} {Q : Exit → Act → World → Prop} (s x : Operand) (t : TypeId)
    (ho : o.op = .call { callee := .builtin .append, args := #[s, x], argTypes := #[t, t] })
    (base : Nat) (e : TypeId) (z : Value) (bytes : Nat) (ht : P.underlying t = some (.slice e))
    (hinfo : (P.info? e).map (fun i => (i.zero, i.size, i.bytes)) = some (some z, 1, bytes)) (hzs : z.cells.size = 1)
    {v : Value} {xs : List Value} (hs : a.eval s = v) (hown : Own w base e v xs) {B : Nat} {xv : Value} {news : List Value} (hx : a.eval x = xv) (hr : Row w B xv news) (h1 : ∀ u ∈ news, u.oneCell' = true)
    (hlen : (xs.length + news.length) * bytes ≤ 140737488355328) (hl63 : xs.length + news.length ≤ 140737488355328) (hbase : base ≤ w.heap.size)
    (h : ∀ v' w', Appended w base e v (xs ++ news) v' w' → K (a.put o.dst v') w') : o.wp P a w K Q := by
  obtain ⟨v', w', hrun, h2⟩ := run_append_row (P := P) w base t o.type e z bytes ht hinfo hzs hown hr h1 hlen hl63 hbase
  unfold Oper.wp execOp
  simp only [ho, resolve, invoke, builtin, Sem.run_bind, Sem.run_pure, Result.andThen_ok, List.map_toArray, List.map_cons, List.map_nil, hs, hx, hrun]
  exact h v' w' h2

theorem wpList_append_row {ops : Array Oper} {rest : List Oper} {o : Oper} {a : Act} {Q : Exit → Act → World → Prop} (hgd : o.guard = none) (s x : Operand) (t : TypeId)
    (ho : o.op = .call { callee := .builtin .append, args := #[s, x], argTypes := #[t, t] })
    (base : Nat) (e : TypeId) (z : Value) (bytes : Nat) (ht : P.underlying t = some (.slice e))
    (hinfo : (P.info? e).map (fun i => (i.zero, i.size, i.bytes)) = some (some z, 1, bytes)) (hzs : z.cells.size = 1)
    {v : Value} {xs : List Value} (hs : a.eval s = v) (hown : Own w base e v xs) {B : Nat} {xv : Value} {news : List Value} (hx : a.eval x = xv) (hr : Row w B xv news) (h1 : ∀ u ∈ news, u.oneCell' = true)
    (hlen : (xs.length + news.length) * bytes ≤ 140737488355328) (hl63 : xs.length + news.length ≤ 140737488355328) (hbase : base ≤ w.heap.size)
    (h : ∀ v' w', Appended w base e v (xs ++ news) v' w' → wpList P ops Q rest (a.put o.dst v') w') : wpList P ops Q (o :: rest) a w :=
  wpList_plain hgd fun _ hK => wp_append_row w s x t ho base e z bytes ht hinfo hzs hs hown hx hr h1 hlen hl63 hbase fun v' w' h2 => hK _ _ (h v' w' h2)

theorem step_append_row {ops : Array Oper} {o : Oper} {a : Act} {K : Act → World → Prop} {Q : Exit → Act → World → Prop} {E : Prop} (hgd : o.guard = none) (s x : Operand) (t : TypeId)
    (ho : o.op = .call { callee := .builtin .append, args := #[s, x], argTypes := #[t, t] })
    (base : Nat) (e : TypeId) (z : Value) (bytes : Nat) (ht : P.underlying t = some (.slice e))
    (hinfo : (P.info? e).map (fun i => (i.zero, i.size, i.bytes)) = some (some z, 1, bytes)) (hzs : z.cells.size = 1)
    {v : Value} {xs : List Value} (hs : a.eval s = v) (hown : Own w base e v xs) {B : Nat} {xv : Value} {news : List Value} (hx : a.eval x = xv) (hr : Row w B xv news) (h1 : ∀ u ∈ news, u.oneCell' = true)
    (hlen : (xs.length + news.length) * bytes ≤ 140737488355328) (hl63 : xs.length + news.length ≤ 140737488355328) (hbase : base ≤ w.heap.size)
    (h : ∀ v' w', Appended w base e v (xs ++ news) v' w' → K (a.put o.dst v') w') :
    if Region.wanted o (yielded ops a.tmps) = true then Oper.wp P o a w K Q else E := by
  have hw : Region.wanted o (yielded ops a.tmps) = true := by simp [Region.wanted, hgd]
  rw [if_pos hw]
  exact wp_append_row w s x t ho base e z bytes ht hinfo hzs hs hown hx hr h1 hlen hl63 hbase h
end

/-- one value in a new block of its own: what 'append(s, x)' of one element lays first -/
theorem Row.one (w : World) (e : TypeId) (u : Value) : Row (w.alloc (.cells #[u] e)) (w.heap.size + 1) (.slice (some ⟨w.heap.size, 0, none⟩) 1 1) [u] :=
  ⟨some ⟨w.heap.size, 0, none⟩, 1, rfl, by simp, by unfold maxLen; omega, fun e => (by cases e), fun _ => ⟨w.heap.size, 0, rfl, by omega, fun j u' hj => by
    match j, hj with
    | 0, hj =>
      rw [(Blk.new w e _).cell]
      simpa using hj
    | j + 1, hj => simp at hj⟩⟩

section
variable {w w' : World} {base : Nat} {e : TypeId} {v : Value} {xs : List Value} {S : List Nat}
theorem Own.upd (h : Own w base e v xs) (hu : Upd S w w') (hs : ∀ g, v.ownBlock = some g → g ∉ S) : Own w' base e v xs := by
  refine ⟨h.1, ?_⟩
  rcases h.2 with hn | ⟨g, cap, cur, rfl, hb, hg, rest⟩
  · exact .inl hn
  · exact .inr ⟨g, cap, cur, rfl, hb, (hu.block g (Array.getElem?_eq_some_iff.1 hg).1 (hs g rfl)).trans hg, rest⟩
theorem Own.nil_ (w : World) (base : Nat) (e : TypeId) : Own w base e (.slice none 0 0) [] := World.ownsRow_nil w base e 1
theorem Own.ge (h : Own w base e v xs) {g : Nat} (hg : v.ownBlock = some g) : base ≤ g ∧ g < w.heap.size := World.ownsRow.lt h g hg
theorem Own.ne {g : Nat} {t : TypeId} {cs : Array Value} (h : Own w base e v xs) (hb : Blk w g t cs) (hne : e ≠ t) : ∀ k, v.ownBlock = some k → k ≠ g := by
  intro k hk
  rcases h.2 with ⟨rfl, _⟩ | ⟨g', cap, cur, rfl, _, hh, _⟩
  · simp [Value.ownBlock] at hk
  · have : g' = k := by simpa [Value.ownBlock] using hk
    subst this
    exact Blk.ne_ (t := e) hh hb hne
theorem Own.formN (h : Own w base e v xs) {n : Nat} (hn : xs.length = n) : ∃ A c, v = .slice A n c := by
  subst hn
  obtain ⟨A, c, e, _⟩ := h.row
  exact ⟨A, c, e⟩
theorem Own.form (h : Own w base e v xs) : ∃ A c, v = .slice A xs.length c ∧ xs.length ≤ c ∧ c ≤ 9223372036854775807 := by
  obtain ⟨A, c, e, h1, h2, _⟩ := h.row
  exact ⟨A, c, e, h1, h2⟩
end

/-- behind 'append(s, x)' of one element: the world was alloc'ed first -/
theorem Appended.one {w w' : World} {base : Nat} {e : TypeId} {v v' : Value} {zs : List Value} {o : Obj} (h : Appended (w.alloc o) base e v zs v' w') :
    Own w' base e v' zs ∧ Upd v.ownBlock.toList w w' ∧ (v'.ownBlock = v.ownBlock ∨ ∃ g, v'.ownBlock = some g ∧ w.heap.size < g) := by
  obtain ⟨h1, h2, h3⟩ := h
  refine ⟨h1, (((Upd.refl v.ownBlock.toList w).alloc o).trans h2 fun x hx => .inl hx), ?_⟩
  · rcases h3 with h3 | h3
    · exact .inl h3
    · exact .inr ⟨_, h3, by simp⟩
end Go.Proofs.Ytcdjbciifnoajaa

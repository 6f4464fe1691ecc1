/- Texts joined: ExtRow, SpecE. -/
import Derived.Test.YtaajmfgplhfncaaGreatWriter
import Derived.Test.YtaajmfgplhfncaaGreatBody
import Derived.Test.YtaajmfgplhfncaaGreatReader
import Derived.Deep.LoopGhost
import Derived.Deep.RegionHeld3

/- Slices of extensions in memory: read, owned, appended to. -/
namespace Go.Proofs.YtaajmfgplhfncaaGreat
open Go.RowKit
set_option maxRecDepth 100000

theorem info_ext : (Tryz.prog.info? 89).map (fun i => (i.zero, i.size, i.bytes)) = some (some (.agg #[.int .u16 0, .slice none 0 0]), 2, 32) := by kernel_rfl

/-- the cells of extensions whose bytes lie at us -/
def ecells : List Ex → List Value → List Value
  | e :: L, u :: us => wv e.1 :: u :: ecells L us
  | _, _ => []
theorem ecells_len {L : List Ex} {us : List Value} (h : us.length = L.length) : (ecells L us).length = L.length * 2 := by
  induction L generalizing us with
  | nil => cases us <;> rfl
  | cons e L ih => cases us with
    | nil => simp at h
    | cons u us => simp only [ecells, List.length_cons, ih (Nat.succ.inj h)]; omega
theorem ecells_append {L M : List Ex} {us vs : List Value} (h : us.length = L.length) : ecells (L ++ M) (us ++ vs) = ecells L us ++ ecells M vs := by
  induction L generalizing us with
  | nil => cases us with
    | nil => rfl
    | cons u us => simp at h
  | cons e L ih => cases us with
    | nil => simp at h
    | cons u us => simp only [ecells, List.cons_append, ih (Nat.succ.inj h)]
theorem ecells_at {L : List Ex} {us : List Value} (k : Nat) (h : k < L.length) (h' : k < us.length) : (ecells L us)[k * 2]? = some (wv L[k].1) ∧ (ecells L us)[k * 2 + 1]? = some us[k] := by
  induction L generalizing us k with
  | nil => simp at h
  | cons e L ih => cases us with
    | nil => simp at h'
    | cons u us => cases k with
      | zero => exact ⟨rfl, rfl⟩
      | succ k =>
        have := ih k (by simpa using h) (by simpa using h')
        have e1 : (k + 1) * 2 = k * 2 + 2 := by omega
        rw [e1]
        simpa [ecells] using this
theorem All2.append {α β : Type} {p : α → β → Prop} {l l' : List α} {m m' : List β} (h : All2 p l m) (h' : All2 p l' m') : All2 p (l ++ l') (m ++ m') := by
  induction l generalizing m with
  | nil => cases m with
    | nil => exact h'
    | cons b m => exact h.elim
  | cons a l ih => cases m with
    | nil => exact h.elim
    | cons b m => exact ⟨h.1, ih h.2⟩

/-- the slice value v reads as the extensions L: the row below block B, the bytes below block N -/
def Exr (w : World) (B N : Nat) (v : Value) (L : List Ex) : Prop :=
  ∃ A c us, v = .slice A L.length c ∧ L.length ≤ c ∧ c ≤ maxLen ∧ (A = none → c = 0) ∧ All2 (fun u e => Byt w N u e.2) us L ∧
    (L ≠ [] → ∃ b o, A = some ⟨b, o, none⟩ ∧ b < B ∧ ∀ j u, (ecells L us)[j]? = some u → w.cell? ⟨b, o + j, none⟩ = some u)
/-- such a slice of the call's own -/
def EOwn (w : World) (base N : Nat) (v : Value) (L : List Ex) : Prop := ∃ us, w.ownsRow base 89 2 v L.length (ecells L us) ∧ All2 (fun u e => Byt w N u e.2) us L

section
variable {w w' : World} {B B' N N' base : Nat} {v : Value} {L M : List Ex} {S : List Nat}
theorem Exr.nil_ (w : World) (B N : Nat) : Exr w B N (.slice none 0 0) [] := ⟨none, 0, [], rfl, Nat.le_refl _, by unfold maxLen; omega, fun _ => rfl, trivial, fun h => absurd rfl h⟩
theorem Exr.upd (h : Exr w B N v L) (hu : Upd S w w') (hs : ∀ x ∈ S, B ≤ x ∧ N ≤ x) : Exr w' B N v L := by
  obtain ⟨A, c, us, rfl, h1, h2, h3, h4, h5⟩ := h
  refine ⟨A, c, us, rfl, h1, h2, h3, h4.imp fun _ _ hy => Row.upd hy hu fun x hx => (hs x hx).2, fun hn => ?_⟩
  obtain ⟨b, o, e, hb, hc⟩ := h5 hn
  exact ⟨b, o, e, hb, fun j u hj => hu.cell (hc j u hj) fun hm => by have := (hs _ hm).1; simp only at this; omega⟩
/-- the row's block is none of S -/
theorem Exr.apart (h : Exr w B N v L) (hu : Upd S w w') (hs : ∀ g, v.ownBlock = some g → g ∉ S) (hN : ∀ x ∈ S, N ≤ x) : Exr w' B N v L := by
  obtain ⟨A, c, us, rfl, h1, h2, h3, h4, h5⟩ := h
  refine ⟨A, c, us, rfl, h1, h2, h3, h4.imp fun _ _ hy => Row.upd hy hu hN, fun hn => ?_⟩
  obtain ⟨b, o, rfl, hb, hc⟩ := h5 hn
  exact ⟨b, o, rfl, hb, fun j u hj => hu.cell (hc j u hj) (hs b rfl)⟩
theorem Exr.more (h : Exr w B N v L) (hB : B ≤ B') (hN : N ≤ N') : Exr w B' N' v L := by
  obtain ⟨A, c, us, rfl, h1, h2, h3, h4, h5⟩ := h
  refine ⟨A, c, us, rfl, h1, h2, h3, h4.imp fun _ _ hy => Row.more hy hN, fun hn => ?_⟩
  obtain ⟨b, o, e, hb, hc⟩ := h5 hn
  exact ⟨b, o, e, by omega, hc⟩
theorem Exr.shrink (h : Exr w B N v L) : Exr w w.heap.size w.heap.size v L := by
  obtain ⟨A, c, us, rfl, h1, h2, h3, h4, h5⟩ := h
  refine ⟨A, c, us, rfl, h1, h2, h3, h4.imp fun _ _ hy => Row.shrink hy, fun hn => ?_⟩
  obtain ⟨b, o, e, hb, hc⟩ := h5 hn
  have hl : us.length = L.length := h4.length
  have hpos : 0 < L.length := List.length_pos_iff.2 hn
  exact ⟨b, o, e, World.block_lt_of_cell? w _ (hc 0 _ (ecells_at 0 hpos (by omega)).1), hc⟩
theorem Exr.form (h : Exr w B N v L) : ∃ A c, v = .slice A L.length c ∧ Exr w B N (.slice A L.length c) L ∧ L.length ≤ c ∧ c ≤ 9223372036854775807 := by
  have h0 := h
  obtain ⟨A, c, us, rfl, h1, h2, _⟩ := h
  exact ⟨A, c, rfl, h0, h1, h2⟩
theorem Exr.at_ {A : Option Addr} {n c : Nat} (h : Exr w B N (.slice A n c) L) {k : Nat} (hk : k < n) :
    ∃ b o, A = some ⟨b, o, none⟩ ∧ b < B ∧ ∃ hk' : k < L.length, ∃ A' c', w.cell? ⟨b, o + k * 2, none⟩ = some (wv (L[k]'hk').1) ∧ w.cell? ⟨b, o + k * 2 + 1, none⟩ = some (.slice A' (L[k]'hk').2.length c') ∧
      Byt w N (.slice A' (L[k]'hk').2.length c') (L[k]'hk').2 ∧ (L[k]'hk').2.length ≤ c' ∧ c' ≤ 9223372036854775807 := by
  obtain ⟨A1, c1, us, e, h1, h2, h3, h4, h5⟩ := h
  injection e with e1 e2 e3
  subst e1 e2 e3
  obtain ⟨b, o, rfl, hb, hc⟩ := h5 (by intro e; simp [e] at hk)
  have hl : us.length = L.length := h4.length
  obtain ⟨g1, g2⟩ := ecells_at (us := us) k hk (by omega)
  have hy := h4.get k (by omega) hk
  obtain ⟨A', c', hv, hy', hb1, hb2⟩ := Byt.form hy rfl
  refine ⟨b, o, rfl, hb, hk, A', c', hc _ _ g1, ?_, hy', hb1, hb2⟩
  have := hc _ _ g2
  rw [hv] at this
  rw [Nat.add_assoc]
  exact this
theorem Exr.len {A : Option Addr} {n c : Nat} (h : Exr w B N (.slice A n c) L) : L.length = n := by
  obtain ⟨A1, c1, us, e, _⟩ := h
  injection e with _ e2 _
  exact e2.symm

theorem EOwn.nil_ (w : World) (base N : Nat) : EOwn w base N (.slice none 0 0) [] := ⟨[], World.ownsRow_nil w base _ 2, trivial⟩
theorem EOwn.upd (h : EOwn w base N v L) (hu : Upd S w w') (hs : ∀ g, v.ownBlock = some g → g ∉ S) (hN : ∀ x ∈ S, N ≤ x) : EOwn w' base N v L := by
  obtain ⟨us, h1, h2⟩ := h
  refine ⟨us, ⟨h1.1, ?_⟩, h2.imp fun _ _ hy => Row.upd hy hu hN⟩
  rcases h1.2 with hn | ⟨g, cap, cur, rfl, hb, hg, rest⟩
  · exact .inl hn
  · exact .inr ⟨g, cap, cur, rfl, hb, (hu.block g (Array.getElem?_eq_some_iff.1 hg).1 (hs g rfl)).trans hg, rest⟩
theorem EOwn.ge (h : EOwn w base N v L) {g : Nat} (hg : v.ownBlock = some g) : base ≤ g ∧ g < w.heap.size := by
  obtain ⟨us, h1, _⟩ := h
  exact World.ownsRow.lt h1 g hg
theorem EOwn.ne {g : Nat} {t : TypeId} {cs : Array Value} (h : EOwn w base N v L) (hb : Blk w g t cs) (hne : 89 ≠ t) : ∀ k, v.ownBlock = some k → k ≠ g := by
  intro k hk
  obtain ⟨us, h, _⟩ := h
  rcases h.2 with ⟨rfl, _⟩ | ⟨g', cap, cur, rfl, _, hh, _⟩
  · simp [Value.ownBlock] at hk
  · have : g' = k := by simpa [Value.ownBlock] using hk
    subst this
    exact Blk.ne_ (t := 89) hh hb hne
theorem EOwn.exr (h : EOwn w base N v L) : Exr w w.heap.size N v L := by
  obtain ⟨us, h1, h2⟩ := h
  rcases h1.2 with ⟨rfl, h0⟩ | ⟨g, cap, cur, rfl, hb, hg, hn, hm, hs, ht⟩
  · have : L = [] := List.eq_nil_of_length_eq_zero h0
    subst this
    exact Exr.nil_ _ _ _
  · refine ⟨some ⟨g, 0, none⟩, cap, us, rfl, hn, hm, fun e => by (cases e), h2, fun _ => ⟨g, 0, rfl, (Array.getElem?_eq_some_iff.1 hg).1, fun j u hu => ?_⟩⟩
    have := h1.cells (g := g) rfl j u hu
    rwa [add_lit] at this
theorem EOwn.form (h : EOwn w base N v L) : ∃ A c, v = .slice A L.length c ∧ L.length ≤ c ∧ c ≤ 9223372036854775807 := by
  obtain ⟨A, c, e, _, h1, h2⟩ := h.exr.form
  exact ⟨A, c, e, h1, h2⟩
theorem EOwn.more (h : EOwn w base N v L) (hN : N ≤ N') : EOwn w base N' v L := by
  obtain ⟨us, h1, h2⟩ := h
  exact ⟨us, h1, h2.imp fun _ _ hy => Row.more hy hN⟩

/-- what a law on append leaves -/
def EAppended (w : World) (base N : Nat) (v : Value) (L : List Ex) (v' : Value) (w' : World) : Prop :=
  EOwn w' base N v' L ∧ Upd v.ownBlock.toList w w' ∧ (v'.ownBlock = v.ownBlock ∨ v'.ownBlock = some w.heap.size)
theorem byt_oneCell' {u : Value} {xs : List UInt8} (h : Byt w N u xs) : u.oneCell' = true := by
  obtain ⟨A, c, rfl, _⟩ := h
  rfl
theorem ecells_oneCell {us : List Value} (h : All2 (fun u e => Byt w N u e.2) us M) : ∀ u ∈ ecells M us, u.oneCell' = true := by
  induction M generalizing us with
  | nil => cases us with
    | nil => intro u hu; cases hu
    | cons a us => exact h.elim
  | cons e M ih => cases us with
    | nil => exact h.elim
    | cons a us =>
      intro u hu
      rcases List.mem_cons.1 hu with hu | hu
      · rw [hu]; rfl
      · rcases List.mem_cons.1 hu with hu | hu
        · rw [hu]; exact byt_oneCell' h.1
        · exact ih h.2 u hu
theorem run_append_ex (ty : TypeId) (hown : EOwn w base N v L) {x : Value} (hr : Exr w B N x M) (hlen : L.length + M.length ≤ 4398046511104) (hbase : base ≤ w.heap.size) (hN : N ≤ base) :
    ∃ v' w', (Builtin.append_ #[31, 31] ty #[v, x]).run Tryz.prog w = .ok v' w' ∧ EAppended w base N v (L ++ M) v' w' := by
  obtain ⟨i, hi, hz, hsize, hby⟩ := info_parts info_ext
  obtain ⟨us, h1, h2⟩ := hown
  obtain ⟨A, c, vs, rfl, hc1, hc2, hcn, hcell, hrow⟩ := hr
  have hl1 : us.length = L.length := h2.length
  have hl2 : vs.length = M.length := hcell.length
  rcases A with _ | ad
  · have hc0 := hcn rfl
    subst hc0
    have hn : M = [] := List.eq_nil_of_length_eq_zero (by omega)
    subst hn
    exact ⟨v, w, run_append_of_nil w base _ ty _ i 2 Tryz.underlying31 hi v _ _ h1 0, ⟨us, by simpa using h1, by simpa using h2⟩, Upd.refl _ _, .inl rfl⟩
  · have hcells : ∀ j u, (ecells M vs)[j]? = some u → w.cell? (ad.add j) = some u := by
      intro j u hu
      obtain ⟨b, o, e, _, hc⟩ := hrow (by rintro rfl; cases vs <;> simp [ecells] at hu)
      injection e with e
      subst e
      rw [add_lit]
      exact hc j u hu
    obtain ⟨v', w', hrun, h3, h4, _, h5⟩ := run_append_own_at (P := Tryz.prog) w base 31 ty 89 i _ 2 32 Tryz.underlying31 hi hz hsize hby rfl (by omega) v L.length _ h1 ad M.length c (ecells M vs) (ecells_len hl2) hcells (ecells_oneCell hcell)
      (by simp only [maxLen]; omega) (by omega) hbase
    have hu := upd_of_grown h4
    have hge : ∀ x ∈ v.ownBlock.toList, N ≤ x := fun x hx => by
      have := World.ownsRow.lt h1 x (Option.mem_toList.1 hx)
      omega
    refine ⟨v', w', hrun, ⟨us ++ vs, ?_, ?_⟩, hu, h5⟩
    · rw [List.length_append, ecells_append hl1]
      exact h3
    · exact (h2.imp fun _ _ hy => Row.upd hy hu hge).append (hcell.imp fun _ _ hy => Row.upd hy hu hge)
theorem wp_append_ex {o : Oper} {a : Act} {K : Act → World → Prop} {Q : Exit → Act → World → Prop} (s x : Operand)
    (ho : o.op = .call { callee := .builtin .append, args := #[s, x], argTypes := #[31, 31] })
    (hs : a.eval s = v) (hown : EOwn w base N v L) {B : Nat} {xv : Value} (hx : a.eval x = xv) (hr : Exr w B N xv M) (hlen : L.length + M.length ≤ 4398046511104) (hbase : base ≤ w.heap.size) (hN : N ≤ base)
    (h : ∀ v' w', EAppended w base N v (L ++ M) v' w' → K (a.put o.dst v') w') : o.wp Tryz.prog a w K Q := by
  obtain ⟨v', w', hrun, h2⟩ := run_append_ex o.type hown hr hlen hbase hN
  unfold Oper.wp execOp
  simp only [ho, resolve, invoke, builtin, Sem.run_bind, Sem.run_pure, Result.andThen_ok, List.map_toArray, List.map_cons, List.map_nil, hs, hx, hrun]
  exact h v' w' h2
theorem wpList_append_ex {ops : Array Oper} {rest : List Oper} {o : Oper} {a : Act} {Q : Exit → Act → World → Prop} (hgd : o.guard = none) (s x : Operand)
    (ho : o.op = .call { callee := .builtin .append, args := #[s, x], argTypes := #[31, 31] })
    (hs : a.eval s = v) (hown : EOwn w base N v L) {B : Nat} {xv : Value} (hx : a.eval x = xv) (hr : Exr w B N xv M) (hlen : L.length + M.length ≤ 4398046511104) (hbase : base ≤ w.heap.size) (hN : N ≤ base)
    (h : ∀ v' w', EAppended w base N v (L ++ M) v' w' → wpList Tryz.prog ops Q rest (a.put o.dst v') w') : wpList Tryz.prog ops Q (o :: rest) a w :=
  wpList_plain hgd fun _ hK => wp_append_ex s x ho hs hown hx hr hlen hbase hN fun v' w' h2 => hK _ _ (h v' w' h2)
theorem step_append_ex {ops : Array Oper} {o : Oper} {a : Act} {K : Act → World → Prop} {Q : Exit → Act → World → Prop} {E : Prop} (hgd : o.guard = none) (s x : Operand)
    (ho : o.op = .call { callee := .builtin .append, args := #[s, x], argTypes := #[31, 31] })
    (hs : a.eval s = v) (hown : EOwn w base N v L) {B : Nat} {xv : Value} (hx : a.eval x = xv) (hr : Exr w B N xv M) (hlen : L.length + M.length ≤ 4398046511104) (hbase : base ≤ w.heap.size) (hN : N ≤ base)
    (h : ∀ v' w', EAppended w base N v (L ++ M) v' w' → K (a.put o.dst v') w') :
    if Region.wanted o (yielded ops a.tmps) = true then Oper.wp Tryz.prog o a w K Q else E := by
  have hw : Region.wanted o (yielded ops a.tmps) = true := by simp [Region.wanted, hgd]
  rw [if_pos hw]
  exact wp_append_ex s x ho hs hown hx hr hlen hbase hN h
/-- one extension in a new block: what 'append(l, e)' lays first -/
theorem Exr.one {u : Value} {k : UInt16} {d : List UInt8} (hy : Byt w N u d) : Exr (w.alloc (.cells #[wv k, u] 89)) (w.heap.size + 1) N (.slice (some ⟨w.heap.size, 0, none⟩) 1 1) [(k, d)] :=
  ⟨some ⟨w.heap.size, 0, none⟩, 1, [u], rfl, Nat.le_refl _, by unfold maxLen; omega, fun e => (by cases e), ⟨Row.alloc hy _, trivial⟩, fun _ => ⟨w.heap.size, 0, rfl, by omega, fun j u' hj => by
    match j, hj with
    | 0, hj => rw [(Blk.new w _ _).cell]; simpa [ecells] using hj
    | 1, hj => rw [(Blk.new w _ _).cell]; simpa [ecells] using hj
    | j + 2, hj => simp [ecells] at hj⟩⟩
theorem EOwn.alloc (h : EOwn w base N v L) (o : Obj) : EOwn (w.alloc o) base N v L := h.upd ((Upd.refl [] w).alloc o) (by simp) (by simp)
/-- behind 'append(s, e)' of one element: the world was alloc'ed first -/
theorem EAppended.one {v' : Value} {o : Obj} (h : EAppended (w.alloc o) base N v L v' w') :
    EOwn w' base N v' L ∧ Upd v.ownBlock.toList w w' ∧ (v'.ownBlock = v.ownBlock ∨ ∃ g, v'.ownBlock = some g ∧ w.heap.size < g) := by
  obtain ⟨h1, h2, h3⟩ := h
  refine ⟨h1, (((Upd.refl v.ownBlock.toList w).alloc o).trans h2 fun x hx => .inl hx), ?_⟩
  · rcases h3 with h3 | h3
    · exact .inl h3
    · exact .inr ⟨_, h3, by simp⟩
end
end Go.Proofs.YtaajmfgplhfncaaGreat

/- Contract of the reference's reader of extensions. -/
namespace Go.Proofs.YtaajmfgplhfncaaGreat
open Go.RowKit
set_option maxRecDepth 100000

def R.eKey (x : R) : UInt16 := UInt16.ofNat (x.num 2).1
def R.eData (x : R) : List UInt8 := ((x.num 2).2.vec 2 0 65535).1
def R.eRest (x : R) : R := ((x.num 2).2.vec 2 0 65535).2
theorem R.extsGo_succ (f : Nat) (x : R) (out : List Ex) : R.extsGo (f + 1) x out = if x.bs = [] then (out, x) else R.extsGo f (x.eRest.twice (out.any (·.1 == x.eKey))) (out ++ [(x.eKey, x.eData)]) := rfl
theorem R.twice_len (x : R) (c : Bool) : (x.twice c).bs.length ≤ x.bs.length := by cases c <;> simp [R.twice, fail_bs]
theorem R.twice_again (x : R) (c : Bool) : (x.twice c).fail 4 = x.twice true := by
  cases c
  · rfl
  · unfold R.twice R.fail
    by_cases h : x.code = 0
    · simp [h]
    · simp [h]
theorem R.eRest_len (x : R) (h : x.bs ≠ []) (c : Bool) : (x.eRest.twice c).bs.length < x.bs.length := by
  have h1 := R.twice_len x.eRest c
  have h2 := vec_bs_len (x.num 2).2 2 0 65535
  have h3 : (x.num 2).2.bs.length = x.bs.length - 2 := take_bs_len x 2
  have h4 : 0 < x.bs.length := List.length_pos_iff.2 h
  unfold R.eRest at h1 ⊢
  omega
theorem R.extsGo_fuel (f g : Nat) (x : R) (out : List Ex) (hf : x.bs.length ≤ f) (hg : x.bs.length ≤ g) : R.extsGo f x out = R.extsGo g x out := by
  induction f generalizing g x out with
  | zero =>
    have hx : x.bs = [] := List.eq_nil_of_length_eq_zero (by omega)
    cases g with
    | zero => rfl
    | succ g => rw [R.extsGo_succ, if_pos hx]; rfl
  | succ f ih =>
    cases g with
    | zero =>
      have hx : x.bs = [] := List.eq_nil_of_length_eq_zero (by omega)
      rw [R.extsGo_succ, if_pos hx]; rfl
    | succ g =>
      rw [R.extsGo_succ, R.extsGo_succ]
      by_cases h : x.bs = []
      · rw [if_pos h, if_pos h]
      · have := R.eRest_len x h (out.any (·.1 == x.eKey))
        rw [if_neg h, if_neg h, ih g _ _ (by omega) (by omega)]
theorem R.extsGo_round (x : R) (l : List Ex) (h : x.bs ≠ []) :
    R.extsGo x.bs.length x l = R.extsGo (x.eRest.twice (l.any (·.1 == x.eKey))).bs.length (x.eRest.twice (l.any (·.1 == x.eKey))) (l ++ [(x.eKey, x.eData)]) := by
  have h1 := R.eRest_len x h (l.any (·.1 == x.eKey))
  obtain ⟨f, hf⟩ : ∃ f, x.bs.length = f + 1 := ⟨x.bs.length - 1, by omega⟩
  rw [hf, R.extsGo_succ, if_neg h]
  exact R.extsGo_fuel _ _ _ _ (by omega) (Nat.le_refl _)
theorem num2_lt (x : R) : (x.num 2).1 < 65536 := by
  have := beNat_lt (x.take 2).1
  rw [take_len] at this
  exact this
theorem any_take_succ (l : List Ex) (k : Nat) (h : k < l.length) (key : UInt16) : (l.take (k + 1)).any (·.1 == key) = ((l.take k).any (·.1 == key) || (l[k].1 == key)) := by
  rw [List.take_succ_eq_append_getElem h, List.any_append]
  simp

section
variable {w w' : World} {N r : Nat} {s : R} {S : List Nat}

def ExtsP (w : World) (N r : Nat) (l : List Ex) (s : R) (e : Ending) (w' : World) : Prop :=
  ∃ v, e = .returned v ∧ EOwn w' w.heap.size N v l ∧ Upd [r] w w' ∧ Rd w' N r s
/-- the outer loop -/
def XRel (w : World) (N r q : Nat) (s1 x0 : R) (gk : Nat) (v : Value) (wr : World) : Prop :=
  ∃ (x : R) (l : List Ex), gk = x.bs.length ∧ l.length + x.bs.length ≤ x0.bs.length + 1 ∧ Rd wr N q x ∧ Rd wr N r s1 ∧ EOwn wr w.heap.size N v l ∧ Upd [r] w wr ∧ R.extsGo x0.bs.length x0 [] = R.extsGo x.bs.length x l
/-- the inner loop -/
def YRel (w6 : World) (N q : Nat) (x5 : R) (l : List Ex) (key : UInt16) (gk : Nat) (i : Value) (wr : World) : Prop :=
  ∃ k : Nat, k + gk = l.length ∧ i = .int .i64 (k : Int) ∧ Rd wr N q (x5.twice ((l.take k).any (·.1 == key))) ∧ Upd [q] w6 wr
theorem EOwn.q {q base : Nat} {v : Value} {l : List Ex} {x : R} {wr : World} (hown : EOwn w base N v l) (hx : Rd w N q x) (hu : Upd [q] w wr) : EOwn wr base N v l := by
  obtain ⟨hq, vx, hbx, _⟩ := hx
  exact hown.upd hu (fun g hg => by have := hown.ne hbx (by decide) g hg; simpa using this) (by simpa using hq)
/-- what a round of the outer loop leaves -/
theorem xrel_step {q : Nat} {s1 x0 x' : R} {l l' : List Ex} {v v3 : Value} {w8 w9 : World} {o : Obj} (hNw : N ≤ w.heap.size) (hrw : r < w.heap.size)
    (hx : Rd w8 N q x') (hr : Rd w8 N r s1) (hown : EOwn w8 w.heap.size N v l) (hu : Upd [r] w w8) (hap : EAppended (w8.alloc o) w.heap.size N v l' v3 w9)
    (hl : l'.length + x'.bs.length ≤ x0.bs.length + 1) (hE : R.extsGo x0.bs.length x0 [] = R.extsGo x'.bs.length x' l') : XRel w N r q s1 x0 x'.bs.length v3 w9 := by
  obtain ⟨h1, h2, h3⟩ := hap.one
  have hge : ∀ k ∈ v.ownBlock.toList, w.heap.size ≤ k := fun k hk => (hown.ge (Option.mem_toList.1 hk)).1
  have hq : q ∉ v.ownBlock.toList := by
    obtain ⟨_, vx, hbx, _⟩ := hx
    intro hk
    exact hown.ne hbx (by decide) q (Option.mem_toList.1 hk) rfl
  refine ⟨x', l', rfl, hl, hx.upd h2 (fun k hk => Nat.le_trans hNw (hge k hk)) hq, hr.upd h2 (fun k hk => Nat.le_trans hNw (hge k hk)) (fun hk => by have := hge r hk; omega), h1, ?_, hE⟩
  exact hu.trans h2 fun k hk => .inr (hge k hk)

set_option maxHeartbeats 4000000 in
theorem extensions_any (hr : Rd w N r s) :
    Calls Tryz.prog 49 #[.pointer (some ⟨r, 0, none⟩)] w (ExtsP w N r s.exts.1 s.exts.2) := by
  have hlt := hr.lt
  have hN := hr.1
  have H0 := hid (vec_any hr 2 0 65535 (by omega))
  go_enter Tryz.func49, Tryz.ntmps49
  go_wp2_with fail
  refine H0.out.mono ?_
  rintro e w1 ⟨u, rfl, hu1, hr1, hy1⟩
  obtain ⟨A, c, rfl, hy1, hl1, hc1⟩ := Byt.form hy1 rfl
  have hws := hu1.size
  have H1 := hid (within_any hr1 (N' := N) (by omega) hy1)
  have hvl := vec_bs_len s 2 0 65535
  go_wp2_with fail
  refine H1.out.mono ?_
  rintro e w2 ⟨rfl, hu2, hx2⟩
  obtain ⟨x0, hx0⟩ : ∃ x0, s.block = x0 := ⟨_, rfl⟩
  obtain ⟨s1, hs1⟩ : ∃ s1, (s.vec 2 0 65535).2 = s1 := ⟨_, rfl⟩
  have hx2' : Rd w2 N w1.heap.size x0 := by rw [← hx0]; exact hx2
  have hr2 : Rd w2 N r s1 := by rw [← hs1]; exact hr1.upd hu2 (by simp) (by simp)
  have hxb : x0.bs.length ≤ 4294967296 := by
    rw [← hx0]
    unfold R.block R.within
    simp only
    split
    · unfold R.vec
      simp only
      split
      · rw [take_len]
        have := num2_lt s
        omega
      · simp
    · simp
  have hu02 : Upd [r] w w2 := hu1.trans hu2 (by simp)
  obtain ⟨q, hq⟩ : ∃ q, w1.heap.size = q := ⟨_, rfl⟩
  rw [hq] at hx2'
  have hqw : w.heap.size ≤ q := by omega
  have hqr : q ≠ r := by omega
  have HX := hid hx0
  have HS := hid hs1
  have hlq : q < w2.heap.size := hx2'.lt
  clear hx2 hx0 hs1 hr1 hy1 hl1 hc1 hvl
  have HQ := hid hq
  clear hq
  go_wp2_with fail
  rw [HQ.out]
  go_loopg [3] x0.bs.length (fun gk v wr => XRel w N r q s1 x0 gk v wr)
  case atStart => exact ⟨x0, [], rfl, by simp, hx2', hr2, EOwn.nil_ _ _ _, hu02, rfl⟩
  case round =>
    obtain ⟨x, l, rfl, hxl, hx, hrr, hown, hu, hE⟩ := hrel
    obtain ⟨wo, rfl⟩ : ∃ wo : World, wo = wr := ⟨_, rfl⟩
    have HE := hid hE
    clear hE
    obtain ⟨Av, cv, rfl, hvl, hvc⟩ := hown.form
    obtain ⟨Ax, cx, c0, c1, f0, f1, hlx, hcx⟩ := hx.open_
    by_cases h0 : x.bs = []
    · obtain ⟨bs, cd⟩ := x
      have h0 : bs = [] := h0
      subst h0
      have hz : ¬ 0 < ([] : List UInt8).length := by simp
      have H2 := hid (done_any hrr hx hqr (by omega))
      have HO := hid hown
      go_wp2_with fail
      refine H2.out.mono ?_
      rintro e w3 ⟨rfl, hu3, hr3⟩
      go_wp2
      go_ret
      have hE := HE.out
      have hE : R.extsGo x0.bs.length x0 [] = (l, ⟨[], cd⟩) := hE
      have hX1 : s.exts.1 = l := by show (R.extsGo s.block.bs.length s.block []).1 = l; rw [HX.out, hE]
      have hX2 : s.exts.2 = s1.done ⟨[], cd⟩ := by show (s.vec 2 0 65535).2.done (R.extsGo s.block.bs.length s.block []).2 = _; rw [HX.out, hE, HS.out]
      rw [hX1, hX2]
      obtain ⟨_, vx, hbx, _⟩ := hx
      refine ⟨_, rfl, HO.out.upd hu3 (fun g hg => ?_) (by simp; omega), hu.trans hu3 (by simp; omega), hr3⟩
      have h1 := HO.out.ne hbx (by decide) g hg
      have h2 := (HO.out.ge hg).1
      simp
      omega
    · have hp : 0 < x.bs.length := List.length_pos_iff.2 h0
      have H3 := hid (num_any hx 2 (by omega))
      obtain ⟨n, hn⟩ : ∃ n : Nat, (x.num 2).1 = n := ⟨_, rfl⟩
      have hnl : n < 65536 := by rw [← hn]; exact num2_lt x
      rw [hn] at H3
      have Hn := hid hn
      have Hp := hid h0
      have HO := hid hown
      have HU := hid hu
      clear hn h0
      go_wp2_with fail
      refine H3.out.mono ?_
      rintro e w3 ⟨rfl, hu3, hx3⟩
      obtain ⟨w4, hw4⟩ : ∃ w4, w3.alloc (.cells #[.int .u16 (n : Int), .slice none 0 0] 89) = w4 := ⟨_, rfl⟩
      obtain ⟨g, hg⟩ : ∃ g, w3.heap.size = g := ⟨_, rfl⟩
      have hu34 : Upd [] w3 w4 := by rw [← hw4]; exact (Upd.refl _ _).alloc _
      have hb4 : Blk w4 g 89 #[.int .u16 (n : Int), .slice none 0 0] := by rw [← hw4, ← hg]; exact Blk.new _ _ _
      have hx4 : Rd w4 N q (x.num 2).2 := hx3.upd hu34 (by simp) (by simp)
      have hgq : q < g := by rw [← hg]; exact hx3.lt
      have H4 := hid (vec_any hx4 2 0 65535 (by omega))
      have HW4 := hid hw4
      have Hg := hid hg
      clear hw4 hg
      go_wp2_with fail
      rw [HW4.out, Hg.out]
      refine H4.out.mono ?_
      rintro e w5 ⟨u5, rfl, hu5, hx5, hy5⟩
      obtain ⟨A5, c5, rfl, hy5, hl5, hc5⟩ := Byt.form hy5 rfl
      have hb5 : Blk w5 g 89 #[.int .u16 (n : Int), .slice none 0 0] := hb4.upd hu5 (by simp; omega)
      obtain ⟨d, hd⟩ : ∃ d, ((x.num 2).2.vec 2 0 65535).1 = d := ⟨_, rfl⟩
      rw [hd] at hy5 hl5
      rw [hd]
      have c50 := hb5.cell 0
      have c51 := hb5.cell 1
      have f51 := hb5.frozen 1
      simp at c50 c51
      obtain ⟨w6, hw6⟩ : ∃ w6, w5.setCell ⟨g, 1, none⟩ (.slice A5 d.length c5) = w6 := ⟨_, rfl⟩
      have hu36 : Upd [q] w3 w6 := by
        rw [← hw6]
        refine (((Upd.refl [q] w3).trans hu34 (by simp)).trans hu5 (by simp)).setCell (.inr ?_) _
        rw [← Hg.out]; exact Nat.le_refl _
      have hb6 : Blk w6 g 89 #[.int .u16 (n : Int), .slice A5 d.length c5] := by
        rw [← hw6]; exact hb5.set_ 1 _
      have hx6 : Rd w6 N q x.eRest := by
        rw [← hw6]
        exact hx5.upd (S := [g]) ((Upd.refl [g] w5).setCell (by simp) _) (by simp; omega) (by simp; omega)
      have hy6 : Byt w6 N (.slice A5 d.length c5) d := by rw [← hw6]; exact Row.setCell (p := ⟨g, 1, none⟩) hy5 (by show N ≤ g; omega) _
      have hu6 : Upd [q] wo w6 := hu3.trans hu36 (by simp)
      have hown6 : EOwn w6 w.heap.size N (.slice Av l.length cv) l := HO.out.q hx hu6
      have hrr6 : Rd w6 N r s1 := hrr.upd hu6 (by simp; omega) (by simp; omega)
      have HW6 := hid hw6
      have HD := hid hd
      clear hw6 hd hb4 hb5
      go_wp2_with fail
      rw [HW6.out]
      go_wp2_with fail
      go_loopg [27] l.length (fun gk i wr => YRel w6 N q x.eRest l (UInt16.ofNat n) gk i wr)
      case atStart => exact ⟨0, by omega, rfl, by simpa [R.twice] using hx6, Upd.refl _ _⟩
      case round =>
        obtain ⟨k, hk, rfl, hxk, hu7⟩ := hrel
        have Hk := hid hk
        have hown7 := hown6.q hx6 hu7
        have hb7 := hb6.upd hu7 (by simp; omega)
        have d70 := hb7.cell 0
        have d71 := hb7.cell 1
        simp at d70 d71
        have ne0 := World.new_ne wr ⟨g, 0, none⟩ d70
        clear hk
        by_cases hlt : k < l.length
        · obtain ⟨b, o, rfl, hbl, hk', A', c', e0, e1, hye, -, -⟩ := hown7.exr.at_ hlt
          have hkey := any_take_succ l k hk' (UInt16.ofNat n)
          generalize l[k] = ek at e0 e1 hye hkey
          have Hkey := hid hkey
          clear hkey
          have d70a : (wr.alloc (.cells #[wv ek.1, .slice A' ek.2.length c'] 89)).cell? ⟨g, 0, none⟩ = some (.int .u16 (n : Int)) := ((hb7.alloc _).cell 0).trans (by simp)
          by_cases he : ek.1 = UInt16.ofNat n
          · have t1 : ((ek.1.toNat : Int) == (n : Int)) = true := by
              rw [he, beq_iff_eq, UInt16.toNat_ofNat']; omega
            have HF := hid (fail_any (hxk.upd ((Upd.refl [] wr).alloc (.cells #[wv ek.1, .slice A' ek.2.length c'] 89)) (by simp) (by simp)) 4)
            have hxt : (x.eRest.twice ((l.take k).any (·.1 == UInt16.ofNat n))).fail 4 = x.eRest.twice ((l.take (k + 1)).any (·.1 == UInt16.ofNat n)) := by
              rw [R.twice_again, Hkey.out, he]; simp
            have HT := hid hxt
            have He := hid he
            clear hxt he
            go_wp2_with fail
            refine HF.out.mono ?_
            rintro e w8 ⟨rfl, hu8, hx8⟩
            go_wp2
            go_roundg (l.length - (k + 1))
            case measure => have := Hk.out; omega
            case rel =>
              refine ⟨k + 1, by have := Hk.out; omega, rfl, ?_, (hu7.trans ((Upd.refl [] wr).alloc _) (by simp)).trans hu8 (by simp)⟩
              rw [← HT.out]
              exact hx8
          · have t1 : ((ek.1.toNat : Int) == (n : Int)) = false := by
              rw [beq_eq_false_iff_ne]
              intro h
              apply he
              apply UInt16.toNat_inj.1
              rw [UInt16.toNat_ofNat']
              omega
            have hxt : x.eRest.twice ((l.take k).any (·.1 == UInt16.ofNat n)) = x.eRest.twice ((l.take (k + 1)).any (·.1 == UInt16.ofNat n)) := by
              rw [Hkey.out]
              have : (ek.1 == UInt16.ofNat n) = false := by simpa using he
              rw [this, Bool.or_false]
            have HT := hid hxt
            have He := hid he
            clear hxt he
            go_wp2
            go_roundg (l.length - (k + 1))
            case measure => have := Hk.out; omega
            case rel =>
              refine ⟨k + 1, by have := Hk.out; omega, rfl, ?_, hu7.trans ((Upd.refl [] wr).alloc _) (by simp)⟩
              rw [← HT.out]
              exact hxk.upd ((Upd.refl [] wr).alloc _) (by simp) (by simp)
        · have hke : l.take k = l := List.take_of_length_le (by omega)
          rw [hke] at hxk
          have hy7 : Byt wr N (.slice A5 d.length c5) d := Row.upd hy6 hu7 (by simp; omega)
          have hrr7 : Rd wr N r s1 := hrr6.upd hu7 (by simp; omega) (by simp; omega)
          have huw : Upd [r] w wr := (HU.out.trans hu6 (by simp; omega)).trans hu7 (by simp; omega)
          have hwl : w.heap.size ≤ wr.heap.size := huw.size
          have hO : Exr (wr.alloc (.cells #[.int .u16 (n : Int), .slice A5 d.length c5] 89)) (wr.heap.size + 1) N (.slice (some ⟨wr.heap.size, 0, none⟩) 1 1) [(UInt16.ofNat n, d)] := by
            have := Exr.one (w := wr) (k := UInt16.ofNat n) hy7
            rwa [← wv_ofNat n hnl] at this
          have HO1 := hid hO
          have hlen : l.length ≤ 4294967297 := by omega
          have HK := hid hke
          clear hO hke
          go_wp2_with (at_builtin; go_must (refine wpList_append_ex rfl _ _ rfl rfl (hown7.alloc _) rfl HO1.out (by simp; omega) (by simp; omega) (by omega) ?_; intro v3 w9 hap))
          go_roundg (x.eRest.twice (l.any (·.1 == x.eKey))).bs.length
          case measure => exact R.eRest_len x Hp.out _
          case rel =>
            have hkey : x.eKey = UInt16.ofNat n := by show UInt16.ofNat (x.num 2).1 = _; rw [Hn.out]
            have hdat : x.eData = d := HD.out
            have hrd := R.extsGo_round x l Hp.out
            have hln := R.eRest_len x Hp.out (l.any (·.1 == x.eKey))
            rw [hkey, hdat] at hrd
            rw [hkey] at hln
            rw [hkey]
            exact xrel_step (by omega) (by assumption) hxk hrr7 hown7 huw hap (by rw [List.length_append]; simp; omega) (HE.out.trans hrd)
end
end Go.Proofs.YtaajmfgplhfncaaGreat

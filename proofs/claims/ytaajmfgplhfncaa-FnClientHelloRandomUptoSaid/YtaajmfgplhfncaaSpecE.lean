/- Texts joined: ExtRow, SpecE. -/
import Derived.Test.YtaajmfgplhfncaaWriter
import Derived.Test.YtaajmfgplhfncaaBody
import Derived.Test.YtaajmfgplhfncaaReader
import Derived.Deep.LoopGhost
import Derived.Deep.RegionHeld3

/- Slices of extensions in memory: read, owned, appended to. -/
namespace Go.Proofs.Ytaajmfgplhfncaa
open Go.RowKit
set_option maxRecDepth 100000

theorem info_ext : (Try.prog.info? 66).map (fun i => (i.zero, i.size, i.bytes)) = some (some (.agg #[.int .u16 0, .slice none 0 0]), 2, 32) := by kernel_rfl

/-- the cells of extensions whose bytes lie at us -/
def ecells : List Ex → List Value → List Value
  | e :: L, u :: us => wv e.1 :: u :: ecells L us
  | _, _ => []
theorem ecells_len {L : List Ex} {us : List Value} (h : us.length = L.length) : (ecells L us).length = L.length * 2 := by
  induction L generalizing us with
  | nil => cases us <;> rfl
  | cons e L ih => cases us with
    | nil => simp at h
    | cons u us => simp only [ecells, List.length_cons, ih (Nat.succ.inj h)]; omega
theorem ecells_append {L M : List Ex} {us vs : List Value} (h : us.length = L.length) : ecells (L ++ M) (us ++ vs) = ecells L us ++ ecells M vs := by
  induction L generalizing us with
  | nil => cases us with
    | nil => rfl
    | cons u us => simp at h
  | cons e L ih => cases us with
    | nil => simp at h
    | cons u us => simp only [ecells, List.cons_append, ih (Nat.succ.inj h)]
theorem ecells_at {L : List Ex} {us : List Value} (k : Nat) (h : k < L.length) (h' : k < us.length) : (ecells L us)[k * 2]? = some (wv L[k].1) ∧ (ecells L us)[k * 2 + 1]? = some us[k] := by
  induction L generalizing us k with
  | nil => simp at h
  | cons e L ih => cases us with
    | nil => simp at h'
    | cons u us => cases k with
      | zero => exact ⟨rfl, rfl⟩
      | succ k =>
        have := ih k (by simpa using h) (by simpa using h')
        have e1 : (k + 1) * 2 = k * 2 + 2 := by omega
        rw [e1]
        simpa [ecells] using this
theorem All2.append {α β : Type} {p : α → β → Prop} {l l' : List α} {m m' : List β} (h : All2 p l m) (h' : All2 p l' m') : All2 p (l ++ l') (m ++ m') := by
  induction l generalizing m with
  | nil => cases m with
    | nil => exact h'
    | cons b m => exact h.elim
  | cons a l ih => cases m with
    | nil => exact h.elim
    | cons b m => exact ⟨h.1, ih h.2⟩

/-- the slice value v reads as the extensions L: the row below block B, the bytes below block N -/
def Exr (w : World) (B N : Nat) (v : Value) (L : List Ex) : Prop :=
  ∃ A c us, v = .slice A L.length c ∧ L.length ≤ c ∧ c ≤ maxLen ∧ (A = none → c = 0) ∧ All2 (fun u e => Byt w N u e.2) us L ∧
    (L ≠ [] → ∃ b o, A = some ⟨b, o, none⟩ ∧ b < B ∧ ∀ j u, (ecells L us)[j]? = some u → w.cell? ⟨b, o + j, none⟩ = some u)
/-- such a slice of the call's own -/
def EOwn (w : World) (base N : Nat) (v : Value) (L : List Ex) : Prop := ∃ us, w.ownsRow base 66 2 v L.length (ecells L us) ∧ All2 (fun u e => Byt w N u e.2) us L

section
variable {w w' : World} {B B' N N' base : Nat} {v : Value} {L M : List Ex} {S : List Nat}
theorem Exr.nil_ (w : World) (B N : Nat) : Exr w B N (.slice none 0 0) [] := ⟨none, 0, [], rfl, Nat.le_refl _, by unfold maxLen; omega, fun _ => rfl, trivial, fun h => absurd rfl h⟩
theorem Exr.upd (h : Exr w B N v L) (hu : Upd S w w') (hs : ∀ x ∈ S, B ≤ x ∧ N ≤ x) : Exr w' B N v L := by
  obtain ⟨A, c, us, rfl, h1, h2, h3, h4, h5⟩ := h
  refine ⟨A, c, us, rfl, h1, h2, h3, h4.imp fun _ _ hy => Row.upd hy hu fun x hx => (hs x hx).2, fun hn => ?_⟩
  obtain ⟨b, o, e, hb, hc⟩ := h5 hn
  exact ⟨b, o, e, hb, fun j u hj => hu.cell (hc j u hj) fun hm => by have := (hs _ hm).1; simp only at this; omega⟩
/-- the row's block is none of S -/
theorem Exr.apart (h : Exr w B N v L) (hu : Upd S w w') (hs : ∀ g, v.ownBlock = some g → g ∉ S) (hN : ∀ x ∈ S, N ≤ x) : Exr w' B N v L := by
  obtain ⟨A, c, us, rfl, h1, h2, h3, h4, h5⟩ := h
  refine ⟨A, c, us, rfl, h1, h2, h3, h4.imp fun _ _ hy => Row.upd hy hu hN, fun hn => ?_⟩
  obtain ⟨b, o, rfl, hb, hc⟩ := h5 hn
  exact ⟨b, o, rfl, hb, fun j u hj => hu.cell (hc j u hj) (hs b rfl)⟩
theorem Exr.more (h : Exr w B N v L) (hB : B ≤ B') (hN : N ≤ N') : Exr w B' N' v L := by
  obtain ⟨A, c, us, rfl, h1, h2, h3, h4, h5⟩ := h
  refine ⟨A, c, us, rfl, h1, h2, h3, h4.imp fun _ _ hy => Row.more hy hN, fun hn => ?_⟩
  obtain ⟨b, o, e, hb, hc⟩ := h5 hn
  exact ⟨b, o, e, by omega, hc⟩
theorem Exr.shrink (h : Exr w B N v L) : Exr w w.heap.size w.heap.size v L := by
  obtain ⟨A, c, us, rfl, h1, h2, h3, h4, h5⟩ := h
  refine ⟨A, c, us, rfl, h1, h2, h3, h4.imp fun _ _ hy => Row.shrink hy, fun hn => ?_⟩
  obtain ⟨b, o, e, hb, hc⟩ := h5 hn
  have hl : us.length = L.length := h4.length
  have hpos : 0 < L.length := List.length_pos_iff.2 hn
  exact ⟨b, o, e, World.block_lt_of_cell? w _ (hc 0 _ (ecells_at 0 hpos (by omega)).1), hc⟩
theorem Exr.form (h : Exr w B N v L) : ∃ A c, v = .slice A L.length c ∧ Exr w B N (.slice A L.length c) L ∧ L.length ≤ c ∧ c ≤ 9223372036854775807 := by
  have h0 := h
  obtain ⟨A, c, us, rfl, h1, h2, _⟩ := h
  exact ⟨A, c, rfl, h0, h1, h2⟩
theorem Exr.at_ {A : Option Addr} {n c : Nat} (h : Exr w B N (.slice A n c) L) {k : Nat} (hk : k < n) :
    ∃ b o, A = some ⟨b, o, none⟩ ∧ b < B ∧ ∃ hk' : k < L.length, ∃ A' c', w.cell? ⟨b, o + k * 2, none⟩ = some (wv (L[k]'hk').1) ∧ w.cell? ⟨b, o + k * 2 + 1, none⟩ = some (.slice A' (L[k]'hk').2.length c') ∧
      Byt w N (.slice A' (L[k]'hk').2.length c') (L[k]'hk').2 ∧ (L[k]'hk').2.length ≤ c' ∧ c' ≤ 9223372036854775807 := by
  obtain ⟨A1, c1, us, e, h1, h2, h3, h4, h5⟩ := h
  injection e with e1 e2 e3
  subst e1 e2 e3
  obtain ⟨b, o, rfl, hb, hc⟩ := h5 (by intro e; simp [e] at hk)
  have hl : us.length = L.length := h4.length
  obtain ⟨g1, g2⟩ := ecells_at (us := us) k hk (by omega)
  have hy := h4.get k (by omega) hk
  obtain ⟨A', c', hv, hy', hb1, hb2⟩ := Byt.form hy rfl
  refine ⟨b, o, rfl, hb, hk, A', c', hc _ _ g1, ?_, hy', hb1, hb2⟩
  have := hc _ _ g2
  rw [hv] at this
  rw [Nat.add_assoc]
  exact this
theorem Exr.len {A : Option Addr} {n c : Nat} (h : Exr w B N (.slice A n c) L) : L.length = n := by
  obtain ⟨A1, c1, us, e, _⟩ := h
  injection e with _ e2 _
  exact e2.symm

theorem EOwn.nil_ (w : World) (base N : Nat) : EOwn w base N (.slice none 0 0) [] := ⟨[], World.ownsRow_nil w base _ 2, trivial⟩
theorem EOwn.upd (h : EOwn w base N v L) (hu : Upd S w w') (hs : ∀ g, v.ownBlock = some g → g ∉ S) (hN : ∀ x ∈ S, N ≤ x) : EOwn w' base N v L := by
  obtain ⟨us, h1, h2⟩ := h
  refine ⟨us, ⟨h1.1, ?_⟩, h2.imp fun _ _ hy => Row.upd hy hu hN⟩
  rcases h1.2 with hn | ⟨g, cap, cur, rfl, hb, hg, rest⟩
  · exact .inl hn
  · exact .inr ⟨g, cap, cur, rfl, hb, (hu.block g (Array.getElem?_eq_some_iff.1 hg).1 (hs g rfl)).trans hg, rest⟩
theorem EOwn.ge (h : EOwn w base N v L) {g : Nat} (hg : v.ownBlock = some g) : base ≤ g ∧ g < w.heap.size := by
  obtain ⟨us, h1, _⟩ := h
  exact World.ownsRow.lt h1 g hg
theorem EOwn.ne {g : Nat} {t : TypeId} {cs : Array Value} (h : EOwn w base N v L) (hb : Blk w g t cs) (hne : 66 ≠ t) : ∀ k, v.ownBlock = some k → k ≠ g := by
  intro k hk
  obtain ⟨us, h, _⟩ := h
  rcases h.2 with ⟨rfl, _⟩ | ⟨g', cap, cur, rfl, _, hh, _⟩
  · simp [Value.ownBlock] at hk
  · have : g' = k := by simpa [Value.ownBlock] using hk
    subst this
    exact Blk.ne_ (t := 66) hh hb hne
theorem EOwn.exr (h : EOwn w base N v L) : Exr w w.heap.size N v L := by
  obtain ⟨us, h1, h2⟩ := h
  rcases h1.2 with ⟨rfl, h0⟩ | ⟨g, cap, cur, rfl, hb, hg, hn, hm, hs, ht⟩
  · have : L = [] := List.eq_nil_of_length_eq_zero h0
    subst this
    exact Exr.nil_ _ _ _
  · refine ⟨some ⟨g, 0, none⟩, cap, us, rfl, hn, hm, fun e => by (cases e), h2, fun _ => ⟨g, 0, rfl, (Array.getElem?_eq_some_iff.1 hg).1, fun j u hu => ?_⟩⟩
    have := h1.cells (g := g) rfl j u hu
    rwa [add_lit] at this
theorem EOwn.form (h : EOwn w base N v L) : ∃ A c, v = .slice A L.length c ∧ L.length ≤ c ∧ c ≤ 9223372036854775807 := by
  obtain ⟨A, c, e, _, h1, h2⟩ := h.exr.form
  exact ⟨A, c, e, h1, h2⟩
theorem EOwn.more (h : EOwn w base N v L) (hN : N ≤ N') : EOwn w base N' v L := by
  obtain ⟨us, h1, h2⟩ := h
  exact ⟨us, h1, h2.imp fun _ _ hy => Row.more hy hN⟩

/-- what a law on append leaves -/
def EAppended (w : World) (base N : Nat) (v : Value) (L : List Ex) (v' : Value) (w' : World) : Prop :=
  EOwn w' base N v' L ∧ Upd v.ownBlock.toList w w' ∧ (v'.ownBlock = v.ownBlock ∨ v'.ownBlock = some w.heap.size)
theorem byt_oneCell' {u : Value} {xs : List UInt8} (h : Byt w N u xs) : u.oneCell' = true := by
  obtain ⟨A, c, rfl, _⟩ := h
  rfl
theorem ecells_oneCell {us : List Value} (h : All2 (fun u e => Byt w N u e.2) us M) : ∀ u ∈ ecells M us, u.oneCell' = true := by
  induction M generalizing us with
  | nil => cases us with
    | nil => intro u hu; cases hu
    | cons a us => exact h.elim
  | cons e M ih => cases us with
    | nil => exact h.elim
    | cons a us =>
      intro u hu
      rcases List.mem_cons.1 hu with hu | hu
      · rw [hu]; rfl
      · rcases List.mem_cons.1 hu with hu | hu
        · rw [hu]; exact byt_oneCell' h.1
        · exact ih h.2 u hu
theorem run_append_ex (ty : TypeId) (hown : EOwn w base N v L) {x : Value} (hr : Exr w B N x M) (hlen : L.length + M.length ≤ 4398046511104) (hbase : base ≤ w.heap.size) (hN : N ≤ base) :
    ∃ v' w', (Builtin.append_ #[32, 32] ty #[v, x]).run Try.prog w = .ok v' w' ∧ EAppended w base N v (L ++ M) v' w' := by
  obtain ⟨i, hi, hz, hsize, hby⟩ := info_parts info_ext
  obtain ⟨us, h1, h2⟩ := hown
  obtain ⟨A, c, vs, rfl, hc1, hc2, hcn, hcell, hrow⟩ := hr
  have hl1 : us.length = L.length := h2.length
  have hl2 : vs.length = M.length := hcell.length
  rcases A with _ | ad
  · have hc0 := hcn rfl
    subst hc0
    have hn : M = [] := List.eq_nil_of_length_eq_zero (by omega)
    subst hn
    exact ⟨v, w, run_append_of_nil w base _ ty _ i 2 Try.underlying32 hi v _ _ h1 0, ⟨us, by simpa using h1, by simpa using h2⟩, Upd.refl _ _, .inl rfl⟩
  · have hcells : ∀ j u, (ecells M vs)[j]? = some u → w.cell? (ad.add j) = some u := by
      intro j u hu
      obtain ⟨b, o, e, _, hc⟩ := hrow (by rintro rfl; cases vs <;> simp [ecells] at hu)
      injection e with e
      subst e
      rw [add_lit]
      exact hc j u hu
    obtain ⟨v', w', hrun, h3, h4, _, h5⟩ := run_append_own_at (P := Try.prog) w base 32 ty 66 i _ 2 32 Try.underlying32 hi hz hsize hby rfl (by omega) v L.length _ h1 ad M.length c (ecells M vs) (ecells_len hl2) hcells (ecells_oneCell hcell)
      (by simp only [maxLen]; omega) (by omega) hbase
    have hu := upd_of_grown h4
    have hge : ∀ x ∈ v.ownBlock.toList, N ≤ x := fun x hx => by
      have := World.ownsRow.lt h1 x (Option.mem_toList.1 hx)
      omega
    refine ⟨v', w', hrun, ⟨us ++ vs, ?_, ?_⟩, hu, h5⟩
    · rw [List.length_append, ecells_append hl1]
      exact h3
    · exact (h2.imp fun _ _ hy => Row.upd hy hu hge).append (hcell.imp fun _ _ hy => Row.upd hy hu hge)
theorem wp_append_ex {o : Oper} {a : Act} {K : Act → World → Prop} {Q : Exit → Act → World → Prop} (s x : Operand)
    (ho : o.op = .call { callee := .builtin .append, args := #[s, x], argTypes := #[32, 32] })
    (hs : a.eval s = v) (hown : EOwn w base N v L) {B : Nat} {xv : Value} (hx : a.eval x = xv) (hr : Exr w B N xv M) (hlen : L.length + M.length ≤ 4398046511104) (hbase : base ≤ w.heap.size) (hN : N ≤ base)
    (h : ∀ v' w', EAppended w base N v (L ++ M) v' w' → K (a.put o.dst v') w') : o.wp Try.prog a w K Q := by
  obtain ⟨v', w', hrun, h2⟩ := run_append_ex o.type hown hr hlen hbase hN
  unfold Oper.wp execOp
  simp only [ho, resolve, invoke, builtin, Sem.run_bind, Sem.run_pure, Result.andThen_ok, List.map_toArray, List.map_cons, List.map_nil, hs, hx, hrun]
  exact h v' w' h2
theorem wpList_append_ex {ops : Array Oper} {rest : List Oper} {o : Oper} {a : Act} {Q : Exit → Act → World → Prop} (hgd : o.guard = none) (s x : Operand)
    (ho : o.op = .call { callee := .builtin .append, args := #[s, x], argTypes := #[32, 32] })
    (hs : a.eval s = v) (hown : EOwn w base N v L) {B : Nat} {xv : Value} (hx : a.eval x = xv) (hr : Exr w B N xv M) (hlen : L.length + M.length ≤ 4398046511104) (hbase : base ≤ w.heap.size) (hN : N ≤ base)
    (h : ∀ v' w', EAppended w base N v (L ++ M) v' w' → wpList Try.prog ops Q rest (a.put o.dst v') w') : wpList Try.prog ops Q (o :: rest) a w :=
  wpList_plain hgd fun _ hK => wp_append_ex s x ho hs hown hx hr hlen hbase hN fun v' w' h2 => hK _ _ (h v' w' h2)
theorem step_append_ex {ops : Array Oper} {o : Oper} {a : Act} {K : Act → World → Prop} {Q : Exit → Act → World → Prop} {E : Prop} (hgd : o.guard = none) (s x : Operand)
    (ho : o.op = .call { callee := .builtin .append, args := #[s, x], argTypes := #[32, 32] })
    (hs : a.eval s = v) (hown : EOwn w base N v L) {B : Nat} {xv : Value} (hx : a.eval x = xv) (hr : Exr w B N xv M) (hlen : L.length + M.length ≤ 4398046511104) (hbase : base ≤ w.heap.size) (hN : N ≤ base)
    (h : ∀ v' w', EAppended w base N v (L ++ M) v' w' → K (a.put o.dst v') w') :
    if Region.wanted o (yielded ops a.tmps) = true then Oper.wp Try.prog o a w K Q else E := by
  have hw : Region.wanted o (yielded ops a.tmps) = true := by simp [Region.wanted, hgd]
  rw [if_pos hw]
  exact wp_append_ex s x ho hs hown hx hr hlen hbase hN h
/-- one extension in a new block: what 'append(l, e)' lays first -/
theorem Exr.one {u : Value} {k : UInt16} {d : List UInt8} (hy : Byt w N u d) : Exr (w.alloc (.cells #[wv k, u] 66)) (w.heap.size + 1) N (.slice (some ⟨w.heap.size, 0, none⟩) 1 1) [(k, d)] :=
  ⟨some ⟨w.heap.size, 0, none⟩, 1, [u], rfl, Nat.le_refl _, by unfold maxLen; omega, fun e => (by cases e), ⟨Row.alloc hy _, trivial⟩, fun _ => ⟨w.heap.size, 0, rfl, by omega, fun j u' hj => by
    match j, hj with
    | 0, hj => rw [(Blk.new w _ _).cell]; simpa [ecells] using hj
    | 1, hj => rw [(Blk.new w _ _).cell]; simpa [ecells] using hj
    | j + 2, hj => simp [ecells] at hj⟩⟩
theorem EOwn.alloc (h : EOwn w base N v L) (o : Obj) : EOwn (w.alloc o) base N v L := h.upd ((Upd.refl [] w).alloc o) (by simp) (by simp)
/-- behind 'append(s, e)' of one element: the world was alloc'ed first -/
theorem EAppended.one {v' : Value} {o : Obj} (h : EAppended (w.alloc o) base N v L v' w') :
    EOwn w' base N v' L ∧ Upd v.ownBlock.toList w w' ∧ (v'.ownBlock = v.ownBlock ∨ ∃ g, v'.ownBlock = some g ∧ w.heap.size < g) := by
  obtain ⟨h1, h2, h3⟩ := h
  refine ⟨h1, (((Upd.refl v.ownBlock.toList w).alloc o).trans h2 fun x hx => .inl hx), ?_⟩
  · rcases h3 with h3 | h3
    · exact .inl h3
    · exact .inr ⟨_, h3, by simp⟩
end
end Go.Proofs.Ytaajmfgplhfncaa

/- Contract of the reference's reader of extensions. -/
namespace Go.Proofs.Ytaajmfgplhfncaa
open Go.RowKit
set_option maxRecDepth 100000

def R.eKey (x : R) : UInt16 := UInt16.ofNat (x.num 2).1
def R.eData (x : R) : List UInt8 := ((x.num 2).2.vec 2 0 65535).1
def R.eRest (x : R) : R := ((x.num 2).2.vec 2 0 65535).2
theorem R.extsGo_succ (f : Nat) (x : R) (out : List Ex) : R.extsGo (f + 1) x out = if x.bs = [] then (out, x) else R.extsGo f (x.eRest.twice (out.any (·.1 == x.eKey))) (out ++ [(x.eKey, x.eData)]) := rfl
theorem R.twice_len (x : R) (c : Bool) : (x.twice c).bs.length ≤ x.bs.length := by cases c <;> simp [R.twice, fail_bs]
theorem R.twice_again (x : R) (c : Bool) : (x.twice c).fail 4 = x.twice true := by
  cases c
  · rfl
  · unfold R.twice R.fail
    by_cases h : x.code = 0
    · simp [h]
    · simp [h]
theorem R.eRest_len (x : R) (h : x.bs ≠ []) (c : Bool) : (x.eRest.twice c).bs.length < x.bs.length := by
  have h1 := R.twice_len x.eRest c
  have h2 := vec_bs_len (x.num 2).2 2 0 65535
  have h3 : (x.num 2).2.bs.length = x.bs.length - 2 := take_bs_len x 2
  have h4 : 0 < x.bs.length := List.length_pos_iff.2 h
  unfold R.eRest at h1 ⊢
  omega
theorem R.extsGo_fuel (f g : Nat) (x : R) (out : List Ex) (hf : x.bs.length ≤ f) (hg : x.bs.length ≤ g) : R.extsGo f x out = R.extsGo g x out := by
  induction f generalizing g x out with
  | zero =>
    have hx : x.bs = [] := List.eq_nil_of_length_eq_zero (by omega)
    cases g with
    | zero => rfl
    | succ g => rw [R.extsGo_succ, if_pos hx]; rfl
  | succ f ih =>
    cases g with
    | zero =>
      have hx : x.bs = [] := List.eq_nil_of_length_eq_zero (by omega)
      rw [R.extsGo_succ, if_pos hx]; rfl
    | succ g =>
      rw [R.extsGo_succ, R.extsGo_succ]
      by_cases h : x.bs = []
      · rw [if_pos h, if_pos h]
      · have := R.eRest_len x h (out.any (·.1 == x.eKey))
        rw [if_neg h, if_neg h, ih g _ _ (by omega) (by omega)]
theorem R.extsGo_round (x : R) (l : List Ex) (h : x.bs ≠ []) :
    R.extsGo x.bs.length x l = R.extsGo (x.eRest.twice (l.any (·.1 == x.eKey))).bs.length (x.eRest.twice (l.any (·.1 == x.eKey))) (l ++ [(x.eKey, x.eData)]) := by
  have h1 := R.eRest_len x h (l.any (·.1 == x.eKey))
  obtain ⟨f, hf⟩ : ∃ f, x.bs.length = f + 1 := ⟨x.bs.length - 1, by omega⟩
  rw [hf, R.extsGo_succ, if_neg h]
  exact R.extsGo_fuel _ _ _ _ (by omega) (Nat.le_refl _)
theorem num2_lt (x : R) : (x.num 2).1 < 65536 := by
  have := beNat_lt (x.take 2).1
  rw [take_len] at this
  exact this
theorem any_take_succ (l : List Ex) (k : Nat) (h : k < l.length) (key : UInt16) : (l.take (k + 1)).any (·.1 == key) = ((l.take k).any (·.1 == key) || (l[k].1 == key)) := by
  rw [List.take_succ_eq_append_getElem h, List.any_append]
  simp

section
variable {w w' : World} {N r : Nat} {s : R} {S : List Nat}

end
end Go.Proofs.Ytaajmfgplhfncaa

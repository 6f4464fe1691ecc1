/- Texts joined: ExtRow, MsgPlain, ExtW, SpecL, SpecL2, SpecW, SpecO, SpecB, LSt, Block, Block2, Outs, Lists, CqPlain, ListsB, Adds, EePlain, ShPlain, ShMade, Share. -/
import Derived.Deep.RegionLaw
import Derived.Deep.DeepMust
import Derived.Deep.LoopGhost
import Derived.Deep.RegionHeld3
import Derived.Deep.DrawnRows
import Derived.Test.YtaajmfgplhfncaaGreatB03
import Derived.Test.YtaajmfgplhfncaaGreatB05
import Derived.Test.YtaajmfgplhfncaaGreatB01
namespace Go.Proofs.YtaajmfgplhfncaaGreat
open Go.RowKit
set_option maxRecDepth 100000
theorem info_ext : (Tryz.prog.info? 89).map (fun i => (i.zero, i.size, i.bytes)) = some (some (.agg #[.int .u16 0, .slice none 0 0]), 2, 32) := by kernel_rfl
def ecells : List Ex → List Value → List Value
  | e :: L, u :: us => wv e.1 :: u :: ecells L us
  | _, _ => []
theorem ecells_len {L : List Ex} {us : List Value} (h : us.length = L.length) : (ecells L us).length = L.length * 2 := by
  induction L generalizing us with
  | nil => cases us <;> rfl
  | cons e L ih => cases us with
    | nil => simp at h
    | cons u us => simp only [ecells, List.length_cons, ih (Nat.succ.inj h)]; omega
theorem ecells_append {L M : List Ex} {us vs : List Value} (h : us.length = L.length) : ecells (L ++ M) (us ++ vs) = ecells L us ++ ecells M vs := by
  induction L generalizing us with
  | nil => cases us with
    | nil => rfl
    | cons u us => simp at h
  | cons e L ih => cases us with
    | nil => simp at h
    | cons u us => simp only [ecells, List.cons_append, ih (Nat.succ.inj h)]
theorem ecells_at {L : List Ex} {us : List Value} (k : Nat) (h : k < L.length) (h' : k < us.length) : (ecells L us)[k * 2]? = some (wv L[k].1) ∧ (ecells L us)[k * 2 + 1]? = some us[k] := by
  induction L generalizing us k with
  | nil => simp at h
  | cons e L ih => cases us with
    | nil => simp at h'
    | cons u us => cases k with
      | zero => exact ⟨rfl, rfl⟩
      | succ k =>
        have := ih k (by simpa using h) (by simpa using h')
        have e1 : (k + 1) * 2 = k * 2 + 2 := by omega
        rw [e1]
        simpa [ecells] using this
theorem All2.append {α β : Type} {p : α → β → Prop} {l l' : List α} {m m' : List β} (h : All2 p l m) (h' : All2 p l' m') : All2 p (l ++ l') (m ++ m') := by
  induction l generalizing m with
  | nil => cases m with
    | nil => exact h'
    | cons b m => exact h.elim
  | cons a l ih => cases m with
    | nil => exact h.elim
    | cons b m => exact ⟨h.1, ih h.2⟩
def Exr (w : World) (B N : Nat) (v : Value) (L : List Ex) : Prop :=
  ∃ A c us, v = .slice A L.length c ∧ L.length ≤ c ∧ c ≤ maxLen ∧ (A = none → c = 0) ∧ All2 (fun u e => Byt w N u e.2) us L ∧
    (L ≠ [] → ∃ b o, A = some ⟨b, o, none⟩ ∧ b < B ∧ ∀ j u, (ecells L us)[j]? = some u → w.cell? ⟨b, o + j, none⟩ = some u)
def EOwn (w : World) (base N : Nat) (v : Value) (L : List Ex) : Prop := ∃ us, w.ownsRow base 89 2 v L.length (ecells L us) ∧ All2 (fun u e => Byt w N u e.2) us L
section
variable {w w' : World} {B B' N N' base : Nat} {v : Value} {L M : List Ex} {S : List Nat}
theorem Exr.nil_ (w : World) (B N : Nat) : Exr w B N (.slice none 0 0) [] := ⟨none, 0, [], rfl, Nat.le_refl _, by unfold maxLen; omega, fun _ => rfl, trivial, fun h => absurd rfl h⟩
theorem Exr.upd (h : Exr w B N v L) (hu : Upd S w w') (hs : ∀ x ∈ S, B ≤ x ∧ N ≤ x) : Exr w' B N v L := by
  obtain ⟨A, c, us, rfl, h1, h2, h3, h4, h5⟩ := h
  refine ⟨A, c, us, rfl, h1, h2, h3, h4.imp fun _ _ hy => Row.upd hy hu fun x hx => (hs x hx).2, fun hn => ?_⟩
  obtain ⟨b, o, e, hb, hc⟩ := h5 hn
  exact ⟨b, o, e, hb, fun j u hj => hu.cell (hc j u hj) fun hm => by have := (hs _ hm).1; simp only at this; omega⟩
theorem Exr.apart (h : Exr w B N v L) (hu : Upd S w w') (hs : ∀ g, v.ownBlock = some g → g ∉ S) (hN : ∀ x ∈ S, N ≤ x) : Exr w' B N v L := by
  obtain ⟨A, c, us, rfl, h1, h2, h3, h4, h5⟩ := h
  refine ⟨A, c, us, rfl, h1, h2, h3, h4.imp fun _ _ hy => Row.upd hy hu hN, fun hn => ?_⟩
  obtain ⟨b, o, rfl, hb, hc⟩ := h5 hn
  exact ⟨b, o, rfl, hb, fun j u hj => hu.cell (hc j u hj) (hs b rfl)⟩
theorem Exr.more (h : Exr w B N v L) (hB : B ≤ B') (hN : N ≤ N') : Exr w B' N' v L := by
  obtain ⟨A, c, us, rfl, h1, h2, h3, h4, h5⟩ := h
  refine ⟨A, c, us, rfl, h1, h2, h3, h4.imp fun _ _ hy => Row.more hy hN, fun hn => ?_⟩
  obtain ⟨b, o, e, hb, hc⟩ := h5 hn
  exact ⟨b, o, e, by omega, hc⟩
theorem Exr.shrink (h : Exr w B N v L) : Exr w w.heap.size w.heap.size v L := by
  obtain ⟨A, c, us, rfl, h1, h2, h3, h4, h5⟩ := h
  refine ⟨A, c, us, rfl, h1, h2, h3, h4.imp fun _ _ hy => Row.shrink hy, fun hn => ?_⟩
  obtain ⟨b, o, e, hb, hc⟩ := h5 hn
  have hl : us.length = L.length := h4.length
  have hpos : 0 < L.length := List.length_pos_iff.2 hn
  exact ⟨b, o, e, World.block_lt_of_cell? w _ (hc 0 _ (ecells_at 0 hpos (by omega)).1), hc⟩
theorem Exr.form (h : Exr w B N v L) : ∃ A c, v = .slice A L.length c ∧ Exr w B N (.slice A L.length c) L ∧ L.length ≤ c ∧ c ≤ 9223372036854775807 := by
  have h0 := h
  obtain ⟨A, c, us, rfl, h1, h2, _⟩ := h
  exact ⟨A, c, rfl, h0, h1, h2⟩
theorem Exr.at_ {A : Option Addr} {n c : Nat} (h : Exr w B N (.slice A n c) L) {k : Nat} (hk : k < n) :
    ∃ b o, A = some ⟨b, o, none⟩ ∧ b < B ∧ ∃ hk' : k < L.length, ∃ A' c', w.cell? ⟨b, o + k * 2, none⟩ = some (wv (L[k]'hk').1) ∧ w.cell? ⟨b, o + k * 2 + 1, none⟩ = some (.slice A' (L[k]'hk').2.length c') ∧
      Byt w N (.slice A' (L[k]'hk').2.length c') (L[k]'hk').2 ∧ (L[k]'hk').2.length ≤ c' ∧ c' ≤ 9223372036854775807 := by
  obtain ⟨A1, c1, us, e, h1, h2, h3, h4, h5⟩ := h
  injection e with e1 e2 e3
  subst e1 e2 e3
  obtain ⟨b, o, rfl, hb, hc⟩ := h5 (by intro e; simp [e] at hk)
  have hl : us.length = L.length := h4.length
  obtain ⟨g1, g2⟩ := ecells_at (us := us) k hk (by omega)
  have hy := h4.get k (by omega) hk
  obtain ⟨A', c', hv, hy', hb1, hb2⟩ := Byt.form hy rfl
  refine ⟨b, o, rfl, hb, hk, A', c', hc _ _ g1, ?_, hy', hb1, hb2⟩
  have := hc _ _ g2
  rw [hv] at this
  rw [Nat.add_assoc]
  exact this
theorem Exr.len {A : Option Addr} {n c : Nat} (h : Exr w B N (.slice A n c) L) : L.length = n := by
  obtain ⟨A1, c1, us, e, _⟩ := h
  injection e with _ e2 _
  exact e2.symm
theorem EOwn.nil_ (w : World) (base N : Nat) : EOwn w base N (.slice none 0 0) [] := ⟨[], World.ownsRow_nil w base _ 2, trivial⟩
theorem EOwn.upd (h : EOwn w base N v L) (hu : Upd S w w') (hs : ∀ g, v.ownBlock = some g → g ∉ S) (hN : ∀ x ∈ S, N ≤ x) : EOwn w' base N v L := by
  obtain ⟨us, h1, h2⟩ := h
  refine ⟨us, ⟨h1.1, ?_⟩, h2.imp fun _ _ hy => Row.upd hy hu hN⟩
  rcases h1.2 with hn | ⟨g, cap, cur, rfl, hb, hg, rest⟩
  · exact .inl hn
  · exact .inr ⟨g, cap, cur, rfl, hb, (hu.block g (Array.getElem?_eq_some_iff.1 hg).1 (hs g rfl)).trans hg, rest⟩
theorem EOwn.ge (h : EOwn w base N v L) {g : Nat} (hg : v.ownBlock = some g) : base ≤ g ∧ g < w.heap.size := by
  obtain ⟨us, h1, _⟩ := h
  exact World.ownsRow.lt h1 g hg
theorem EOwn.ne {g : Nat} {t : TypeId} {cs : Array Value} (h : EOwn w base N v L) (hb : Blk w g t cs) (hne : 89 ≠ t) : ∀ k, v.ownBlock = some k → k ≠ g := by
  intro k hk
  obtain ⟨us, h, _⟩ := h
  rcases h.2 with ⟨rfl, _⟩ | ⟨g', cap, cur, rfl, _, hh, _⟩
  · simp [Value.ownBlock] at hk
  · have : g' = k := by simpa [Value.ownBlock] using hk
    subst this
    exact Blk.ne_ (t := 89) hh hb hne
theorem EOwn.exr (h : EOwn w base N v L) : Exr w w.heap.size N v L := by
  obtain ⟨us, h1, h2⟩ := h
  rcases h1.2 with ⟨rfl, h0⟩ | ⟨g, cap, cur, rfl, hb, hg, hn, hm, hs, ht⟩
  · have : L = [] := List.eq_nil_of_length_eq_zero h0
    subst this
    exact Exr.nil_ _ _ _
  · refine ⟨some ⟨g, 0, none⟩, cap, us, rfl, hn, hm, fun e => by (cases e), h2, fun _ => ⟨g, 0, rfl, (Array.getElem?_eq_some_iff.1 hg).1, fun j u hu => ?_⟩⟩
    have := h1.cells (g := g) rfl j u hu
    rwa [add_lit] at this
theorem EOwn.form (h : EOwn w base N v L) : ∃ A c, v = .slice A L.length c ∧ L.length ≤ c ∧ c ≤ 9223372036854775807 := by
  obtain ⟨A, c, e, _, h1, h2⟩ := h.exr.form
  exact ⟨A, c, e, h1, h2⟩
theorem EOwn.more (h : EOwn w base N v L) (hN : N ≤ N') : EOwn w base N' v L := by
  obtain ⟨us, h1, h2⟩ := h
  exact ⟨us, h1, h2.imp fun _ _ hy => Row.more hy hN⟩
def EAppended (w : World) (base N : Nat) (v : Value) (L : List Ex) (v' : Value) (w' : World) : Prop :=
  EOwn w' base N v' L ∧ Upd v.ownBlock.toList w w' ∧ (v'.ownBlock = v.ownBlock ∨ v'.ownBlock = some w.heap.size)
theorem byt_oneCell' {u : Value} {xs : List UInt8} (h : Byt w N u xs) : u.oneCell' = true := by
  obtain ⟨A, c, rfl, _⟩ := h
  rfl
theorem ecells_oneCell {us : List Value} (h : All2 (fun u e => Byt w N u e.2) us M) : ∀ u ∈ ecells M us, u.oneCell' = true := by
  induction M generalizing us with
  | nil => cases us with
    | nil => intro u hu; cases hu
    | cons a us => exact h.elim
  | cons e M ih => cases us with
    | nil => exact h.elim
    | cons a us =>
      intro u hu
      rcases List.mem_cons.1 hu with hu | hu
      · rw [hu]; rfl
      · rcases List.mem_cons.1 hu with hu | hu
        · rw [hu]; exact byt_oneCell' h.1
        · exact ih h.2 u hu
theorem run_append_ex (ty : TypeId) (hown : EOwn w base N v L) {x : Value} (hr : Exr w B N x M) (hlen : L.length + M.length ≤ 4398046511104) (hbase : base ≤ w.heap.size) (hN : N ≤ base) :
    ∃ v' w', (Builtin.append_ #[31, 31] ty #[v, x]).run Tryz.prog w = .ok v' w' ∧ EAppended w base N v (L ++ M) v' w' := by
  obtain ⟨i, hi, hz, hsize, hby⟩ := info_parts info_ext
  obtain ⟨us, h1, h2⟩ := hown
  obtain ⟨A, c, vs, rfl, hc1, hc2, hcn, hcell, hrow⟩ := hr
  have hl1 : us.length = L.length := h2.length
  have hl2 : vs.length = M.length := hcell.length
  rcases A with _ | ad
  · have hc0 := hcn rfl
    subst hc0
    have hn : M = [] := List.eq_nil_of_length_eq_zero (by omega)
    subst hn
    exact ⟨v, w, run_append_of_nil w base _ ty _ i 2 Tryz.underlying31 hi v _ _ h1 0, ⟨us, by simpa using h1, by simpa using h2⟩, Upd.refl _ _, .inl rfl⟩
  · have hcells : ∀ j u, (ecells M vs)[j]? = some u → w.cell? (ad.add j) = some u := by
      intro j u hu
      obtain ⟨b, o, e, _, hc⟩ := hrow (by rintro rfl; cases vs <;> simp [ecells] at hu)
      injection e with e
      subst e
      rw [add_lit]
      exact hc j u hu
    obtain ⟨v', w', hrun, h3, h4, _, h5⟩ := run_append_own_at (P := Tryz.prog) w base 31 ty 89 i _ 2 32 Tryz.underlying31 hi hz hsize hby rfl (by omega) v L.length _ h1 ad M.length c (ecells M vs) (ecells_len hl2) hcells (ecells_oneCell hcell)
      (by simp only [maxLen]; omega) (by omega) hbase
    have hu := upd_of_grown h4
    have hge : ∀ x ∈ v.ownBlock.toList, N ≤ x := fun x hx => by
      have := World.ownsRow.lt h1 x (Option.mem_toList.1 hx)
      omega
    refine ⟨v', w', hrun, ⟨us ++ vs, ?_, ?_⟩, hu, h5⟩
    · rw [List.length_append, ecells_append hl1]
      exact h3
    · exact (h2.imp fun _ _ hy => Row.upd hy hu hge).append (hcell.imp fun _ _ hy => Row.upd hy hu hge)
theorem wp_append_ex {o : Oper} {a : Act} {K : Act → World → Prop} {Q : Exit → Act → World → Prop} (s x : Operand)
    (ho : o.op = .call { callee := .builtin .append, args := #[s, x], argTypes := #[31, 31] })
    (hs : a.eval s = v) (hown : EOwn w base N v L) {B : Nat} {xv : Value} (hx : a.eval x = xv) (hr : Exr w B N xv M) (hlen : L.length + M.length ≤ 4398046511104) (hbase : base ≤ w.heap.size) (hN : N ≤ base)
    (h : ∀ v' w', EAppended w base N v (L ++ M) v' w' → K (a.put o.dst v') w') : o.wp Tryz.prog a w K Q := by
  obtain ⟨v', w', hrun, h2⟩ := run_append_ex o.type hown hr hlen hbase hN
  unfold Oper.wp execOp
  simp only [ho, resolve, invoke, builtin, Sem.run_bind, Sem.run_pure, Result.andThen_ok, List.map_toArray, List.map_cons, List.map_nil, hs, hx, hrun]
  exact h v' w' h2
theorem wpList_append_ex {ops : Array Oper} {rest : List Oper} {o : Oper} {a : Act} {Q : Exit → Act → World → Prop} (hgd : o.guard = none) (s x : Operand)
    (ho : o.op = .call { callee := .builtin .append, args := #[s, x], argTypes := #[31, 31] })
    (hs : a.eval s = v) (hown : EOwn w base N v L) {B : Nat} {xv : Value} (hx : a.eval x = xv) (hr : Exr w B N xv M) (hlen : L.length + M.length ≤ 4398046511104) (hbase : base ≤ w.heap.size) (hN : N ≤ base)
    (h : ∀ v' w', EAppended w base N v (L ++ M) v' w' → wpList Tryz.prog ops Q rest (a.put o.dst v') w') : wpList Tryz.prog ops Q (o :: rest) a w :=
  wpList_plain hgd fun _ hK => wp_append_ex s x ho hs hown hx hr hlen hbase hN fun v' w' h2 => hK _ _ (h v' w' h2)
theorem Exr.one {u : Value} {k : UInt16} {d : List UInt8} (hy : Byt w N u d) : Exr (w.alloc (.cells #[wv k, u] 89)) (w.heap.size + 1) N (.slice (some ⟨w.heap.size, 0, none⟩) 1 1) [(k, d)] :=
  ⟨some ⟨w.heap.size, 0, none⟩, 1, [u], rfl, Nat.le_refl _, by unfold maxLen; omega, fun e => (by cases e), ⟨Row.alloc hy _, trivial⟩, fun _ => ⟨w.heap.size, 0, rfl, by omega, fun j u' hj => by
    match j, hj with
    | 0, hj => rw [(Blk.new w _ _).cell]; simpa [ecells] using hj
    | 1, hj => rw [(Blk.new w _ _).cell]; simpa [ecells] using hj
    | j + 2, hj => simp [ecells] at hj⟩⟩
theorem EOwn.alloc (h : EOwn w base N v L) (o : Obj) : EOwn (w.alloc o) base N v L := h.upd ((Upd.refl [] w).alloc o) (by simp) (by simp)
theorem EAppended.one {v' : Value} {o : Obj} (h : EAppended (w.alloc o) base N v L v' w') :
    EOwn w' base N v' L ∧ Upd v.ownBlock.toList w w' ∧ (v'.ownBlock = v.ownBlock ∨ ∃ g, v'.ownBlock = some g ∧ w.heap.size < g) := by
  obtain ⟨h1, h2, h3⟩ := h
  refine ⟨h1, (((Upd.refl v.ownBlock.toList w).alloc o).trans h2 fun x hx => .inl hx), ?_⟩
  · rcases h3 with h3 | h3
    · exact .inl h3
    · exact .inr ⟨_, h3, by simp⟩
end
end Go.Proofs.YtaajmfgplhfncaaGreat
namespace Go.Proofs.YtaajmfgplhfncaaGreat
set_option maxRecDepth 100000
theorem beNat_be3 (n : Nat) (h : n < 16777216) : beNat (be 3 n) = n := by
  simp [be, beNat]
  omega
theorem beNat_be2 (n : Nat) (h : n < 65536) : beNat (be 2 n) = n := by
  simp [be, beNat]
  omega
theorem lp_be (k : Nat) (x r : List UInt8) (hk : beNat (be k x.length) = x.length) : lp k (be k x.length ++ x ++ r) = some (x, r) := by
  have hl := be_len k x.length
  have e1 : (be k x.length ++ x ++ r).take k = be k x.length := by rw [List.append_assoc, List.take_append_of_le_length (by omega), List.take_of_length_le (by omega)]
  have e2 : (be k x.length ++ x ++ r).drop k = x ++ r := by
    rw [List.append_assoc]
    have := List.drop_left (l₁ := be k x.length) (l₂ := x ++ r)
    rwa [hl] at this
  unfold lp
  rw [e1, e2, hk, if_pos (by simp; omega), if_pos (by simp)]
  simp
end Go.Proofs.YtaajmfgplhfncaaGreat
namespace Go.Proofs.YtaajmfgplhfncaaGreat
set_option maxRecDepth 20000
def exB (e : Ex) : List UInt8 := be 2 e.1.toNat ++ be 2 e.2.length ++ e.2
def exsB (l : List Ex) : List UInt8 := l.flatMap exB
def exsBad (l : List Ex) : Bool := l.any fun e => decide (65536 ≤ e.2.length)
def exsW (l : List Ex) : Wr := Wr.vector 2 ⟨exsB l, exsBad l⟩
theorem exsB_nil : exsB [] = [] := rfl
theorem exsB_cons (e : Ex) (l : List Ex) : exsB (e :: l) = exB e ++ exsB l := by simp [exsB]
theorem exsB_append (a b : List Ex) : exsB (a ++ b) = exsB a ++ exsB b := by simp [exsB]
theorem exB_len (e : Ex) : (exB e).length = 4 + e.2.length := by simp [exB, be_len]; omega
theorem exsBad_append (a b : List Ex) : exsBad (a ++ b) = (exsBad a || exsBad b) := by simp [exsBad]
theorem be2_two (n : Nat) : be 2 n = [UInt8.ofNat (n / 256), UInt8.ofNat n] := by simp [be]
theorem u16_be2 (k : UInt16) : UInt16.ofNat ((UInt8.ofNat (k.toNat / 256)).toNat * 256 + (UInt8.ofNat k.toNat).toNat) = k := by
  have h := k.toNat_lt
  have : (UInt8.ofNat (k.toNat / 256)).toNat * 256 + (UInt8.ofNat k.toNat).toNat = k.toNat := by simp; omega
  rw [this]
  exact UInt16.ofNat_toNat
theorem ext1_exB (e : Ex) (r : List UInt8) (h : e.2.length < 65536) : ext1 (exB e ++ r) = some (e, r) := by
  obtain ⟨k, d⟩ := e
  have h1 : exB (k, d) ++ r = UInt8.ofNat (k.toNat / 256) :: UInt8.ofNat k.toNat :: (be 2 d.length ++ d ++ r) := by simp [exB, be2_two]
  rw [h1, ext1_two, lp_be 2 d r (beNat_be2 _ h)]
  show some ((UInt16.ofNat _, d), r) = _
  rw [u16_be2]
theorem exts_exsB (l : List Ex) (h : exsBad l = false) : exts (exsB l) = some l := by
  induction l with
  | nil => rfl
  | cons e l ih =>
    have he : e.2.length < 65536 ∧ exsBad l = false := by
      unfold exsBad at h ⊢
      rw [List.any_cons, Bool.or_eq_false_iff] at h
      exact ⟨by have := h.1; simp at this; omega, h.2⟩
    rw [exsB_cons, exts_step (ext1_exB e _ he.1), ih he.2]
    rfl
theorem exsW_eq (l : List Ex) : exsW l = ⟨be 2 (exsB l).length ++ exsB l, exsBad l || decide (65536 ≤ (exsB l).length)⟩ := by
  simp [exsW, Wr.vector, Wr.inner, Wr.vec, Wr.nil]
theorem exsW_bad (l : List Ex) (h : exsBad l = true) : 65536 ≤ (exsB l).length := by
  induction l with
  | nil => cases h
  | cons e l ih =>
    rw [exsB_cons, List.length_append, exB_len]
    unfold exsBad at h ih
    rw [List.any_cons, Bool.or_eq_true_iff] at h
    rcases h with h | h
    · have := of_decide_eq_true h; omega
    · have := ih h; omega
theorem exsW_short (l : List Ex) : (exsW l).bad = decide (65536 ≤ (exsB l).length) := by
  rw [exsW_eq]
  by_cases h : exsBad l = true
  · have := exsW_bad l h
    simp [h, this]
  · have h : exsBad l = false := by simpa using h
    simp [h]
structure LW where
  l : List Ex
  bad : Bool
def LW.nil : LW := ⟨[], false⟩
def LW.add (s : LW) (is : Bool) (k : UInt16) (x : Wr) : LW := if is then ⟨s.l ++ [(k, x.b)], s.bad || x.bad⟩ else s
theorem LW.add_true (s : LW) (k : UInt16) (x : Wr) : s.add true k x = ⟨s.l ++ [(k, x.b)], s.bad || x.bad⟩ := rfl
def ListsE (E L : List Ex) : Prop := (L.map (·.1)).Nodup ∧ (∀ e ∈ L, e ∈ E ∨ 43520 ≤ e.1.toNat ∧ e.1.toNat < 44520) ∧ ∀ e ∈ E, e ∈ L
theorem ListsE.self {E : List Ex} (h : (E.map (·.1)).Nodup) : ListsE E E := ⟨h, fun _ he => .inl he, fun _ he => he⟩
theorem ListsE.perm {E L L' : List Ex} (h : ListsE E L) (hp : L'.Perm L) : ListsE E L' :=
  ⟨((hp.map _).nodup_iff).2 h.1, fun e he => h.2.1 e (hp.mem_iff.1 he), fun e he => hp.mem_iff.2 (h.2.2 e he)⟩
end Go.Proofs.YtaajmfgplhfncaaGreat
namespace Go.Proofs.YtaajmfgplhfncaaGreat
open Go.RowKit
set_option maxRecDepth 100000
def LWs (w : World) (base p : Nat) (v : Value) (s : LW) : Prop :=
  base ≤ p ∧ Blk w p 50 #[v, .bool s.bad] ∧
  ∃ us, w.ownsRow base 89 2 v s.l.length (ecells s.l us) ∧ All2 (fun u e => Byt w w.heap.size u e.2 ∧ (e.2 ≠ [] → ∀ g, u.ownBlock = some g → v.ownBlock ≠ some g ∧ g ≠ p)) us s.l
def LWP (w : World) (base p : Nat) (v : Value) (s : LW) (e : Ending) (w' : World) : Prop :=
  e = .returned (.tuple #[]) ∧ ∃ v', LWs w' base p v' s ∧ Upd (p :: v.ownBlock.toList) w w' ∧ (v'.ownBlock = v.ownBlock ∨ ∃ g, v'.ownBlock = some g ∧ w.heap.size ≤ g)
section
variable {w w' : World} {B base p : Nat} {v content : Value} {L : List Ex} {S : List Nat} {s : LW} {xs : List UInt8}
theorem own2_upd {xs : List Value} {n : Nat} (h1 : w.ownsRow base 89 2 v n xs) (hu : Upd S w w') (hs : ∀ g, v.ownBlock = some g → g ∉ S) : w'.ownsRow base 89 2 v n xs := by
  refine ⟨h1.1, ?_⟩
  rcases h1.2 with hn | ⟨g, cap, cur, rfl, hb, hg, rest⟩
  · exact .inl hn
  · exact .inr ⟨g, cap, cur, rfl, hb, (hu.block g (Array.getElem?_eq_some_iff.1 hg).1 (hs g rfl)).trans hg, rest⟩
theorem own2_ne {xs : List Value} {n g : Nat} {t : TypeId} {cs : Array Value} (h : w.ownsRow base 89 2 v n xs) (hb : Blk w g t cs) (hne : 89 ≠ t) : ∀ k, v.ownBlock = some k → k ≠ g := by
  intro k hk
  rcases h.2 with ⟨rfl, _⟩ | ⟨g', cap, cur, rfl, _, hh, _⟩
  · simp [Value.ownBlock] at hk
  · have : g' = k := by simpa [Value.ownBlock] using hk
    subst this
    exact Blk.ne_ (t := 89) hh hb hne
theorem own2_form {xs : List Value} {n : Nat} (h1 : w.ownsRow base 89 2 v n xs) : ∃ A c, v = .slice A n c ∧ n ≤ c ∧ c ≤ 9223372036854775807 := by
  rcases h1.2 with ⟨rfl, rfl⟩ | ⟨g, cap, cur, rfl, hb, hg, hn, hm, _⟩
  · exact ⟨none, 0, rfl, by omega, by omega⟩
  · exact ⟨_, cap, rfl, hn, hm⟩
theorem LWs.upd (h : LWs w base p v s) (hu : Upd [] w w') : LWs w' base p v s := by
  obtain ⟨h1, h2, us, h3, h4⟩ := h
  exact ⟨h1, h2.upd hu (by simp), us, own2_upd h3 hu (by simp), h4.imp fun _ _ hy => ⟨(Row.upd hy.1 hu (by simp)).shrink, hy.2⟩⟩
theorem LWs.exr (h : LWs w base p v s) : Exr w w.heap.size w.heap.size v s.l := by
  obtain ⟨_, _, us, h1, h2'⟩ := h
  have h2 : All2 (fun u e => Byt w w.heap.size u e.2) us s.l := h2'.imp fun _ _ hy => hy.1
  clear h2'
  rcases h1.2 with ⟨rfl, h0⟩ | ⟨g, cap, cur, rfl, hb, hg, hn, hm, hs, ht⟩
  · have : s.l = [] := List.eq_nil_of_length_eq_zero h0
    rw [this]
    exact Exr.nil_ _ _ _
  · refine ⟨some ⟨g, 0, none⟩, cap, us, rfl, hn, hm, fun e => by (cases e), h2, fun _ => ⟨g, 0, rfl, (Array.getElem?_eq_some_iff.1 hg).1, fun j u hu => ?_⟩⟩
    have := h1.cells (g := g) rfl j u hu
    rwa [add_lit] at this
theorem LWs.new (w : World) : LWs (w.alloc (.cells #[.slice none 0 0, .bool false] 50)) w.heap.size w.heap.size (.slice none 0 0) LW.nil :=
  ⟨Nat.le_refl _, Blk.new w _ _, [], World.ownsRow_nil _ _ _ 2, trivial⟩
theorem LWP.after {w1 w2 : World} {v1 : Value} {e : Ending} (hu : Upd (p :: v.ownBlock.toList) w w1) (hv : v1.ownBlock = v.ownBlock ∨ ∃ g, v1.ownBlock = some g ∧ w.heap.size ≤ g)
    (h : LWP w1 base p v1 s e w2) : LWP w base p v s e w2 := by
  obtain ⟨rfl, v2, h1, h2, h3⟩ := h
  refine ⟨rfl, v2, h1, hu.trans h2 ?_, ?_⟩
  · intro x hx
    rcases List.mem_cons.1 hx with hx | hx
    · exact .inl (by simp [hx])
    · rcases hv with hv | ⟨g, hv, hg⟩
      · rw [hv] at hx; exact .inl (by simp at hx ⊢; exact .inr hx)
      · rw [hv] at hx
        have : x = g := by simpa using hx
        exact .inr (by omega)
  · rcases h3 with h3 | ⟨g, h3, hg⟩
    · rw [h3]; exact hv
    · exact .inr ⟨g, h3, Nat.le_trans hu.size hg⟩
theorem step_append_ow {ops : Array Oper} {o : Oper} {a : Act} {K : Act → World → Prop} {Q : Exit → Act → World → Prop} {E : Prop} (hgd : o.guard = none) (x1 x2 : Operand)
    (ho : o.op = .call { callee := .builtin .append, args := #[x1, x2], argTypes := #[31, 31] })
    (hs : a.eval x1 = v) {us : List Value} (hown : w.ownsRow base 89 2 v L.length (ecells L us)) {g : Nat} {u : Value} {k : UInt16} (hx : a.eval x2 = .slice (some ⟨g, 0, none⟩) 1 1)
    (hb : Blk w g 89 #[wv k, u]) (hu1 : u.oneCell' = true) (hul : us.length = L.length) (hlen : L.length + 1 ≤ 4398046511104) (hbase : base ≤ w.heap.size)
    (h : ∀ (v' : Value) (w' : World), (∀ d, w'.ownsRow base 89 2 v' (L ++ [(k, d)]).length (ecells (L ++ [(k, d)]) (us ++ [u]))) → Upd v.ownBlock.toList w w' → (v'.ownBlock = v.ownBlock ∨ v'.ownBlock = some w.heap.size) → K (a.put o.dst v') w') :
    if Region.wanted o (yielded ops a.tmps) = true then Oper.wp Tryz.prog o a w K Q else E := by
  have hw : Region.wanted o (yielded ops a.tmps) = true := by simp [Region.wanted, hgd]
  rw [if_pos hw]
  obtain ⟨i, hi, hz, hsize, hby⟩ := info_parts info_ext
  have hcells : ∀ j u', [wv k, u][j]? = some u' → w.cell? ((⟨g, 0, none⟩ : Addr).add j) = some u' := by
    intro j u' hj
    rw [add_lit, Nat.zero_add, hb.cell]
    simpa using hj
  obtain ⟨v', w', hrun, h3, h4, _, h5⟩ := run_append_own_at (P := Tryz.prog) w base 31 o.type 89 i _ 2 32 Tryz.underlying31 hi hz hsize hby rfl (by omega) v L.length _ hown ⟨g, 0, none⟩ 1 1 [wv k, u] rfl hcells (by
      intro u' hu'
      simp at hu'
      rcases hu' with rfl | rfl
      · rfl
      · exact hu1)
    (by simp only [maxLen]; omega) (by omega) hbase
  unfold Oper.wp execOp
  simp only [ho, resolve, invoke, builtin, Sem.run_bind, Sem.run_pure, Result.andThen_ok, List.map_toArray, List.map_cons, List.map_nil, hs, hx, hrun]
  refine h v' w' (fun d => ?_) (upd_of_grown h4) h5
  rw [List.length_append, ecells_append hul]
  exact h3
theorem add_end {v3 : Value} {w1 w2 w3 : World} {us : List Value} {u : Value} {k : UInt16} {xb : Bool} (h : LWs w base p v s) (hu1 : Upd [] w w1) (hall : All2 (fun u e => Byt w w.heap.size u e.2 ∧ (e.2 ≠ [] → ∀ g, u.ownBlock = some g → v.ownBlock ≠ some g ∧ g ≠ p)) us s.l)
    (hc : Byt w B u xs) (hcn : xs ≠ [] → ∀ g, u.ownBlock = some g → v.ownBlock ≠ some g ∧ g ≠ p)
    (hap : ∀ d, w2.ownsRow base 89 2 v3 (s.l ++ [(k, d)]).length (ecells (s.l ++ [(k, d)]) (us ++ [u]))) (hu2 : Upd v.ownBlock.toList w1 w2) (hv : v3.ownBlock = v.ownBlock ∨ ∃ g, v3.ownBlock = some g ∧ w1.heap.size ≤ g)
    (hw3 : w3 = (w2.setCell ⟨p, 0, none⟩ v3).setCell ⟨p, 1, none⟩ (.bool xb)) : LWP w base p v ⟨s.l ++ [(k, xs)], xb⟩ (.returned (.tuple #[])) w3 := by
  have hpw := h.2.1.lt
  have hnp : ∀ k, v.ownBlock = some k → k ≠ p := by
    obtain ⟨_, hb, us', ho, _⟩ := h
    exact own2_ne ho hb (by decide)
  have hb2 : Blk w2 p 50 #[v, .bool s.bad] := (h.2.1.upd hu1 (by simp)).upd hu2 (fun hm => hnp p (Option.mem_toList.1 hm) rfl)
  have hb3 : Blk w3 p 50 #[v3, .bool xb] := by
    rw [hw3]
    have := (hb2.set_ 0 v3).set_ 1 (.bool xb)
    simpa using this
  have hu3 : Upd [p] w2 w3 := by rw [hw3]; exact ((Upd.refl [p] w2).setCell (by simp) _).setCell (by simp) _
  have hu13 : Upd (p :: v.ownBlock.toList) w w3 := by
    refine ((hu1.mono (S' := p :: v.ownBlock.toList) (by simp)).trans hu2 ?_).trans hu3 (by simp)
    intro x hx
    exact .inl (List.mem_cons_of_mem _ hx)
  have hnp3 : ∀ k, v3.ownBlock = some k → k ≠ p := by
    intro k' hk'
    rcases hv with hv | ⟨gg, hv, hgg⟩
    · rw [hv] at hk'; exact hnp k' hk'
    · rw [hv] at hk'
      have : gg = k' := by simpa using hk'
      have := hu1.size
      omega
  have hkeep : ∀ {u' : Value} {ys : List UInt8} {C : Nat}, Byt w C u' ys → (ys ≠ [] → ∀ g, u'.ownBlock = some g → v.ownBlock ≠ some g ∧ g ≠ p) → Byt w3 w3.heap.size u' ys ∧ (ys ≠ [] → ∀ g, u'.ownBlock = some g → v3.ownBlock ≠ some g ∧ g ≠ p) := by
    intro u' ys C hy hn
    by_cases hys : ys = []
    · subst hys
      obtain ⟨A, c, e, h1, h2, h3, _⟩ := hy
      exact ⟨⟨A, c, e, h1, h2, h3, fun h => absurd rfl h⟩, fun h => absurd rfl h⟩
    · have hn := hn hys
      refine ⟨(Row.apart hy hu13 fun g hg hm => ?_).shrink, fun _ g hg => ⟨fun h3 => ?_, (hn g hg).2⟩⟩
      · rcases List.mem_cons.1 hm with hm | hm
        · exact (hn g hg).2 hm
        · exact (hn g hg).1 (Option.mem_toList.1 hm)
      · rcases hv with hv | ⟨gg, hv, hgg⟩
        · rw [hv] at h3; exact (hn g hg).1 h3
        · rw [hv] at h3
          have h3 : gg = g := by simpa using h3
          obtain ⟨A, c, rfl, _, _, h0, h4⟩ := hy.shrink
          obtain ⟨b, o, rfl, hb, _⟩ := h4 (by simpa using hys)
          have : b = g := by simpa [Value.ownBlock] using hg
          have := hu1.size
          omega
  refine ⟨rfl, v3, ⟨h.1, hb3, us ++ [u], own2_upd (hap xs) hu3 (fun g hg hm => hnp3 g hg (by simpa using hm)), ?_⟩, hu13, ?_⟩
  · refine All2.append (hall.imp fun u' e hy => hkeep hy.1 hy.2) ⟨hkeep hc hcn, trivial⟩
  · rcases hv with hv | ⟨gg, hv, hgg⟩
    · exact .inl hv
    · exact .inr ⟨_, hv, Nat.le_trans hu1.size hgg⟩
end
end Go.Proofs.YtaajmfgplhfncaaGreat
namespace Go.Proofs.YtaajmfgplhfncaaGreat
open Go.RowKit
set_option maxRecDepth 100000
section
variable {w w' : World} {B base p : Nat} {v content : Value} {L : List Ex} {S : List Nat} {s : LW} {xs : List UInt8}
set_option maxHeartbeats 2000000 in
theorem add_ex_any (h : LWs w base p v s) (is : Bool) (k : UInt16) (hc : Byt w B content xs) (hcn : is = true → xs ≠ [] → ∀ g, content.ownBlock = some g → v.ownBlock ≠ some g ∧ g ≠ p) (xb : Bool) (hl : s.l.length ≤ 1000) :
    Calls Tryz.prog 22 #[.pointer (some ⟨p, 0, none⟩), .bool is, wv k, .agg #[content, .bool xb]] w (LWP w base p v (s.add is k ⟨xs, xb⟩)) := by
  obtain ⟨Ac, cc, rfl, hc, -⟩ := Byt.form hc rfl
  have h0 := h
  obtain ⟨hbp, hbk, us, hown, hall⟩ := h
  obtain ⟨Av, cv, rfl, hvl, hvc⟩ := own2_form hown
  have hul : us.length = s.l.length := hall.length
  have hpl := hbk.lt
  cases is
  · go_enter Tryz.func22, Tryz.ntmps22
    go_wp2
    go_end0
    exact ⟨rfl, _, h0.upd ((Upd.refl [] w).alloc _), (Upd.refl _ w).alloc _, .inl rfl⟩
  · have hcn := hcn rfl
    obtain ⟨w1, hw1⟩ : ∃ w1, w.alloc (.cells #[.slice Ac xs.length cc, .bool xb] 53) = w1 := ⟨_, rfl⟩
    obtain ⟨q, hq⟩ : ∃ q, w.heap.size = q := ⟨_, rfl⟩
    have hu1 : Upd [] w w1 := by rw [← hw1]; exact (Upd.refl _ _).alloc _
    have hbq : Blk w1 q 53 #[.slice Ac xs.length cc, .bool xb] := by rw [← hw1, ← hq]; exact Blk.new _ _ _
    have hb1 := hbk.upd hu1 (by simp)
    have hown1 := own2_upd hown hu1 (by simp)
    have hq1 : q < w1.heap.size := hbq.lt
    have hpq : p < q := by omega
    have hbase : base ≤ w1.heap.size := by omega
    have c0 := hb1.cell 0
    have c1 := hb1.cell 1
    have f0 := hb1.frozen 0
    have f1 := hb1.frozen 1
    have d0 := hbq.cell 0
    have d1 := hbq.cell 1
    simp at c0 c1 d0 d1
    have hpn : p ∉ (Value.slice Av s.l.length cv).ownBlock.toList := fun hm => own2_ne hown hbk (by decide) _ (Option.mem_toList.1 hm) rfl
    have hqn : q ∉ (Value.slice Av s.l.length cv).ownBlock.toList := fun hm => own2_ne hown1 hbq (by decide) _ (Option.mem_toList.1 hm) rfl
    have a0 := (hb1.alloc (.cells #[wv k, .slice Ac xs.length cc] 89)).cell 0
    have a1 := (hbq.alloc (.cells #[wv k, .slice Ac xs.length cc] 89)).cell 0
    simp at a0 a1
    have npq : ¬ p = q := by omega
    have nqp : ¬ q = p := by omega
    have HW := hid hw1
    have HQ := hid hq
    have HH := hid h0
    have HA := hid hall
    have HC := hid hc
    have HN := hid hcn
    have HU := hid hul
    clear hw1 hq h0 hall hc hcn hul hown hbk
    cases hsb : s.bad
    all_goals
      rw [hsb] at c1 hb1
      have HB := hid hsb
      clear hsb
      go_enter Tryz.func22, Tryz.ntmps22
      go_wp2_with fail
      rw [HW.out, HQ.out]
      go_wp2_with fail
      go_region_law (first | (refine step_append_ow rfl _ _ rfl rfl (own2_upd hown1 (((Upd.refl [] _).alloc _).drew) (by simp)) rfl (Blk.drew (Blk.new w1 89 #[wv k, .slice Ac xs.length cc])) rfl HU.out (by omega) (by simp; omega) ?_; intro v3 w3 hap hu3 hv3; have hb3 := ((hb1.alloc (.cells #[wv k, .slice Ac xs.length cc] 89)).drew).upd hu3 hpn; have e0 := hb3.cell 0; have e1 := hb3.cell 1; simp at e0 e1; have g0 := hb3.frozen 0; have g1 := hb3.frozen 1; have hq3 := ((hbq.alloc (.cells #[wv k, .slice Ac xs.length cc] 89)).drew).upd hu3 hqn; have k1 := hq3.cell 1; simp at k1; obtain ⟨A3, c3', hv3', -, -⟩ := own2_form (hap xs); subst hv3'))
      all_goals
        go_wp2
        go_end0
        rw [LW.add_true, HB.out]
        exact add_end HH.out hu1 HA.out HC.out HN.out hap (((Upd.refl _ w1).alloc _).drew.trans hu3 (fun _ hx => .inl hx)) (hv3.imp_right fun h => ⟨_, h, by simp⟩) (by simp only [List.length_append, List.length_singleton, Bool.false_or, Bool.true_or])
end
end Go.Proofs.YtaajmfgplhfncaaGreat
namespace Go.Proofs.YtaajmfgplhfncaaGreat
open Go.RowKit
set_option maxRecDepth 100000
section
variable {w w' w0 : World} {B : Nat} {v content : Value} {xs : List UInt8} {x : Wr} {e : Ending} {ls : List (List UInt8)} {L : List Ex}
theorem WValP.from (hu : Upd [] w w0) (h : WValP w0 x e w') : WValP w x e w' := by
  obtain ⟨v, rfl, h1, h2, h3, h4⟩ := h
  exact ⟨v, rfl, h1, fun k hk => Nat.le_trans hu.size (h2 k hk), h3, hu.trans h4 (by simp)⟩
set_option maxHeartbeats 1000000 in
theorem vector_any1 (hc : Byt w B content xs) (xb : Bool) (hx : xs.length ≤ 1099511627776) :
    Calls Tryz.prog 23 #[.int .i64 1, .agg #[content, .bool xb]] w (WValP w (Wr.vector 1 ⟨xs, xb⟩)) := by
  obtain ⟨A, c, rfl, hc, -⟩ := Byt.form hc rfl
  obtain ⟨wb, hwb⟩ : ∃ wb, w.alloc (.cells #[.slice A xs.length c, .bool xb] 53) = wb := ⟨_, rfl⟩
  have hub : Upd [] w wb := by rw [← hwb]; exact (Upd.refl _ _).alloc _
  have hbk : Blk wb w.heap.size 53 #[.slice A xs.length c, .bool xb] := by rw [← hwb]; exact Blk.new _ _ _
  have hcb : Byt wb wb.heap.size (.slice A xs.length c) xs := (Row.upd hc.shrink hub (by simp)).shrink
  have hm0 := WMid.start wb
  have hb1 := hbk.upd (W1_upd wb) (by simp)
  have d0 := hb1.cell 0
  have d1 := hb1.cell 1
  simp at d0 d1
  obtain ⟨v0, k0, hv0⟩ := hm0.open_
  have hsz : wb.heap.size = w.heap.size + 1 := by rw [← hwb]; simp
  have hn := winner_any1 k0 (hm0.src hcb v0) xb (by simp [Wr.nil]) hx
  rw [hsz] at hn
  have HN := hid hn
  have HS := hid hsz
  have HW := hid hwb
  clear hn hsz
  clear hwb hx
  go_enter Tryz.func23, Tryz.ntmps23
  go_wp2_with fail
  rw [HW.out, W1_eq]
  go_wp2_with fail
  refine HN.out.mono ?_
  intro e w2 hp2
  rw [← HS.out] at hp2
  obtain ⟨rfl, hm2⟩ := hm0.next hv0 hp2
  obtain ⟨A2, n2, c2, c0, c1, d0, d1, g0, g1, e0, e1, hend⟩ := hm2.fin
  rw [HS.out] at c0 c1 d0 d1 g0 g1 e0 e1 hend
  go_wp2
  exact bodyPost_ret (v := .agg #[.slice A2 n2 c2, .bool _]) (by simp [results, Tryz.results23, go_sem, e0, e1]) rfl (hend.from hub)
set_option maxHeartbeats 1000000 in
theorem vector_any2 (hc : Byt w B content xs) (xb : Bool) (hx : xs.length ≤ 1099511627776) :
    Calls Tryz.prog 23 #[.int .i64 2, .agg #[content, .bool xb]] w (WValP w (Wr.vector 2 ⟨xs, xb⟩)) := by
  obtain ⟨A, c, rfl, hc, -⟩ := Byt.form hc rfl
  obtain ⟨wb, hwb⟩ : ∃ wb, w.alloc (.cells #[.slice A xs.length c, .bool xb] 53) = wb := ⟨_, rfl⟩
  have hub : Upd [] w wb := by rw [← hwb]; exact (Upd.refl _ _).alloc _
  have hbk : Blk wb w.heap.size 53 #[.slice A xs.length c, .bool xb] := by rw [← hwb]; exact Blk.new _ _ _
  have hcb : Byt wb wb.heap.size (.slice A xs.length c) xs := (Row.upd hc.shrink hub (by simp)).shrink
  have hm0 := WMid.start wb
  have hb1 := hbk.upd (W1_upd wb) (by simp)
  have d0 := hb1.cell 0
  have d1 := hb1.cell 1
  simp at d0 d1
  obtain ⟨v0, k0, hv0⟩ := hm0.open_
  have hsz : wb.heap.size = w.heap.size + 1 := by rw [← hwb]; simp
  have hn := winner_any2 k0 (hm0.src hcb v0) xb (by simp [Wr.nil]) hx
  rw [hsz] at hn
  have HN := hid hn
  have HS := hid hsz
  have HW := hid hwb
  clear hn hsz
  clear hwb hx
  go_enter Tryz.func23, Tryz.ntmps23
  go_wp2_with fail
  rw [HW.out, W1_eq]
  go_wp2_with fail
  refine HN.out.mono ?_
  intro e w2 hp2
  rw [← HS.out] at hp2
  obtain ⟨rfl, hm2⟩ := hm0.next hv0 hp2
  obtain ⟨A2, n2, c2, c0, c1, d0, d1, g0, g1, e0, e1, hend⟩ := hm2.fin
  rw [HS.out] at c0 c1 d0 d1 g0 g1 e0 e1 hend
  go_wp2
  exact bodyPost_ret (v := .agg #[.slice A2 n2 c2, .bool _]) (by simp [results, Tryz.results23, go_sem, e0, e1]) rfl (hend.from hub)
def vecsB (size : Nat) (ls : List (List UInt8)) : List UInt8 := ls.flatMap fun x => be size x.length ++ x
def vecsBad (size : Nat) (ls : List (List UInt8)) : Bool := ls.any fun x => decide (256 ^ size ≤ x.length)
def vecsW (size : Nat) (ls : List (List UInt8)) : Wr := ⟨vecsB size ls, vecsBad size ls⟩
theorem vecsW_snoc (size : Nat) (ls : List (List UInt8)) (x : List UInt8) : (vecsW size ls).vec size x = vecsW size (ls ++ [x]) := by
  simp [vecsW, vecsB, vecsBad, Wr.vec]
theorem vecsB_take (size : Nat) (ls : List (List UInt8)) (k : Nat) : (vecsB size (ls.take k)).length ≤ (vecsB size ls).length := by
  have : vecsB size ls = vecsB size (ls.take k) ++ vecsB size (ls.drop k) := by
    unfold vecsB
    rw [← List.flatMap_append, List.take_append_drop]
  rw [this, List.length_append]
  omega
theorem vecsB_snoc (size : Nat) (l : List (List UInt8)) (x : List UInt8) : vecsB size (l ++ [x]) = vecsB size l ++ (be size x.length ++ x) := by simp [vecsB]
theorem vecsB_get (size : Nat) (ls : List (List UInt8)) (k : Nat) (h : k < ls.length) : ls[k].length ≤ (vecsB size ls).length := by
  have h1 := vecsB_take size ls (k + 1)
  rw [List.take_succ_eq_append_getElem h, vecsB_snoc, List.length_append, List.length_append] at h1
  omega
set_option maxHeartbeats 1000000 in
theorem vectors_any_w (size : Nat) (hsz : size = 1 ∨ size = 2 ∨ size = 3) (hc : Lst w B content ls) (hx : (vecsB size ls).length ≤ 1099511627776) :
    Calls Tryz.prog 28 #[.int .i64 size, content] w (WValP w (vecsW size ls)) := by
  have hm0 := WMid.start w
  have HX := hid hx
  obtain ⟨A, c, rfl, hcr, hlc, hm⟩ := hc.shrink.form
  clear hx hc
  go_enter Tryz.func28, Tryz.ntmps28
  go_wp2_with fail
  rw [W1_eq]
  go_loopg [7, 10] ls.length (fun gk _ i wr => ∃ j : Nat, j + gk = ls.length ∧ i = .int .i64 j ∧ WMid w (vecsW size (ls.take j)) wr)
  case atStart => exact ⟨0, by omega, rfl, by simpa [vecsW, vecsB, vecsBad, Wr.nil] using hm0⟩
  case round =>
    obtain ⟨j, hj0, rfl, hmr⟩ := hrel
    have hj : j ≤ ls.length := by omega
    have HJ := hid hj0
    clear hj0
    by_cases hlt : j < ls.length
    · have hcw := hcr.upd hmr.upd (by simp)
      obtain ⟨b, o, rfl, hb, hj', A', c', hcell, hy, hl1, hl2⟩ := hcw.at_ hlt
      obtain ⟨vr, kr, hvr⟩ := hmr.open_
      have hlen : (vecsW size (ls.take j)).b.length ≤ 17592186044416 := by
        have h1 := HX.out
        have h2 := vecsB_take size ls j
        show (vecsB size _).length ≤ _
        omega
      have hxl : (ls[j]).length ≤ 1099511627776 := Nat.le_trans (vecsB_get size ls j hlt) HX.out
      have HN : Hid (Calls Tryz.prog 33 #[.pointer (some ⟨w.heap.size + 1, 0, none⟩), .int .i64 size, .slice A' (ls[j]).length c'] wr (WrtP wr (w.heap.size + 1) (w.heap.size + 1) vr ((vecsW size (ls.take j)).vec size ls[j]))) := by
        rcases hsz with rfl | rfl | rfl
        · exact hid (wvec_any1 kr ⟨_, hy, .inl (by omega)⟩ hlen hxl)
        · exact hid (wvec_any2 kr ⟨_, hy, .inl (by omega)⟩ hlen hxl)
        · exact hid (wvec_any3 kr ⟨_, hy, .inl (by omega)⟩ hlen hxl)
      have HS := hid (show (vecsW size (ls.take j)).vec size ls[j] = vecsW size (ls.take (j + 1)) by
        rw [List.take_succ_eq_append_getElem hlt, vecsW_snoc])
      clear hlen hxl
      go_wp2_with fail
      refine HN.out.mono ?_
      intro e w2 hp2
      rw [HS.out] at hp2
      obtain ⟨rfl, hm2⟩ := hmr.next hvr hp2
      go_wp2
      have hj0 := HJ.out
      go_roundg (ls.length - (j + 1))
      case measure => omega
      case rel => exact ⟨j + 1, by omega, by go_num, hm2⟩
    · obtain rfl : j = ls.length := by omega
      rw [List.take_length] at hmr
      obtain ⟨A4, n4, c4, c0, c1, d0, d1, g0, g1, e0, e1, hend⟩ := hmr.fin
      go_wp2
      exact bodyPost_ret (v := .agg #[.slice A4 n4 c4, .bool _]) (by simp [results, Tryz.results28, go_sem, e0, e1]) rfl hend
theorem exsB_take (L : List Ex) (k : Nat) : (exsB (L.take k)).length ≤ (exsB L).length := by
  have : exsB L = exsB (L.take k) ++ exsB (L.drop k) := by rw [← exsB_append, List.take_append_drop]
  rw [this, List.length_append]
  omega
theorem exsB_get (L : List Ex) (k : Nat) (h : k < L.length) : (exsB (L.take k)).length + (4 + (L[k]).2.length) ≤ (exsB L).length := by
  have h1 := exsB_take L (k + 1)
  rw [List.take_succ_eq_append_getElem h, exsB_append, List.length_append] at h1
  have h2 : exsB [L[k]] = exB L[k] := by simp [exsB]
  rw [h2, exB_len] at h1
  omega
theorem exs_snoc (L : List Ex) (e : Ex) : ((Wr.mk (exsB L) (exsBad L)).num 2 e.1.toNat).vec 2 e.2 = ⟨exsB (L ++ [e]), exsBad (L ++ [e])⟩ := by
  simp [exsB, exsBad, Wr.vec, Wr.num, exB]
theorem wval_put {r0 : Nat} {w2 : World} {v4 u0 u1 : Value} (hr0 : w.heap.size ≤ r0) (hb2 : Blk w2 r0 53 #[u0, u1]) (hy : Byt w2 w2.heap.size v4 x.b) (hn : NewFrom w.heap.size v4) (hne : ∀ g, v4.ownBlock = some g → g ≠ r0) (hs : isSlice v4) (hu : Upd [] w w2) :
    Blk ((w2.setCell ⟨r0, 0, none⟩ v4).setCell ⟨r0, 1, none⟩ (.bool x.bad)) r0 53 #[v4, .bool x.bad] ∧
    WValP w x (.returned (.agg #[v4, .bool x.bad])) ((w2.setCell ⟨r0, 0, none⟩ v4).setCell ⟨r0, 1, none⟩ (.bool x.bad)) := by
  have hu1 : Upd [r0] w2 ((w2.setCell ⟨r0, 0, none⟩ v4).setCell ⟨r0, 1, none⟩ (.bool x.bad)) := ((Upd.refl _ _).setCell (by simp) _).setCell (by simp) _
  refine ⟨?_, v4, rfl, (Row.apart hy hu1 (fun g hg hm => hne g hg (by simpa using hm))).shrink, hn, hs, hu.trans hu1 (by simp; omega)⟩
  have := (hb2.set_ 0 v4).set_ 1 (.bool x.bad)
  simpa using this
set_option maxHeartbeats 2000000 in
theorem extensions_any_w {N : Nat} (hc : Exr w B N content L) (hx : (exsB L).length ≤ 1099511627776) :
    Calls Tryz.prog 35 #[content] w (WValP w (exsW L)) := by
  have hm0 := WMid.start w
  have HX := hid hx
  obtain ⟨A, c, rfl, hcr, hlc, hm⟩ := hc.shrink.form
  clear hx hc
  go_enter Tryz.func35, Tryz.ntmps35
  go_wp2_with fail
  rw [W1_eq]
  go_loopg [8] L.length (fun gk i wr => ∃ j : Nat, j + gk = L.length ∧ i = .int .i64 j ∧ WMid w ⟨exsB (L.take j), exsBad (L.take j)⟩ wr)
  case atStart => exact ⟨0, by omega, rfl, by simpa [exsB, exsBad, Wr.nil] using hm0⟩
  case round =>
    obtain ⟨j, hj0, rfl, hmr⟩ := hrel
    have hj : j ≤ L.length := by omega
    have HJ := hid hj0
    clear hj0
    by_cases hlt : j < L.length
    · have hcw := hcr.upd hmr.upd (by simp)
      obtain ⟨b, o, rfl, hb, hj', A', c', hk0, hk1, hy, hl1, hl2⟩ := hcw.at_ hlt
      have hget := exsB_get L j hlt
      have HS := hid (show ((Wr.mk (exsB (L.take j)) (exsBad (L.take j))).num 2 L[j].1.toNat).vec 2 L[j].2 = ⟨exsB (L.take (j + 1)), exsBad (L.take (j + 1))⟩ by
        rw [List.take_succ_eq_append_getElem hlt, exs_snoc])
      generalize L[j] = ej at hk0 hk1 hy hl1 hl2 hget HS
      obtain ⟨w1, hw1⟩ : ∃ w1, wr.alloc (.cells #[wv ej.1, .slice A' ej.2.length c'] 89) = w1 := ⟨_, rfl⟩
      obtain ⟨g, hg⟩ : ∃ g, wr.heap.size = g := ⟨_, rfl⟩
      have hu1 : Upd [] wr w1 := by rw [← hw1]; exact (Upd.refl _ _).alloc _
      have hbg : Blk w1 g 89 #[wv ej.1, .slice A' ej.2.length c'] := by rw [← hw1, ← hg]; exact Blk.new _ _ _
      have d0 := hbg.cell 0
      have d1 := hbg.cell 1
      simp at d0 d1
      have hm1 : WMid w ⟨exsB (L.take j), exsBad (L.take j)⟩ w1 := by
        obtain ⟨he, v', h1, h2, h3⟩ := hmr
        exact ⟨he, v', h1.upd hu1 (by simp) (by simp), h2.trans hu1 (by simp), h3⟩
      obtain ⟨vr, kr, hvr⟩ := hm1.open_
      have hlen : (Wr.mk (exsB (L.take j)) (exsBad (L.take j))).b.length ≤ 17592186044416 := by
        have h1 := HX.out
        show (exsB _).length ≤ _
        omega
      have HN := hid (wnum_any kr 2 ej.1.toNat (by omega) hlen)
      have hkn := ej.1.toNat_lt
      have HG := hid hget
      have HW := hid hw1
      have Hg := hid hg
      clear hlen hget hw1 hg
      go_wp2_with fail
      rw [HW.out, Hg.out]
      go_wp2_with fail
      refine HN.out.mono ?_
      intro e w2 hp2
      have hu2 : Upd ((w.heap.size + 1) :: vr.ownBlock.toList) w1 w2 := hp2.2.choose_spec.2.1
      obtain ⟨rfl, hm2⟩ := hm1.next hvr hp2
      have hgn : g ∉ (w.heap.size + 1) :: vr.ownBlock.toList := by
        intro hm
        rcases List.mem_cons.1 hm with hm | hm
        · obtain ⟨_, _, hkb, _⟩ := hmr.open_
          have := kr.2.1.ne_ hbg (by decide)
          omega
        · exact kr.2.2.ne hbg (by decide) _ (Option.mem_toList.1 hm) rfl
      have hb2 := hbg.upd hu2 hgn
      have e0 := hb2.cell 1
      simp at e0
      have hy2 : Byt w2 w.heap.size (.slice A' ej.2.length c') ej.2 := by
        refine Row.upd (Row.upd hy hu1 (by simp)) hu2 fun x hx => ?_
        rcases List.mem_cons.1 hx with hx | hx
        · omega
        · have := (kr.2.2.ge (Option.mem_toList.1 hx)).1
          omega
      obtain ⟨v2, k2, hv2⟩ := hm2.open_
      have HV := hid (wvec_any2 k2 ⟨_, hy2, .inl (by omega)⟩ (by have h1 := HX.out; have h2 := HG.out; simp only [Wr.num, List.length_append, be_len]; omega) (by have h1 := HX.out; have h2 := HG.out; omega))
      go_wp2_with fail
      refine HV.out.mono ?_
      intro e w3 hp3
      rw [HS.out] at hp3
      obtain ⟨rfl, hm3⟩ := hm2.next hv2 hp3
      go_wp2
      have hj0 := HJ.out
      go_roundg (L.length - (j + 1))
      case measure => omega
      case rel => exact ⟨j + 1, by omega, by go_num, hm3⟩
    · obtain rfl : j = L.length := by omega
      rw [List.take_length] at hmr
      obtain ⟨A4, n4, c4, c0, c1, d0, d1, g0, g1, -, -, -⟩ := hmr.fin
      obtain ⟨vr, kr, hvr⟩ := hmr.open_
      have hvs : vr = .slice A4 n4 c4 := by
        have := kr.2.1.cell 0
        rw [this] at c0
        simpa using c0
      subst hvs
      have HV := hid (vector_any2 kr.2.2.row (exsBad L) HX.out)
      have hb0 : Blk wr w.heap.size 53 #[.slice none 0 0, .bool false] := (W1_res w).upd hvr.1 (by simp [Value.ownBlock])
      have HR := hid hb0
      go_wp2_with fail
      refine HV.out.mono ?_
      rintro e w2 ⟨v4, rfl, hy4, hn4, ⟨A5, n5, c5, rfl⟩, hu4⟩
      have hb2 := HR.out.upd hu4 (by simp)
      have huw : Upd [] w w2 := hmr.upd.trans hu4 (by simp)
      have hsz := hmr.upd.size
      obtain ⟨hfb, hfin⟩ := wval_put (w := w) (x := Wr.vector 2 ⟨exsB L, exsBad L⟩) (Nat.le_refl _) hb2 hy4 (fun k hk => Nat.le_trans hsz (hn4 k hk)) (fun g hg => by have := hn4 g hg; have := HR.out.lt; omega) ⟨_, _, _, rfl⟩ huw
      have e0 := hfb.cell 0
      have e1 := hfb.cell 1
      simp at e0 e1
      have k0 := hb2.cell 0
      have k1 := hb2.cell 1
      simp at k0 k1
      have f0 := hb2.frozen 0
      have f1 := hb2.frozen 1
      go_wp2
      exact bodyPost_ret (v := .agg #[.slice A5 n5 c5, .bool _]) (by simp [results, Tryz.results35, go_sem, e0, e1]) rfl hfin
end
end Go.Proofs.YtaajmfgplhfncaaGreat
namespace Go.Proofs.YtaajmfgplhfncaaGreat
open Go.RowKit
set_option maxRecDepth 100000
section
variable {w w' w0 wr : World} {B C N base : Nat} {v v7 v8 v9 content : Value} {xs ys : List UInt8} {e : Ending} {ls : List (List UInt8)} {L : List Ex}
def FitsP (w : World) (p : Prop) (e : Ending) (w' : World) : Prop := ∃ b : Bool, e = .returned (.bool b) ∧ Upd [] w w' ∧ (b = true → p)
set_option maxHeartbeats 1000000 in
theorem zzFits2_any (hc : Lst w B content ls) : Calls Tryz.prog 18 #[content] w (FitsP w (ls.length ≤ 2147483647 ∧ ∀ x ∈ ls, x.length ≤ 2147483647)) := by
  obtain ⟨A, c, rfl, hcr, hlc, hm⟩ := hc.shrink.form
  by_cases hl : 2147483647 < ls.length
  · have hb : decide ((2147483647 : Int) < (ls.length : Int)) = true := decide_eq_true (by omega)
    clear hl
    go_enter Tryz.func18, Tryz.ntmps18
    go_wp2
    go_ret
    exact ⟨false, rfl, Upd.refl _ _, fun h => (by cases h)⟩
  · have hb : decide ((2147483647 : Int) < (ls.length : Int)) = false := decide_eq_false (by omega)
    go_enter Tryz.func18, Tryz.ntmps18
    go_wp2
    go_loopg [4, 10] ls.length (fun gk _ i wr => ∃ j : Nat, j + gk = ls.length ∧ i = .int .i64 j ∧ Upd [] w wr ∧ ∀ x ∈ ls.take j, x.length ≤ 2147483647)
    case atStart => exact ⟨0, by omega, rfl, Upd.refl _ _, by simp⟩
    case round =>
      obtain ⟨j, hj0, rfl, hur, hall⟩ := hrel
      have HJ := hid hj0
      have HA := hid hall
      have hj : j ≤ ls.length := by omega
      clear hj0 hall
      by_cases hlt : j < ls.length
      · have hcw := hcr.upd hur (by simp)
        obtain ⟨b, o, rfl, hb', hj', A', c', hcell, hy, hl1, hl2⟩ := hcw.at_ hlt
        by_cases hx : 2147483647 < (ls[j]).length
        · have hx' : decide ((2147483647 : Int) < ((ls[j]).length : Int)) = true := decide_eq_true (by omega)
          clear hx
          go_wp2
          go_ret
          exact ⟨false, rfl, hur, fun h => (by cases h)⟩
        · have hx' : decide ((2147483647 : Int) < ((ls[j]).length : Int)) = false := decide_eq_false (by omega)
          have Hx := hid hx
          clear hx
          go_wp2
          have hj0 := HJ.out
          go_roundg (ls.length - (j + 1))
          case measure => omega
          case rel =>
            refine ⟨j + 1, by omega, by go_num, hur, ?_⟩
            intro x hx
            rw [List.take_succ_eq_append_getElem hlt] at hx
            rcases List.mem_append.1 hx with hx | hx
            · exact HA.out x hx
            · simp at hx; rw [hx]; have := Hx.out; omega
      · obtain rfl : j = ls.length := by omega
        go_wp2
        go_ret
        refine ⟨true, rfl, hur, fun _ => ⟨by omega, ?_⟩⟩
        have := HA.out
        rwa [List.take_length] at this
structure OSt (w : World) (v7 v8 v9 : Value) (O T K : List Ex) (wr : World) : Prop where
  a7 : EOwn wr w.heap.size w.heap.size v7 O
  a8 : EOwn wr w.heap.size w.heap.size v8 T
  a9 : EOwn wr w.heap.size w.heap.size v9 K
  n78 : ∀ g, v7.ownBlock = some g → v8.ownBlock ≠ some g
  n79 : ∀ g, v7.ownBlock = some g → v9.ownBlock ≠ some g
  n89 : ∀ g, v8.ownBlock = some g → v9.ownBlock ≠ some g
  u : Upd [] w wr
theorem OSt.out {O T K O' : List Ex} {v' : Value} {o : Obj} {w3 : World} (h : OSt w v7 v8 v9 O T K wr) (hap : EAppended (wr.alloc o) w.heap.size w.heap.size v7 O' v' w3) : OSt w v' v8 v9 O' T K w3 := by
  obtain ⟨h1, h2, h3⟩ := hap.one
  have hN : ∀ x ∈ v7.ownBlock.toList, w.heap.size ≤ x := fun x hx => (h.a7.ge (Option.mem_toList.1 hx)).1
  refine ⟨h1, h.a8.upd h2 (fun g hg hm => h.n78 g (Option.mem_toList.1 hm) hg) hN, h.a9.upd h2 (fun g hg hm => h.n79 g (Option.mem_toList.1 hm) hg) hN, ?_, ?_, h.n89, h.u.trans h2 fun x hx => .inr (hN x hx)⟩
  · intro g hg h8
    rcases h3 with h3 | ⟨g', h3, hg'⟩
    · rw [h3] at hg; exact h.n78 g hg h8
    · rw [h3] at hg
      have : g' = g := by simpa using hg
      have := (h.a8.ge h8).2
      omega
  · intro g hg h9
    rcases h3 with h3 | ⟨g', h3, hg'⟩
    · rw [h3] at hg; exact h.n79 g hg h9
    · rw [h3] at hg
      have : g' = g := by simpa using hg
      have := (h.a9.ge h9).2
      omega
theorem OSt.alloc {O T K : List Ex} (h : OSt w v7 v8 v9 O T K wr) (o : Obj) : OSt w v7 v8 v9 O T K (wr.alloc o) := by
  have hu := (Upd.refl [] wr).alloc o
  exact ⟨h.a7.upd hu (by simp) (by simp), h.a8.upd hu (by simp) (by simp), h.a9.upd hu (by simp) (by simp), h.n78, h.n79, h.n89, h.u.trans hu (by simp)⟩
end
end Go.Proofs.YtaajmfgplhfncaaGreat
namespace Go.Proofs.YtaajmfgplhfncaaGreat
open Go.RowKit
set_option maxRecDepth 100000
attribute [local go_sem ↓] Go.wp_at_zero Go.wp_at_succ
section
variable {w w' w0 : World} {B C : Nat} {v a1 a2 : Value} {xs ys : List UInt8} {e : Ending}
theorem alloc_size (w : World) (o : Obj) : (w.alloc o).heap.size = w.heap.size + 1 := by simp
theorem own_empty (w : World) (base : Nat) (e : TypeId) (hb : base ≤ w.heap.size) : Own (w.alloc (.cells #[] e)) base e (.slice (some ⟨w.heap.size, 0, none⟩) 0 0) [] :=
  ⟨rfl, .inr ⟨w.heap.size, 0, #[], rfl, hb, heap_alloc_new w _, Nat.le_refl _, Nat.zero_le _, rfl, rfl⟩⟩
theorem beh_keep {W : World} {g : Nat} {a b c d x y : Value} (h0 : Blk W g 53 #[a, b]) (h1 : Blk W (g + 1) 53 #[c, d]) (h2 : Blk W (g + 1 + 1) 53 #[x, y]) :
    W.cell? ⟨g, 0, none⟩ = some a ∧ W.cell? ⟨g, 1, none⟩ = some b ∧ W.cell? ⟨g + 1, 0, none⟩ = some c ∧ W.cell? ⟨g + 1, 1, none⟩ = some d ∧ W.cell? ⟨g + 1 + 1, 0, none⟩ = some x ∧ W.cell? ⟨g + 1 + 1, 1, none⟩ = some y ∧ W.frozen? ⟨g + 1 + 1, 0, none⟩ = false ∧ W.frozen? ⟨g + 1 + 1, 1, none⟩ = false :=
  ⟨h0.cell 0, h0.cell 1, h1.cell 0, h1.cell 1, h2.cell 0, h2.cell 1, h2.frozen 0, h2.frozen 1⟩
def behindW (x y : Wr) : Wr := ⟨x.b ++ y.b, x.bad || y.bad⟩
set_option maxHeartbeats 2000000 in
theorem behind_any (ha : Byt w B a1 xs) (hb : Byt w C a2 ys) (p q : Bool) (hx : xs.length ≤ 1099511627776) (hy : ys.length ≤ 1099511627776) :
    Calls Tryz.prog 30 #[.agg #[a1, .bool p], .agg #[a2, .bool q]] w (WValP w (behindW ⟨xs, p⟩ ⟨ys, q⟩)) := by
  obtain ⟨A1, c1, rfl, ha, -⟩ := Byt.form ha.shrink rfl
  obtain ⟨A2, c2, rfl, hb, -⟩ := Byt.form hb.shrink rfl
  obtain ⟨wn, hwn⟩ : ∃ wn, ((w.alloc (.cells #[.slice A1 xs.length c1, .bool p] 53)).alloc (.cells #[.slice A2 ys.length c2, .bool q] 53)).alloc (.cells #[.slice none 0 0, .bool false] 53) = wn := ⟨_, rfl⟩
  obtain ⟨g, hg⟩ : ∃ g, w.heap.size = g := ⟨_, rfl⟩
  have hun : Upd [] w wn := by rw [← hwn]; exact (((Upd.refl _ _).alloc _).alloc _).alloc _
  have hb0 : Blk wn g 53 #[.slice A1 xs.length c1, .bool p] := by rw [← hwn, ← hg]; exact ((Blk.new _ _ _).alloc _).alloc _
  have hb1 : Blk wn (g + 1) 53 #[.slice A2 ys.length c2, .bool q] := by
    rw [← hwn, ← hg]
    have := Blk.new (w.alloc (.cells #[.slice A1 xs.length c1, .bool p] 53)) 53 #[.slice A2 ys.length c2, .bool q]
    simp only [alloc_size] at this
    exact this.alloc _
  have hb2 : Blk wn (g + 1 + 1) 53 #[.slice none 0 0, .bool false] := by
    rw [← hwn, ← hg]
    have := Blk.new ((w.alloc (.cells #[.slice A1 xs.length c1, .bool p] 53)).alloc (.cells #[.slice A2 ys.length c2, .bool q] 53)) 53 #[.slice none 0 0, .bool false]
    simp only [alloc_size] at this
    exact this
  have hsn : wn.heap.size = g + 3 := by rw [← hwn, ← hg]; simp
  have han : Byt wn g (.slice A1 xs.length c1) xs := by rw [← hg]; exact Row.upd ha hun (by simp)
  have hbn : Byt wn g (.slice A2 ys.length c2) ys := by rw [← hg]; exact Row.upd hb hun (by simp)
  have d0 := hb0.cell 0
  have d1 := hb0.cell 1
  have e0 := hb1.cell 0
  have e1 := hb1.cell 1
  have k0 := hb2.cell 0
  have k1 := hb2.cell 1
  have f0 := hb2.frozen 0
  have f1 := hb2.frozen 1
  simp at d0 d1 e0 e1 k0 k1
  have f0a := (hb2.alloc (.cells #[] 5)).frozen 0
  have f1a := (hb2.alloc (.cells #[] 5)).frozen 1
  have n1 : ¬ g = g + 1 + 1 := by omega
  have n2 : ¬ g + 1 = g + 1 + 1 := by omega
  have n3 : ¬ g + 1 + 1 = g := by omega
  have HW := hid hwn
  have HG := hid hg
  have HS := hid hsn
  clear hwn hg hsn
  have hgl : g + 1 + 1 < wn.heap.size := by rw [HS.out]; omega
  cases p
  case false =>
    go_enter Tryz.func30, Tryz.ntmps30
    go_wp2_with fail
    rw [HW.out, HG.out]
    go_wp2_with fail
    go_region_held3 (fun w' => w'.cell? ⟨g, 0, none⟩ = some (.slice A1 xs.length c1) ∧ w'.cell? ⟨g, 1, none⟩ = some (.bool false) ∧ w'.cell? ⟨g + 1, 0, none⟩ = some (.slice A2 ys.length c2) ∧ w'.cell? ⟨g + 1, 1, none⟩ = some (.bool q)) (go_keep)
      (first
        | (refine step_append_row _ (by rfl) (Operand.tmp 5) (Operand.tmp 7) 23 (by rfl) wn.heap.size 5 (.int .u8 0) 1 Tryz.underlying23 info_u8 rfl (by rfl) ((own_empty wn wn.heap.size 5 (Nat.le_refl _)).upd ((Upd.refl [] _).drew) (by simp)) (by rfl) (Row.drew (Row.alloc han (.cells #[] 5))) (byt_oneCell _) (by simp; omega) (by simp; omega) (by simp) ?_; intro v3 w3 hap3; have b0 := ((hb0.alloc (.cells #[] 5)).drew).upd hap3.2.1 (by simp [Value.ownBlock]; omega); have b1 := ((hb1.alloc (.cells #[] 5)).drew).upd hap3.2.1 (by simp [Value.ownBlock]; omega); have b2 := ((hb2.alloc (.cells #[] 5)).drew).upd hap3.2.1 (by simp [Value.ownBlock]; omega); have S3 := beh_keep b0 b1 b2; have hb3 := Row.upd (Row.drew (Row.alloc hbn (.cells #[] 5))) hap3.2.1 (by simp [Value.ownBlock]; omega); have hsz3 := hap3.2.1.size; simp at hsz3; obtain ⟨A3, c3, hv3⟩ := Own.formN (n := xs.length) hap3.1 (by simp); subst hv3)
        | (refine step_append_row _ (by rfl) (Operand.tmp 8) (Operand.tmp 10) 23 (by rfl) wn.heap.size 5 (.int .u8 0) 1 Tryz.underlying23 info_u8 rfl (by rfl) hap3.1 (by rfl) hb3 (byt_oneCell _) (by simp; omega) (by simp; omega) (by omega) ?_; intro v4 w4 hap4; have hge : ∀ k ∈ (Value.slice A3 xs.length c3).ownBlock.toList, wn.heap.size ≤ k := (fun k hk => (hap3.1.ge (Option.mem_toList.1 hk)).1); have m0 := b0.upd hap4.2.1 (fun hm => by have := hge _ hm; omega); have m1 := b1.upd hap4.2.1 (fun hm => by have := hge _ hm; omega); have m2 := b2.upd hap4.2.1 (fun hm => by have := hge _ hm; omega); have S4 := beh_keep m0 m1 m2; obtain ⟨A4, c4, hv4⟩ := Own.formN (n := xs.length + ys.length) hap4.1 (by simp); subst hv4))
    all_goals
      have hge : ∀ k ∈ (Value.slice A3 xs.length c3).ownBlock.toList, wn.heap.size ≤ k := fun k hk => (hap3.1.ge (Option.mem_toList.1 hk)).1
      have hu4 : Upd [] w w4 := ((((hun.alloc (.cells #[] 5)).drew).trans hap3.2.1 (by simp [Value.ownBlock]; exact hun.size)).trans hap4.2.1 (fun x hx => .inr (Nat.le_trans hun.size (hge x hx))))
      have hy4 : Byt w4 w4.heap.size (.slice A4 (xs.length + ys.length) c4) (xs ++ ys) := by
        have := hap4.1.row
        rw [List.nil_append, ← List.map_append] at this
        exact this
      have hn4 : ∀ k, (Value.slice A4 (xs.length + ys.length) c4).ownBlock = some k → wn.heap.size ≤ k := fun k hk => (hap4.1.ge hk).1
      obtain ⟨hfb, hfin⟩ := wval_put (w := w) (x := behindW ⟨xs, false⟩ ⟨ys, q⟩) (r0 := g + 1 + 1) (by rw [← HG.out]; omega) m2 hy4 (fun k hk => Nat.le_trans hun.size (hn4 k hk)) (fun k hk => by have := hn4 k hk; omega) ⟨_, _, _, rfl⟩ hu4
      have z0 := hfb.cell 0
      have z1 := hfb.cell 1
      simp [behindW] at z0 z1
      simp only [behindW, Bool.false_or, Bool.true_or] at hfin
      clear S3 S4
      go_wp2
      exact bodyPost_ret (v := .agg #[.slice A4 (xs.length + ys.length) c4, .bool _]) (by simp [results, Tryz.results30, go_sem, z0, z1]) rfl hfin
  case true =>
    go_enter Tryz.func30, Tryz.ntmps30
    go_wp2_with fail
    rw [HW.out, HG.out]
    go_wp2_with fail
    refine wp_region_held_drew (S := (fun w' => w'.cell? ⟨g, 0, none⟩ = some (.slice A1 xs.length c1) ∧ w'.cell? ⟨g, 1, none⟩ = some (.bool true) ∧ w'.cell? ⟨g + 1, 0, none⟩ = some (.slice A2 ys.length c2) ∧ w'.cell? ⟨g + 1, 1, none⟩ = some (.bool q))) (by kernel_rfl) ?_ (fun hHeld => ?_)
    · go_keep
    refine wpAnyH_take (i := 1) (oi := { dst := some 6, op := Op.fieldAddr 53 (Operand.tmp 2) 0, type := 0, pos := "server.go:60", after := #[], guard := none }) (v := ?_) rfl (by kernel_rfl) (by kernel_rfl) (by kernel_rfl) (fun _ _ _ h => h) (Or.inl ⟨by rfl, ?_⟩) (by assumption) ?_
    rotate_left
    · (intro w hSw; (try dsimp only at hSw); go_simp; try (with_reducible rfl))
    try simp only [Act.put, List.setIfInBounds_toArray, List.set_cons_zero, List.set_cons_succ]
    refine wpAnyH_take (i := 2) (oi := { dst := some 7, op := Op.load 23 (Operand.tmp 6), type := 23, pos := "server.go:60", after := #[{ on := 1, ground := Ground.data }], guard := none }) (v := ?_) rfl (by kernel_rfl) (by kernel_rfl) (by kernel_rfl) (fun _ _ _ h => h) (Or.inl ⟨by rfl, ?_⟩) (by assumption) ?_
    rotate_left
    · (intro w hSw; (try dsimp only at hSw); go_simp; try (with_reducible rfl))
    try simp only [Act.put, List.setIfInBounds_toArray, List.set_cons_zero, List.set_cons_succ]
    refine wpAnyH_take (i := 4) (oi := { dst := some 9, op := Op.fieldAddr 53 (Operand.tmp 3) 0, type := 0, pos := "server.go:60", after := #[], guard := none }) (v := ?_) rfl (by kernel_rfl) (by kernel_rfl) (by kernel_rfl) (fun _ _ _ h => h) (Or.inl ⟨by rfl, ?_⟩) (by assumption) ?_
    rotate_left
    · (intro w hSw; (try dsimp only at hSw); go_simp; try (with_reducible rfl))
    try simp only [Act.put, List.setIfInBounds_toArray, List.set_cons_zero, List.set_cons_succ]
    refine wpAnyH_take (i := 5) (oi := { dst := some 10, op := Op.load 23 (Operand.tmp 9), type := 23, pos := "server.go:60", after := #[{ on := 4, ground := Ground.data }], guard := none }) (v := ?_) rfl (by kernel_rfl) (by kernel_rfl) (by kernel_rfl) (fun _ _ _ h => h) (Or.inl ⟨by rfl, ?_⟩) (by assumption) ?_
    rotate_left
    · (intro w hSw; (try dsimp only at hSw); go_simp; try (with_reducible rfl))
    try simp only [Act.put, List.setIfInBounds_toArray, List.set_cons_zero, List.set_cons_succ]
    refine wpAnyH_take (i := 7) (oi := { dst := some 12, op := Op.fieldAddr 53 (Operand.tmp 2) 1, type := 0, pos := "server.go:60", after := #[], guard := none }) (v := ?_) rfl (by kernel_rfl) (by kernel_rfl) (by kernel_rfl) (fun _ _ _ h => h) (Or.inl ⟨by rfl, ?_⟩) (by assumption) ?_
    rotate_left
    · (intro w hSw; (try dsimp only at hSw); go_simp; try (with_reducible rfl))
    try simp only [Act.put, List.setIfInBounds_toArray, List.set_cons_zero, List.set_cons_succ]
    refine wpAnyH_take (i := 8) (oi := { dst := some 13, op := Op.load 4 (Operand.tmp 12), type := 4, pos := "server.go:60", after := #[{ on := 7, ground := Ground.data }], guard := none }) (v := ?_) rfl (by kernel_rfl) (by kernel_rfl) (by kernel_rfl) (fun _ _ _ h => h) (Or.inl ⟨by rfl, ?_⟩) (by assumption) ?_
    rotate_left
    · (intro w hSw; (try dsimp only at hSw); go_simp; try (with_reducible rfl))
    try simp only [Act.put, List.setIfInBounds_toArray, List.set_cons_zero, List.set_cons_succ]
    refine wpAnyH_ready (rs := [0]) (by kernel_rfl) (by simp) ?_
    refine AllReadyH.cons (o := { dst := some 5, op := Op.buildSlice 23 0 #[], type := 23, pos := "server.go:60", after := #[], guard := none }) rfl (fun K hK => ?_) AllReadyH.nil
    go_simp
    refine hK.out _ _ (by go_keep) (fun hHeld => ?_)
    clear hK K
    try simp only [Act.put, List.setIfInBounds_toArray, List.set_cons_zero, List.set_cons_succ]
    refine wpAnyH_ready (rs := [3]) (by kernel_rfl) (by simp) ?_
    refine AllReadyH.cons (o := { dst := some 8, op := Op.call { callee := Callee.builtin Builtin.append, args := #[Operand.tmp 5, Operand.tmp 7], argTypes := #[23, 23] }, type := 23, pos := "server.go:60", after := #[{ on := 0, ground := Ground.data }, { on := 2, ground := Ground.data }], guard := none }) rfl (fun K hK => ?_) AllReadyH.nil
    refine step_append_row _ (by rfl) (Operand.tmp 5) (Operand.tmp 7) 23 (by rfl) wn.heap.size 5 (.int .u8 0) 1 Tryz.underlying23 info_u8 rfl (by rfl) ((own_empty wn wn.heap.size 5 (Nat.le_refl _)).upd ((Upd.refl [] _).drew) (by simp)) (by rfl) (Row.drew (Row.alloc han (.cells #[] 5))) (byt_oneCell _) (by simp; omega) (by simp; omega) (by simp) ?_; intro v3 w3 hap3; have b0 := ((hb0.alloc (.cells #[] 5)).drew).upd hap3.2.1 (by simp [Value.ownBlock]; omega); have b1 := ((hb1.alloc (.cells #[] 5)).drew).upd hap3.2.1 (by simp [Value.ownBlock]; omega); have b2 := ((hb2.alloc (.cells #[] 5)).drew).upd hap3.2.1 (by simp [Value.ownBlock]; omega); have S3 := beh_keep b0 b1 b2; have hb3 := Row.upd (Row.drew (Row.alloc hbn (.cells #[] 5))) hap3.2.1 (by simp [Value.ownBlock]; omega); have hsz3 := hap3.2.1.size; simp at hsz3; obtain ⟨A3, c3, hv3⟩ := Own.formN (n := xs.length) hap3.1 (by simp); subst hv3
    refine hK.out _ _ (by go_keep) (fun hHeld => ?_)
    clear hK K
    try simp only [Act.put, List.setIfInBounds_toArray, List.set_cons_zero, List.set_cons_succ]
    refine wpAnyH_ready (rs := [6]) (by kernel_rfl) (by simp) ?_
    refine AllReadyH.cons (o := { dst := some 11, op := Op.call { callee := Callee.builtin Builtin.append, args := #[Operand.tmp 8, Operand.tmp 10], argTypes := #[23, 23] }, type := 23, pos := "server.go:60", after := #[{ on := 3, ground := Ground.data }, { on := 5, ground := Ground.data }, { on := 3, ground := Ground.chain }], guard := none }) rfl (fun K hK => ?_) AllReadyH.nil
    refine step_append_row _ (by rfl) (Operand.tmp 8) (Operand.tmp 10) 23 (by rfl) wn.heap.size 5 (.int .u8 0) 1 Tryz.underlying23 info_u8 rfl (by rfl) hap3.1 (by rfl) hb3 (byt_oneCell _) (by simp; omega) (by simp; omega) (by omega) ?_; intro v4 w4 hap4; have hge : ∀ k ∈ (Value.slice A3 xs.length c3).ownBlock.toList, wn.heap.size ≤ k := (fun k hk => (hap3.1.ge (Option.mem_toList.1 hk)).1); have m0 := b0.upd hap4.2.1 (fun hm => by have := hge _ hm; omega); have m1 := b1.upd hap4.2.1 (fun hm => by have := hge _ hm; omega); have m2 := b2.upd hap4.2.1 (fun hm => by have := hge _ hm; omega); have S4 := beh_keep m0 m1 m2; obtain ⟨A4, c4, hv4⟩ := Own.formN (n := xs.length + ys.length) hap4.1 (by simp); subst hv4
    refine hK.out _ _ (by go_keep) (fun hHeld => ?_)
    clear hK K
    try simp only [Act.put, List.setIfInBounds_toArray, List.set_cons_zero, List.set_cons_succ]
    refine wpAnyH_take (i := 9) (oi := { dst := some 14, op := Op.move (Operand.tmp 13), type := 4, pos := "server.go:60", after := #[{ on := 8, ground := Ground.data }, { on := 6, ground := Ground.chain }], guard := none }) (v := ?_) rfl (by kernel_rfl) (by kernel_rfl) (by kernel_rfl) (fun _ _ _ h => h) (Or.inl ⟨by rfl, ?_⟩) (by assumption) ?_
    rotate_left
    · (intro w hSw; (try dsimp only at hSw); go_simp; try (with_reducible rfl))
    try simp only [Act.put, List.setIfInBounds_toArray, List.set_cons_zero, List.set_cons_succ]
    refine wpAnyH_take (i := 10) (oi := { dst := some 15, op := Op.fieldAddr 53 (Operand.tmp 3) 1, type := 0, pos := "server.go:60", after := #[{ on := 9, ground := Ground.guard }], guard := some (9, false) }) (v := undef) rfl (by kernel_rfl) (by kernel_rfl) (by kernel_rfl) (fun _ _ _ h => h) (Or.inr ⟨by rfl, rfl⟩) (by assumption) ?_
    try simp only [Act.put, List.setIfInBounds_toArray, List.set_cons_zero, List.set_cons_succ]
    refine wpAnyH_take (i := 11) (oi := { dst := some 16, op := Op.load 4 (Operand.tmp 15), type := 4, pos := "server.go:60", after := #[{ on := 10, ground := Ground.data }, { on := 9, ground := Ground.guard }], guard := some (9, false) }) (v := undef) rfl (by kernel_rfl) (by kernel_rfl) (by kernel_rfl) (fun _ _ _ h => h) (Or.inr ⟨by rfl, rfl⟩) (by assumption) ?_
    try simp only [Act.put, List.setIfInBounds_toArray, List.set_cons_zero, List.set_cons_succ]
    refine wpAnyH_take (i := 12) (oi := { dst := some 17, op := Op.pick (Operand.tmp 14) (Operand.const (Value.bool true)) (Operand.tmp 16), type := 4, pos := "server.go:60", after := #[{ on := 9, ground := Ground.data }, { on := 11, ground := Ground.data }], guard := none }) (v := ?_) rfl (by kernel_rfl) (by kernel_rfl) (by kernel_rfl) (fun _ _ _ h => h) (Or.inl ⟨by rfl, ?_⟩) (by assumption) ?_
    rotate_left
    · (intro w hSw; (try dsimp only at hSw); go_simp; try (with_reducible rfl))
    try simp only [Act.put, List.setIfInBounds_toArray, List.set_cons_zero, List.set_cons_succ]
    refine wpAnyH_take (i := 13) (oi := { dst := some 18, op := Op.build 53 #[(0, Operand.tmp 11), (1, Operand.tmp 17)], type := 53, pos := "server.go:60", after := #[{ on := 6, ground := Ground.data }, { on := 12, ground := Ground.data }], guard := none }) (v := ?_) rfl (by kernel_rfl) (by kernel_rfl) (by kernel_rfl) (fun _ _ _ h => h) (Or.inl ⟨by rfl, ?_⟩) (by assumption) ?_
    rotate_left
    · (intro w hSw; (try dsimp only at hSw); go_simp; try (with_reducible rfl))
    try simp only [Act.put, List.setIfInBounds_toArray, List.set_cons_zero, List.set_cons_succ]
    refine wpAnyH_ready (rs := [14]) (by kernel_rfl) (by simp) ?_
    refine AllReadyH.cons (o := { dst := none, op := Op.store 53 (Operand.tmp 4) (Operand.tmp 18), type := 0, pos := "server.go:60", after := #[{ on := 13, ground := Ground.data }, { on := 9, ground := Ground.chain }, { on := 0, ground := Ground.phase }, { on := 1, ground := Ground.phase }, { on := 2, ground := Ground.phase }, { on := 3, ground := Ground.phase }, { on := 4, ground := Ground.phase }, { on := 5, ground := Ground.phase }, { on := 6, ground := Ground.phase }, { on := 7, ground := Ground.phase }, { on := 8, ground := Ground.phase }, { on := 9, ground := Ground.phase }, { on := 10, ground := Ground.phase }, { on := 11, ground := Ground.phase }, { on := 12, ground := Ground.phase }, { on := 13, ground := Ground.phase }], guard := none }) rfl (fun K hK => ?_) AllReadyH.nil
    go_simp
    refine hK.out _ _ (by go_keep) (fun hHeld => ?_)
    clear hK K
    try simp only [Act.put, List.setIfInBounds_toArray, List.set_cons_zero, List.set_cons_succ]
    refine wpAnyH_done (by kernel_rfl) ?_ _
    all_goals
      have hge : ∀ k ∈ (Value.slice A3 xs.length c3).ownBlock.toList, wn.heap.size ≤ k := fun k hk => (hap3.1.ge (Option.mem_toList.1 hk)).1
      have hu4 : Upd [] w w4 := ((((hun.alloc (.cells #[] 5)).drew).trans hap3.2.1 (by simp [Value.ownBlock]; exact hun.size)).trans hap4.2.1 (fun x hx => .inr (Nat.le_trans hun.size (hge x hx))))
      have hy4 : Byt w4 w4.heap.size (.slice A4 (xs.length + ys.length) c4) (xs ++ ys) := by
        have := hap4.1.row
        rw [List.nil_append, ← List.map_append] at this
        exact this
      have hn4 : ∀ k, (Value.slice A4 (xs.length + ys.length) c4).ownBlock = some k → wn.heap.size ≤ k := fun k hk => (hap4.1.ge hk).1
      obtain ⟨hfb, hfin⟩ := wval_put (w := w) (x := behindW ⟨xs, true⟩ ⟨ys, q⟩) (r0 := g + 1 + 1) (by rw [← HG.out]; omega) m2 hy4 (fun k hk => Nat.le_trans hun.size (hn4 k hk)) (fun k hk => by have := hn4 k hk; omega) ⟨_, _, _, rfl⟩ hu4
      have z0 := hfb.cell 0
      have z1 := hfb.cell 1
      simp [behindW] at z0 z1
      simp only [behindW, Bool.false_or, Bool.true_or] at hfin
      clear S3 S4
      go_wp2
      exact bodyPost_ret (v := .agg #[.slice A4 (xs.length + ys.length) c4, .bool _]) (by simp [results, Tryz.results30, go_sem, z0, z1]) rfl hfin
end
end Go.Proofs.YtaajmfgplhfncaaGreat
namespace Go.Proofs.YtaajmfgplhfncaaGreat
open Go.RowKit
set_option maxRecDepth 100000
def LSt (w0 : World) (p : Nat) (L : LW) (w : World) : Prop := w0.heap.size = p ∧ ∃ v, LWs w p p v L ∧ Upd [] w0 w
def LStP (w0 : World) (p : Nat) (L : LW) (e : Ending) (w : World) : Prop := e = .returned (.tuple #[]) ∧ LSt w0 p L w
def ExL (w : World) (L : LW) (e : Ending) (w' : World) : Prop := ∃ v, e = .returned (.tuple #[v, .bool (!L.bad)]) ∧ Exr w' w'.heap.size w'.heap.size v L.l ∧ Upd [] w w'
section
variable {w w0 w' : World} {p C : Nat} {v content : Value} {xs : List UInt8} {L : LW} {e : Ending}
theorem LSt.new (w0 : World) : LSt w0 w0.heap.size LW.nil (w0.alloc (.cells #[.slice none 0 0, .bool false] 50)) :=
  ⟨rfl, _, LWs.new w0, (Upd.refl _ _).alloc _⟩
theorem LSt.up (h : LSt w0 p L w) : Upd [] w0 w := h.2.choose_spec.2
theorem LSt.upd (h : LSt w0 p L w) (hu : Upd [] w w') : LSt w0 p L w' := by
  obtain ⟨h0, v, h1, h2⟩ := h
  exact ⟨h0, v, h1.upd hu, h2.trans hu (by simp)⟩
theorem LSt.add (h : LSt w0 p L w) (hu : Upd [] w w') (is : Bool) (k : UInt16) (hc : Byt w' C content xs) (hcn : xs ≠ [] → ∀ g, content.ownBlock = some g → g < p ∨ w.heap.size ≤ g) (xb : Bool) (hl : L.l.length ≤ 1000) :
    Calls Tryz.prog 22 #[.pointer (some ⟨p, 0, none⟩), .bool is, .int .u16 (k.toNat : Int), .agg #[content, .bool xb]] w' (LStP w0 p (L.add is k ⟨xs, xb⟩)) := by
  obtain ⟨h0, v, h1, h2⟩ := h
  have hv : ∀ g, v.ownBlock = some g → p ≤ g ∧ g < w.heap.size := fun g hg => World.ownsRow.lt h1.2.2.choose_spec.1 g hg
  have hpl : p < w.heap.size := h1.2.1.lt
  refine (add_ex_any (h1.upd hu) is k hc (fun _ hx g hg => ⟨fun he => ?_, fun he => ?_⟩) xb hl).mono ?_
  · have := hv g he
    rcases hcn hx g hg with h | h <;> omega
  · rcases hcn hx g hg with h | h <;> omega
  · rintro e w'' ⟨he, v', h3, h4, h5⟩
    refine ⟨he, h0, v', h3, (h2.trans hu (by simp)).trans h4 ?_⟩
    intro x hx
    right
    rcases List.mem_cons.1 hx with hx | hx
    · omega
    · have := (hv x (Option.mem_toList.1 hx)).1; omega
theorem LSt.cells (h : LSt w0 p L w) : ∃ A n c, w.cell? ⟨p, 0, none⟩ = some (.slice A n c) ∧ w.cell? ⟨p, 1, none⟩ = some (.bool L.bad) ∧ Exr w w.heap.size w.heap.size (.slice A n c) L.l := by
  obtain ⟨h0, v, h1, h2⟩ := h
  obtain ⟨A, c, rfl, -, -⟩ := own2_form h1.2.2.choose_spec.1
  have k0 := h1.2.1.cell 0
  have k1 := h1.2.1.cell 1
  simp at k0 k1
  exact ⟨A, _, c, k0, k1, h1.exr⟩
theorem LW.add_len (s : LW) (is : Bool) (k : UInt16) (x : Wr) : (s.add is k x).l.length ≤ s.l.length + 1 := by cases is <;> simp [LW.add]
theorem Byt.blk {B : Nat} (h : Byt w B v xs) (hx : xs ≠ []) : ∀ g, v.ownBlock = some g → g < B := by
  intro g hg
  obtain ⟨A, c, rfl, -, -, -, h⟩ := h
  obtain ⟨b, o', rfl, hb, -⟩ := h (by simpa using hx)
  have : b = g := by simpa [Value.ownBlock] using hg
  omega
theorem plain_st {B : Nat} (hc : Byt w B content xs) : Calls Tryz.prog 27 #[content] w fun e w' => e = .returned (.agg #[content, .bool false]) ∧ Upd [] w w' := plain_any hc
end
end Go.Proofs.YtaajmfgplhfncaaGreat
namespace Go.Proofs.YtaajmfgplhfncaaGreat
set_option maxRecDepth 20000
end Go.Proofs.YtaajmfgplhfncaaGreat
namespace Go.Proofs.YtaajmfgplhfncaaGreat
set_option maxRecDepth 20000
def blkB (L : List Ex) : List UInt8 := be 2 (exsB L).length ++ exsB L
theorem exsB_short (L : List Ex) (h : (exsB L).length < 65536) : exsBad L = false := by
  by_cases hb : exsBad L = true
  · have := exsW_bad L hb; omega
  · simpa using hb
end Go.Proofs.YtaajmfgplhfncaaGreat
namespace Go.Proofs.YtaajmfgplhfncaaGreat
set_option maxRecDepth 20000
def ofW (x : Wr) : Option (List UInt8) := if x.bad then none else some x.b
theorem lpOut_ofW (n : Nat) (x : Wr) : lpOut n (ofW x) = ofW (Wr.vector n x) := by
  unfold ofW Wr.vector Wr.inner Wr.vec Wr.nil
  simp only [Bool.false_or]
  cases hb : x.bad
  · simp only [Bool.false_or, Bool.false_eq_true, if_false]
    show (if x.b.length < 256 ^ n then _ else _) = _
    by_cases h : x.b.length < 256 ^ n
    · rw [if_pos h, if_neg (by simp; omega)]; simp
    · rw [if_neg h, if_pos (by simp; omega)]
  · simp [lpOut]
theorem app_ofW (x y : Wr) : app (ofW x) (ofW y) = ofW (behindW x y) := by
  unfold ofW behindW
  cases x.bad <;> cases y.bad <;> simp [app]
theorem ofW_vecs_one (n : Nat) (xs : List UInt8) : ofW (vecsW n [xs]) = lpOut n (some xs) := by
  have : (some xs : Option (List UInt8)) = ofW (Wr.plain xs) := rfl
  rw [this, lpOut_ofW]
  simp [ofW, vecsW, vecsB, vecsBad, Wr.vector, Wr.inner, Wr.vec, Wr.nil, Wr.plain]
  by_cases h : 256 ^ n ≤ xs.length <;> simp [h]
def outL (L : LW) : Option (List UInt8) := ofW ⟨exsB L.l, L.bad || exsBad L.l⟩
theorem outL_nil : outL LW.nil = some [] := rfl
theorem outL_add (L : LW) (is : Bool) (k : UInt16) (x : Wr) : outL (L.add is k x) = app (outL L) (condOut is (extOut k.toNat (ofW x))) := by
  cases is
  · show outL L = _
    rw [condOut_false, app_nil]
  · rw [condOut_true]
    have e : extOut k.toNat (ofW x) = ofW ⟨exB (k, x.b), x.bad || decide (65536 ≤ x.b.length)⟩ := by
      unfold extOut
      rw [lpOut_ofW]
      have : (some (be 2 k.toNat) : Option (List UInt8)) = ofW ⟨be 2 k.toNat, false⟩ := rfl
      rw [this, app_ofW]
      simp [behindW, Wr.vector, Wr.inner, Wr.vec, Wr.nil, exB]
    rw [e]
    unfold outL
    rw [app_ofW]
    congr 1
    show Wr.mk (exsB (L.l ++ [(k, x.b)])) (L.bad || x.bad || exsBad (L.l ++ [(k, x.b)])) = _
    rw [exsB_append, exsBad_append]
    simp only [behindW, exsB_cons, exsB_nil, List.append_nil]
    congr 1
    simp only [exsBad, List.any_cons, List.any_nil, Bool.or_false]
    cases L.bad <;> cases x.bad <;> cases (L.l.any fun e => decide (65536 ≤ e.2.length)) <;> simp
def msgB (kind : Nat) (body : List UInt8) : List UInt8 := be 1 kind ++ be 3 body.length ++ body
theorem msgB_drop (kind : Nat) (body : List UInt8) : (msgB kind body).drop 4 = body := by
  unfold msgB; simp [be]
theorem msgB_len (kind : Nat) (body : List UInt8) : (msgB kind body).length = 4 + body.length := by
  unfold msgB; simp [be_len]; omega
theorem msgB_body (kind : Nat) (hk : kind < 256) (body : List UInt8) (h : body.length < 16777216) : bodyR kind (msgB kind body) = ⟨body, 0⟩ := by
  have hl := msgB_len kind body
  have h1 : (msgB kind body).take 1 = be 1 kind := by unfold msgB; simp [be]
  have h3 : ((msgB kind body).drop 1).take 3 = be 3 body.length := by unfold msgB; simp [be]
  rw [bodyR_of (by omega) (by rw [h1]; simp [be, beNat]; omega) (by rw [h3, beNat_be3 _ h]; omega), msgB_drop]
theorem messageW_msgB (kind : Nat) (x : Wr) : messageW kind x = ⟨msgB kind x.b, x.bad || decide (16777216 ≤ x.b.length)⟩ := by
  simp [messageW, Wr.inner, Wr.vec, Wr.num, Wr.nil, msgB]
theorem lp_be1 (x r : List UInt8) (h : x.length < 256) : lp 1 (be 1 x.length ++ x ++ r) = some (x, r) := lp_be 1 x r (by simp [be, beNat]; omega)
theorem exsB_size (l : List Ex) : (exsB l).length = (l.map fun e => 4 + e.2.length).sum := by
  induction l with
  | nil => rfl
  | cons e l ih => rw [exsB_cons, List.length_append, exB_len, ih]; rfl
theorem exsB_perm {l l' : List Ex} (h : l.Perm l') : (exsB l).length = (exsB l').length := by
  rw [exsB_size, exsB_size]
  exact (h.map _).sum_nat
def bz (b : Bool) (n : Nat) : Nat := cond b n 0
end Go.Proofs.YtaajmfgplhfncaaGreat
namespace Go.Proofs.YtaajmfgplhfncaaGreat
set_option maxRecDepth 20000
end Go.Proofs.YtaajmfgplhfncaaGreat
namespace Go.Proofs.YtaajmfgplhfncaaGreat
set_option maxRecDepth 20000
structure Cq where
  ocsp : Bool
  scts : Bool
  sig : List UInt16
  sigc : List UInt16
  cas : List (List UInt8)
def Cq.zero : Cq := ⟨false, false, [], [], []⟩
end Go.Proofs.YtaajmfgplhfncaaGreat
namespace Go.Proofs.YtaajmfgplhfncaaGreat
set_option maxRecDepth 20000
theorem wordsOf_wordsB : ∀ l : List UInt16, wordsOf (wordsB l) = l
  | [] => rfl
  | k :: l => by
    have e : wordsB (k :: l) = be 2 k.toNat ++ wordsB l := rfl
    rw [e, be2_two]
    show UInt16.ofNat _ :: wordsOf (wordsB l) = _
    rw [u16_be2, wordsOf_wordsB l]
end Go.Proofs.YtaajmfgplhfncaaGreat
namespace Go.Proofs.YtaajmfgplhfncaaGreat
set_option maxRecDepth 20000
abbrev Item := Bool × UInt16 × Wr
def adds (l : List Item) (s : LW) : LW := l.foldl (fun s e => s.add e.1 e.2.1 e.2.2) s
def itemsE (l : List Item) : List Ex := (l.filter (·.1)).map fun e => (e.2.1, e.2.2.b)
def itemsBad (l : List Item) : Bool := l.any fun e => e.1 && e.2.2.bad
theorem adds_l (l : List Item) (s : LW) : (adds l s).l = s.l ++ itemsE l := by
  induction l generalizing s with
  | nil => simp [adds, itemsE]
  | cons e l ih =>
    show (adds l (s.add e.1 e.2.1 e.2.2)).l = _
    rw [ih]
    obtain ⟨b, k, x⟩ := e
    cases b
    · simp [LW.add, itemsE]
    · simp [LW.add, itemsE]
theorem adds_bad (l : List Item) (s : LW) : (adds l s).bad = (s.bad || itemsBad l) := by
  induction l generalizing s with
  | nil => simp [adds, itemsBad]
  | cons e l ih =>
    show (adds l (s.add e.1 e.2.1 e.2.2)).bad = _
    rw [ih]
    obtain ⟨b, k, x⟩ := e
    cases b
    · simp [LW.add, itemsBad]
    · simp [LW.add, itemsBad, Bool.or_assoc]
theorem itemsE_perm {l l' : List Item} (h : l.Perm l') : (itemsE l).Perm (itemsE l') := (h.filter _).map _
theorem itemsBad_perm {l l' : List Item} (h : l.Perm l') : itemsBad l = itemsBad l' := by
  unfold itemsBad
  rw [Bool.eq_iff_iff, List.any_eq_true, List.any_eq_true]
  exact ⟨fun ⟨x, hx, hb⟩ => ⟨x, h.mem_iff.1 hx, hb⟩, fun ⟨x, hx, hb⟩ => ⟨x, h.mem_iff.2 hx, hb⟩⟩
theorem itemsE_mem (l : List Item) (e : Ex) : e ∈ itemsE l ↔ ∃ i ∈ l, i.1 = true ∧ e = (i.2.1, i.2.2.b) := by
  unfold itemsE
  simp only [List.mem_map, List.mem_filter]
  constructor
  · rintro ⟨a, ⟨h1, h2⟩, rfl⟩; exact ⟨a, h1, h2, rfl⟩
  · rintro ⟨a, h1, h2, rfl⟩; exact ⟨a, ⟨h1, h2⟩, rfl⟩
theorem itemsE_keys (l : List Item) : ((itemsE l).map (·.1)).Sublist (l.map (·.2.1)) := by
  unfold itemsE
  rw [List.map_map]
  exact (List.filter_sublist (l := l)).map _
theorem itemsE_few (l : List Item) : (itemsE l).length ≤ l.length := by
  unfold itemsE
  rw [List.length_map]
  exact List.length_filter_le _ _
theorem itemsE_size (l : List Item) : (exsB (itemsE l)).length = (l.map fun i => bz i.1 (4 + i.2.2.b.length)).sum := by
  induction l with
  | nil => rfl
  | cons i l ih =>
    obtain ⟨b, k, x⟩ := i
    cases b
    · have e : itemsE ((false, k, x) :: l) = itemsE l := by simp [itemsE]
      rw [e, ih]; simp [bz]
    · have e : itemsE ((true, k, x) :: l) = (k, x.b) :: itemsE l := by simp [itemsE]
      rw [e, exsB_cons, List.length_append, exB_len, ih]; simp [bz]
def itemsOut (l : List Item) (o : Option (List UInt8)) : Option (List UInt8) := l.foldl (fun o e => app o (condOut e.1 (extOut e.2.1.toNat (ofW e.2.2)))) o
theorem itemsOut_outL (l : List Item) (s : LW) : itemsOut l (outL s) = outL (adds l s) := by
  induction l generalizing s with
  | nil => rfl
  | cons e l ih =>
    show itemsOut l (app (outL s) (condOut e.1 (extOut e.2.1.toNat (ofW e.2.2)))) = outL (adds l (s.add e.1 e.2.1 e.2.2))
    rw [← outL_add, ih]
theorem exsB_nil_iff (L : List Ex) : (exsB L).length = 0 ↔ L = [] := by
  cases L with
  | nil => simp [exsB]
  | cons e L => simp [exsB_cons, exB_len]
theorem vector_b (n : Nat) (x : Wr) : (Wr.vector n x).b = be n x.b.length ++ x.b := by simp [Wr.vector, Wr.inner, Wr.vec, Wr.nil]
theorem vector_bad (n : Nat) (x : Wr) : (Wr.vector n x).bad = (x.bad || decide (256 ^ n ≤ x.b.length)) := by simp [Wr.vector, Wr.inner, Wr.vec, Wr.nil]
end Go.Proofs.YtaajmfgplhfncaaGreat
namespace Go.Proofs.YtaajmfgplhfncaaGreat
set_option maxRecDepth 20000
structure Ee where
  alpn : List UInt8
  has : Bool
  quic : List UInt8
  early : Bool
  ech : List UInt8
  ack : Bool
def Ee.zero : Ee := ⟨[], false, [], false, [], false⟩
def R.rest1 (x : R) : R := if x.bs.length = 0 then x.fail 1 else x
def R.rest (x : R) : List UInt8 × R := x.rest1.take x.rest1.bs.length
end Go.Proofs.YtaajmfgplhfncaaGreat
namespace Go.Proofs.YtaajmfgplhfncaaGreat
set_option maxRecDepth 20000
structure Sh where
  vers : UInt16
  random : List UInt8
  sid : List UInt8
  suite : UInt16
  comp : UInt8
  ocsp : Bool
  ticket : Bool
  rns : Bool
  rn : List UInt8
  ems : Bool
  alpn : List UInt8
  scts : List (List UInt8)
  sv : UInt16
  sg : UInt16
  sd : List UInt8
  sip : Bool
  si : UInt16
  pts : List UInt8
  ech : List UInt8
  ack : Bool
  cookie : List UInt8
  selg : UInt16
def Sh.zero : Sh := ⟨0, [], [], 0, 0, false, false, false, [], false, [], [], 0, 0, [], false, 0, [], [], false, [], 0⟩
end Go.Proofs.YtaajmfgplhfncaaGreat
namespace Go.Proofs.YtaajmfgplhfncaaGreat
set_option maxRecDepth 20000
end Go.Proofs.YtaajmfgplhfncaaGreat
namespace Go.Proofs.YtaajmfgplhfncaaGreat
open Go.RowKit
set_option maxRecDepth 100000
theorem Lst.drewn {w : World} {B : Nat} {v : Value} {ls : List (List UInt8)} (h : Lst w B v ls) : Lst w.drew B v ls := by
  obtain ⟨vs, h1, h2⟩ := h
  exact ⟨vs, Row.drew h1, h2.imp fun _ _ hy => Row.drew hy⟩
def kshB (l : List (UInt16 × List UInt8)) : List UInt8 := l.flatMap fun x => be 2 x.1.toNat ++ (be 2 x.2.length ++ x.2)
def kshBad (l : List (UInt16 × List UInt8)) : Bool := l.any fun x => decide (65536 ≤ x.2.length)
def kshW (l : List (UInt16 × List UInt8)) : Wr := ⟨kshB l, kshBad l⟩
theorem kshW_snoc (l : List (UInt16 × List UInt8)) (g : UInt16) (d : List UInt8) : ((kshW l).num 2 g.toNat).vec 2 d = kshW (l ++ [(g, d)]) := by
  simp [kshW, kshB, kshBad, Wr.num, Wr.vec, List.any_append]
theorem kshB_take (l : List (UInt16 × List UInt8)) (k : Nat) : (kshB (l.take k)).length ≤ (kshB l).length := by
  have : kshB l = kshB (l.take k) ++ kshB (l.drop k) := by
    unfold kshB; rw [← List.flatMap_append, List.take_append_drop]
  rw [this, List.length_append]
  omega
theorem kshB_get (l : List (UInt16 × List UInt8)) (k : Nat) (h : k < l.length) : (l[k]).2.length ≤ (kshB l).length := by
  have : kshB l = kshB (l.take k) ++ kshB (l.drop k) := by
    unfold kshB; rw [← List.flatMap_append, List.take_append_drop]
  rw [this, List.drop_eq_getElem_cons h]
  have e : kshB (l[k] :: l.drop (k + 1)) = (be 2 (l[k]).1.toNat ++ (be 2 (l[k]).2.length ++ (l[k]).2)) ++ kshB (l.drop (k + 1)) := rfl
  rw [e, List.length_append, List.length_append, List.length_append, List.length_append]
  omega
section
variable {w w' w0 : World} {B C : Nat} {v content cd : Value} {xs : List UInt8} {l : List (UInt16 × List UInt8)}
set_option maxHeartbeats 1000000 in
theorem keyShares_any_w (hg : Row w B content (l.map fun x => wv x.1)) (hd : Lst w C cd (l.map (·.2))) (hx : (kshB l).length ≤ 1099511627776) :
    Calls Tryz.prog 29 #[content, cd] w (WValP w (kshW l)) := by
  have hm0 := WMid.start w
  have HX := hid hx
  obtain ⟨A0, c0, rfl, hgr, hlg, hmg⟩ := Row.formN (n := l.length) (Row.shrink hg) (by simp)
  obtain ⟨A, c, rfl, hcr, hlc, hm⟩ := hd.shrink.form
  simp only [List.length_map] at hcr ⊢
  clear hx hg hd
  go_enter Tryz.func29, Tryz.ntmps29
  go_wp2_with fail
  rw [W1_eq]
  go_loopg [6, 7, 10] l.length (fun gk _ _ i wr => ∃ j : Nat, j + gk = l.length ∧ i = .int .i64 j ∧ WMid w (kshW (l.take j)) wr)
  case atStart => exact ⟨0, by omega, rfl, by simpa [kshW, kshB, kshBad, Wr.nil] using hm0⟩
  case round =>
    obtain ⟨j, hj0, rfl, hmr⟩ := hrel
    have hj : j ≤ l.length := by omega
    have HJ := hid hj0
    clear hj0
    by_cases hlt : j < l.length
    · have hgw := Row.upd hgr hmr.upd (by simp)
      obtain ⟨b, o, rfl, hb, hj', hcell⟩ := hgw.at_ (by simpa using hlt)
      rw [List.getElem_map] at hcell
      obtain ⟨vr, kr, hvr⟩ := hmr.open_
      have hlen : (kshW (l.take j)).b.length ≤ 1099511627776 := by
        have h1 := HX.out
        have h2 := kshB_take l j
        show (kshB _).length ≤ _
        omega
      have hxl : (l[j]).2.length ≤ 1099511627776 := Nat.le_trans (kshB_get l j hlt) HX.out
      have HN := hid (wnum_any kr 2 (l[j]).1.toNat (by omega) (by omega))
      have HS := hid (show ((kshW (l.take j)).num 2 (l[j]).1.toNat).vec 2 (l[j]).2 = kshW (l.take (j + 1)) by
        rw [List.take_succ_eq_append_getElem hlt, kshW_snoc])
      have hl2 : ((kshW (l.take j)).num 2 (l[j]).1.toNat).b.length ≤ 17592186044416 := by simp [Wr.num, be_len]; omega
      have HL2 := hid hl2
      have hu := (l[j]).1.toNat_lt
      have HXL := hid hxl
      clear hlen hxl hl2
      go_wp2_with fail
      refine HN.out.mono ?_
      intro e w2 hp2
      obtain ⟨rfl, hm2⟩ := hmr.next hvr hp2
      have hcw := hcr.upd hm2.upd (by simp)
      have hlt2 : j < (l.map (·.2)).length := by simpa using hlt
      obtain ⟨b2, o2, rfl, hb2, hj2, A', c', hcell2, hy, hl1, hl2⟩ := hcw.at_ hlt
      obtain ⟨v2, k2, hv2⟩ := hm2.open_
      have eg : (l.map (·.2))[j] = (l[j]).2 := by simp
      rw [eg] at hcell2 hy hl1
      have HV := hid (wvec_any2 k2 ⟨_, hy, .inl (by omega)⟩ HL2.out HXL.out)
      rw [HS.out] at HV
      clear hlt2 HN hp2 kr hvr eg
      go_wp2_with fail
      refine HV.out.mono ?_
      intro e w3 hp3
      obtain ⟨rfl, hm3⟩ := hm2.next hv2 hp3
      clear HV
      go_wp2
      have hj0 := HJ.out
      go_roundg (l.length - (j + 1))
      case measure => omega
      case rel => exact ⟨j + 1, by omega, by go_num, hm3⟩
    · obtain rfl : j = l.length := by omega
      rw [List.take_length] at hmr
      obtain ⟨A4, n4, c4, z0, z1, d0, d1, g0, g1, e0, e1, hend⟩ := hmr.fin
      go_wp2
      exact bodyPost_ret (v := .agg #[.slice A4 n4 c4, .bool _]) (by simp [results, Tryz.results29, go_sem, e0, e1]) rfl hend
end
end Go.Proofs.YtaajmfgplhfncaaGreat

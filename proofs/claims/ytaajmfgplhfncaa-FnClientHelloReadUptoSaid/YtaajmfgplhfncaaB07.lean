/- Texts joined: Prs, GP, EmV, ChS, ChN, ChM, TopK. -/
import Derived.Test.YtaajmfgplhfncaaB06
import Derived.Test.YtaajmfgplhfncaaB05
namespace Go.Proofs.Ytaajmfgplhfncaa
open Go.RowKit
set_option maxRecDepth 100000
inductive Cel where
  | val (v : Value)
  | byt (l : List UInt8)
def COk (w : World) (B : Nat) (u : Value) : Cel → Prop
  | .val v => u = v ∧ v.oneCell' = true
  | .byt l => Byt w B u l
def prc : List (Value × Value) → List Value
  | [] => []
  | p :: us => p.1 :: p.2 :: prc us
theorem prc_append : ∀ us vs : List (Value × Value), prc (us ++ vs) = prc us ++ prc vs
  | [], _ => rfl
  | p :: us, vs => by simp only [prc, List.cons_append, prc_append us vs]
def Prs (w : World) (lo B : Nat) (e : TypeId) (v : Value) (ls : List (Cel × Cel)) : Prop :=
  ∃ us : List (Value × Value), w.ownsRow lo e 2 v ls.length (prc us) ∧ All2 (fun p c => COk w B p.1 c.1 ∧ COk w B p.2 c.2) us ls
section
variable {w w' : World} {B lo : Nat} {e : TypeId} {v : Value} {ls ms : List (Cel × Cel)} {S : List Nat}
theorem COk.upd {u : Value} {c : Cel} (h : COk w B u c) (hu : Upd S w w') (hB : ∀ k ∈ S, B ≤ k) : COk w' B u c := by
  cases c with
  | val v => exact h
  | byt l => exact Row.upd h hu hB
theorem COk.one {u : Value} {c : Cel} (h : COk w B u c) : u.oneCell' = true := by
  cases c with
  | val v => obtain ⟨rfl, h⟩ := h; exact h
  | byt l => exact byt_oneCell' h
theorem Prs.nil_ (w : World) (lo B : Nat) (e : TypeId) : Prs w lo B e (.slice none 0 0) [] := ⟨[], World.ownsRow_nil w lo _ 2, trivial⟩
theorem Prs.upd (h : Prs w lo B e v ls) (hu : Upd S w w') (hs : ∀ g, v.ownBlock = some g → g ∉ S) (hB : ∀ x ∈ S, B ≤ x) : Prs w' lo B e v ls := by
  obtain ⟨us, h1, h2⟩ := h
  refine ⟨us, ⟨h1.1, ?_⟩, h2.imp fun _ _ hy => ⟨hy.1.upd hu hB, hy.2.upd hu hB⟩⟩
  rcases h1.2 with hn | ⟨g, cap, cur, rfl, hb, hg, rest⟩
  · exact .inl hn
  · exact .inr ⟨g, cap, cur, rfl, hb, (hu.block g (Array.getElem?_eq_some_iff.1 hg).1 (hs g rfl)).trans hg, rest⟩
theorem Prs.ge (h : Prs w lo B e v ls) {g : Nat} (hg : v.ownBlock = some g) : lo ≤ g ∧ g < w.heap.size := by
  obtain ⟨us, h1, _⟩ := h
  exact World.ownsRow.lt h1 g hg
theorem Prs.ne {g : Nat} {t : TypeId} {cs : Array Value} (h : Prs w lo B e v ls) (hb : Blk w g t cs) (hne : e ≠ t) : ∀ k, v.ownBlock = some k → k ≠ g := by
  intro k hk
  obtain ⟨us, h, _⟩ := h
  rcases h.2 with ⟨rfl, _⟩ | ⟨g', cap, cur, rfl, _, hh, _⟩
  · simp [Value.ownBlock] at hk
  · have : g' = k := by simpa [Value.ownBlock] using hk
    subst this
    exact Blk.ne_ (t := e) hh hb hne
theorem Prs.form (h : Prs w lo B e v ls) : ∃ A c, v = .slice A ls.length c ∧ ls.length ≤ c ∧ c ≤ 9223372036854775807 := by
  obtain ⟨us, h1, _⟩ := h
  rcases h1.2 with ⟨rfl, h0⟩ | ⟨g, cap, cur, rfl, hb, hg, hn, hm, hs, ht⟩
  · rw [h0]; exact ⟨none, 0, rfl, Nat.le_refl _, by omega⟩
  · exact ⟨_, cap, rfl, hn, by unfold maxLen at hm; omega⟩
def PAppended (w : World) (lo B : Nat) (e : TypeId) (v : Value) (ls : List (Cel × Cel)) (v' : Value) (w' : World) : Prop :=
  Prs w' lo B e v' ls ∧ Upd v.ownBlock.toList w w' ∧ (v'.ownBlock = v.ownBlock ∨ v'.ownBlock = some w.heap.size)
theorem run_append_prs (t ty e : TypeId) {z : Value} {bytes : Nat} (ht : Try.prog.underlying t = some (.slice e)) (hinfo : (Try.prog.info? e).map (fun i => (i.zero, i.size, i.bytes)) = some (some z, 2, bytes)) (hzs : z.cells.size = 2)
    (hown : Prs w lo B e v ls) {b : Nat} {x y : Value} {c : Cel × Cel} (hx0 : w.cell? ⟨b, 0, none⟩ = some x) (hx1 : w.cell? ⟨b, 1, none⟩ = some y) (hx : COk w B x c.1) (hy : COk w B y c.2)
    (hlen : (ls.length + 1) * bytes ≤ 140737488355328) (hl63 : ls.length + 1 ≤ 140737488355328) (hbase : lo ≤ w.heap.size) (hB : B ≤ lo) :
    ∃ v' w', (Builtin.append_ #[t, t] ty #[v, .slice (some ⟨b, 0, none⟩) 1 1]).run Try.prog w = .ok v' w' ∧ PAppended w lo B e v (ls ++ [c]) v' w' := by
  obtain ⟨i, hi, hz, hsize, hby⟩ := info_parts hinfo
  obtain ⟨us, h1, h2⟩ := hown
  have hcells : ∀ j u, [x, y][j]? = some u → w.cell? ((⟨b, 0, none⟩ : Addr).add j) = some u := by
    intro j u hj
    match j, hj with
    | 0, hj => simp at hj; subst hj; exact hx0
    | 1, hj => simp at hj; subst hj; exact hx1
    | j + 2, hj => simp at hj
  obtain ⟨v', w', hrun, h3, h4, _, h5⟩ := run_append_own_at (P := Try.prog) w lo t ty e i _ 2 bytes ht hi hz hsize hby hzs (by omega) v ls.length _ h1 ⟨b, 0, none⟩ 1 1 [x, y] rfl hcells
    (by intro u hu; simp at hu; rcases hu with rfl | rfl; exact hx.one; exact hy.one) (by simp only [maxLen]; omega) (by omega) hbase
  have hu := upd_of_grown h4
  have hge : ∀ x ∈ v.ownBlock.toList, B ≤ x := fun x hx => by
    have := World.ownsRow.lt h1 x (Option.mem_toList.1 hx)
    omega
  refine ⟨v', w', hrun, ⟨us ++ [(x, y)], ?_, ?_⟩, hu, h5⟩
  · rw [List.length_append, prc_append]
    exact h3
  · exact (h2.imp fun _ _ hy => ⟨hy.1.upd hu hge, hy.2.upd hu hge⟩).append ⟨⟨hx.upd hu hge, hy.upd hu hge⟩, trivial⟩
theorem wp_append_prs {o : Oper} {a : Act} {K : Act → World → Prop} {Q : Exit → Act → World → Prop} (s x : Operand) (t : TypeId)
    (ho : o.op = .call { callee := .builtin .append, args := #[s, x], argTypes := #[t, t] }) (e : TypeId) (z : Value) (bytes : Nat)
    (ht : Try.prog.underlying t = some (.slice e)) (hinfo : (Try.prog.info? e).map (fun i => (i.zero, i.size, i.bytes)) = some (some z, 2, bytes)) (hzs : z.cells.size = 2)
    (hs : a.eval s = v) (hown : Prs w lo B e v ls) {b : Nat} (hxv : a.eval x = .slice (some ⟨b, 0, none⟩) 1 1) {x0 y0 : Value} {c : Cel × Cel} (hx0 : w.cell? ⟨b, 0, none⟩ = some x0) (hx1 : w.cell? ⟨b, 1, none⟩ = some y0) (hx : COk w B x0 c.1) (hy : COk w B y0 c.2)
    (hlen : (ls.length + 1) * bytes ≤ 140737488355328) (hl63 : ls.length + 1 ≤ 140737488355328) (hbase : lo ≤ w.heap.size) (hB : B ≤ lo)
    (h : ∀ v' w', PAppended w lo B e v (ls ++ [c]) v' w' → K (a.put o.dst v') w') : o.wp Try.prog a w K Q := by
  obtain ⟨v', w', hrun, h2⟩ := run_append_prs t o.type e ht hinfo hzs hown hx0 hx1 hx hy hlen hl63 hbase hB
  unfold Oper.wp execOp
  simp only [ho, resolve, invoke, builtin, Sem.run_bind, Sem.run_pure, Result.andThen_ok, List.map_toArray, List.map_cons, List.map_nil, hs, hxv, hrun]
  exact h v' w' h2
theorem step_append_prs {ops : Array Oper} {o : Oper} {a : Act} {K : Act → World → Prop} {Q : Exit → Act → World → Prop} {E : Prop} (hgd : o.guard = none) (s x : Operand) (t : TypeId)
    (ho : o.op = .call { callee := .builtin .append, args := #[s, x], argTypes := #[t, t] }) (e : TypeId) (z : Value) (bytes : Nat)
    (ht : Try.prog.underlying t = some (.slice e)) (hinfo : (Try.prog.info? e).map (fun i => (i.zero, i.size, i.bytes)) = some (some z, 2, bytes)) (hzs : z.cells.size = 2)
    (hs : a.eval s = v) (hown : Prs w lo B e v ls) {b : Nat} (hxv : a.eval x = .slice (some ⟨b, 0, none⟩) 1 1) {x0 y0 : Value} {c : Cel × Cel} (hx0 : w.cell? ⟨b, 0, none⟩ = some x0) (hx1 : w.cell? ⟨b, 1, none⟩ = some y0) (hx : COk w B x0 c.1) (hy : COk w B y0 c.2)
    (hlen : (ls.length + 1) * bytes ≤ 140737488355328) (hl63 : ls.length + 1 ≤ 140737488355328) (hbase : lo ≤ w.heap.size) (hB : B ≤ lo)
    (h : ∀ v' w', PAppended w lo B e v (ls ++ [c]) v' w' → K (a.put o.dst v') w') :
    if Region.wanted o (yielded ops a.tmps) = true then Oper.wp Try.prog o a w K Q else E := by
  have hw : Region.wanted o (yielded ops a.tmps) = true := by simp [Region.wanted, hgd]
  rw [if_pos hw]
  exact wp_append_prs s x t ho e z bytes ht hinfo hzs hs hown hxv hx0 hx1 hx hy hlen hl63 hbase hB h
end
structure PLoop (e : TypeId) (B p m : Nat) (T : TypeId) (CS : Value → Array Value) (lo : Nat) (wE : World) (v0 : Value) (x : List UInt8) (v : Value) (ls : List (Cel × Cel)) (wr : World) : Prop where
  sv : Sv wr B p x True
  hm : Blk wr m T (CS v)
  own : Prs wr lo B e v ls
  nx : nextV v0 v wE.heap.size
  up : Upd (p :: m :: v0.ownBlock.toList) wE wr
section
variable {e : TypeId} {B p m lo : Nat} {T : TypeId} {CS : Value → Array Value} {wE wr w2 W2 w3 w4 : World} {v0 v v3 : Value} {x x2 : List UInt8} {ls : List (Cel × Cel)} {c : Cel × Cel}
theorem PLoop.lt (h : PLoop e B p m T CS lo wE v0 x v ls wr) : ∀ g, v.ownBlock = some g → lo ≤ g ∧ g < wr.heap.size := fun _ hg => h.own.ge hg
theorem PLoop.step (h : PLoop e B p m T CS lo wE v0 x v ls wr) (hB : B ≤ lo) (hpm : p ≠ m) (hpB : B ≤ p) (hBm : B ≤ m) (he : e ≠ T) (hes : e ≠ 100) (hu2 : Upd [p] wr w2) (hsv : Sv w2 B p x2 True) (hW : Upd [] w2 W2)
    (hap : PAppended W2 lo B e v (ls ++ [c]) v3 w3) (hu4 : Upd [m] w3 w4) (hm4 : Blk w4 m T (CS v3)) : PLoop e B p m T CS lo wE v0 x2 v3 (ls ++ [c]) w4 := by
  obtain ⟨h1, h2, h3⟩ := hap
  have hsv0 := hsv
  obtain ⟨-, pv, hpb, -⟩ := hsv0
  have hmW : Blk W2 m T (CS v) := (h.hm.upd hu2 (by simpa using Ne.symm hpm)).upd hW (by simp)
  have hoW : Prs W2 lo B e v ls := (h.own.upd hu2 (fun g hg hk => by
    obtain ⟨_, qv, hq, _⟩ := h.sv
    have := h.own.ne hq hes g hg
    simp at hk; exact this hk) (by simpa using hpB)).upd hW (by simp) (by simp)
  have hnm : ∀ g, v.ownBlock = some g → g ≠ m := hoW.ne hmW he
  have hnp : ∀ g, v.ownBlock = some g → g ≠ p := hoW.ne (hpb.upd hW (by simp)) hes
  have hlo : ∀ g, v.ownBlock = some g → lo ≤ g := fun g hg => (hoW.ge hg).1
  have hsz : wE.heap.size ≤ W2.heap.size := Nat.le_trans h.up.size (Nat.le_trans hu2.size hW.size)
  have hm3 : Blk w3 m T (CS v) := hmW.upd h2 (fun hk => hnm m (Option.mem_toList.1 hk) rfl)
  refine ⟨((hsv.upd hW (by simp) (by simp)).upd h2 (fun k hk => Nat.le_trans hB (hlo k (Option.mem_toList.1 hk))) (fun hk => hnp p (Option.mem_toList.1 hk) rfl)).upd hu4 (by simpa using hBm) (by simpa using hpm), hm4, h1.upd hu4 (fun g hg hk => ?_) (by simpa using hBm), ?_, ?_⟩
  · have := h1.ne hm3 he g hg
    simp at hk; exact this hk
  · refine h.nx.trans (n' := wE.heap.size) ?_ (Nat.le_refl _)
    rcases h3 with h3 | h3
    · exact .inl h3
    · exact .inr ⟨_, h3, hsz⟩
  · refine (((h.up.trans hu2 (by simp)).trans hW (by simp)).trans h2 (fun k hk => ?_)).trans hu4 (by simp)
    rcases h.nx with hn | ⟨j, hn, hj⟩
    · left; rw [hn] at hk; exact List.mem_cons_of_mem _ (List.mem_cons_of_mem _ hk)
    · right
      rw [hn] at hk
      have : k = j := by simpa using hk
      omega
end
end Go.Proofs.Ytaajmfgplhfncaa
namespace Go.Proofs.Ytaajmfgplhfncaa
open Go.RowKit
set_option maxRecDepth 100000
def PrR (w : World) (B : Nat) (v : Value) (ls : List (Cel × Cel)) : Prop :=
  ∃ (A : Option Addr) (c : Nat) (us : List (Value × Value)), v = .slice A ls.length c ∧ ls.length ≤ c ∧ c ≤ maxLen ∧ All2 (fun p c => COk w B p.1 c.1 ∧ COk w B p.2 c.2) us ls ∧
    (ls ≠ [] → ∃ b o, A = some ⟨b, o, none⟩ ∧ b < B ∧ ∀ j u, (prc us)[j]? = some u → w.cell? ⟨b, o + j, none⟩ = some u)
theorem prc_at : ∀ {us : List (Value × Value)} (k : Nat) (h : k < us.length), (prc us)[k * 2]? = some us[k].1 ∧ (prc us)[k * 2 + 1]? = some us[k].2
  | [], k, h => by simp at h
  | p :: us, 0, _ => ⟨rfl, rfl⟩
  | p :: us, k + 1, h => by
    have := prc_at (us := us) k (by simpa using h)
    have e1 : (k + 1) * 2 = k * 2 + 2 := by omega
    rw [e1]
    simpa [prc] using this
section
variable {w w' : World} {B B' lo : Nat} {v u : Value} {ls : List (Cel × Cel)} {S : List Nat} {e : TypeId} {c : Cel}
theorem COk.below (h : COk w B u c) (hb : Below B w w') : COk w' B u c := by
  cases c with
  | val v => exact h
  | byt l => exact Row.below h hb
theorem COk.more (h : COk w B u c) (hB : B ≤ B') : COk w B' u c := by
  cases c with
  | val v => exact h
  | byt l => exact Row.more h hB
theorem COk.shrink (h : COk w B u c) : COk w w.heap.size u c := by
  cases c with
  | val v => exact h
  | byt l => exact Row.shrink h
theorem PrR.below (h : PrR w B v ls) (hb : Below B w w') : PrR w' B v ls := by
  obtain ⟨A, c, us, rfl, h1, h2, h3, h4⟩ := h
  refine ⟨A, c, us, rfl, h1, h2, h3.imp fun _ _ hy => ⟨hy.1.below hb, hy.2.below hb⟩, fun hn => ?_⟩
  obtain ⟨b, o, rfl, hlt, hc⟩ := h4 hn
  exact ⟨b, o, rfl, hlt, fun j u hu => (hb.cell hlt).trans (hc j u hu)⟩
theorem PrR.upd (h : PrR w B v ls) (hu : Upd S w w') (hs : ∀ k ∈ S, B ≤ k) : PrR w' B v ls := by
  obtain ⟨A, c, us, rfl, h1, h2, h3, h4⟩ := h
  refine ⟨A, c, us, rfl, h1, h2, h3.imp fun _ _ hy => ⟨hy.1.upd hu hs, hy.2.upd hu hs⟩, fun hn => ?_⟩
  obtain ⟨b, o, rfl, hlt, hc⟩ := h4 hn
  exact ⟨b, o, rfl, hlt, fun j u hj => hu.cell (hc j u hj) (fun hm => by have := hs _ hm; simp only at this; omega)⟩
theorem PrR.shrink (h : PrR w B v ls) : PrR w w.heap.size v ls := by
  obtain ⟨A, c, us, rfl, h1, h2, h3, h4⟩ := h
  refine ⟨A, c, us, rfl, h1, h2, h3.imp fun _ _ hy => ⟨hy.1.shrink, hy.2.shrink⟩, fun hn => ?_⟩
  obtain ⟨b, o, rfl, hlt, hc⟩ := h4 hn
  have hl : us.length = ls.length := h3.length
  have hpos : 0 < ls.length := List.length_pos_iff.2 hn
  exact ⟨b, o, rfl, World.block_lt_of_cell? w _ (hc 0 _ (prc_at 0 (by omega)).1), hc⟩
theorem PrR.form (h : PrR w B v ls) : ∃ A c, v = .slice A ls.length c ∧ PrR w B (.slice A ls.length c) ls ∧ ls.length ≤ c ∧ c ≤ 9223372036854775807 := by
  have h0 := h
  obtain ⟨A, c, us, rfl, h1, h2, _⟩ := h
  exact ⟨A, c, rfl, h0, h1, by unfold maxLen at h2; omega⟩
theorem PrR.at_ {A : Option Addr} {n c : Nat} (h : PrR w B (.slice A n c) ls) {k : Nat} (hk : k < n) :
    ∃ b o, A = some ⟨b, o, none⟩ ∧ b < B ∧ ∃ hk' : k < ls.length, ∃ x y, w.cell? ⟨b, o + k * 2, none⟩ = some x ∧ w.cell? ⟨b, o + k * 2 + 1, none⟩ = some y ∧ COk w B x (ls[k]'hk').1 ∧ COk w B y (ls[k]'hk').2 := by
  obtain ⟨A1, c1, us, e, h1, h2, h3, h4⟩ := h
  injection e with e1 e2 e3
  subst e1 e2 e3
  obtain ⟨b, o, rfl, hb, hc⟩ := h4 (by intro e; simp [e] at hk)
  have hl : us.length = ls.length := h3.length
  obtain ⟨g1, g2⟩ := prc_at (us := us) k (by omega)
  have hy := h3.get k (by omega) hk
  refine ⟨b, o, rfl, hb, hk, _, _, hc _ _ g1, ?_, hy.1, hy.2⟩
  have := hc _ _ g2
  rw [Nat.add_assoc]
  exact this
theorem PrR.one (h : PrR w B v ls) : v.oneCell' = true := by
  obtain ⟨A, c, us, rfl, _⟩ := h
  rfl
theorem PrR.nil_ (w : World) (B : Nat) : PrR w B (.slice none 0 0) [] := ⟨none, 0, [], rfl, Nat.le_refl _, by unfold maxLen; omega, trivial, fun h => absurd rfl h⟩
end
inductive Fm where
  | fd (f : Fd)
  | prs (ls : List (Cel × Cel))
  | cpy (has : Bool) (l : List UInt8)
def FmOk (w : World) (B : Nat) (v : Value) : Fm → Prop
  | .fd f => FdOk w B v f
  | .prs ls => PrR w B v ls
  | .cpy has l => ∃ (A : Option Addr) (c : Nat), v = .slice A l.length c ∧ A.isSome = has ∧ Byt w B (.slice A l.length c) l
section
variable {w w' : World} {B : Nat} {v : Value} {f : Fm} {S : List Nat}
theorem FdOk.below {f : Fd} (h : FdOk w B v f) (hb : Below B w w') : FdOk w' B v f := by
  cases f with
  | val u => exact h
  | byt l => exact Row.below h hb
  | row us => exact Row.below h hb
  | lst ls =>
    obtain ⟨vs, h1, h2⟩ := h
    exact ⟨vs, Row.below h1 hb, h2.imp fun _ _ hy => Row.below hy hb⟩
theorem FmOk.below (h : FmOk w B v f) (hb : Below B w w') : FmOk w' B v f := by
  cases f with
  | fd f => exact FdOk.below h hb
  | prs ls => exact PrR.below h hb
  | cpy has l =>
    obtain ⟨A, c, rfl, h1, h2⟩ := h
    exact ⟨A, c, rfl, h1, Row.below h2 hb⟩
theorem FmOk.upd (h : FmOk w B v f) (hu : Upd S w w') (hs : ∀ k ∈ S, B ≤ k) : FmOk w' B v f := by
  cases f with
  | fd f => exact FdOk.upd h hu hs
  | prs ls => exact PrR.upd h hu hs
  | cpy has l =>
    obtain ⟨A, c, rfl, h1, h2⟩ := h
    exact ⟨A, c, rfl, h1, Row.upd h2 hu hs⟩
theorem FmOk.shrink (h : FmOk w B v f) : FmOk w w.heap.size v f := by
  cases f with
  | fd f => exact FdOk.shrink h
  | prs ls => exact PrR.shrink h
  | cpy has l =>
    obtain ⟨A, c, rfl, h1, h2⟩ := h
    exact ⟨A, c, rfl, h1, Row.shrink h2⟩
theorem FmOk.one (h : FmOk w B v f) : v.oneCell' = true := by
  cases f with
  | fd f => exact FdOk.one h
  | prs ls => exact PrR.one h
  | cpy has l =>
    obtain ⟨A, c, rfl, h1, h2⟩ := h
    rfl
end
def TM (fs : List Fm) (cs : Array Value) (w : World) (B : Nat) : Prop := cs.size = fs.length ∧ ∀ (i : Nat) (v : Value) (f : Fm), cs[i]? = some v → fs[i]? = some f → FmOk w B v f
section
variable {w w' : World} {B i g : Nat} {v : Value} {fs : List Fm} {cs : Array Value} {f : Fm} {S : List Nat}
theorem TM.below (h : TM fs cs w B) (hb : Below B w w') : TM fs cs w' B := ⟨h.1, fun i v f h1 h2 => (h.2 i v f h1 h2).below hb⟩
theorem TM.upd (h : TM fs cs w B) (hu : Upd S w w') (hs : ∀ k ∈ S, B ≤ k) : TM fs cs w' B := ⟨h.1, fun i v f h1 h2 => (h.2 i v f h1 h2).upd hu hs⟩
theorem TM.shrink (h : TM fs cs w B) : TM fs cs w w.heap.size := ⟨h.1, fun i v f h1 h2 => (h.2 i v f h1 h2).shrink⟩
theorem TM.all (h : TM fs cs w B) : cs.all (·.oneCell') = true := by
  rw [Array.all_eq_true]
  intro i hi
  have hif : i < fs.length := by rw [← h.1]; exact hi
  exact (h.2 i _ _ (Array.getElem?_eq_getElem hi) (List.getElem?_eq_getElem hif)).one
theorem TM.at_ (h : TM fs cs w B) (hf : fs[i]? = some f) : ∃ v, cs[i]? = some v ∧ FmOk w B v f := by
  have hi : i < cs.size := by rw [h.1]; exact (List.getElem?_eq_some_iff.1 hf).1
  exact ⟨cs[i], Array.getElem?_eq_getElem hi, h.2 i _ f (Array.getElem?_eq_getElem hi) hf⟩
theorem TM.val (h : TM fs cs w B) {u : Value} (hf : fs[i]? = some (.fd (.val u))) : cs[i]? = some u := by
  obtain ⟨v, h1, h2, -⟩ := h.at_ hf
  rw [h1, h2]
theorem TM.byt (h : TM fs cs w B) {l : List UInt8} (hf : fs[i]? = some (.fd (.byt l))) : ∃ A c, cs[i]? = some (.slice A l.length c) ∧ Byt w B (.slice A l.length c) l := by
  obtain ⟨v, h1, h2⟩ := h.at_ hf
  obtain ⟨A, c, rfl, h3, -⟩ := Byt.form h2 rfl
  exact ⟨A, c, h1, h3⟩
theorem TM.row (h : TM fs cs w B) {us : List Value} (hf : fs[i]? = some (.fd (.row us))) {n : Nat} (hn : us.length = n) : ∃ A c, cs[i]? = some (.slice A n c) ∧ Row w B (.slice A n c) us := by
  obtain ⟨v, h1, h2⟩ := h.at_ hf
  obtain ⟨A, c, rfl, h3, -⟩ := Row.formN h2 hn
  exact ⟨A, c, h1, h3⟩
theorem TM.lst (h : TM fs cs w B) {ls : List (List UInt8)} (hf : fs[i]? = some (.fd (.lst ls))) : ∃ A c, cs[i]? = some (.slice A ls.length c) ∧ Lst w B (.slice A ls.length c) ls := by
  obtain ⟨v, h1, h2⟩ := h.at_ hf
  obtain ⟨A, c, rfl, h3, -⟩ := h2.form
  exact ⟨A, c, h1, h3⟩
theorem TM.prs (h : TM fs cs w B) {ls : List (Cel × Cel)} (hf : fs[i]? = some (.prs ls)) : ∃ A c, cs[i]? = some (.slice A ls.length c) ∧ PrR w B (.slice A ls.length c) ls := by
  obtain ⟨v, h1, h2⟩ := h.at_ hf
  obtain ⟨A, c, rfl, h3, -⟩ := h2.form
  exact ⟨A, c, h1, h3⟩
theorem TM.cpy (h : TM fs cs w B) {has : Bool} {l : List UInt8} (hf : fs[i]? = some (.cpy has l)) : ∃ A c, cs[i]? = some (.slice A l.length c) ∧ A.isSome = has ∧ Byt w B (.slice A l.length c) l := by
  obtain ⟨v, h1, A, c, rfl, h2, h3⟩ := h.at_ hf
  exact ⟨A, c, h1, h2, h3⟩
end
end Go.Proofs.Ytaajmfgplhfncaa
namespace Go.Proofs.Ytaajmfgplhfncaa
open Go.RowKit
set_option maxRecDepth 100000
section
variable {w w0 w1 w2 wr w' : World} {base q off pl g : Nat} {v u content ic : Value} {xs bs : List UInt8} {st out : Option (List UInt8)} {S : List Nat} {B R R' need : Nat} {F : World → Prop} {e : Ending} {fid fn : FuncId} {T : TypeId} {c1 args : Array Value}
theorem Em.lt (h : Em w1 q v base off pl ic B F st R w2) : q < w2.heap.size := by
  obtain ⟨v2, hb, -, -⟩ := h.main
  obtain ⟨cs, hbl⟩ := hb.isBlk
  exact hbl.lt
end
end Go.Proofs.Ytaajmfgplhfncaa
namespace Go.Proofs.Ytaajmfgplhfncaa
open Go.RowKit
set_option maxRecDepth 100000
theorem identsW_snoc (l : List (List UInt8 × UInt32)) (d : List UInt8) (g : UInt32) : ((identsW l).vec 2 d).num 4 g.toNat = identsW (l ++ [(d, g)]) := by
  simp [identsW, identsB, identsBad, identB, Wr.num, Wr.vec, List.any_append]
theorem identsB_split (l : List (List UInt8 × UInt32)) (k : Nat) : identsB l = identsB (l.take k) ++ identsB (l.drop k) := by
  unfold identsB; rw [← List.flatMap_append, List.take_append_drop]
theorem identsB_take (l : List (List UInt8 × UInt32)) (k : Nat) : (identsB (l.take k)).length ≤ (identsB l).length := by
  rw [identsB_split l k, List.length_append]
  omega
theorem identsB_get (l : List (List UInt8 × UInt32)) (k : Nat) (h : k < l.length) : (l[k]).1.length ≤ (identsB l).length := by
  rw [identsB_split l k, List.drop_eq_getElem_cons h]
  have e : identsB (l[k] :: l.drop (k + 1)) = (be 2 (l[k]).1.length ++ ((l[k]).1 ++ be 4 (l[k]).2.toNat)) ++ identsB (l.drop (k + 1)) := rfl
  rw [e, List.length_append, List.length_append, List.length_append, List.length_append]
  omega
section
variable {w w' w0 : World} {B C : Nat} {v content cd : Value} {xs : List UInt8}
set_option maxHeartbeats 1000000 in
theorem identities_any_w {l : List (List UInt8 × UInt32)} (hd : Lst w C cd (l.map (·.1))) (hg : Row w B content (l.map fun x => uv x.2)) (hx : (identsB l).length ≤ 1099511627776) :
    Calls Try.prog 30 #[cd, content] w (WValP w (identsW l)) := by
  have hm0 := WMid.start w
  have HX := hid hx
  obtain ⟨A0, c0, rfl, hgr, hlg, hmg⟩ := Row.formN (n := l.length) (Row.shrink hg) (by simp)
  obtain ⟨A, c, rfl, hcr, hlc, hm⟩ := hd.shrink.form
  simp only [List.length_map] at hcr ⊢
  clear hx hg hd
  go_enter Try.func30, Try.ntmps30
  go_wp2_with fail
  rw [W1_eq]
  go_loopg [6, 7, 10] l.length (fun gk _ _ i wr => ∃ j : Nat, j + gk = l.length ∧ i = .int .i64 j ∧ WMid w (identsW (l.take j)) wr)
  case atStart => exact ⟨0, by omega, rfl, by simpa [identsW, identsB, identsBad, Wr.nil] using hm0⟩
  case round =>
    obtain ⟨j, hj0, rfl, hmr⟩ := hrel
    have hj : j ≤ l.length := by omega
    have HJ := hid hj0
    clear hj0
    by_cases hlt : j < l.length
    · have hcw := hcr.upd hmr.upd (by simp)
      have hlt2 : j < (l.map (·.1)).length := by simpa using hlt
      obtain ⟨b2, o2, rfl, hb2, hj2, A', c', hcell2, hy, hl1, hl2⟩ := hcw.at_ hlt
      have eg : (l.map (·.1))[j] = (l[j]).1 := by simp
      rw [eg] at hcell2 hy hl1
      obtain ⟨vr, kr, hvr⟩ := hmr.open_
      have hlen : (identsW (l.take j)).b.length ≤ 1099511627776 := by
        have h1 := HX.out
        have h2 := identsB_take l j
        show (identsB _).length ≤ _
        omega
      have hxl : (l[j]).1.length ≤ 1099511627776 := Nat.le_trans (identsB_get l j hlt) HX.out
      have HN := hid (wvec_any2 kr ⟨_, hy, .inl (by omega)⟩ (by omega) hxl)
      have HS := hid (show ((identsW (l.take j)).vec 2 (l[j]).1).num 4 (l[j]).2.toNat = identsW (l.take (j + 1)) by
        rw [List.take_succ_eq_append_getElem hlt, identsW_snoc])
      have hl2' : ((identsW (l.take j)).vec 2 (l[j]).1).b.length ≤ 17592186044416 := by simp [Wr.vec, be_len]; omega
      have HL2 := hid hl2'
      have hu := (l[j]).2.toNat_lt
      have HU := hid hu
      clear hlen hxl hl2' hlt2 eg hcw
      go_wp2_with fail
      refine HN.out.mono ?_
      intro e w2 hp2
      obtain ⟨rfl, hm2⟩ := hmr.next hvr hp2
      have hgw := Row.upd hgr hm2.upd (by simp)
      obtain ⟨b, o, rfl, hb, hj', hcell⟩ := hgw.at_ (by simpa using hlt)
      rw [List.getElem_map] at hcell
      obtain ⟨v2, k2, hv2⟩ := hm2.open_
      have HV := hid (wnum_any k2 4 (l[j]).2.toNat (by omega) HL2.out)
      rw [HS.out] at HV
      clear HN hp2 kr hvr
      go_wp2_with fail
      refine HV.out.mono ?_
      intro e w3 hp3
      obtain ⟨rfl, hm3⟩ := hm2.next hv2 hp3
      clear HV
      go_wp2
      have hj0 := HJ.out
      go_roundg (l.length - (j + 1))
      case measure => omega
      case rel => exact ⟨j + 1, by omega, by go_num, hm3⟩
    · obtain rfl : j = l.length := by omega
      rw [List.take_length] at hmr
      obtain ⟨A4, n4, c4, z0, z1, d0, d1, g0, g1, e0, e1, hend⟩ := hmr.fin
      go_wp2
      exact bodyPost_ret (v := .agg #[.slice A4 n4 c4, .bool _]) (by simp [results, Try.results30, go_sem, e0, e1]) rfl hend
set_option maxHeartbeats 1000000 in
theorem status_any : Calls Try.prog 24 #[] w (WValP w statusW) := by
  have hm0 := WMid.start w
  obtain ⟨vr, kr, hvr⟩ := hm0.open_
  have H := hid (wnum_any kr 1 1 (by omega) (by simp [Wr.nil]))
  go_enter Try.func24, Try.ntmps24
  go_wp2_with fail
  rw [W1_eq]
  refine H.out.mono ?_
  intro e w2 hp2
  obtain ⟨rfl, hm2⟩ := hm0.next hvr hp2
  obtain ⟨v2, k2, hv2⟩ := hm2.open_
  clear hm0 kr hvr H hp2
  have H := hid (wvec_any2 (xs := []) k2 (content := .slice none 0 0) ⟨0, Row.nil_ _ 0, .inl (Nat.zero_le _)⟩ (by simp [Wr.nil, Wr.num, be_len]) (by simp))
  go_wp2_with fail
  refine H.out.mono ?_
  intro e w3 hp3
  obtain ⟨rfl, hm3⟩ := hm2.next hv2 hp3
  obtain ⟨v3, k3, hv3⟩ := hm3.open_
  clear hm2 k2 hv2 H hp3
  have H := hid (wvec_any2 (xs := []) k3 (content := .slice none 0 0) ⟨0, Row.nil_ _ 0, .inl (Nat.zero_le _)⟩ (by simp [Wr.nil, Wr.num, Wr.vec, be_len]) (by simp))
  go_wp2_with fail
  refine H.out.mono ?_
  intro e w4 hp4
  obtain ⟨rfl, hm4⟩ := hm3.next hv3 hp4
  clear hm3 k3 hv3 H hp4
  obtain ⟨A4, n4, c4, z0, z1, d0, d1, g0, g1, e0, e1, hend⟩ := hm4.fin
  go_wp2
  exact bodyPost_ret (v := .agg #[.slice A4 n4 c4, .bool _]) (by simp [results, Try.results24, go_sem, e0, e1]) rfl hend
set_option maxHeartbeats 1000000 in
theorem host_any (hx : xs.length ≤ 2147483647) : Calls Try.prog 23 #[.string ⟨xs.toArray⟩] w (WValP w (hostW xs)) := by
  have hm0 := WMid.start w
  obtain ⟨vr, kr, hvr⟩ := hm0.open_
  have H := hid (wnum_any kr 1 0 (by omega) (by simp [Wr.nil]))
  go_enter Try.func23, Try.ntmps23
  go_wp2_with fail
  rw [W1_eq]
  refine H.out.mono ?_
  intro e w2 hp2
  obtain ⟨rfl, hm2⟩ := hm0.next hvr hp2
  clear hm0 kr hvr H hp2
  go_wp2_with (refine wpList_conv_string 9 23 _ rfl Try.underlying9 Try.underlying23 rfl rfl (by omega) ?_; intro wN A9 c9 hyN huN hnN)
  obtain ⟨v2, k2, hv2⟩ := hm2.open_
  have hlt2 := k2.2.1.lt
  have hge2 : ∀ g, v2.ownBlock = some g → g < w2.heap.size := fun g hg => (k2.2.2.ge hg).2
  have k3 := k2.upd huN (by simp) (by simp)
  have hm3 : WMid w (Wr.nil.num 1 0) wN := ⟨rfl, v2, k3, hv2.1.trans huN (by simp), hv2.2⟩
  refine (wvec_any2 k3 ⟨_, hyN, .inr (fun g hg => ?_)⟩ (by simp [Wr.nil, Wr.num, be_len]) (by omega)).mono ?_
  · have h1 := (hnN g hg).1
    exact ⟨by omega, fun h => by have := hge2 g h; omega⟩
  intro e w4 hp4
  obtain ⟨rfl, hm4⟩ := hm3.next ⟨hv2.1.trans huN (by simp), hv2.2⟩ hp4
  obtain ⟨A4, n4, c4, z0, z1, d0, d1, g0, g1, e0, e1, hend⟩ := hm4.fin
  go_wp2
  exact bodyPost_ret (v := .agg #[.slice A4 n4 c4, .bool _]) (by simp [results, Try.results23, go_sem, e0, e1]) rfl hend
def sigB (ls : List UInt16) : Bool := ls.any fun n => n == 255
theorem sigB_iff (ls : List UInt16) : sigB ls = false ↔ (255 : UInt16) ∉ ls := by
  unfold sigB
  rw [List.any_eq_false]
  constructor
  · intro h hm; exact h 255 hm (by decide)
  · intro h x hx e
    rw [beq_iff_eq] at e
    exact h (e ▸ hx)
set_option maxHeartbeats 1000000 in
theorem signals_any {ls : List UInt16} (hc : Row w B content (ls.map wv)) : Calls Try.prog 18 #[content] w fun e w' => e = .returned (.bool (sigB ls)) ∧ w = w' := by
  obtain ⟨A, c, rfl, hcr, hlc, hm⟩ := Row.formN (n := ls.length) (Row.shrink hc) (by simp)
  clear hc
  go_enter Try.func18, Try.ntmps18
  go_wp2
  go_loopg [4, 7] ls.length (fun gk _ i wr => ∃ j : Nat, j + gk = ls.length ∧ i = .int .i64 j ∧ w = wr ∧ sigB (ls.take j) = false)
  case atStart => exact ⟨0, by omega, rfl, rfl, rfl⟩
  case round =>
    obtain ⟨j, hj0, rfl, rfl, hall⟩ := hrel
    have HJ := hid hj0
    have HA := hid hall
    have hj : j ≤ ls.length := by omega
    clear hj0 hall
    by_cases hlt : j < ls.length
    · obtain ⟨b, o, rfl, hb', hj', hcell⟩ := hcr.at_ hlt
      rw [List.getElem_map] at hcell
      by_cases h1 : ls[j] = 255
      · have h1' : (((ls[j]).toNat : Int) == 255) = true := by rw [h1]; rfl
        have HN := hid (show sigB ls = true by
          unfold sigB
          rw [List.any_eq_true]
          exact ⟨ls[j], List.getElem_mem hlt, by rw [h1]; rfl⟩)
        clear h1
        go_wp2
        go_ret
        exact ⟨by rw [HN.out]; rfl, rfl⟩
      · have h1' : (((ls[j]).toNat : Int) == 255) = false := by
          rw [beq_eq_false_iff_ne]
          intro e
          exact h1 (UInt16.toNat_inj.1 (by show (ls[j]).toNat = 255; omega))
        have HN := hid (show sigB (ls.take (j + 1)) = false by
          unfold sigB at HA ⊢
          rw [List.take_succ_eq_append_getElem hlt, List.any_append, HA.out]
          simp [h1])
        clear h1
        go_wp2
        have hj0 := HJ.out
        go_roundg (ls.length - (j + 1))
        case measure => omega
        case rel => exact ⟨j + 1, by omega, by go_num, rfl, HN.out⟩
    · obtain rfl : j = ls.length := by omega
      go_wp2
      go_ret
      refine ⟨?_, rfl⟩
      have := HA.out
      rw [List.take_length] at this
      rw [this]; rfl
end
end Go.Proofs.Ytaajmfgplhfncaa
namespace Go.Proofs.Ytaajmfgplhfncaa
open Go.RowKit
set_option maxRecDepth 100000
def ksC (M : Ch) : List (Cel × Cel) := (M.kg.zip M.kd).map fun x => (.val (wv x.1), .byt x.2)
def piC (M : Ch) : List (Cel × Cel) := (M.pl.zip M.pa).map fun x => (.byt x.1, .val (uv x.2))
structure ChSz (t : Ch) : Prop where
  random : t.random.length ≤ 1048576
  sid : t.sid.length ≤ 1048576
  suites : t.suites.length ≤ 1048576
  comps : t.comps.length ≤ 1048576
  host : t.host.length ≤ 1048576
  curves : t.curves.length ≤ 1048576
  pts : t.pts.length ≤ 1048576
  tick : t.tick.length ≤ 1048576
  sig : t.sig.length ≤ 1048576
  sigc : t.sigc.length ≤ 1048576
  rn : t.rn.length ≤ 1048576
  alpn : lstSz t.alpn ≤ 1048576
  sv : t.sv.length ≤ 1048576
  cookie : t.cookie.length ≤ 1048576
  kg : t.kg.length ≤ 1048576
  kd : lstSz t.kd ≤ 1048576
  modes : t.modes.length ≤ 1048576
  pl : lstSz t.pl ≤ 1048576
  pa : t.pa.length ≤ 1048576
  pb : lstSz t.pb ≤ 1048576
  qtp : t.qtp.length ≤ 1048576
  ech : t.ech.length ≤ 1048576
  exs : t.exs.length ≤ 1048576
theorem lstSz_len (ls : List (List UInt8)) : ls.length ≤ lstSz ls := by
  induction ls with
  | nil => simp
  | cons x ls ih => rw [lstSz_cons, List.length_cons]; omega
theorem lstSz_mem {ls : List (List UInt8)} {x : List UInt8} (h : x ∈ ls) : x.length + 1 ≤ lstSz ls := by
  induction ls with
  | nil => cases h
  | cons y ls ih =>
    rw [lstSz_cons]
    rcases List.mem_cons.1 h with rfl | h
    · omega
    · have := ih h; omega
def cKsh (ls : List (UInt16 × List UInt8)) : Nat := (ls.map fun x => 6 + x.2.length).sum
def cIds (ls : List (List UInt8 × UInt32)) : Nat := (ls.map fun x => 8 + x.1.length).sum
theorem cKsh_le : ∀ (g : List UInt16) (d : List (List UInt8)), cKsh (g.zip d) ≤ 6 * lstSz d
  | [], d => by simp [cKsh]
  | _ :: _, [] => by simp [cKsh]
  | g :: gs, d :: ds => by
    have ih := cKsh_le gs ds
    have e : cKsh ((g :: gs).zip (d :: ds)) = 6 + d.length + cKsh (gs.zip ds) := by simp [cKsh]
    rw [e, lstSz_cons]; omega
theorem cIds_le : ∀ (d : List (List UInt8)) (a : List UInt32), cIds (d.zip a) ≤ 8 * lstSz d
  | [], d => by simp [cIds]
  | _ :: _, [] => by simp [cIds]
  | d :: ds, a :: aa => by
    have ih := cIds_le ds aa
    have e : cIds ((d :: ds).zip (a :: aa)) = 8 + d.length + cIds (ds.zip aa) := by simp [cIds]
    rw [e, lstSz_cons]; omega
theorem kshB_cost (l : List (UInt16 × List UInt8)) : (kshB l).length ≤ cKsh l := by
  induction l with
  | nil => simp [kshB]
  | cons x l ih =>
    have e : kshB (x :: l) = (be 2 x.1.toNat ++ (be 2 x.2.length ++ x.2)) ++ kshB l := rfl
    have e2 : cKsh (x :: l) = 6 + x.2.length + cKsh l := by simp [cKsh]
    rw [e, e2, List.length_append, List.length_append, List.length_append, be_len, be_len]; omega
theorem identsB_cost (l : List (List UInt8 × UInt32)) : (identsB l).length ≤ cIds l := by
  induction l with
  | nil => simp [identsB]
  | cons x l ih =>
    have e : identsB (x :: l) = (be 2 x.1.length ++ (x.1 ++ be 4 x.2.toNat)) ++ identsB l := rfl
    have e2 : cIds (x :: l) = 8 + x.1.length + cIds l := by simp [cIds]
    rw [e, e2, List.length_append, List.length_append, List.length_append, be_len, be_len]; omega
section
variable {t : Ch}
theorem ChSz.vks (h : ChSz t) : cKsh (chKs t) ≤ 8388608 := by have := cKsh_le t.kg t.kd; have := h.kd; unfold chKs; omega
theorem ChSz.vps (h : ChSz t) : cIds (chPs t) ≤ 8388608 := by have := cIds_le t.pl t.pa; have := h.pl; unfold chPs; omega
end
end Go.Proofs.Ytaajmfgplhfncaa
namespace Go.Proofs.Ytaajmfgplhfncaa
open Go.RowKit
set_option maxRecDepth 100000
def chFm (t : Ch) : List Fm := [.fd (.val (.slice none 0 0)), .fd (.val (wv t.vers)), .fd (.byt t.random), .fd (.byt t.sid), .fd (.row (t.suites.map wv)), .fd (.byt t.comps), .fd (.val (strv t.host)), .fd (.val (.bool t.ocsp)), .fd (.row (t.curves.map wv)), .fd (.byt t.pts), .fd (.val (.bool t.ticket)), .fd (.byt t.tick),
  .fd (.row (t.sig.map wv)), .fd (.row (t.sigc.map wv)), .fd (.val (.bool t.rns)), .fd (.byt t.rn), .fd (.val (.bool t.ems)), .fd (.row (t.alpn.map strv)), .fd (.val (.bool t.scts)), .fd (.row (t.sv.map wv)), .fd (.byt t.cookie), .prs (ksC t), .fd (.val (.bool t.early)), .fd (.byt t.modes), .prs (piC t), .fd (.lst t.pb),
  .cpy t.quic (if t.quic = true then t.qtp else []), .fd (.byt t.ech), .fd (.val (.slice none 0 0))]
def ChE (B m k ei : Nat) (cs : Array Value) (t : Ch) (w : World) : Prop :=
  Blk w m 90 cs ∧ Blk w k 86 #[.pointer (some ⟨m, 0, none⟩)] ∧ Blk w ei 4 #[.bool false] ∧ TM (chFm t) cs w B
def ChG (B m k ei x : Nat) (cs : Array Value) (Ax : Option Addr) (cx : Nat) (t : Ch) (xs : List UInt8) (w : World) : Prop :=
  ChE B m k ei cs t w ∧ Blk w x 23 #[.slice Ax xs.length cx] ∧ Byt w B (.slice Ax xs.length cx) xs
section
variable {w w' : World} {B m k ei x i n : Nat} {cs : Array Value} {t : Ch} {u v : Value} {l xs : List UInt8} {us : List Value} {Ax : Option Addr} {cx : Nat}
theorem ChE.ptr (h : ChE B m k ei cs t w) : w.cell? ⟨k, 0, none⟩ = some (.pointer (some ⟨m, 0, none⟩)) := h.2.1.cell 0
theorem ChE.cell (h : ChE B m k ei cs t w) (hc : cs[i]? = some u) : w.cell? ⟨m, i, none⟩ = some u := (h.1.cell i).trans hc
theorem ChE.val (h : ChE B m k ei cs t w) (hf : (chFm t)[i]? = some (.fd (.val u))) : w.cell? ⟨m, i, none⟩ = some u := h.cell (h.2.2.2.val hf)
theorem ChE.byt (h : ChE B m k ei cs t w) (hf : (chFm t)[i]? = some (.fd (.byt l))) : ∃ A c, w.cell? ⟨m, i, none⟩ = some (.slice A l.length c) ∧ Byt w B (.slice A l.length c) l := by
  obtain ⟨A, c, h1, h2⟩ := h.2.2.2.byt hf
  exact ⟨A, c, h.cell h1, h2⟩
theorem ChG.ptr (h : ChG B m k ei x cs Ax cx t xs w) : w.cell? ⟨k, 0, none⟩ = some (.pointer (some ⟨m, 0, none⟩)) := h.1.ptr
end
section
variable {w w' : World} {B m k ei x : Nat} {cs : Array Value} {t : Ch} {u v : Value} {xs : List UInt8} {Ax : Option Addr} {cx : Nat}
end
end Go.Proofs.Ytaajmfgplhfncaa
namespace Go.Proofs.Ytaajmfgplhfncaa
open Go.RowKit
set_option maxRecDepth 100000
section
variable {w w0 w' : World} {p g : Nat} {xs bs : List UInt8} {st st' out : Option (List UInt8)} {B need : Nat} {F : World → Prop} {fid : FuncId} {cap : Array Value} {T : TypeId} {c1 : Array Value}
theorem TopS.cast {w0 w : World} {p : Nat} {st st' : Option (List UInt8)} (h : TopS w0 w p st) (e : st = st') : TopS w0 w p st' := e ▸ h
theorem TopS.up {w0 w : World} {p : Nat} {st : Option (List UInt8)} (h : TopS w0 w p st) : Upd [] w0 w := by
  obtain ⟨_, _, _, _, h, _⟩ := h
  exact h
theorem TopS.new_ (h : TopS w0 w p st) (hu : Upd [] w w') : TopS w0 w' p st := by
  obtain ⟨v, ic, hb, hi, hu0, ho⟩ := h
  exact ⟨v, ic, hb.upd hu (by simp) (by simp), hi.upd hu (by simp), hu0.trans hu (by simp), ho⟩
end
end Go.Proofs.Ytaajmfgplhfncaa

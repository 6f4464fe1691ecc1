/- Slices of pairs (a number and bytes) in memory: owned, appended to; a loop that appends such pairs to a field of a message. -/
import Derived.Test.YtaajmfgplhfncaaGreatLoops
import Derived.Test.YtaajmfgplhfncaaGreatSpecE
namespace Go.Proofs.YtaajmfgplhfncaaGreat
open Go.RowKit
set_option maxRecDepth 100000

/-- a cell of a pair: this value, or a slice of the bytes that are read -/
inductive Cel where
  | val (v : Value)
  | byt (l : List UInt8)
def COk (w : World) (B : Nat) (u : Value) : Cel → Prop
  | .val v => u = v ∧ v.oneCell' = true
  | .byt l => Byt w B u l
def prc : List (Value × Value) → List Value
  | [] => []
  | p :: us => p.1 :: p.2 :: prc us
theorem prc_len : ∀ us : List (Value × Value), (prc us).length = us.length * 2
  | [] => rfl
  | p :: us => by simp only [prc, List.length_cons, prc_len us]; omega
theorem prc_append : ∀ us vs : List (Value × Value), prc (us ++ vs) = prc us ++ prc vs
  | [], _ => rfl
  | p :: us, vs => by simp only [prc, List.cons_append, prc_append us vs]
/-- a slice of the call's own -/
def Prs (w : World) (lo B : Nat) (e : TypeId) (v : Value) (ls : List (Cel × Cel)) : Prop :=
  ∃ us : List (Value × Value), w.ownsRow lo e 2 v ls.length (prc us) ∧ All2 (fun p c => COk w B p.1 c.1 ∧ COk w B p.2 c.2) us ls
section
variable {w w' : World} {B lo : Nat} {e : TypeId} {v : Value} {ls ms : List (Cel × Cel)} {S : List Nat}
theorem COk.upd {u : Value} {c : Cel} (h : COk w B u c) (hu : Upd S w w') (hB : ∀ k ∈ S, B ≤ k) : COk w' B u c := by
  cases c with
  | val v => exact h
  | byt l => exact Row.upd h hu hB
theorem COk.one {u : Value} {c : Cel} (h : COk w B u c) : u.oneCell' = true := by
  cases c with
  | val v => obtain ⟨rfl, h⟩ := h; exact h
  | byt l => exact byt_oneCell' h
theorem prc_one : ∀ {us : List (Value × Value)} {ls : List (Cel × Cel)}, All2 (fun p c => COk w B p.1 c.1 ∧ COk w B p.2 c.2) us ls → ∀ u ∈ prc us, u.oneCell' = true
  | [], [], _, u, hu => by simp [prc] at hu
  | [], _ :: _, h, _, _ => h.elim
  | _ :: _, [], h, _, _ => h.elim
  | p :: us, c :: ls, h, u, hu => by
    rcases List.mem_cons.1 hu with hu | hu
    · rw [hu]; exact h.1.1.one
    · rcases List.mem_cons.1 hu with hu | hu
      · rw [hu]; exact h.1.2.one
      · exact prc_one h.2 u hu
theorem Prs.nil_ (w : World) (lo B : Nat) (e : TypeId) : Prs w lo B e (.slice none 0 0) [] := ⟨[], World.ownsRow_nil w lo _ 2, trivial⟩
theorem Prs.upd (h : Prs w lo B e v ls) (hu : Upd S w w') (hs : ∀ g, v.ownBlock = some g → g ∉ S) (hB : ∀ x ∈ S, B ≤ x) : Prs w' lo B e v ls := by
  obtain ⟨us, h1, h2⟩ := h
  refine ⟨us, ⟨h1.1, ?_⟩, h2.imp fun _ _ hy => ⟨hy.1.upd hu hB, hy.2.upd hu hB⟩⟩
  rcases h1.2 with hn | ⟨g, cap, cur, rfl, hb, hg, rest⟩
  · exact .inl hn
  · exact .inr ⟨g, cap, cur, rfl, hb, (hu.block g (Array.getElem?_eq_some_iff.1 hg).1 (hs g rfl)).trans hg, rest⟩
theorem Prs.ge (h : Prs w lo B e v ls) {g : Nat} (hg : v.ownBlock = some g) : lo ≤ g ∧ g < w.heap.size := by
  obtain ⟨us, h1, _⟩ := h
  exact World.ownsRow.lt h1 g hg
theorem Prs.ne {g : Nat} {t : TypeId} {cs : Array Value} (h : Prs w lo B e v ls) (hb : Blk w g t cs) (hne : e ≠ t) : ∀ k, v.ownBlock = some k → k ≠ g := by
  intro k hk
  obtain ⟨us, h, _⟩ := h
  rcases h.2 with ⟨rfl, _⟩ | ⟨g', cap, cur, rfl, _, hh, _⟩
  · simp [Value.ownBlock] at hk
  · have : g' = k := by simpa [Value.ownBlock] using hk
    subst this
    exact Blk.ne_ (t := e) hh hb hne
theorem Prs.form (h : Prs w lo B e v ls) : ∃ A c, v = .slice A ls.length c ∧ ls.length ≤ c ∧ c ≤ 9223372036854775807 := by
  obtain ⟨us, h1, _⟩ := h
  rcases h1.2 with ⟨rfl, h0⟩ | ⟨g, cap, cur, rfl, hb, hg, hn, hm, hs, ht⟩
  · rw [h0]; exact ⟨none, 0, rfl, Nat.le_refl _, by omega⟩
  · exact ⟨_, cap, rfl, hn, by unfold maxLen at hm; omega⟩
/-- what a law on append leaves -/
def PAppended (w : World) (lo B : Nat) (e : TypeId) (v : Value) (ls : List (Cel × Cel)) (v' : Value) (w' : World) : Prop :=
  Prs w' lo B e v' ls ∧ Upd v.ownBlock.toList w w' ∧ (v'.ownBlock = v.ownBlock ∨ v'.ownBlock = some w.heap.size)
/-- 'append(s, pair)' of a pair that was laid in block b -/
theorem run_append_prs (t ty e : TypeId) {z : Value} {bytes : Nat} (ht : Tryz.prog.underlying t = some (.slice e)) (hinfo : (Tryz.prog.info? e).map (fun i => (i.zero, i.size, i.bytes)) = some (some z, 2, bytes)) (hzs : z.cells.size = 2)
    (hown : Prs w lo B e v ls) {b : Nat} {x y : Value} {c : Cel × Cel} (hx0 : w.cell? ⟨b, 0, none⟩ = some x) (hx1 : w.cell? ⟨b, 1, none⟩ = some y) (hx : COk w B x c.1) (hy : COk w B y c.2)
    (hlen : (ls.length + 1) * bytes ≤ 140737488355328) (hl63 : ls.length + 1 ≤ 140737488355328) (hbase : lo ≤ w.heap.size) (hB : B ≤ lo) :
    ∃ v' w', (Builtin.append_ #[t, t] ty #[v, .slice (some ⟨b, 0, none⟩) 1 1]).run Tryz.prog w = .ok v' w' ∧ PAppended w lo B e v (ls ++ [c]) v' w' := by
  obtain ⟨i, hi, hz, hsize, hby⟩ := info_parts hinfo
  obtain ⟨us, h1, h2⟩ := hown
  have hcells : ∀ j u, [x, y][j]? = some u → w.cell? ((⟨b, 0, none⟩ : Addr).add j) = some u := by
    intro j u hj
    match j, hj with
    | 0, hj => simp at hj; subst hj; exact hx0
    | 1, hj => simp at hj; subst hj; exact hx1
    | j + 2, hj => simp at hj
  obtain ⟨v', w', hrun, h3, h4, _, h5⟩ := run_append_own_at (P := Tryz.prog) w lo t ty e i _ 2 bytes ht hi hz hsize hby hzs (by omega) v ls.length _ h1 ⟨b, 0, none⟩ 1 1 [x, y] rfl hcells
    (by intro u hu; simp at hu; rcases hu with rfl | rfl; exact hx.one; exact hy.one) (by simp only [maxLen]; omega) (by omega) hbase
  have hu := upd_of_grown h4
  have hge : ∀ x ∈ v.ownBlock.toList, B ≤ x := fun x hx => by
    have := World.ownsRow.lt h1 x (Option.mem_toList.1 hx)
    omega
  refine ⟨v', w', hrun, ⟨us ++ [(x, y)], ?_, ?_⟩, hu, h5⟩
  · rw [List.length_append, prc_append]
    exact h3
  · exact (h2.imp fun _ _ hy => ⟨hy.1.upd hu hge, hy.2.upd hu hge⟩).append ⟨⟨hx.upd hu hge, hy.upd hu hge⟩, trivial⟩
theorem wp_append_prs {o : Oper} {a : Act} {K : Act → World → Prop} {Q : Exit → Act → World → Prop} (s x : Operand) (t : TypeId)
    (ho : o.op = .call { callee := .builtin .append, args := #[s, x], argTypes := #[t, t] }) (e : TypeId) (z : Value) (bytes : Nat)
    (ht : Tryz.prog.underlying t = some (.slice e)) (hinfo : (Tryz.prog.info? e).map (fun i => (i.zero, i.size, i.bytes)) = some (some z, 2, bytes)) (hzs : z.cells.size = 2)
    (hs : a.eval s = v) (hown : Prs w lo B e v ls) {b : Nat} (hxv : a.eval x = .slice (some ⟨b, 0, none⟩) 1 1) {x0 y0 : Value} {c : Cel × Cel} (hx0 : w.cell? ⟨b, 0, none⟩ = some x0) (hx1 : w.cell? ⟨b, 1, none⟩ = some y0) (hx : COk w B x0 c.1) (hy : COk w B y0 c.2)
    (hlen : (ls.length + 1) * bytes ≤ 140737488355328) (hl63 : ls.length + 1 ≤ 140737488355328) (hbase : lo ≤ w.heap.size) (hB : B ≤ lo)
    (h : ∀ v' w', PAppended w lo B e v (ls ++ [c]) v' w' → K (a.put o.dst v') w') : o.wp Tryz.prog a w K Q := by
  obtain ⟨v', w', hrun, h2⟩ := run_append_prs t o.type e ht hinfo hzs hown hx0 hx1 hx hy hlen hl63 hbase hB
  unfold Oper.wp execOp
  simp only [ho, resolve, invoke, builtin, Sem.run_bind, Sem.run_pure, Result.andThen_ok, List.map_toArray, List.map_cons, List.map_nil, hs, hxv, hrun]
  exact h v' w' h2
theorem wpList_append_prs {ops : Array Oper} {rest : List Oper} {o : Oper} {a : Act} {Q : Exit → Act → World → Prop} (hgd : o.guard = none) (s x : Operand) (t : TypeId)
    (ho : o.op = .call { callee := .builtin .append, args := #[s, x], argTypes := #[t, t] }) (e : TypeId) (z : Value) (bytes : Nat)
    (ht : Tryz.prog.underlying t = some (.slice e)) (hinfo : (Tryz.prog.info? e).map (fun i => (i.zero, i.size, i.bytes)) = some (some z, 2, bytes)) (hzs : z.cells.size = 2)
    (hs : a.eval s = v) (hown : Prs w lo B e v ls) {b : Nat} (hxv : a.eval x = .slice (some ⟨b, 0, none⟩) 1 1) {x0 y0 : Value} {c : Cel × Cel} (hx0 : w.cell? ⟨b, 0, none⟩ = some x0) (hx1 : w.cell? ⟨b, 1, none⟩ = some y0) (hx : COk w B x0 c.1) (hy : COk w B y0 c.2)
    (hlen : (ls.length + 1) * bytes ≤ 140737488355328) (hl63 : ls.length + 1 ≤ 140737488355328) (hbase : lo ≤ w.heap.size) (hB : B ≤ lo)
    (h : ∀ v' w', PAppended w lo B e v (ls ++ [c]) v' w' → wpList Tryz.prog ops Q rest (a.put o.dst v') w') : wpList Tryz.prog ops Q (o :: rest) a w :=
  wpList_plain hgd fun _ hK => wp_append_prs s x t ho e z bytes ht hinfo hzs hs hown hxv hx0 hx1 hx hy hlen hl63 hbase hB fun v' w' h2 => hK _ _ (h v' w' h2)
theorem step_append_prs {ops : Array Oper} {o : Oper} {a : Act} {K : Act → World → Prop} {Q : Exit → Act → World → Prop} {E : Prop} (hgd : o.guard = none) (s x : Operand) (t : TypeId)
    (ho : o.op = .call { callee := .builtin .append, args := #[s, x], argTypes := #[t, t] }) (e : TypeId) (z : Value) (bytes : Nat)
    (ht : Tryz.prog.underlying t = some (.slice e)) (hinfo : (Tryz.prog.info? e).map (fun i => (i.zero, i.size, i.bytes)) = some (some z, 2, bytes)) (hzs : z.cells.size = 2)
    (hs : a.eval s = v) (hown : Prs w lo B e v ls) {b : Nat} (hxv : a.eval x = .slice (some ⟨b, 0, none⟩) 1 1) {x0 y0 : Value} {c : Cel × Cel} (hx0 : w.cell? ⟨b, 0, none⟩ = some x0) (hx1 : w.cell? ⟨b, 1, none⟩ = some y0) (hx : COk w B x0 c.1) (hy : COk w B y0 c.2)
    (hlen : (ls.length + 1) * bytes ≤ 140737488355328) (hl63 : ls.length + 1 ≤ 140737488355328) (hbase : lo ≤ w.heap.size) (hB : B ≤ lo)
    (h : ∀ v' w', PAppended w lo B e v (ls ++ [c]) v' w' → K (a.put o.dst v') w') :
    if Region.wanted o (yielded ops a.tmps) = true then Oper.wp Tryz.prog o a w K Q else E := by
  have hw : Region.wanted o (yielded ops a.tmps) = true := by simp [Region.wanted, hgd]
  rw [if_pos hw]
  exact wp_append_prs s x t ho e z bytes ht hinfo hzs hs hown hxv hx0 hx1 hx hy hlen hl63 hbase hB h
end

/-- a loop that reads pairs out of the String at block p and appends them to a field of the message in block m -/
structure PLoop (e : TypeId) (B p m : Nat) (T : TypeId) (CS : Value → Array Value) (lo : Nat) (wE : World) (v0 : Value) (x : List UInt8) (v : Value) (ls : List (Cel × Cel)) (wr : World) : Prop where
  sv : Sv wr B p x True
  hm : Blk wr m T (CS v)
  own : Prs wr lo B e v ls
  nx : nextV v0 v wE.heap.size
  up : Upd (p :: m :: v0.ownBlock.toList) wE wr
section
variable {e : TypeId} {B p m lo : Nat} {T : TypeId} {CS : Value → Array Value} {wE wr w2 W2 w3 w4 : World} {v0 v v3 : Value} {x x2 : List UInt8} {ls : List (Cel × Cel)} {c : Cel × Cel}
theorem PLoop.lt (h : PLoop e B p m T CS lo wE v0 x v ls wr) : ∀ g, v.ownBlock = some g → lo ≤ g ∧ g < wr.heap.size := fun _ hg => h.own.ge hg
/-- a round -/
theorem PLoop.step (h : PLoop e B p m T CS lo wE v0 x v ls wr) (hB : B ≤ lo) (hpm : p ≠ m) (hpB : B ≤ p) (hBm : B ≤ m) (he : e ≠ T) (hes : e ≠ 116) (hu2 : Upd [p] wr w2) (hsv : Sv w2 B p x2 True) (hW : Upd [] w2 W2)
    (hap : PAppended W2 lo B e v (ls ++ [c]) v3 w3) (hu4 : Upd [m] w3 w4) (hm4 : Blk w4 m T (CS v3)) : PLoop e B p m T CS lo wE v0 x2 v3 (ls ++ [c]) w4 := by
  obtain ⟨h1, h2, h3⟩ := hap
  have hsv0 := hsv
  obtain ⟨-, pv, hpb, -⟩ := hsv0
  have hmW : Blk W2 m T (CS v) := (h.hm.upd hu2 (by simpa using Ne.symm hpm)).upd hW (by simp)
  have hoW : Prs W2 lo B e v ls := (h.own.upd hu2 (fun g hg hk => by
    obtain ⟨_, qv, hq, _⟩ := h.sv
    have := h.own.ne hq hes g hg
    simp at hk; exact this hk) (by simpa using hpB)).upd hW (by simp) (by simp)
  have hnm : ∀ g, v.ownBlock = some g → g ≠ m := hoW.ne hmW he
  have hnp : ∀ g, v.ownBlock = some g → g ≠ p := hoW.ne (hpb.upd hW (by simp)) hes
  have hlo : ∀ g, v.ownBlock = some g → lo ≤ g := fun g hg => (hoW.ge hg).1
  have hsz : wE.heap.size ≤ W2.heap.size := Nat.le_trans h.up.size (Nat.le_trans hu2.size hW.size)
  have hm3 : Blk w3 m T (CS v) := hmW.upd h2 (fun hk => hnm m (Option.mem_toList.1 hk) rfl)
  refine ⟨((hsv.upd hW (by simp) (by simp)).upd h2 (fun k hk => Nat.le_trans hB (hlo k (Option.mem_toList.1 hk))) (fun hk => hnp p (Option.mem_toList.1 hk) rfl)).upd hu4 (by simpa using hBm) (by simpa using hpm), hm4, h1.upd hu4 (fun g hg hk => ?_) (by simpa using hBm), ?_, ?_⟩
  · have := h1.ne hm3 he g hg
    simp at hk; exact this hk
  · refine h.nx.trans (n' := wE.heap.size) ?_ (Nat.le_refl _)
    rcases h3 with h3 | h3
    · exact .inl h3
    · exact .inr ⟨_, h3, hsz⟩
  · refine (((h.up.trans hu2 (by simp)).trans hW (by simp)).trans h2 (fun k hk => ?_)).trans hu4 (by simp)
    rcases h.nx with hn | ⟨j, hn, hj⟩
    · left; rw [hn] at hk; exact List.mem_cons_of_mem _ (List.mem_cons_of_mem _ hk)
    · right
      rw [hn] at hk
      have : k = j := by simpa using hk
      omega
end
end Go.Proofs.YtaajmfgplhfncaaGreat

/- Texts joined: SpecL, SpecL2, SpecW, SpecO, SpecB, LSt, Block, Block2, Outs, Lists, CqPlain, ListsB, Adds, EePlain, ShPlain, ShMade, Share, ChPlain, EmL, AddVal. -/
import Derived.Deep.RegionLaw
import Derived.Deep.DeepMust
import Derived.Deep.LoopGhost
import Derived.Deep.RegionHeld3
import Derived.Deep.DrawnRows
import Derived.Test.YtaajmfgplhfncaaGreatB05
import Derived.Test.YtaajmfgplhfncaaGreatB03
namespace Go.Proofs.YtaajmfgplhfncaaGreat
open Go.RowKit
set_option maxRecDepth 100000
def LWs (w : World) (base p : Nat) (v : Value) (s : LW) : Prop :=
  base ≤ p ∧ Blk w p 50 #[v, .bool s.bad] ∧
  ∃ us, w.ownsRow base 89 2 v s.l.length (ecells s.l us) ∧ All2 (fun u e => Byt w w.heap.size u e.2 ∧ (e.2 ≠ [] → ∀ g, u.ownBlock = some g → v.ownBlock ≠ some g ∧ g ≠ p)) us s.l
def LWP (w : World) (base p : Nat) (v : Value) (s : LW) (e : Ending) (w' : World) : Prop :=
  e = .returned (.tuple #[]) ∧ ∃ v', LWs w' base p v' s ∧ Upd (p :: v.ownBlock.toList) w w' ∧ (v'.ownBlock = v.ownBlock ∨ ∃ g, v'.ownBlock = some g ∧ w.heap.size ≤ g)
section
variable {w w' : World} {B base p : Nat} {v content : Value} {L : List Ex} {S : List Nat} {s : LW} {xs : List UInt8}
theorem own2_upd {xs : List Value} {n : Nat} (h1 : w.ownsRow base 89 2 v n xs) (hu : Upd S w w') (hs : ∀ g, v.ownBlock = some g → g ∉ S) : w'.ownsRow base 89 2 v n xs := by
  refine ⟨h1.1, ?_⟩
  rcases h1.2 with hn | ⟨g, cap, cur, rfl, hb, hg, rest⟩
  · exact .inl hn
  · exact .inr ⟨g, cap, cur, rfl, hb, (hu.block g (Array.getElem?_eq_some_iff.1 hg).1 (hs g rfl)).trans hg, rest⟩
theorem own2_ne {xs : List Value} {n g : Nat} {t : TypeId} {cs : Array Value} (h : w.ownsRow base 89 2 v n xs) (hb : Blk w g t cs) (hne : 89 ≠ t) : ∀ k, v.ownBlock = some k → k ≠ g := by
  intro k hk
  rcases h.2 with ⟨rfl, _⟩ | ⟨g', cap, cur, rfl, _, hh, _⟩
  · simp [Value.ownBlock] at hk
  · have : g' = k := by simpa [Value.ownBlock] using hk
    subst this
    exact Blk.ne_ (t := 89) hh hb hne
theorem own2_form {xs : List Value} {n : Nat} (h1 : w.ownsRow base 89 2 v n xs) : ∃ A c, v = .slice A n c ∧ n ≤ c ∧ c ≤ 9223372036854775807 := by
  rcases h1.2 with ⟨rfl, rfl⟩ | ⟨g, cap, cur, rfl, hb, hg, hn, hm, _⟩
  · exact ⟨none, 0, rfl, by omega, by omega⟩
  · exact ⟨_, cap, rfl, hn, hm⟩
theorem LWs.upd (h : LWs w base p v s) (hu : Upd [] w w') : LWs w' base p v s := by
  obtain ⟨h1, h2, us, h3, h4⟩ := h
  exact ⟨h1, h2.upd hu (by simp), us, own2_upd h3 hu (by simp), h4.imp fun _ _ hy => ⟨(Row.upd hy.1 hu (by simp)).shrink, hy.2⟩⟩
theorem LWs.exr (h : LWs w base p v s) : Exr w w.heap.size w.heap.size v s.l := by
  obtain ⟨_, _, us, h1, h2'⟩ := h
  have h2 : All2 (fun u e => Byt w w.heap.size u e.2) us s.l := h2'.imp fun _ _ hy => hy.1
  clear h2'
  rcases h1.2 with ⟨rfl, h0⟩ | ⟨g, cap, cur, rfl, hb, hg, hn, hm, hs, ht⟩
  · have : s.l = [] := List.eq_nil_of_length_eq_zero h0
    rw [this]
    exact Exr.nil_ _ _ _
  · refine ⟨some ⟨g, 0, none⟩, cap, us, rfl, hn, hm, fun e => by (cases e), h2, fun _ => ⟨g, 0, rfl, (Array.getElem?_eq_some_iff.1 hg).1, fun j u hu => ?_⟩⟩
    have := h1.cells (g := g) rfl j u hu
    rwa [add_lit] at this
theorem LWs.new (w : World) : LWs (w.alloc (.cells #[.slice none 0 0, .bool false] 50)) w.heap.size w.heap.size (.slice none 0 0) LW.nil :=
  ⟨Nat.le_refl _, Blk.new w _ _, [], World.ownsRow_nil _ _ _ 2, trivial⟩
theorem LWP.after {w1 w2 : World} {v1 : Value} {e : Ending} (hu : Upd (p :: v.ownBlock.toList) w w1) (hv : v1.ownBlock = v.ownBlock ∨ ∃ g, v1.ownBlock = some g ∧ w.heap.size ≤ g)
    (h : LWP w1 base p v1 s e w2) : LWP w base p v s e w2 := by
  obtain ⟨rfl, v2, h1, h2, h3⟩ := h
  refine ⟨rfl, v2, h1, hu.trans h2 ?_, ?_⟩
  · intro x hx
    rcases List.mem_cons.1 hx with hx | hx
    · exact .inl (by simp [hx])
    · rcases hv with hv | ⟨g, hv, hg⟩
      · rw [hv] at hx; exact .inl (by simp at hx ⊢; exact .inr hx)
      · rw [hv] at hx
        have : x = g := by simpa using hx
        exact .inr (by omega)
  · rcases h3 with h3 | ⟨g, h3, hg⟩
    · rw [h3]; exact hv
    · exact .inr ⟨g, h3, Nat.le_trans hu.size hg⟩
theorem step_append_ow {ops : Array Oper} {o : Oper} {a : Act} {K : Act → World → Prop} {Q : Exit → Act → World → Prop} {E : Prop} (hgd : o.guard = none) (x1 x2 : Operand)
    (ho : o.op = .call { callee := .builtin .append, args := #[x1, x2], argTypes := #[31, 31] })
    (hs : a.eval x1 = v) {us : List Value} (hown : w.ownsRow base 89 2 v L.length (ecells L us)) {g : Nat} {u : Value} {k : UInt16} (hx : a.eval x2 = .slice (some ⟨g, 0, none⟩) 1 1)
    (hb : Blk w g 89 #[wv k, u]) (hu1 : u.oneCell' = true) (hul : us.length = L.length) (hlen : L.length + 1 ≤ 4398046511104) (hbase : base ≤ w.heap.size)
    (h : ∀ (v' : Value) (w' : World), (∀ d, w'.ownsRow base 89 2 v' (L ++ [(k, d)]).length (ecells (L ++ [(k, d)]) (us ++ [u]))) → Upd v.ownBlock.toList w w' → (v'.ownBlock = v.ownBlock ∨ v'.ownBlock = some w.heap.size) → K (a.put o.dst v') w') :
    if Region.wanted o (yielded ops a.tmps) = true then Oper.wp Tryz.prog o a w K Q else E := by
  have hw : Region.wanted o (yielded ops a.tmps) = true := by simp [Region.wanted, hgd]
  rw [if_pos hw]
  obtain ⟨i, hi, hz, hsize, hby⟩ := info_parts info_ext
  have hcells : ∀ j u', [wv k, u][j]? = some u' → w.cell? ((⟨g, 0, none⟩ : Addr).add j) = some u' := by
    intro j u' hj
    rw [add_lit, Nat.zero_add, hb.cell]
    simpa using hj
  obtain ⟨v', w', hrun, h3, h4, _, h5⟩ := run_append_own_at (P := Tryz.prog) w base 31 o.type 89 i _ 2 32 Tryz.underlying31 hi hz hsize hby rfl (by omega) v L.length _ hown ⟨g, 0, none⟩ 1 1 [wv k, u] rfl hcells (by
      intro u' hu'
      simp at hu'
      rcases hu' with rfl | rfl
      · rfl
      · exact hu1)
    (by simp only [maxLen]; omega) (by omega) hbase
  unfold Oper.wp execOp
  simp only [ho, resolve, invoke, builtin, Sem.run_bind, Sem.run_pure, Result.andThen_ok, List.map_toArray, List.map_cons, List.map_nil, hs, hx, hrun]
  refine h v' w' (fun d => ?_) (upd_of_grown h4) h5
  rw [List.length_append, ecells_append hul]
  exact h3
theorem add_end {v3 : Value} {w1 w2 w3 : World} {us : List Value} {u : Value} {k : UInt16} {xb : Bool} (h : LWs w base p v s) (hu1 : Upd [] w w1) (hall : All2 (fun u e => Byt w w.heap.size u e.2 ∧ (e.2 ≠ [] → ∀ g, u.ownBlock = some g → v.ownBlock ≠ some g ∧ g ≠ p)) us s.l)
    (hc : Byt w B u xs) (hcn : xs ≠ [] → ∀ g, u.ownBlock = some g → v.ownBlock ≠ some g ∧ g ≠ p)
    (hap : ∀ d, w2.ownsRow base 89 2 v3 (s.l ++ [(k, d)]).length (ecells (s.l ++ [(k, d)]) (us ++ [u]))) (hu2 : Upd v.ownBlock.toList w1 w2) (hv : v3.ownBlock = v.ownBlock ∨ ∃ g, v3.ownBlock = some g ∧ w1.heap.size ≤ g)
    (hw3 : w3 = (w2.setCell ⟨p, 0, none⟩ v3).setCell ⟨p, 1, none⟩ (.bool xb)) : LWP w base p v ⟨s.l ++ [(k, xs)], xb⟩ (.returned (.tuple #[])) w3 := by
  have hpw := h.2.1.lt
  have hnp : ∀ k, v.ownBlock = some k → k ≠ p := by
    obtain ⟨_, hb, us', ho, _⟩ := h
    exact own2_ne ho hb (by decide)
  have hb2 : Blk w2 p 50 #[v, .bool s.bad] := (h.2.1.upd hu1 (by simp)).upd hu2 (fun hm => hnp p (Option.mem_toList.1 hm) rfl)
  have hb3 : Blk w3 p 50 #[v3, .bool xb] := by
    rw [hw3]
    have := (hb2.set_ 0 v3).set_ 1 (.bool xb)
    simpa using this
  have hu3 : Upd [p] w2 w3 := by rw [hw3]; exact ((Upd.refl [p] w2).setCell (by simp) _).setCell (by simp) _
  have hu13 : Upd (p :: v.ownBlock.toList) w w3 := by
    refine ((hu1.mono (S' := p :: v.ownBlock.toList) (by simp)).trans hu2 ?_).trans hu3 (by simp)
    intro x hx
    exact .inl (List.mem_cons_of_mem _ hx)
  have hnp3 : ∀ k, v3.ownBlock = some k → k ≠ p := by
    intro k' hk'
    rcases hv with hv | ⟨gg, hv, hgg⟩
    · rw [hv] at hk'; exact hnp k' hk'
    · rw [hv] at hk'
      have : gg = k' := by simpa using hk'
      have := hu1.size
      omega
  have hkeep : ∀ {u' : Value} {ys : List UInt8} {C : Nat}, Byt w C u' ys → (ys ≠ [] → ∀ g, u'.ownBlock = some g → v.ownBlock ≠ some g ∧ g ≠ p) → Byt w3 w3.heap.size u' ys ∧ (ys ≠ [] → ∀ g, u'.ownBlock = some g → v3.ownBlock ≠ some g ∧ g ≠ p) := by
    intro u' ys C hy hn
    by_cases hys : ys = []
    · subst hys
      obtain ⟨A, c, e, h1, h2, h3, _⟩ := hy
      exact ⟨⟨A, c, e, h1, h2, h3, fun h => absurd rfl h⟩, fun h => absurd rfl h⟩
    · have hn := hn hys
      refine ⟨(Row.apart hy hu13 fun g hg hm => ?_).shrink, fun _ g hg => ⟨fun h3 => ?_, (hn g hg).2⟩⟩
      · rcases List.mem_cons.1 hm with hm | hm
        · exact (hn g hg).2 hm
        · exact (hn g hg).1 (Option.mem_toList.1 hm)
      · rcases hv with hv | ⟨gg, hv, hgg⟩
        · rw [hv] at h3; exact (hn g hg).1 h3
        · rw [hv] at h3
          have h3 : gg = g := by simpa using h3
          obtain ⟨A, c, rfl, _, _, h0, h4⟩ := hy.shrink
          obtain ⟨b, o, rfl, hb, _⟩ := h4 (by simpa using hys)
          have : b = g := by simpa [Value.ownBlock] using hg
          have := hu1.size
          omega
  refine ⟨rfl, v3, ⟨h.1, hb3, us ++ [u], own2_upd (hap xs) hu3 (fun g hg hm => hnp3 g hg (by simpa using hm)), ?_⟩, hu13, ?_⟩
  · refine All2.append (hall.imp fun u' e hy => hkeep hy.1 hy.2) ⟨hkeep hc hcn, trivial⟩
  · rcases hv with hv | ⟨gg, hv, hgg⟩
    · exact .inl hv
    · exact .inr ⟨_, hv, Nat.le_trans hu1.size hgg⟩
end
end Go.Proofs.YtaajmfgplhfncaaGreat
namespace Go.Proofs.YtaajmfgplhfncaaGreat
open Go.RowKit
set_option maxRecDepth 100000
section
variable {w w' : World} {B base p : Nat} {v content : Value} {L : List Ex} {S : List Nat} {s : LW} {xs : List UInt8}
set_option maxHeartbeats 2000000 in
theorem add_ex_any (h : LWs w base p v s) (is : Bool) (k : UInt16) (hc : Byt w B content xs) (hcn : is = true → xs ≠ [] → ∀ g, content.ownBlock = some g → v.ownBlock ≠ some g ∧ g ≠ p) (xb : Bool) (hl : s.l.length ≤ 1000) :
    Calls Tryz.prog 22 #[.pointer (some ⟨p, 0, none⟩), .bool is, wv k, .agg #[content, .bool xb]] w (LWP w base p v (s.add is k ⟨xs, xb⟩)) := by
  obtain ⟨Ac, cc, rfl, hc, -⟩ := Byt.form hc rfl
  have h0 := h
  obtain ⟨hbp, hbk, us, hown, hall⟩ := h
  obtain ⟨Av, cv, rfl, hvl, hvc⟩ := own2_form hown
  have hul : us.length = s.l.length := hall.length
  have hpl := hbk.lt
  cases is
  · go_enter Tryz.func22, Tryz.ntmps22
    go_wp2
    go_end0
    exact ⟨rfl, _, h0.upd ((Upd.refl [] w).alloc _), (Upd.refl _ w).alloc _, .inl rfl⟩
  · have hcn := hcn rfl
    obtain ⟨w1, hw1⟩ : ∃ w1, w.alloc (.cells #[.slice Ac xs.length cc, .bool xb] 53) = w1 := ⟨_, rfl⟩
    obtain ⟨q, hq⟩ : ∃ q, w.heap.size = q := ⟨_, rfl⟩
    have hu1 : Upd [] w w1 := by rw [← hw1]; exact (Upd.refl _ _).alloc _
    have hbq : Blk w1 q 53 #[.slice Ac xs.length cc, .bool xb] := by rw [← hw1, ← hq]; exact Blk.new _ _ _
    have hb1 := hbk.upd hu1 (by simp)
    have hown1 := own2_upd hown hu1 (by simp)
    have hq1 : q < w1.heap.size := hbq.lt
    have hpq : p < q := by omega
    have hbase : base ≤ w1.heap.size := by omega
    have c0 := hb1.cell 0
    have c1 := hb1.cell 1
    have f0 := hb1.frozen 0
    have f1 := hb1.frozen 1
    have d0 := hbq.cell 0
    have d1 := hbq.cell 1
    simp at c0 c1 d0 d1
    have hpn : p ∉ (Value.slice Av s.l.length cv).ownBlock.toList := fun hm => own2_ne hown hbk (by decide) _ (Option.mem_toList.1 hm) rfl
    have hqn : q ∉ (Value.slice Av s.l.length cv).ownBlock.toList := fun hm => own2_ne hown1 hbq (by decide) _ (Option.mem_toList.1 hm) rfl
    have a0 := (hb1.alloc (.cells #[wv k, .slice Ac xs.length cc] 89)).cell 0
    have a1 := (hbq.alloc (.cells #[wv k, .slice Ac xs.length cc] 89)).cell 0
    simp at a0 a1
    have npq : ¬ p = q := by omega
    have nqp : ¬ q = p := by omega
    have HW := hid hw1
    have HQ := hid hq
    have HH := hid h0
    have HA := hid hall
    have HC := hid hc
    have HN := hid hcn
    have HU := hid hul
    clear hw1 hq h0 hall hc hcn hul hown hbk
    cases hsb : s.bad
    all_goals
      rw [hsb] at c1 hb1
      have HB := hid hsb
      clear hsb
      go_enter Tryz.func22, Tryz.ntmps22
      go_wp2_with fail
      rw [HW.out, HQ.out]
      go_wp2_with fail
      go_region_law (first | (refine step_append_ow rfl _ _ rfl rfl (own2_upd hown1 (((Upd.refl [] _).alloc _).drew) (by simp)) rfl (Blk.drew (Blk.new w1 89 #[wv k, .slice Ac xs.length cc])) rfl HU.out (by omega) (by simp; omega) ?_; intro v3 w3 hap hu3 hv3; have hb3 := ((hb1.alloc (.cells #[wv k, .slice Ac xs.length cc] 89)).drew).upd hu3 hpn; have e0 := hb3.cell 0; have e1 := hb3.cell 1; simp at e0 e1; have g0 := hb3.frozen 0; have g1 := hb3.frozen 1; have hq3 := ((hbq.alloc (.cells #[wv k, .slice Ac xs.length cc] 89)).drew).upd hu3 hqn; have k1 := hq3.cell 1; simp at k1; obtain ⟨A3, c3', hv3', -, -⟩ := own2_form (hap xs); subst hv3'))
      all_goals
        go_wp2
        go_end0
        rw [LW.add_true, HB.out]
        exact add_end HH.out hu1 HA.out HC.out HN.out hap (((Upd.refl _ w1).alloc _).drew.trans hu3 (fun _ hx => .inl hx)) (hv3.imp_right fun h => ⟨_, h, by simp⟩) (by simp only [List.length_append, List.length_singleton, Bool.false_or, Bool.true_or])
end
end Go.Proofs.YtaajmfgplhfncaaGreat
namespace Go.Proofs.YtaajmfgplhfncaaGreat
open Go.RowKit
set_option maxRecDepth 100000
section
variable {w w' w0 : World} {B : Nat} {v content : Value} {xs : List UInt8} {x : Wr} {e : Ending} {ls : List (List UInt8)} {L : List Ex}
theorem WValP.from (hu : Upd [] w w0) (h : WValP w0 x e w') : WValP w x e w' := by
  obtain ⟨v, rfl, h1, h2, h3, h4⟩ := h
  exact ⟨v, rfl, h1, fun k hk => Nat.le_trans hu.size (h2 k hk), h3, hu.trans h4 (by simp)⟩
set_option maxHeartbeats 1000000 in
theorem vector_any1 (hc : Byt w B content xs) (xb : Bool) (hx : xs.length ≤ 1099511627776) :
    Calls Tryz.prog 23 #[.int .i64 1, .agg #[content, .bool xb]] w (WValP w (Wr.vector 1 ⟨xs, xb⟩)) := by
  obtain ⟨A, c, rfl, hc, -⟩ := Byt.form hc rfl
  obtain ⟨wb, hwb⟩ : ∃ wb, w.alloc (.cells #[.slice A xs.length c, .bool xb] 53) = wb := ⟨_, rfl⟩
  have hub : Upd [] w wb := by rw [← hwb]; exact (Upd.refl _ _).alloc _
  have hbk : Blk wb w.heap.size 53 #[.slice A xs.length c, .bool xb] := by rw [← hwb]; exact Blk.new _ _ _
  have hcb : Byt wb wb.heap.size (.slice A xs.length c) xs := (Row.upd hc.shrink hub (by simp)).shrink
  have hm0 := WMid.start wb
  have hb1 := hbk.upd (W1_upd wb) (by simp)
  have d0 := hb1.cell 0
  have d1 := hb1.cell 1
  simp at d0 d1
  obtain ⟨v0, k0, hv0⟩ := hm0.open_
  have hsz : wb.heap.size = w.heap.size + 1 := by rw [← hwb]; simp
  have hn := winner_any1 k0 (hm0.src hcb v0) xb (by simp [Wr.nil]) hx
  rw [hsz] at hn
  have HN := hid hn
  have HS := hid hsz
  have HW := hid hwb
  clear hn hsz
  clear hwb hx
  go_enter Tryz.func23, Tryz.ntmps23
  go_wp2_with fail
  rw [HW.out, W1_eq]
  go_wp2_with fail
  refine HN.out.mono ?_
  intro e w2 hp2
  rw [← HS.out] at hp2
  obtain ⟨rfl, hm2⟩ := hm0.next hv0 hp2
  obtain ⟨A2, n2, c2, c0, c1, d0, d1, g0, g1, e0, e1, hend⟩ := hm2.fin
  rw [HS.out] at c0 c1 d0 d1 g0 g1 e0 e1 hend
  go_wp2
  exact bodyPost_ret (v := .agg #[.slice A2 n2 c2, .bool _]) (by simp [results, Tryz.results23, go_sem, e0, e1]) rfl (hend.from hub)
set_option maxHeartbeats 1000000 in
theorem vector_any2 (hc : Byt w B content xs) (xb : Bool) (hx : xs.length ≤ 1099511627776) :
    Calls Tryz.prog 23 #[.int .i64 2, .agg #[content, .bool xb]] w (WValP w (Wr.vector 2 ⟨xs, xb⟩)) := by
  obtain ⟨A, c, rfl, hc, -⟩ := Byt.form hc rfl
  obtain ⟨wb, hwb⟩ : ∃ wb, w.alloc (.cells #[.slice A xs.length c, .bool xb] 53) = wb := ⟨_, rfl⟩
  have hub : Upd [] w wb := by rw [← hwb]; exact (Upd.refl _ _).alloc _
  have hbk : Blk wb w.heap.size 53 #[.slice A xs.length c, .bool xb] := by rw [← hwb]; exact Blk.new _ _ _
  have hcb : Byt wb wb.heap.size (.slice A xs.length c) xs := (Row.upd hc.shrink hub (by simp)).shrink
  have hm0 := WMid.start wb
  have hb1 := hbk.upd (W1_upd wb) (by simp)
  have d0 := hb1.cell 0
  have d1 := hb1.cell 1
  simp at d0 d1
  obtain ⟨v0, k0, hv0⟩ := hm0.open_
  have hsz : wb.heap.size = w.heap.size + 1 := by rw [← hwb]; simp
  have hn := winner_any2 k0 (hm0.src hcb v0) xb (by simp [Wr.nil]) hx
  rw [hsz] at hn
  have HN := hid hn
  have HS := hid hsz
  have HW := hid hwb
  clear hn hsz
  clear hwb hx
  go_enter Tryz.func23, Tryz.ntmps23
  go_wp2_with fail
  rw [HW.out, W1_eq]
  go_wp2_with fail
  refine HN.out.mono ?_
  intro e w2 hp2
  rw [← HS.out] at hp2
  obtain ⟨rfl, hm2⟩ := hm0.next hv0 hp2
  obtain ⟨A2, n2, c2, c0, c1, d0, d1, g0, g1, e0, e1, hend⟩ := hm2.fin
  rw [HS.out] at c0 c1 d0 d1 g0 g1 e0 e1 hend
  go_wp2
  exact bodyPost_ret (v := .agg #[.slice A2 n2 c2, .bool _]) (by simp [results, Tryz.results23, go_sem, e0, e1]) rfl (hend.from hub)
def vecsB (size : Nat) (ls : List (List UInt8)) : List UInt8 := ls.flatMap fun x => be size x.length ++ x
def vecsBad (size : Nat) (ls : List (List UInt8)) : Bool := ls.any fun x => decide (256 ^ size ≤ x.length)
def vecsW (size : Nat) (ls : List (List UInt8)) : Wr := ⟨vecsB size ls, vecsBad size ls⟩
theorem vecsW_snoc (size : Nat) (ls : List (List UInt8)) (x : List UInt8) : (vecsW size ls).vec size x = vecsW size (ls ++ [x]) := by
  simp [vecsW, vecsB, vecsBad, Wr.vec]
theorem vecsB_take (size : Nat) (ls : List (List UInt8)) (k : Nat) : (vecsB size (ls.take k)).length ≤ (vecsB size ls).length := by
  have : vecsB size ls = vecsB size (ls.take k) ++ vecsB size (ls.drop k) := by
    unfold vecsB
    rw [← List.flatMap_append, List.take_append_drop]
  rw [this, List.length_append]
  omega
theorem vecsB_snoc (size : Nat) (l : List (List UInt8)) (x : List UInt8) : vecsB size (l ++ [x]) = vecsB size l ++ (be size x.length ++ x) := by simp [vecsB]
theorem vecsB_get (size : Nat) (ls : List (List UInt8)) (k : Nat) (h : k < ls.length) : ls[k].length ≤ (vecsB size ls).length := by
  have h1 := vecsB_take size ls (k + 1)
  rw [List.take_succ_eq_append_getElem h, vecsB_snoc, List.length_append, List.length_append] at h1
  omega
set_option maxHeartbeats 1000000 in
theorem vectors_any_w (size : Nat) (hsz : size = 1 ∨ size = 2 ∨ size = 3) (hc : Lst w B content ls) (hx : (vecsB size ls).length ≤ 1099511627776) :
    Calls Tryz.prog 28 #[.int .i64 size, content] w (WValP w (vecsW size ls)) := by
  have hm0 := WMid.start w
  have HX := hid hx
  obtain ⟨A, c, rfl, hcr, hlc, hm⟩ := hc.shrink.form
  clear hx hc
  go_enter Tryz.func28, Tryz.ntmps28
  go_wp2_with fail
  rw [W1_eq]
  go_loopg [7, 10] ls.length (fun gk _ i wr => ∃ j : Nat, j + gk = ls.length ∧ i = .int .i64 j ∧ WMid w (vecsW size (ls.take j)) wr)
  case atStart => exact ⟨0, by omega, rfl, by simpa [vecsW, vecsB, vecsBad, Wr.nil] using hm0⟩
  case round =>
    obtain ⟨j, hj0, rfl, hmr⟩ := hrel
    have hj : j ≤ ls.length := by omega
    have HJ := hid hj0
    clear hj0
    by_cases hlt : j < ls.length
    · have hcw := hcr.upd hmr.upd (by simp)
      obtain ⟨b, o, rfl, hb, hj', A', c', hcell, hy, hl1, hl2⟩ := hcw.at_ hlt
      obtain ⟨vr, kr, hvr⟩ := hmr.open_
      have hlen : (vecsW size (ls.take j)).b.length ≤ 17592186044416 := by
        have h1 := HX.out
        have h2 := vecsB_take size ls j
        show (vecsB size _).length ≤ _
        omega
      have hxl : (ls[j]).length ≤ 1099511627776 := Nat.le_trans (vecsB_get size ls j hlt) HX.out
      have HN : Hid (Calls Tryz.prog 33 #[.pointer (some ⟨w.heap.size + 1, 0, none⟩), .int .i64 size, .slice A' (ls[j]).length c'] wr (WrtP wr (w.heap.size + 1) (w.heap.size + 1) vr ((vecsW size (ls.take j)).vec size ls[j]))) := by
        rcases hsz with rfl | rfl | rfl
        · exact hid (wvec_any1 kr ⟨_, hy, .inl (by omega)⟩ hlen hxl)
        · exact hid (wvec_any2 kr ⟨_, hy, .inl (by omega)⟩ hlen hxl)
        · exact hid (wvec_any3 kr ⟨_, hy, .inl (by omega)⟩ hlen hxl)
      have HS := hid (show (vecsW size (ls.take j)).vec size ls[j] = vecsW size (ls.take (j + 1)) by
        rw [List.take_succ_eq_append_getElem hlt, vecsW_snoc])
      clear hlen hxl
      go_wp2_with fail
      refine HN.out.mono ?_
      intro e w2 hp2
      rw [HS.out] at hp2
      obtain ⟨rfl, hm2⟩ := hmr.next hvr hp2
      go_wp2
      have hj0 := HJ.out
      go_roundg (ls.length - (j + 1))
      case measure => omega
      case rel => exact ⟨j + 1, by omega, by go_num, hm2⟩
    · obtain rfl : j = ls.length := by omega
      rw [List.take_length] at hmr
      obtain ⟨A4, n4, c4, c0, c1, d0, d1, g0, g1, e0, e1, hend⟩ := hmr.fin
      go_wp2
      exact bodyPost_ret (v := .agg #[.slice A4 n4 c4, .bool _]) (by simp [results, Tryz.results28, go_sem, e0, e1]) rfl hend
theorem exsB_take (L : List Ex) (k : Nat) : (exsB (L.take k)).length ≤ (exsB L).length := by
  have : exsB L = exsB (L.take k) ++ exsB (L.drop k) := by rw [← exsB_append, List.take_append_drop]
  rw [this, List.length_append]
  omega
theorem exsB_get (L : List Ex) (k : Nat) (h : k < L.length) : (exsB (L.take k)).length + (4 + (L[k]).2.length) ≤ (exsB L).length := by
  have h1 := exsB_take L (k + 1)
  rw [List.take_succ_eq_append_getElem h, exsB_append, List.length_append] at h1
  have h2 : exsB [L[k]] = exB L[k] := by simp [exsB]
  rw [h2, exB_len] at h1
  omega
theorem exs_snoc (L : List Ex) (e : Ex) : ((Wr.mk (exsB L) (exsBad L)).num 2 e.1.toNat).vec 2 e.2 = ⟨exsB (L ++ [e]), exsBad (L ++ [e])⟩ := by
  simp [exsB, exsBad, Wr.vec, Wr.num, exB]
theorem wval_put {r0 : Nat} {w2 : World} {v4 u0 u1 : Value} (hr0 : w.heap.size ≤ r0) (hb2 : Blk w2 r0 53 #[u0, u1]) (hy : Byt w2 w2.heap.size v4 x.b) (hn : NewFrom w.heap.size v4) (hne : ∀ g, v4.ownBlock = some g → g ≠ r0) (hs : isSlice v4) (hu : Upd [] w w2) :
    Blk ((w2.setCell ⟨r0, 0, none⟩ v4).setCell ⟨r0, 1, none⟩ (.bool x.bad)) r0 53 #[v4, .bool x.bad] ∧
    WValP w x (.returned (.agg #[v4, .bool x.bad])) ((w2.setCell ⟨r0, 0, none⟩ v4).setCell ⟨r0, 1, none⟩ (.bool x.bad)) := by
  have hu1 : Upd [r0] w2 ((w2.setCell ⟨r0, 0, none⟩ v4).setCell ⟨r0, 1, none⟩ (.bool x.bad)) := ((Upd.refl _ _).setCell (by simp) _).setCell (by simp) _
  refine ⟨?_, v4, rfl, (Row.apart hy hu1 (fun g hg hm => hne g hg (by simpa using hm))).shrink, hn, hs, hu.trans hu1 (by simp; omega)⟩
  have := (hb2.set_ 0 v4).set_ 1 (.bool x.bad)
  simpa using this
set_option maxHeartbeats 2000000 in
theorem extensions_any_w {N : Nat} (hc : Exr w B N content L) (hx : (exsB L).length ≤ 1099511627776) :
    Calls Tryz.prog 35 #[content] w (WValP w (exsW L)) := by
  have hm0 := WMid.start w
  have HX := hid hx
  obtain ⟨A, c, rfl, hcr, hlc, hm⟩ := hc.shrink.form
  clear hx hc
  go_enter Tryz.func35, Tryz.ntmps35
  go_wp2_with fail
  rw [W1_eq]
  go_loopg [8] L.length (fun gk i wr => ∃ j : Nat, j + gk = L.length ∧ i = .int .i64 j ∧ WMid w ⟨exsB (L.take j), exsBad (L.take j)⟩ wr)
  case atStart => exact ⟨0, by omega, rfl, by simpa [exsB, exsBad, Wr.nil] using hm0⟩
  case round =>
    obtain ⟨j, hj0, rfl, hmr⟩ := hrel
    have hj : j ≤ L.length := by omega
    have HJ := hid hj0
    clear hj0
    by_cases hlt : j < L.length
    · have hcw := hcr.upd hmr.upd (by simp)
      obtain ⟨b, o, rfl, hb, hj', A', c', hk0, hk1, hy, hl1, hl2⟩ := hcw.at_ hlt
      have hget := exsB_get L j hlt
      have HS := hid (show ((Wr.mk (exsB (L.take j)) (exsBad (L.take j))).num 2 L[j].1.toNat).vec 2 L[j].2 = ⟨exsB (L.take (j + 1)), exsBad (L.take (j + 1))⟩ by
        rw [List.take_succ_eq_append_getElem hlt, exs_snoc])
      generalize L[j] = ej at hk0 hk1 hy hl1 hl2 hget HS
      obtain ⟨w1, hw1⟩ : ∃ w1, wr.alloc (.cells #[wv ej.1, .slice A' ej.2.length c'] 89) = w1 := ⟨_, rfl⟩
      obtain ⟨g, hg⟩ : ∃ g, wr.heap.size = g := ⟨_, rfl⟩
      have hu1 : Upd [] wr w1 := by rw [← hw1]; exact (Upd.refl _ _).alloc _
      have hbg : Blk w1 g 89 #[wv ej.1, .slice A' ej.2.length c'] := by rw [← hw1, ← hg]; exact Blk.new _ _ _
      have d0 := hbg.cell 0
      have d1 := hbg.cell 1
      simp at d0 d1
      have hm1 : WMid w ⟨exsB (L.take j), exsBad (L.take j)⟩ w1 := by
        obtain ⟨he, v', h1, h2, h3⟩ := hmr
        exact ⟨he, v', h1.upd hu1 (by simp) (by simp), h2.trans hu1 (by simp), h3⟩
      obtain ⟨vr, kr, hvr⟩ := hm1.open_
      have hlen : (Wr.mk (exsB (L.take j)) (exsBad (L.take j))).b.length ≤ 17592186044416 := by
        have h1 := HX.out
        show (exsB _).length ≤ _
        omega
      have HN := hid (wnum_any kr 2 ej.1.toNat (by omega) hlen)
      have hkn := ej.1.toNat_lt
      have HG := hid hget
      have HW := hid hw1
      have Hg := hid hg
      clear hlen hget hw1 hg
      go_wp2_with fail
      rw [HW.out, Hg.out]
      go_wp2_with fail
      refine HN.out.mono ?_
      intro e w2 hp2
      have hu2 : Upd ((w.heap.size + 1) :: vr.ownBlock.toList) w1 w2 := hp2.2.choose_spec.2.1
      obtain ⟨rfl, hm2⟩ := hm1.next hvr hp2
      have hgn : g ∉ (w.heap.size + 1) :: vr.ownBlock.toList := by
        intro hm
        rcases List.mem_cons.1 hm with hm | hm
        · obtain ⟨_, _, hkb, _⟩ := hmr.open_
          have := kr.2.1.ne_ hbg (by decide)
          omega
        · exact kr.2.2.ne hbg (by decide) _ (Option.mem_toList.1 hm) rfl
      have hb2 := hbg.upd hu2 hgn
      have e0 := hb2.cell 1
      simp at e0
      have hy2 : Byt w2 w.heap.size (.slice A' ej.2.length c') ej.2 := by
        refine Row.upd (Row.upd hy hu1 (by simp)) hu2 fun x hx => ?_
        rcases List.mem_cons.1 hx with hx | hx
        · omega
        · have := (kr.2.2.ge (Option.mem_toList.1 hx)).1
          omega
      obtain ⟨v2, k2, hv2⟩ := hm2.open_
      have HV := hid (wvec_any2 k2 ⟨_, hy2, .inl (by omega)⟩ (by have h1 := HX.out; have h2 := HG.out; simp only [Wr.num, List.length_append, be_len]; omega) (by have h1 := HX.out; have h2 := HG.out; omega))
      go_wp2_with fail
      refine HV.out.mono ?_
      intro e w3 hp3
      rw [HS.out] at hp3
      obtain ⟨rfl, hm3⟩ := hm2.next hv2 hp3
      go_wp2
      have hj0 := HJ.out
      go_roundg (L.length - (j + 1))
      case measure => omega
      case rel => exact ⟨j + 1, by omega, by go_num, hm3⟩
    · obtain rfl : j = L.length := by omega
      rw [List.take_length] at hmr
      obtain ⟨A4, n4, c4, c0, c1, d0, d1, g0, g1, -, -, -⟩ := hmr.fin
      obtain ⟨vr, kr, hvr⟩ := hmr.open_
      have hvs : vr = .slice A4 n4 c4 := by
        have := kr.2.1.cell 0
        rw [this] at c0
        simpa using c0
      subst hvs
      have HV := hid (vector_any2 kr.2.2.row (exsBad L) HX.out)
      have hb0 : Blk wr w.heap.size 53 #[.slice none 0 0, .bool false] := (W1_res w).upd hvr.1 (by simp [Value.ownBlock])
      have HR := hid hb0
      go_wp2_with fail
      refine HV.out.mono ?_
      rintro e w2 ⟨v4, rfl, hy4, hn4, ⟨A5, n5, c5, rfl⟩, hu4⟩
      have hb2 := HR.out.upd hu4 (by simp)
      have huw : Upd [] w w2 := hmr.upd.trans hu4 (by simp)
      have hsz := hmr.upd.size
      obtain ⟨hfb, hfin⟩ := wval_put (w := w) (x := Wr.vector 2 ⟨exsB L, exsBad L⟩) (Nat.le_refl _) hb2 hy4 (fun k hk => Nat.le_trans hsz (hn4 k hk)) (fun g hg => by have := hn4 g hg; have := HR.out.lt; omega) ⟨_, _, _, rfl⟩ huw
      have e0 := hfb.cell 0
      have e1 := hfb.cell 1
      simp at e0 e1
      have k0 := hb2.cell 0
      have k1 := hb2.cell 1
      simp at k0 k1
      have f0 := hb2.frozen 0
      have f1 := hb2.frozen 1
      go_wp2
      exact bodyPost_ret (v := .agg #[.slice A5 n5 c5, .bool _]) (by simp [results, Tryz.results35, go_sem, e0, e1]) rfl hfin
end
end Go.Proofs.YtaajmfgplhfncaaGreat
namespace Go.Proofs.YtaajmfgplhfncaaGreat
open Go.RowKit
set_option maxRecDepth 100000
section
variable {w w' w0 wr : World} {B C N base : Nat} {v v7 v8 v9 content : Value} {xs ys : List UInt8} {e : Ending} {ls : List (List UInt8)} {L : List Ex}
def FitsP (w : World) (p : Prop) (e : Ending) (w' : World) : Prop := ∃ b : Bool, e = .returned (.bool b) ∧ Upd [] w w' ∧ (b = true → p)
set_option maxHeartbeats 1000000 in
theorem zzFits2_any (hc : Lst w B content ls) : Calls Tryz.prog 18 #[content] w (FitsP w (ls.length ≤ 2147483647 ∧ ∀ x ∈ ls, x.length ≤ 2147483647)) := by
  obtain ⟨A, c, rfl, hcr, hlc, hm⟩ := hc.shrink.form
  by_cases hl : 2147483647 < ls.length
  · have hb : decide ((2147483647 : Int) < (ls.length : Int)) = true := decide_eq_true (by omega)
    clear hl
    go_enter Tryz.func18, Tryz.ntmps18
    go_wp2
    go_ret
    exact ⟨false, rfl, Upd.refl _ _, fun h => (by cases h)⟩
  · have hb : decide ((2147483647 : Int) < (ls.length : Int)) = false := decide_eq_false (by omega)
    go_enter Tryz.func18, Tryz.ntmps18
    go_wp2
    go_loopg [4, 10] ls.length (fun gk _ i wr => ∃ j : Nat, j + gk = ls.length ∧ i = .int .i64 j ∧ Upd [] w wr ∧ ∀ x ∈ ls.take j, x.length ≤ 2147483647)
    case atStart => exact ⟨0, by omega, rfl, Upd.refl _ _, by simp⟩
    case round =>
      obtain ⟨j, hj0, rfl, hur, hall⟩ := hrel
      have HJ := hid hj0
      have HA := hid hall
      have hj : j ≤ ls.length := by omega
      clear hj0 hall
      by_cases hlt : j < ls.length
      · have hcw := hcr.upd hur (by simp)
        obtain ⟨b, o, rfl, hb', hj', A', c', hcell, hy, hl1, hl2⟩ := hcw.at_ hlt
        by_cases hx : 2147483647 < (ls[j]).length
        · have hx' : decide ((2147483647 : Int) < ((ls[j]).length : Int)) = true := decide_eq_true (by omega)
          clear hx
          go_wp2
          go_ret
          exact ⟨false, rfl, hur, fun h => (by cases h)⟩
        · have hx' : decide ((2147483647 : Int) < ((ls[j]).length : Int)) = false := decide_eq_false (by omega)
          have Hx := hid hx
          clear hx
          go_wp2
          have hj0 := HJ.out
          go_roundg (ls.length - (j + 1))
          case measure => omega
          case rel =>
            refine ⟨j + 1, by omega, by go_num, hur, ?_⟩
            intro x hx
            rw [List.take_succ_eq_append_getElem hlt] at hx
            rcases List.mem_append.1 hx with hx | hx
            · exact HA.out x hx
            · simp at hx; rw [hx]; have := Hx.out; omega
      · obtain rfl : j = ls.length := by omega
        go_wp2
        go_ret
        refine ⟨true, rfl, hur, fun _ => ⟨by omega, ?_⟩⟩
        have := HA.out
        rwa [List.take_length] at this
structure OSt (w : World) (v7 v8 v9 : Value) (O T K : List Ex) (wr : World) : Prop where
  a7 : EOwn wr w.heap.size w.heap.size v7 O
  a8 : EOwn wr w.heap.size w.heap.size v8 T
  a9 : EOwn wr w.heap.size w.heap.size v9 K
  n78 : ∀ g, v7.ownBlock = some g → v8.ownBlock ≠ some g
  n79 : ∀ g, v7.ownBlock = some g → v9.ownBlock ≠ some g
  n89 : ∀ g, v8.ownBlock = some g → v9.ownBlock ≠ some g
  u : Upd [] w wr
theorem OSt.out {O T K O' : List Ex} {v' : Value} {o : Obj} {w3 : World} (h : OSt w v7 v8 v9 O T K wr) (hap : EAppended (wr.alloc o) w.heap.size w.heap.size v7 O' v' w3) : OSt w v' v8 v9 O' T K w3 := by
  obtain ⟨h1, h2, h3⟩ := hap.one
  have hN : ∀ x ∈ v7.ownBlock.toList, w.heap.size ≤ x := fun x hx => (h.a7.ge (Option.mem_toList.1 hx)).1
  refine ⟨h1, h.a8.upd h2 (fun g hg hm => h.n78 g (Option.mem_toList.1 hm) hg) hN, h.a9.upd h2 (fun g hg hm => h.n79 g (Option.mem_toList.1 hm) hg) hN, ?_, ?_, h.n89, h.u.trans h2 fun x hx => .inr (hN x hx)⟩
  · intro g hg h8
    rcases h3 with h3 | ⟨g', h3, hg'⟩
    · rw [h3] at hg; exact h.n78 g hg h8
    · rw [h3] at hg
      have : g' = g := by simpa using hg
      have := (h.a8.ge h8).2
      omega
  · intro g hg h9
    rcases h3 with h3 | ⟨g', h3, hg'⟩
    · rw [h3] at hg; exact h.n79 g hg h9
    · rw [h3] at hg
      have : g' = g := by simpa using hg
      have := (h.a9.ge h9).2
      omega
theorem OSt.alloc {O T K : List Ex} (h : OSt w v7 v8 v9 O T K wr) (o : Obj) : OSt w v7 v8 v9 O T K (wr.alloc o) := by
  have hu := (Upd.refl [] wr).alloc o
  exact ⟨h.a7.upd hu (by simp) (by simp), h.a8.upd hu (by simp) (by simp), h.a9.upd hu (by simp) (by simp), h.n78, h.n79, h.n89, h.u.trans hu (by simp)⟩
end
end Go.Proofs.YtaajmfgplhfncaaGreat
namespace Go.Proofs.YtaajmfgplhfncaaGreat
open Go.RowKit
set_option maxRecDepth 100000
attribute [local go_sem ↓] Go.wp_at_zero Go.wp_at_succ
section
variable {w w' w0 : World} {B C : Nat} {v a1 a2 : Value} {xs ys : List UInt8} {e : Ending}
theorem alloc_size (w : World) (o : Obj) : (w.alloc o).heap.size = w.heap.size + 1 := by simp
theorem own_empty (w : World) (base : Nat) (e : TypeId) (hb : base ≤ w.heap.size) : Own (w.alloc (.cells #[] e)) base e (.slice (some ⟨w.heap.size, 0, none⟩) 0 0) [] :=
  ⟨rfl, .inr ⟨w.heap.size, 0, #[], rfl, hb, heap_alloc_new w _, Nat.le_refl _, Nat.zero_le _, rfl, rfl⟩⟩
theorem beh_keep {W : World} {g : Nat} {a b c d x y : Value} (h0 : Blk W g 53 #[a, b]) (h1 : Blk W (g + 1) 53 #[c, d]) (h2 : Blk W (g + 1 + 1) 53 #[x, y]) :
    W.cell? ⟨g, 0, none⟩ = some a ∧ W.cell? ⟨g, 1, none⟩ = some b ∧ W.cell? ⟨g + 1, 0, none⟩ = some c ∧ W.cell? ⟨g + 1, 1, none⟩ = some d ∧ W.cell? ⟨g + 1 + 1, 0, none⟩ = some x ∧ W.cell? ⟨g + 1 + 1, 1, none⟩ = some y ∧ W.frozen? ⟨g + 1 + 1, 0, none⟩ = false ∧ W.frozen? ⟨g + 1 + 1, 1, none⟩ = false :=
  ⟨h0.cell 0, h0.cell 1, h1.cell 0, h1.cell 1, h2.cell 0, h2.cell 1, h2.frozen 0, h2.frozen 1⟩
def behindW (x y : Wr) : Wr := ⟨x.b ++ y.b, x.bad || y.bad⟩
set_option maxHeartbeats 2000000 in
theorem behind_any (ha : Byt w B a1 xs) (hb : Byt w C a2 ys) (p q : Bool) (hx : xs.length ≤ 1099511627776) (hy : ys.length ≤ 1099511627776) :
    Calls Tryz.prog 30 #[.agg #[a1, .bool p], .agg #[a2, .bool q]] w (WValP w (behindW ⟨xs, p⟩ ⟨ys, q⟩)) := by
  obtain ⟨A1, c1, rfl, ha, -⟩ := Byt.form ha.shrink rfl
  obtain ⟨A2, c2, rfl, hb, -⟩ := Byt.form hb.shrink rfl
  obtain ⟨wn, hwn⟩ : ∃ wn, ((w.alloc (.cells #[.slice A1 xs.length c1, .bool p] 53)).alloc (.cells #[.slice A2 ys.length c2, .bool q] 53)).alloc (.cells #[.slice none 0 0, .bool false] 53) = wn := ⟨_, rfl⟩
  obtain ⟨g, hg⟩ : ∃ g, w.heap.size = g := ⟨_, rfl⟩
  have hun : Upd [] w wn := by rw [← hwn]; exact (((Upd.refl _ _).alloc _).alloc _).alloc _
  have hb0 : Blk wn g 53 #[.slice A1 xs.length c1, .bool p] := by rw [← hwn, ← hg]; exact ((Blk.new _ _ _).alloc _).alloc _
  have hb1 : Blk wn (g + 1) 53 #[.slice A2 ys.length c2, .bool q] := by
    rw [← hwn, ← hg]
    have := Blk.new (w.alloc (.cells #[.slice A1 xs.length c1, .bool p] 53)) 53 #[.slice A2 ys.length c2, .bool q]
    simp only [alloc_size] at this
    exact this.alloc _
  have hb2 : Blk wn (g + 1 + 1) 53 #[.slice none 0 0, .bool false] := by
    rw [← hwn, ← hg]
    have := Blk.new ((w.alloc (.cells #[.slice A1 xs.length c1, .bool p] 53)).alloc (.cells #[.slice A2 ys.length c2, .bool q] 53)) 53 #[.slice none 0 0, .bool false]
    simp only [alloc_size] at this
    exact this
  have hsn : wn.heap.size = g + 3 := by rw [← hwn, ← hg]; simp
  have han : Byt wn g (.slice A1 xs.length c1) xs := by rw [← hg]; exact Row.upd ha hun (by simp)
  have hbn : Byt wn g (.slice A2 ys.length c2) ys := by rw [← hg]; exact Row.upd hb hun (by simp)
  have d0 := hb0.cell 0
  have d1 := hb0.cell 1
  have e0 := hb1.cell 0
  have e1 := hb1.cell 1
  have k0 := hb2.cell 0
  have k1 := hb2.cell 1
  have f0 := hb2.frozen 0
  have f1 := hb2.frozen 1
  simp at d0 d1 e0 e1 k0 k1
  have f0a := (hb2.alloc (.cells #[] 5)).frozen 0
  have f1a := (hb2.alloc (.cells #[] 5)).frozen 1
  have n1 : ¬ g = g + 1 + 1 := by omega
  have n2 : ¬ g + 1 = g + 1 + 1 := by omega
  have n3 : ¬ g + 1 + 1 = g := by omega
  have HW := hid hwn
  have HG := hid hg
  have HS := hid hsn
  clear hwn hg hsn
  have hgl : g + 1 + 1 < wn.heap.size := by rw [HS.out]; omega
  cases p
  case false =>
    go_enter Tryz.func30, Tryz.ntmps30
    go_wp2_with fail
    rw [HW.out, HG.out]
    go_wp2_with fail
    go_region_held3 (fun w' => w'.cell? ⟨g, 0, none⟩ = some (.slice A1 xs.length c1) ∧ w'.cell? ⟨g, 1, none⟩ = some (.bool false) ∧ w'.cell? ⟨g + 1, 0, none⟩ = some (.slice A2 ys.length c2) ∧ w'.cell? ⟨g + 1, 1, none⟩ = some (.bool q)) (go_keep)
      (first
        | (refine step_append_row _ (by rfl) (Operand.tmp 5) (Operand.tmp 7) 23 (by rfl) wn.heap.size 5 (.int .u8 0) 1 Tryz.underlying23 info_u8 rfl (by rfl) ((own_empty wn wn.heap.size 5 (Nat.le_refl _)).upd ((Upd.refl [] _).drew) (by simp)) (by rfl) (Row.drew (Row.alloc han (.cells #[] 5))) (byt_oneCell _) (by simp; omega) (by simp; omega) (by simp) ?_; intro v3 w3 hap3; have b0 := ((hb0.alloc (.cells #[] 5)).drew).upd hap3.2.1 (by simp [Value.ownBlock]; omega); have b1 := ((hb1.alloc (.cells #[] 5)).drew).upd hap3.2.1 (by simp [Value.ownBlock]; omega); have b2 := ((hb2.alloc (.cells #[] 5)).drew).upd hap3.2.1 (by simp [Value.ownBlock]; omega); have S3 := beh_keep b0 b1 b2; have hb3 := Row.upd (Row.drew (Row.alloc hbn (.cells #[] 5))) hap3.2.1 (by simp [Value.ownBlock]; omega); have hsz3 := hap3.2.1.size; simp at hsz3; obtain ⟨A3, c3, hv3⟩ := Own.formN (n := xs.length) hap3.1 (by simp); subst hv3)
        | (refine step_append_row _ (by rfl) (Operand.tmp 8) (Operand.tmp 10) 23 (by rfl) wn.heap.size 5 (.int .u8 0) 1 Tryz.underlying23 info_u8 rfl (by rfl) hap3.1 (by rfl) hb3 (byt_oneCell _) (by simp; omega) (by simp; omega) (by omega) ?_; intro v4 w4 hap4; have hge : ∀ k ∈ (Value.slice A3 xs.length c3).ownBlock.toList, wn.heap.size ≤ k := (fun k hk => (hap3.1.ge (Option.mem_toList.1 hk)).1); have m0 := b0.upd hap4.2.1 (fun hm => by have := hge _ hm; omega); have m1 := b1.upd hap4.2.1 (fun hm => by have := hge _ hm; omega); have m2 := b2.upd hap4.2.1 (fun hm => by have := hge _ hm; omega); have S4 := beh_keep m0 m1 m2; obtain ⟨A4, c4, hv4⟩ := Own.formN (n := xs.length + ys.length) hap4.1 (by simp); subst hv4))
    all_goals
      have hge : ∀ k ∈ (Value.slice A3 xs.length c3).ownBlock.toList, wn.heap.size ≤ k := fun k hk => (hap3.1.ge (Option.mem_toList.1 hk)).1
      have hu4 : Upd [] w w4 := ((((hun.alloc (.cells #[] 5)).drew).trans hap3.2.1 (by simp [Value.ownBlock]; exact hun.size)).trans hap4.2.1 (fun x hx => .inr (Nat.le_trans hun.size (hge x hx))))
      have hy4 : Byt w4 w4.heap.size (.slice A4 (xs.length + ys.length) c4) (xs ++ ys) := by
        have := hap4.1.row
        rw [List.nil_append, ← List.map_append] at this
        exact this
      have hn4 : ∀ k, (Value.slice A4 (xs.length + ys.length) c4).ownBlock = some k → wn.heap.size ≤ k := fun k hk => (hap4.1.ge hk).1
      obtain ⟨hfb, hfin⟩ := wval_put (w := w) (x := behindW ⟨xs, false⟩ ⟨ys, q⟩) (r0 := g + 1 + 1) (by rw [← HG.out]; omega) m2 hy4 (fun k hk => Nat.le_trans hun.size (hn4 k hk)) (fun k hk => by have := hn4 k hk; omega) ⟨_, _, _, rfl⟩ hu4
      have z0 := hfb.cell 0
      have z1 := hfb.cell 1
      simp [behindW] at z0 z1
      simp only [behindW, Bool.false_or, Bool.true_or] at hfin
      clear S3 S4
      go_wp2
      exact bodyPost_ret (v := .agg #[.slice A4 (xs.length + ys.length) c4, .bool _]) (by simp [results, Tryz.results30, go_sem, z0, z1]) rfl hfin
  case true =>
    go_enter Tryz.func30, Tryz.ntmps30
    go_wp2_with fail
    rw [HW.out, HG.out]
    go_wp2_with fail
    refine wp_region_held_drew (S := (fun w' => w'.cell? ⟨g, 0, none⟩ = some (.slice A1 xs.length c1) ∧ w'.cell? ⟨g, 1, none⟩ = some (.bool true) ∧ w'.cell? ⟨g + 1, 0, none⟩ = some (.slice A2 ys.length c2) ∧ w'.cell? ⟨g + 1, 1, none⟩ = some (.bool q))) (by kernel_rfl) ?_ (fun hHeld => ?_)
    · go_keep
    refine wpAnyH_take (i := 1) (oi := { dst := some 6, op := Op.fieldAddr 53 (Operand.tmp 2) 0, type := 0, pos := "server.go:60", after := #[], guard := none }) (v := ?_) rfl (by kernel_rfl) (by kernel_rfl) (by kernel_rfl) (fun _ _ _ h => h) (Or.inl ⟨by rfl, ?_⟩) (by assumption) ?_
    rotate_left
    · (intro w hSw; (try dsimp only at hSw); go_simp; try (with_reducible rfl))
    try simp only [Act.put, List.setIfInBounds_toArray, List.set_cons_zero, List.set_cons_succ]
    refine wpAnyH_take (i := 2) (oi := { dst := some 7, op := Op.load 23 (Operand.tmp 6), type := 23, pos := "server.go:60", after := #[{ on := 1, ground := Ground.data }], guard := none }) (v := ?_) rfl (by kernel_rfl) (by kernel_rfl) (by kernel_rfl) (fun _ _ _ h => h) (Or.inl ⟨by rfl, ?_⟩) (by assumption) ?_
    rotate_left
    · (intro w hSw; (try dsimp only at hSw); go_simp; try (with_reducible rfl))
    try simp only [Act.put, List.setIfInBounds_toArray, List.set_cons_zero, List.set_cons_succ]
    refine wpAnyH_take (i := 4) (oi := { dst := some 9, op := Op.fieldAddr 53 (Operand.tmp 3) 0, type := 0, pos := "server.go:60", after := #[], guard := none }) (v := ?_) rfl (by kernel_rfl) (by kernel_rfl) (by kernel_rfl) (fun _ _ _ h => h) (Or.inl ⟨by rfl, ?_⟩) (by assumption) ?_
    rotate_left
    · (intro w hSw; (try dsimp only at hSw); go_simp; try (with_reducible rfl))
    try simp only [Act.put, List.setIfInBounds_toArray, List.set_cons_zero, List.set_cons_succ]
    refine wpAnyH_take (i := 5) (oi := { dst := some 10, op := Op.load 23 (Operand.tmp 9), type := 23, pos := "server.go:60", after := #[{ on := 4, ground := Ground.data }], guard := none }) (v := ?_) rfl (by kernel_rfl) (by kernel_rfl) (by kernel_rfl) (fun _ _ _ h => h) (Or.inl ⟨by rfl, ?_⟩) (by assumption) ?_
    rotate_left
    · (intro w hSw; (try dsimp only at hSw); go_simp; try (with_reducible rfl))
    try simp only [Act.put, List.setIfInBounds_toArray, List.set_cons_zero, List.set_cons_succ]
    refine wpAnyH_take (i := 7) (oi := { dst := some 12, op := Op.fieldAddr 53 (Operand.tmp 2) 1, type := 0, pos := "server.go:60", after := #[], guard := none }) (v := ?_) rfl (by kernel_rfl) (by kernel_rfl) (by kernel_rfl) (fun _ _ _ h => h) (Or.inl ⟨by rfl, ?_⟩) (by assumption) ?_
    rotate_left
    · (intro w hSw; (try dsimp only at hSw); go_simp; try (with_reducible rfl))
    try simp only [Act.put, List.setIfInBounds_toArray, List.set_cons_zero, List.set_cons_succ]
    refine wpAnyH_take (i := 8) (oi := { dst := some 13, op := Op.load 4 (Operand.tmp 12), type := 4, pos := "server.go:60", after := #[{ on := 7, ground := Ground.data }], guard := none }) (v := ?_) rfl (by kernel_rfl) (by kernel_rfl) (by kernel_rfl) (fun _ _ _ h => h) (Or.inl ⟨by rfl, ?_⟩) (by assumption) ?_
    rotate_left
    · (intro w hSw; (try dsimp only at hSw); go_simp; try (with_reducible rfl))
    try simp only [Act.put, List.setIfInBounds_toArray, List.set_cons_zero, List.set_cons_succ]
    refine wpAnyH_ready (rs := [0]) (by kernel_rfl) (by simp) ?_
    refine AllReadyH.cons (o := { dst := some 5, op := Op.buildSlice 23 0 #[], type := 23, pos := "server.go:60", after := #[], guard := none }) rfl (fun K hK => ?_) AllReadyH.nil
    go_simp
    refine hK.out _ _ (by go_keep) (fun hHeld => ?_)
    clear hK K
    try simp only [Act.put, List.setIfInBounds_toArray, List.set_cons_zero, List.set_cons_succ]
    refine wpAnyH_ready (rs := [3]) (by kernel_rfl) (by simp) ?_
    refine AllReadyH.cons (o := { dst := some 8, op := Op.call { callee := Callee.builtin Builtin.append, args := #[Operand.tmp 5, Operand.tmp 7], argTypes := #[23, 23] }, type := 23, pos := "server.go:60", after := #[{ on := 0, ground := Ground.data }, { on := 2, ground := Ground.data }], guard := none }) rfl (fun K hK => ?_) AllReadyH.nil
    refine step_append_row _ (by rfl) (Operand.tmp 5) (Operand.tmp 7) 23 (by rfl) wn.heap.size 5 (.int .u8 0) 1 Tryz.underlying23 info_u8 rfl (by rfl) ((own_empty wn wn.heap.size 5 (Nat.le_refl _)).upd ((Upd.refl [] _).drew) (by simp)) (by rfl) (Row.drew (Row.alloc han (.cells #[] 5))) (byt_oneCell _) (by simp; omega) (by simp; omega) (by simp) ?_; intro v3 w3 hap3; have b0 := ((hb0.alloc (.cells #[] 5)).drew).upd hap3.2.1 (by simp [Value.ownBlock]; omega); have b1 := ((hb1.alloc (.cells #[] 5)).drew).upd hap3.2.1 (by simp [Value.ownBlock]; omega); have b2 := ((hb2.alloc (.cells #[] 5)).drew).upd hap3.2.1 (by simp [Value.ownBlock]; omega); have S3 := beh_keep b0 b1 b2; have hb3 := Row.upd (Row.drew (Row.alloc hbn (.cells #[] 5))) hap3.2.1 (by simp [Value.ownBlock]; omega); have hsz3 := hap3.2.1.size; simp at hsz3; obtain ⟨A3, c3, hv3⟩ := Own.formN (n := xs.length) hap3.1 (by simp); subst hv3
    refine hK.out _ _ (by go_keep) (fun hHeld => ?_)
    clear hK K
    try simp only [Act.put, List.setIfInBounds_toArray, List.set_cons_zero, List.set_cons_succ]
    refine wpAnyH_ready (rs := [6]) (by kernel_rfl) (by simp) ?_
    refine AllReadyH.cons (o := { dst := some 11, op := Op.call { callee := Callee.builtin Builtin.append, args := #[Operand.tmp 8, Operand.tmp 10], argTypes := #[23, 23] }, type := 23, pos := "server.go:60", after := #[{ on := 3, ground := Ground.data }, { on := 5, ground := Ground.data }, { on := 3, ground := Ground.chain }], guard := none }) rfl (fun K hK => ?_) AllReadyH.nil
    refine step_append_row _ (by rfl) (Operand.tmp 8) (Operand.tmp 10) 23 (by rfl) wn.heap.size 5 (.int .u8 0) 1 Tryz.underlying23 info_u8 rfl (by rfl) hap3.1 (by rfl) hb3 (byt_oneCell _) (by simp; omega) (by simp; omega) (by omega) ?_; intro v4 w4 hap4; have hge : ∀ k ∈ (Value.slice A3 xs.length c3).ownBlock.toList, wn.heap.size ≤ k := (fun k hk => (hap3.1.ge (Option.mem_toList.1 hk)).1); have m0 := b0.upd hap4.2.1 (fun hm => by have := hge _ hm; omega); have m1 := b1.upd hap4.2.1 (fun hm => by have := hge _ hm; omega); have m2 := b2.upd hap4.2.1 (fun hm => by have := hge _ hm; omega); have S4 := beh_keep m0 m1 m2; obtain ⟨A4, c4, hv4⟩ := Own.formN (n := xs.length + ys.length) hap4.1 (by simp); subst hv4
    refine hK.out _ _ (by go_keep) (fun hHeld => ?_)
    clear hK K
    try simp only [Act.put, List.setIfInBounds_toArray, List.set_cons_zero, List.set_cons_succ]
    refine wpAnyH_take (i := 9) (oi := { dst := some 14, op := Op.move (Operand.tmp 13), type := 4, pos := "server.go:60", after := #[{ on := 8, ground := Ground.data }, { on := 6, ground := Ground.chain }], guard := none }) (v := ?_) rfl (by kernel_rfl) (by kernel_rfl) (by kernel_rfl) (fun _ _ _ h => h) (Or.inl ⟨by rfl, ?_⟩) (by assumption) ?_
    rotate_left
    · (intro w hSw; (try dsimp only at hSw); go_simp; try (with_reducible rfl))
    try simp only [Act.put, List.setIfInBounds_toArray, List.set_cons_zero, List.set_cons_succ]
    refine wpAnyH_take (i := 10) (oi := { dst := some 15, op := Op.fieldAddr 53 (Operand.tmp 3) 1, type := 0, pos := "server.go:60", after := #[{ on := 9, ground := Ground.guard }], guard := some (9, false) }) (v := undef) rfl (by kernel_rfl) (by kernel_rfl) (by kernel_rfl) (fun _ _ _ h => h) (Or.inr ⟨by rfl, rfl⟩) (by assumption) ?_
    try simp only [Act.put, List.setIfInBounds_toArray, List.set_cons_zero, List.set_cons_succ]
    refine wpAnyH_take (i := 11) (oi := { dst := some 16, op := Op.load 4 (Operand.tmp 15), type := 4, pos := "server.go:60", after := #[{ on := 10, ground := Ground.data }, { on := 9, ground := Ground.guard }], guard := some (9, false) }) (v := undef) rfl (by kernel_rfl) (by kernel_rfl) (by kernel_rfl) (fun _ _ _ h => h) (Or.inr ⟨by rfl, rfl⟩) (by assumption) ?_
    try simp only [Act.put, List.setIfInBounds_toArray, List.set_cons_zero, List.set_cons_succ]
    refine wpAnyH_take (i := 12) (oi := { dst := some 17, op := Op.pick (Operand.tmp 14) (Operand.const (Value.bool true)) (Operand.tmp 16), type := 4, pos := "server.go:60", after := #[{ on := 9, ground := Ground.data }, { on := 11, ground := Ground.data }], guard := none }) (v := ?_) rfl (by kernel_rfl) (by kernel_rfl) (by kernel_rfl) (fun _ _ _ h => h) (Or.inl ⟨by rfl, ?_⟩) (by assumption) ?_
    rotate_left
    · (intro w hSw; (try dsimp only at hSw); go_simp; try (with_reducible rfl))
    try simp only [Act.put, List.setIfInBounds_toArray, List.set_cons_zero, List.set_cons_succ]
    refine wpAnyH_take (i := 13) (oi := { dst := some 18, op := Op.build 53 #[(0, Operand.tmp 11), (1, Operand.tmp 17)], type := 53, pos := "server.go:60", after := #[{ on := 6, ground := Ground.data }, { on := 12, ground := Ground.data }], guard := none }) (v := ?_) rfl (by kernel_rfl) (by kernel_rfl) (by kernel_rfl) (fun _ _ _ h => h) (Or.inl ⟨by rfl, ?_⟩) (by assumption) ?_
    rotate_left
    · (intro w hSw; (try dsimp only at hSw); go_simp; try (with_reducible rfl))
    try simp only [Act.put, List.setIfInBounds_toArray, List.set_cons_zero, List.set_cons_succ]
    refine wpAnyH_ready (rs := [14]) (by kernel_rfl) (by simp) ?_
    refine AllReadyH.cons (o := { dst := none, op := Op.store 53 (Operand.tmp 4) (Operand.tmp 18), type := 0, pos := "server.go:60", after := #[{ on := 13, ground := Ground.data }, { on := 9, ground := Ground.chain }, { on := 0, ground := Ground.phase }, { on := 1, ground := Ground.phase }, { on := 2, ground := Ground.phase }, { on := 3, ground := Ground.phase }, { on := 4, ground := Ground.phase }, { on := 5, ground := Ground.phase }, { on := 6, ground := Ground.phase }, { on := 7, ground := Ground.phase }, { on := 8, ground := Ground.phase }, { on := 9, ground := Ground.phase }, { on := 10, ground := Ground.phase }, { on := 11, ground := Ground.phase }, { on := 12, ground := Ground.phase }, { on := 13, ground := Ground.phase }], guard := none }) rfl (fun K hK => ?_) AllReadyH.nil
    go_simp
    refine hK.out _ _ (by go_keep) (fun hHeld => ?_)
    clear hK K
    try simp only [Act.put, List.setIfInBounds_toArray, List.set_cons_zero, List.set_cons_succ]
    refine wpAnyH_done (by kernel_rfl) ?_ _
    all_goals
      have hge : ∀ k ∈ (Value.slice A3 xs.length c3).ownBlock.toList, wn.heap.size ≤ k := fun k hk => (hap3.1.ge (Option.mem_toList.1 hk)).1
      have hu4 : Upd [] w w4 := ((((hun.alloc (.cells #[] 5)).drew).trans hap3.2.1 (by simp [Value.ownBlock]; exact hun.size)).trans hap4.2.1 (fun x hx => .inr (Nat.le_trans hun.size (hge x hx))))
      have hy4 : Byt w4 w4.heap.size (.slice A4 (xs.length + ys.length) c4) (xs ++ ys) := by
        have := hap4.1.row
        rw [List.nil_append, ← List.map_append] at this
        exact this
      have hn4 : ∀ k, (Value.slice A4 (xs.length + ys.length) c4).ownBlock = some k → wn.heap.size ≤ k := fun k hk => (hap4.1.ge hk).1
      obtain ⟨hfb, hfin⟩ := wval_put (w := w) (x := behindW ⟨xs, true⟩ ⟨ys, q⟩) (r0 := g + 1 + 1) (by rw [← HG.out]; omega) m2 hy4 (fun k hk => Nat.le_trans hun.size (hn4 k hk)) (fun k hk => by have := hn4 k hk; omega) ⟨_, _, _, rfl⟩ hu4
      have z0 := hfb.cell 0
      have z1 := hfb.cell 1
      simp [behindW] at z0 z1
      simp only [behindW, Bool.false_or, Bool.true_or] at hfin
      clear S3 S4
      go_wp2
      exact bodyPost_ret (v := .agg #[.slice A4 (xs.length + ys.length) c4, .bool _]) (by simp [results, Tryz.results30, go_sem, z0, z1]) rfl hfin
end
end Go.Proofs.YtaajmfgplhfncaaGreat
namespace Go.Proofs.YtaajmfgplhfncaaGreat
open Go.RowKit
set_option maxRecDepth 100000
def LSt (w0 : World) (p : Nat) (L : LW) (w : World) : Prop := w0.heap.size = p ∧ ∃ v, LWs w p p v L ∧ Upd [] w0 w
def LStP (w0 : World) (p : Nat) (L : LW) (e : Ending) (w : World) : Prop := e = .returned (.tuple #[]) ∧ LSt w0 p L w
def ExL (w : World) (L : LW) (e : Ending) (w' : World) : Prop := ∃ v, e = .returned (.tuple #[v, .bool (!L.bad)]) ∧ Exr w' w'.heap.size w'.heap.size v L.l ∧ Upd [] w w'
section
variable {w w0 w' : World} {p C : Nat} {v content : Value} {xs : List UInt8} {L : LW} {e : Ending}
theorem LSt.new (w0 : World) : LSt w0 w0.heap.size LW.nil (w0.alloc (.cells #[.slice none 0 0, .bool false] 50)) :=
  ⟨rfl, _, LWs.new w0, (Upd.refl _ _).alloc _⟩
theorem LSt.up (h : LSt w0 p L w) : Upd [] w0 w := h.2.choose_spec.2
theorem LSt.upd (h : LSt w0 p L w) (hu : Upd [] w w') : LSt w0 p L w' := by
  obtain ⟨h0, v, h1, h2⟩ := h
  exact ⟨h0, v, h1.upd hu, h2.trans hu (by simp)⟩
theorem LSt.add (h : LSt w0 p L w) (hu : Upd [] w w') (is : Bool) (k : UInt16) (hc : Byt w' C content xs) (hcn : xs ≠ [] → ∀ g, content.ownBlock = some g → g < p ∨ w.heap.size ≤ g) (xb : Bool) (hl : L.l.length ≤ 1000) :
    Calls Tryz.prog 22 #[.pointer (some ⟨p, 0, none⟩), .bool is, .int .u16 (k.toNat : Int), .agg #[content, .bool xb]] w' (LStP w0 p (L.add is k ⟨xs, xb⟩)) := by
  obtain ⟨h0, v, h1, h2⟩ := h
  have hv : ∀ g, v.ownBlock = some g → p ≤ g ∧ g < w.heap.size := fun g hg => World.ownsRow.lt h1.2.2.choose_spec.1 g hg
  have hpl : p < w.heap.size := h1.2.1.lt
  refine (add_ex_any (h1.upd hu) is k hc (fun _ hx g hg => ⟨fun he => ?_, fun he => ?_⟩) xb hl).mono ?_
  · have := hv g he
    rcases hcn hx g hg with h | h <;> omega
  · rcases hcn hx g hg with h | h <;> omega
  · rintro e w'' ⟨he, v', h3, h4, h5⟩
    refine ⟨he, h0, v', h3, (h2.trans hu (by simp)).trans h4 ?_⟩
    intro x hx
    right
    rcases List.mem_cons.1 hx with hx | hx
    · omega
    · have := (hv x (Option.mem_toList.1 hx)).1; omega
theorem LSt.cells (h : LSt w0 p L w) : ∃ A n c, w.cell? ⟨p, 0, none⟩ = some (.slice A n c) ∧ w.cell? ⟨p, 1, none⟩ = some (.bool L.bad) ∧ Exr w w.heap.size w.heap.size (.slice A n c) L.l := by
  obtain ⟨h0, v, h1, h2⟩ := h
  obtain ⟨A, c, rfl, -, -⟩ := own2_form h1.2.2.choose_spec.1
  have k0 := h1.2.1.cell 0
  have k1 := h1.2.1.cell 1
  simp at k0 k1
  exact ⟨A, _, c, k0, k1, h1.exr⟩
theorem LW.add_len (s : LW) (is : Bool) (k : UInt16) (x : Wr) : (s.add is k x).l.length ≤ s.l.length + 1 := by cases is <;> simp [LW.add]
theorem Byt.blk {B : Nat} (h : Byt w B v xs) (hx : xs ≠ []) : ∀ g, v.ownBlock = some g → g < B := by
  intro g hg
  obtain ⟨A, c, rfl, -, -, -, h⟩ := h
  obtain ⟨b, o', rfl, hb, -⟩ := h (by simpa using hx)
  have : b = g := by simpa [Value.ownBlock] using hg
  omega
theorem plain_st {B : Nat} (hc : Byt w B content xs) : Calls Tryz.prog 27 #[content] w fun e w' => e = .returned (.agg #[content, .bool false]) ∧ Upd [] w w' := plain_any hc
end
end Go.Proofs.YtaajmfgplhfncaaGreat
namespace Go.Proofs.YtaajmfgplhfncaaGreat
set_option maxRecDepth 20000
end Go.Proofs.YtaajmfgplhfncaaGreat
namespace Go.Proofs.YtaajmfgplhfncaaGreat
set_option maxRecDepth 20000
def blkB (L : List Ex) : List UInt8 := be 2 (exsB L).length ++ exsB L
theorem exsB_short (L : List Ex) (h : (exsB L).length < 65536) : exsBad L = false := by
  by_cases hb : exsBad L = true
  · have := exsW_bad L hb; omega
  · simpa using hb
end Go.Proofs.YtaajmfgplhfncaaGreat
namespace Go.Proofs.YtaajmfgplhfncaaGreat
set_option maxRecDepth 20000
def ofW (x : Wr) : Option (List UInt8) := if x.bad then none else some x.b
theorem lpOut_ofW (n : Nat) (x : Wr) : lpOut n (ofW x) = ofW (Wr.vector n x) := by
  unfold ofW Wr.vector Wr.inner Wr.vec Wr.nil
  simp only [Bool.false_or]
  cases hb : x.bad
  · simp only [Bool.false_or, Bool.false_eq_true, if_false]
    show (if x.b.length < 256 ^ n then _ else _) = _
    by_cases h : x.b.length < 256 ^ n
    · rw [if_pos h, if_neg (by simp; omega)]; simp
    · rw [if_neg h, if_pos (by simp; omega)]
  · simp [lpOut]
theorem app_ofW (x y : Wr) : app (ofW x) (ofW y) = ofW (behindW x y) := by
  unfold ofW behindW
  cases x.bad <;> cases y.bad <;> simp [app]
theorem ofW_vecs_one (n : Nat) (xs : List UInt8) : ofW (vecsW n [xs]) = lpOut n (some xs) := by
  have : (some xs : Option (List UInt8)) = ofW (Wr.plain xs) := rfl
  rw [this, lpOut_ofW]
  simp [ofW, vecsW, vecsB, vecsBad, Wr.vector, Wr.inner, Wr.vec, Wr.nil, Wr.plain]
  by_cases h : 256 ^ n ≤ xs.length <;> simp [h]
def outL (L : LW) : Option (List UInt8) := ofW ⟨exsB L.l, L.bad || exsBad L.l⟩
theorem outL_nil : outL LW.nil = some [] := rfl
theorem outL_add (L : LW) (is : Bool) (k : UInt16) (x : Wr) : outL (L.add is k x) = app (outL L) (condOut is (extOut k.toNat (ofW x))) := by
  cases is
  · show outL L = _
    rw [condOut_false, app_nil]
  · rw [condOut_true]
    have e : extOut k.toNat (ofW x) = ofW ⟨exB (k, x.b), x.bad || decide (65536 ≤ x.b.length)⟩ := by
      unfold extOut
      rw [lpOut_ofW]
      have : (some (be 2 k.toNat) : Option (List UInt8)) = ofW ⟨be 2 k.toNat, false⟩ := rfl
      rw [this, app_ofW]
      simp [behindW, Wr.vector, Wr.inner, Wr.vec, Wr.nil, exB]
    rw [e]
    unfold outL
    rw [app_ofW]
    congr 1
    show Wr.mk (exsB (L.l ++ [(k, x.b)])) (L.bad || x.bad || exsBad (L.l ++ [(k, x.b)])) = _
    rw [exsB_append, exsBad_append]
    simp only [behindW, exsB_cons, exsB_nil, List.append_nil]
    congr 1
    simp only [exsBad, List.any_cons, List.any_nil, Bool.or_false]
    cases L.bad <;> cases x.bad <;> cases (L.l.any fun e => decide (65536 ≤ e.2.length)) <;> simp
def msgB (kind : Nat) (body : List UInt8) : List UInt8 := be 1 kind ++ be 3 body.length ++ body
theorem msgB_drop (kind : Nat) (body : List UInt8) : (msgB kind body).drop 4 = body := by
  unfold msgB; simp [be]
theorem msgB_len (kind : Nat) (body : List UInt8) : (msgB kind body).length = 4 + body.length := by
  unfold msgB; simp [be_len]; omega
theorem messageW_msgB (kind : Nat) (x : Wr) : messageW kind x = ⟨msgB kind x.b, x.bad || decide (16777216 ≤ x.b.length)⟩ := by
  simp [messageW, Wr.inner, Wr.vec, Wr.num, Wr.nil, msgB]
theorem lp_be1 (x r : List UInt8) (h : x.length < 256) : lp 1 (be 1 x.length ++ x ++ r) = some (x, r) := lp_be 1 x r (by simp [be, beNat]; omega)
theorem exsB_size (l : List Ex) : (exsB l).length = (l.map fun e => 4 + e.2.length).sum := by
  induction l with
  | nil => rfl
  | cons e l ih => rw [exsB_cons, List.length_append, exB_len, ih]; rfl
theorem exsB_perm {l l' : List Ex} (h : l.Perm l') : (exsB l).length = (exsB l').length := by
  rw [exsB_size, exsB_size]
  exact (h.map _).sum_nat
def bz (b : Bool) (n : Nat) : Nat := cond b n 0
end Go.Proofs.YtaajmfgplhfncaaGreat
namespace Go.Proofs.YtaajmfgplhfncaaGreat
set_option maxRecDepth 20000
end Go.Proofs.YtaajmfgplhfncaaGreat
namespace Go.Proofs.YtaajmfgplhfncaaGreat
set_option maxRecDepth 20000
structure Cq where
  ocsp : Bool
  scts : Bool
  sig : List UInt16
  sigc : List UInt16
  cas : List (List UInt8)
def Cq.zero : Cq := ⟨false, false, [], [], []⟩
end Go.Proofs.YtaajmfgplhfncaaGreat
namespace Go.Proofs.YtaajmfgplhfncaaGreat
set_option maxRecDepth 20000
end Go.Proofs.YtaajmfgplhfncaaGreat
namespace Go.Proofs.YtaajmfgplhfncaaGreat
set_option maxRecDepth 20000
abbrev Item := Bool × UInt16 × Wr
def adds (l : List Item) (s : LW) : LW := l.foldl (fun s e => s.add e.1 e.2.1 e.2.2) s
def itemsE (l : List Item) : List Ex := (l.filter (·.1)).map fun e => (e.2.1, e.2.2.b)
def itemsBad (l : List Item) : Bool := l.any fun e => e.1 && e.2.2.bad
theorem adds_l (l : List Item) (s : LW) : (adds l s).l = s.l ++ itemsE l := by
  induction l generalizing s with
  | nil => simp [adds, itemsE]
  | cons e l ih =>
    show (adds l (s.add e.1 e.2.1 e.2.2)).l = _
    rw [ih]
    obtain ⟨b, k, x⟩ := e
    cases b
    · simp [LW.add, itemsE]
    · simp [LW.add, itemsE]
theorem adds_bad (l : List Item) (s : LW) : (adds l s).bad = (s.bad || itemsBad l) := by
  induction l generalizing s with
  | nil => simp [adds, itemsBad]
  | cons e l ih =>
    show (adds l (s.add e.1 e.2.1 e.2.2)).bad = _
    rw [ih]
    obtain ⟨b, k, x⟩ := e
    cases b
    · simp [LW.add, itemsBad]
    · simp [LW.add, itemsBad, Bool.or_assoc]
theorem itemsE_perm {l l' : List Item} (h : l.Perm l') : (itemsE l).Perm (itemsE l') := (h.filter _).map _
theorem itemsBad_perm {l l' : List Item} (h : l.Perm l') : itemsBad l = itemsBad l' := by
  unfold itemsBad
  rw [Bool.eq_iff_iff, List.any_eq_true, List.any_eq_true]
  exact ⟨fun ⟨x, hx, hb⟩ => ⟨x, h.mem_iff.1 hx, hb⟩, fun ⟨x, hx, hb⟩ => ⟨x, h.mem_iff.2 hx, hb⟩⟩
theorem itemsE_mem (l : List Item) (e : Ex) : e ∈ itemsE l ↔ ∃ i ∈ l, i.1 = true ∧ e = (i.2.1, i.2.2.b) := by
  unfold itemsE
  simp only [List.mem_map, List.mem_filter]
  constructor
  · rintro ⟨a, ⟨h1, h2⟩, rfl⟩; exact ⟨a, h1, h2, rfl⟩
  · rintro ⟨a, h1, h2, rfl⟩; exact ⟨a, ⟨h1, h2⟩, rfl⟩
theorem itemsE_keys (l : List Item) : ((itemsE l).map (·.1)).Sublist (l.map (·.2.1)) := by
  unfold itemsE
  rw [List.map_map]
  exact (List.filter_sublist (l := l)).map _
theorem itemsE_few (l : List Item) : (itemsE l).length ≤ l.length := by
  unfold itemsE
  rw [List.length_map]
  exact List.length_filter_le _ _
theorem itemsE_size (l : List Item) : (exsB (itemsE l)).length = (l.map fun i => bz i.1 (4 + i.2.2.b.length)).sum := by
  induction l with
  | nil => rfl
  | cons i l ih =>
    obtain ⟨b, k, x⟩ := i
    cases b
    · have e : itemsE ((false, k, x) :: l) = itemsE l := by simp [itemsE]
      rw [e, ih]; simp [bz]
    · have e : itemsE ((true, k, x) :: l) = (k, x.b) :: itemsE l := by simp [itemsE]
      rw [e, exsB_cons, List.length_append, exB_len, ih]; simp [bz]
def itemsOut (l : List Item) (o : Option (List UInt8)) : Option (List UInt8) := l.foldl (fun o e => app o (condOut e.1 (extOut e.2.1.toNat (ofW e.2.2)))) o
theorem itemsOut_outL (l : List Item) (s : LW) : itemsOut l (outL s) = outL (adds l s) := by
  induction l generalizing s with
  | nil => rfl
  | cons e l ih =>
    show itemsOut l (app (outL s) (condOut e.1 (extOut e.2.1.toNat (ofW e.2.2)))) = outL (adds l (s.add e.1 e.2.1 e.2.2))
    rw [← outL_add, ih]
theorem exsB_nil_iff (L : List Ex) : (exsB L).length = 0 ↔ L = [] := by
  cases L with
  | nil => simp [exsB]
  | cons e L => simp [exsB_cons, exB_len]
theorem vector_b (n : Nat) (x : Wr) : (Wr.vector n x).b = be n x.b.length ++ x.b := by simp [Wr.vector, Wr.inner, Wr.vec, Wr.nil]
theorem vector_bad (n : Nat) (x : Wr) : (Wr.vector n x).bad = (x.bad || decide (256 ^ n ≤ x.b.length)) := by simp [Wr.vector, Wr.inner, Wr.vec, Wr.nil]
end Go.Proofs.YtaajmfgplhfncaaGreat
namespace Go.Proofs.YtaajmfgplhfncaaGreat
set_option maxRecDepth 20000
structure Ee where
  alpn : List UInt8
  has : Bool
  quic : List UInt8
  early : Bool
  ech : List UInt8
  ack : Bool
def Ee.zero : Ee := ⟨[], false, [], false, [], false⟩
def R.rest1 (x : R) : R := if x.bs.length = 0 then x.fail 1 else x
def R.rest (x : R) : List UInt8 × R := x.rest1.take x.rest1.bs.length
end Go.Proofs.YtaajmfgplhfncaaGreat
namespace Go.Proofs.YtaajmfgplhfncaaGreat
set_option maxRecDepth 20000
structure Sh where
  vers : UInt16
  random : List UInt8
  sid : List UInt8
  suite : UInt16
  comp : UInt8
  ocsp : Bool
  ticket : Bool
  rns : Bool
  rn : List UInt8
  ems : Bool
  alpn : List UInt8
  scts : List (List UInt8)
  sv : UInt16
  sg : UInt16
  sd : List UInt8
  sip : Bool
  si : UInt16
  pts : List UInt8
  ech : List UInt8
  ack : Bool
  cookie : List UInt8
  selg : UInt16
def Sh.zero : Sh := ⟨0, [], [], 0, 0, false, false, false, [], false, [], [], 0, 0, [], false, 0, [], [], false, [], 0⟩
end Go.Proofs.YtaajmfgplhfncaaGreat
namespace Go.Proofs.YtaajmfgplhfncaaGreat
set_option maxRecDepth 20000
end Go.Proofs.YtaajmfgplhfncaaGreat
namespace Go.Proofs.YtaajmfgplhfncaaGreat
open Go.RowKit
set_option maxRecDepth 100000
theorem Lst.drewn {w : World} {B : Nat} {v : Value} {ls : List (List UInt8)} (h : Lst w B v ls) : Lst w.drew B v ls := by
  obtain ⟨vs, h1, h2⟩ := h
  exact ⟨vs, Row.drew h1, h2.imp fun _ _ hy => Row.drew hy⟩
def kshB (l : List (UInt16 × List UInt8)) : List UInt8 := l.flatMap fun x => be 2 x.1.toNat ++ (be 2 x.2.length ++ x.2)
def kshBad (l : List (UInt16 × List UInt8)) : Bool := l.any fun x => decide (65536 ≤ x.2.length)
def kshW (l : List (UInt16 × List UInt8)) : Wr := ⟨kshB l, kshBad l⟩
theorem kshW_snoc (l : List (UInt16 × List UInt8)) (g : UInt16) (d : List UInt8) : ((kshW l).num 2 g.toNat).vec 2 d = kshW (l ++ [(g, d)]) := by
  simp [kshW, kshB, kshBad, Wr.num, Wr.vec, List.any_append]
theorem kshB_take (l : List (UInt16 × List UInt8)) (k : Nat) : (kshB (l.take k)).length ≤ (kshB l).length := by
  have : kshB l = kshB (l.take k) ++ kshB (l.drop k) := by
    unfold kshB; rw [← List.flatMap_append, List.take_append_drop]
  rw [this, List.length_append]
  omega
theorem kshB_get (l : List (UInt16 × List UInt8)) (k : Nat) (h : k < l.length) : (l[k]).2.length ≤ (kshB l).length := by
  have : kshB l = kshB (l.take k) ++ kshB (l.drop k) := by
    unfold kshB; rw [← List.flatMap_append, List.take_append_drop]
  rw [this, List.drop_eq_getElem_cons h]
  have e : kshB (l[k] :: l.drop (k + 1)) = (be 2 (l[k]).1.toNat ++ (be 2 (l[k]).2.length ++ (l[k]).2)) ++ kshB (l.drop (k + 1)) := rfl
  rw [e, List.length_append, List.length_append, List.length_append, List.length_append]
  omega
section
variable {w w' w0 : World} {B C : Nat} {v content cd : Value} {xs : List UInt8} {l : List (UInt16 × List UInt8)}
set_option maxHeartbeats 1000000 in
theorem keyShares_any_w (hg : Row w B content (l.map fun x => wv x.1)) (hd : Lst w C cd (l.map (·.2))) (hx : (kshB l).length ≤ 1099511627776) :
    Calls Tryz.prog 29 #[content, cd] w (WValP w (kshW l)) := by
  have hm0 := WMid.start w
  have HX := hid hx
  obtain ⟨A0, c0, rfl, hgr, hlg, hmg⟩ := Row.formN (n := l.length) (Row.shrink hg) (by simp)
  obtain ⟨A, c, rfl, hcr, hlc, hm⟩ := hd.shrink.form
  simp only [List.length_map] at hcr ⊢
  clear hx hg hd
  go_enter Tryz.func29, Tryz.ntmps29
  go_wp2_with fail
  rw [W1_eq]
  go_loopg [6, 7, 10] l.length (fun gk _ _ i wr => ∃ j : Nat, j + gk = l.length ∧ i = .int .i64 j ∧ WMid w (kshW (l.take j)) wr)
  case atStart => exact ⟨0, by omega, rfl, by simpa [kshW, kshB, kshBad, Wr.nil] using hm0⟩
  case round =>
    obtain ⟨j, hj0, rfl, hmr⟩ := hrel
    have hj : j ≤ l.length := by omega
    have HJ := hid hj0
    clear hj0
    by_cases hlt : j < l.length
    · have hgw := Row.upd hgr hmr.upd (by simp)
      obtain ⟨b, o, rfl, hb, hj', hcell⟩ := hgw.at_ (by simpa using hlt)
      rw [List.getElem_map] at hcell
      obtain ⟨vr, kr, hvr⟩ := hmr.open_
      have hlen : (kshW (l.take j)).b.length ≤ 1099511627776 := by
        have h1 := HX.out
        have h2 := kshB_take l j
        show (kshB _).length ≤ _
        omega
      have hxl : (l[j]).2.length ≤ 1099511627776 := Nat.le_trans (kshB_get l j hlt) HX.out
      have HN := hid (wnum_any kr 2 (l[j]).1.toNat (by omega) (by omega))
      have HS := hid (show ((kshW (l.take j)).num 2 (l[j]).1.toNat).vec 2 (l[j]).2 = kshW (l.take (j + 1)) by
        rw [List.take_succ_eq_append_getElem hlt, kshW_snoc])
      have hl2 : ((kshW (l.take j)).num 2 (l[j]).1.toNat).b.length ≤ 17592186044416 := by simp [Wr.num, be_len]; omega
      have HL2 := hid hl2
      have hu := (l[j]).1.toNat_lt
      have HXL := hid hxl
      clear hlen hxl hl2
      go_wp2_with fail
      refine HN.out.mono ?_
      intro e w2 hp2
      obtain ⟨rfl, hm2⟩ := hmr.next hvr hp2
      have hcw := hcr.upd hm2.upd (by simp)
      have hlt2 : j < (l.map (·.2)).length := by simpa using hlt
      obtain ⟨b2, o2, rfl, hb2, hj2, A', c', hcell2, hy, hl1, hl2⟩ := hcw.at_ hlt
      obtain ⟨v2, k2, hv2⟩ := hm2.open_
      have eg : (l.map (·.2))[j] = (l[j]).2 := by simp
      rw [eg] at hcell2 hy hl1
      have HV := hid (wvec_any2 k2 ⟨_, hy, .inl (by omega)⟩ HL2.out HXL.out)
      rw [HS.out] at HV
      clear hlt2 HN hp2 kr hvr eg
      go_wp2_with fail
      refine HV.out.mono ?_
      intro e w3 hp3
      obtain ⟨rfl, hm3⟩ := hm2.next hv2 hp3
      clear HV
      go_wp2
      have hj0 := HJ.out
      go_roundg (l.length - (j + 1))
      case measure => omega
      case rel => exact ⟨j + 1, by omega, by go_num, hm3⟩
    · obtain rfl : j = l.length := by omega
      rw [List.take_length] at hmr
      obtain ⟨A4, n4, c4, z0, z1, d0, d1, g0, g1, e0, e1, hend⟩ := hmr.fin
      go_wp2
      exact bodyPost_ret (v := .agg #[.slice A4 n4 c4, .bool _]) (by simp [results, Tryz.results29, go_sem, e0, e1]) rfl hend
end
end Go.Proofs.YtaajmfgplhfncaaGreat
namespace Go.Proofs.YtaajmfgplhfncaaGreat
set_option maxRecDepth 20000
structure Ch where
  vers : UInt16
  random : List UInt8
  sid : List UInt8
  suites : List UInt16
  comps : List UInt8
  host : List UInt8
  ocsp : Bool
  curves : List UInt16
  pts : List UInt8
  ticket : Bool
  tick : List UInt8
  sig : List UInt16
  sigc : List UInt16
  rns : Bool
  rn : List UInt8
  ems : Bool
  alpn : List (List UInt8)
  scts : Bool
  sv : List UInt16
  cookie : List UInt8
  kg : List UInt16
  kd : List (List UInt8)
  early : Bool
  modes : List UInt8
  pl : List (List UInt8)
  pa : List UInt32
  pb : List (List UInt8)
  quic : Bool
  qtp : List UInt8
  ech : List UInt8
  exs : List UInt16
def Ch.zero : Ch := ⟨0, [], [], [], [], [], false, [], [], false, [], [], [], false, [], false, [], false, [], [], [], [], false, [], [], [], [], false, [], [], []⟩
def identB (x : List UInt8 × UInt32) : List UInt8 := be 2 x.1.length ++ (x.1 ++ be 4 x.2.toNat)
def identsB (l : List (List UInt8 × UInt32)) : List UInt8 := l.flatMap identB
def identsBad (l : List (List UInt8 × UInt32)) : Bool := l.any fun x => decide (65536 ≤ x.1.length)
def identsW (l : List (List UInt8 × UInt32)) : Wr := ⟨identsB l, identsBad l⟩
inductive ChStep : Ch → UInt16 → List UInt8 → Ch → Prop
  | host (M : Ch) (d h : List UInt8) : M.host = [] → h ≠ [] → h.getLast? ≠ some 46 → d = be 2 (3 + h.length) ++ (0 :: (be 2 h.length ++ h)) → ChStep M 0 d { M with host := h }
  | ocsp (M : Ch) (d : List UInt8) : d = [1, 0, 0, 0, 0] → ChStep M 5 d { M with ocsp := true }
  | curves (M : Ch) (d : List UInt8) (l : List UInt16) : M.curves = [] → l ≠ [] → d = be 2 (wordsB l).length ++ wordsB l → ChStep M 10 d { M with curves := l }
  | pts (M : Ch) (d x : List UInt8) : x ≠ [] → x.length < 256 → d = be 1 x.length ++ x → ChStep M 11 d { M with pts := x }
  | ticket (M : Ch) (d : List UInt8) : ChStep M 35 d { M with ticket := true, tick := d }
  | sig (M : Ch) (d : List UInt8) (l : List UInt16) : M.sig = [] → l ≠ [] → d = be 2 (wordsB l).length ++ wordsB l → ChStep M 13 d { M with sig := l }
  | sigc (M : Ch) (d : List UInt8) (l : List UInt16) : M.sigc = [] → l ≠ [] → d = be 2 (wordsB l).length ++ wordsB l → ChStep M 50 d { M with sigc := l }
  | rn (M : Ch) (d x : List UInt8) : x.length < 256 → d = be 1 x.length ++ x → ChStep M 65281 d { M with rns := true, rn := x }
  | ems (M : Ch) (d : List UInt8) : d = [] → ChStep M 23 d { M with ems := true }
  | alpn (M : Ch) (d : List UInt8) (l : List (List UInt8)) : M.alpn = [] → l ≠ [] → (∀ x ∈ l, x ≠ [] ∧ x.length < 256) → d = be 2 (vecsB 1 l).length ++ vecsB 1 l → ChStep M 16 d { M with alpn := l }
  | scts (M : Ch) (d : List UInt8) : d = [] → ChStep M 18 d { M with scts := true }
  | sv (M : Ch) (d : List UInt8) (l : List UInt16) : M.sv = [] → l ≠ [] → (wordsB l).length < 256 → d = be 1 (wordsB l).length ++ wordsB l → ChStep M 43 d { M with sv := l }
  | cookie (M : Ch) (d x : List UInt8) : x ≠ [] → d = be 2 x.length ++ x → ChStep M 44 d { M with cookie := x }
  | ks (M : Ch) (d : List UInt8) (l : List (UInt16 × List UInt8)) : M.kg = [] → M.kd = [] → l ≠ [] → (∀ e ∈ l, e.2 ≠ []) → d = be 2 (kshB l).length ++ kshB l → ChStep M 51 d { M with kg := l.map (·.1), kd := l.map (·.2) }
  | early (M : Ch) (d : List UInt8) : d = [] → ChStep M 42 d { M with early := true }
  | modes (M : Ch) (d x : List UInt8) : x ≠ [] → x.length < 256 → d = be 1 x.length ++ x → ChStep M 45 d { M with modes := x }
  | quic (M : Ch) (d : List UInt8) : ChStep M 57 d { M with quic := true, qtp := d }
  | ech (M : Ch) (d : List UInt8) : d ≠ [] → ChStep M 65037 d { M with ech := d }
  | psk (M : Ch) (d : List UInt8) (l : List (List UInt8 × UInt32)) (b : List (List UInt8)) : M.pl = [] → M.pa = [] → M.pb = [] → l ≠ [] → (∀ e ∈ l, e.1 ≠ []) → b.length = l.length → (∀ x ∈ b, 32 ≤ x.length ∧ x.length < 256) →
      d = be 2 (identsB l).length ++ (identsB l ++ (be 2 (vecsB 1 b).length ++ vecsB 1 b)) → ChStep M 41 d { M with pl := l.map (·.1), pa := l.map (·.2), pb := b }
  | other (M : Ch) (k : UInt16) (d : List UInt8) : 43520 ≤ k.toNat → k.toNat < 44520 → ChStep M k d M
inductive ChRun : Ch → List Ex → Ch → Prop
  | nil (M : Ch) : ChRun M [] M
  | cons (M M1 M2 : Ch) (k : UInt16) (d : List UInt8) (L : List Ex) : k ∉ M.exs → ChStep { M with exs := M.exs ++ [k] } k d M1 → (k = 41 → L = []) → ChRun M1 L M2 → ChRun M ((k, d) :: L) M2
theorem ChStep.exs {M M' : Ch} {k : UInt16} {d : List UInt8} (h : ChStep M k d M') : M'.exs = M.exs := by cases h <;> rfl
def chHd (t : Ch) : Ch := { Ch.zero with vers := t.vers, random := t.random, sid := t.sid, suites := t.suites, comps := t.comps }
def chHeadB (t : Ch) : List UInt8 := be 2 t.vers.toNat ++ (t.random ++ (be 1 t.sid.length ++ (t.sid ++ (be 2 (wordsB t.suites).length ++ (wordsB t.suites ++ (be 1 t.comps.length ++ t.comps))))))
def chBodyB (t : Ch) (L : List Ex) : List UInt8 := chHeadB t ++ (if L = [] then [] else blkB L)
def chMsg (t : Ch) (L : List Ex) : List UInt8 := msgB 1 (chBodyB t L)
structure ChHead (t : Ch) : Prop where
  r : t.random.length = 32
  s : t.sid.length ≤ 32
  u : t.suites ≠ []
  ul : (wordsB t.suites).length < 65536
  c : t.comps ≠ []
  cl : t.comps.length < 256
  sg : (255 : UInt16) ∉ t.suites
structure ChForm (data : List UInt8) (t L : _) (t' : Ch) : Prop where
  eq : data = chMsg t L
  hd : ChHead t
  ln : (exsB L).length < 65536
  run : ChRun (chHd t) L t'
theorem chHeadB_len (t : Ch) : (chHeadB t).length = 6 + t.random.length + t.sid.length + (wordsB t.suites).length + t.comps.length := by simp [chHeadB, be_len]; omega
theorem chBodyB_len (t : Ch) (L : List Ex) : (chBodyB t L).length ≤ 8 + t.random.length + t.sid.length + (wordsB t.suites).length + t.comps.length + (exsB L).length := by
  unfold chBodyB
  rw [List.length_append, chHeadB_len]
  split
  · simp; omega
  · simp [blkB, be_len]; omega
structure ChOk (t : Ch) : Prop where
  r : t.random.length = 32
  s : t.sid.length ≤ 32
  u : t.suites ≠ []
  c : t.comps ≠ []
  host : t.host.getLast? ≠ some 46
  tick : t.ticket = true ∨ t.tick = []
  rn : t.rns = true ∨ t.rn = []
  quic : t.quic = true ∨ t.qtp = []
  ks : t.kg.length = t.kd.length
  pa : t.pl.length = t.pa.length
  pb : t.pl.length = t.pb.length
  ep : t.ech = [] ∨ t.pl = []
  sg : (255 : UInt16) ∉ t.suites
  kd : ∀ x ∈ t.kd, x ≠ []
  pl : ∀ x ∈ t.pl, x ≠ []
  bl : ∀ x ∈ t.pb, 32 ≤ x.length
  al : ∀ x ∈ t.alpn, x ≠ []
def hostW (h : List UInt8) : Wr := (Wr.nil.num 1 0).vec 2 h
def statusW : Wr := ((Wr.nil.num 1 1).vec 2 []).vec 2 []
def chKs (t : Ch) : List (UInt16 × List UInt8) := t.kg.zip t.kd
def chPs (t : Ch) : List (List UInt8 × UInt32) := t.pl.zip t.pa
def chItem (t : Ch) : Nat → Item
  | 0 => (!t.host.isEmpty, 0, Wr.vector 2 (hostW t.host))
  | 1 => (t.ocsp, 5, statusW)
  | 2 => (decide (0 < t.curves.length), 10, Wr.vector 2 (wordsW t.curves))
  | 3 => (decide (0 < t.pts.length), 11, Wr.vector 1 (Wr.plain t.pts))
  | 4 => (t.ticket, 35, Wr.plain t.tick)
  | 5 => (decide (0 < t.sig.length), 13, Wr.vector 2 (wordsW t.sig))
  | 6 => (decide (0 < t.sigc.length), 50, Wr.vector 2 (wordsW t.sigc))
  | 7 => (t.rns, 65281, Wr.vector 1 (Wr.plain t.rn))
  | 8 => (t.ems, 23, Wr.nil)
  | 9 => (decide (0 < t.alpn.length), 16, Wr.vector 2 (vecsW 1 t.alpn))
  | 10 => (t.scts, 18, Wr.nil)
  | 11 => (decide (0 < t.sv.length), 43, Wr.vector 1 (wordsW t.sv))
  | 12 => (decide (0 < t.cookie.length), 44, Wr.vector 2 (Wr.plain t.cookie))
  | 13 => (decide (0 < t.kg.length), 51, Wr.vector 2 (kshW (chKs t)))
  | 14 => (t.early, 42, Wr.nil)
  | 15 => (decide (0 < t.modes.length), 45, Wr.vector 1 (Wr.plain t.modes))
  | 16 => (t.quic, 57, Wr.plain t.qtp)
  | 17 => (decide (0 < t.ech.length), 65037, Wr.plain t.ech)
  | _ => (decide (0 < t.pl.length), 41, behindW (Wr.vector 2 (identsW (chPs t))) (Wr.vector 2 (vecsW 1 t.pb)))
def chItems (t : Ch) : List Item := [0, 1, 2, 3, 4, 5, 6, 7, 8, 9, 10, 11, 12, 13, 14, 15, 16, 17, 18].map (chItem t)
def chPkg (t : Ch) : List Item := [0, 3, 4, 7, 8, 10, 14, 16, 17, 1, 2, 5, 6, 9, 11, 12, 13, 15, 18].map (chItem t)
theorem chPkg_perm (t : Ch) : (chPkg t).Perm (chItems t) := by
  unfold chPkg chItems
  exact List.Perm.map _ (by decide)
def chExtL (t : Ch) : LW := adds (chItems t) LW.nil
def chE (t : Ch) : List Ex := (chExtL t).l
def chPE (t : Ch) : List Ex := itemsE (chPkg t)
theorem chE_eq (t : Ch) : chE t = itemsE (chItems t) := by unfold chE chExtL; rw [adds_l]; rfl
theorem chBad_eq (t : Ch) : (chExtL t).bad = itemsBad (chItems t) := by unfold chExtL; rw [adds_bad]; rfl
theorem chPE_perm (t : Ch) : (chPE t).Perm (chE t) := by rw [chE_eq]; exact itemsE_perm (chPkg_perm t)
theorem chPE_len (t : Ch) : (exsB (chPE t)).length = (exsB (chE t)).length := exsB_perm (chPE_perm t)
theorem ch_keys (t : Ch) : ((chE t).map (·.1)).Sublist [0, 5, 10, 11, 35, 13, 50, 65281, 23, 16, 18, 43, 44, 51, 42, 45, 57, 65037, 41] := by rw [chE_eq]; exact itemsE_keys (chItems t)
theorem chE_nodup (t : Ch) : ((chE t).map (·.1)).Nodup := (ch_keys t).nodup (by decide)
def PskLast : List Ex → Prop
  | [] => True
  | e :: l => (e.1 = 41 → l = []) ∧ PskLast l
theorem pskLast_app : ∀ {A B : List Ex}, (∀ e ∈ A, e.1 ≠ 41) → B.length ≤ 1 → PskLast (A ++ B)
  | [], [], _, _ => trivial
  | [], [b], _, _ => ⟨fun _ => rfl, trivial⟩
  | [], _ :: _ :: _, _, h => by simp at h
  | e :: A, B, hA, hB => ⟨fun h => absurd h (hA e (by simp)), pskLast_app (fun x hx => hA x (by simp [hx])) hB⟩
theorem chPE_last (t : Ch) : PskLast (chPE t) := by
  have e : chPE t = itemsE ([0, 3, 4, 7, 8, 10, 14, 16, 17, 1, 2, 5, 6, 9, 11, 12, 13, 15].map (chItem t)) ++ itemsE [chItem t 18] := by
    unfold chPE itemsE chPkg
    rw [← List.map_append, ← List.filter_append]
    rfl
  rw [e]
  refine pskLast_app (fun e he => ?_) (by have := itemsE_few [chItem t 18]; simpa using this)
  have h := (itemsE_keys _).subset (List.mem_map_of_mem he)
  intro h41
  rw [h41] at h
  revert h
  show (41 : UInt16) ∈ ([0, 11, 35, 65281, 23, 18, 42, 57, 65037, 5, 10, 13, 50, 16, 43, 44, 51, 45] : List UInt16) → False
  decide
def chPart (t : Ch) (S : UInt16 → Bool) (E : List UInt16) : Ch := ⟨t.vers, t.random, t.sid, t.suites, t.comps, if S 0 then t.host else [], S 5 && t.ocsp, if S 10 then t.curves else [], if S 11 then t.pts else [], S 35 && t.ticket, if S 35 then t.tick else [],
  if S 13 then t.sig else [], if S 50 then t.sigc else [], S 65281 && t.rns, if S 65281 then t.rn else [], S 23 && t.ems, if S 16 then t.alpn else [], S 18 && t.scts, if S 43 then t.sv else [], if S 44 then t.cookie else [], if S 51 then t.kg else [], if S 51 then t.kd else [],
  S 42 && t.early, if S 45 then t.modes else [], if S 41 then t.pl else [], if S 41 then t.pa else [], if S 41 then t.pb else [], S 57 && t.quic, if S 57 then t.qtp else [], if S 65037 then t.ech else [], E⟩
theorem ne_pos {α : Type} (l : List α) : decide (0 < l.length) = true ↔ l ≠ [] := by rw [decide_eq_true_iff, List.length_pos_iff]
theorem ne_emp {α : Type} (l : List α) : (!l.isEmpty) = true ↔ l ≠ [] := by cases l <;> simp
theorem hostW_b (h : List UInt8) : (hostW h).b = 0 :: (be 2 h.length ++ h) := by simp [hostW, Wr.num, Wr.vec, Wr.nil, be]
theorem statusW_b : statusW.b = [1, 0, 0, 0, 0] := by simp [statusW, Wr.num, Wr.vec, Wr.nil, be]
theorem chE_mem (t : Ch) (e : Ex) : e ∈ chE t ↔ (t.host ≠ [] ∧ e = (0, (Wr.vector 2 (hostW t.host)).b)) ∨ (t.ocsp = true ∧ e = (5, statusW.b)) ∨ (t.curves ≠ [] ∧ e = (10, (Wr.vector 2 (wordsW t.curves)).b)) ∨ (t.pts ≠ [] ∧ e = (11, (Wr.vector 1 (Wr.plain t.pts)).b)) ∨
    (t.ticket = true ∧ e = (35, t.tick)) ∨ (t.sig ≠ [] ∧ e = (13, (Wr.vector 2 (wordsW t.sig)).b)) ∨ (t.sigc ≠ [] ∧ e = (50, (Wr.vector 2 (wordsW t.sigc)).b)) ∨ (t.rns = true ∧ e = (65281, (Wr.vector 1 (Wr.plain t.rn)).b)) ∨ (t.ems = true ∧ e = (23, [])) ∨
    (t.alpn ≠ [] ∧ e = (16, (Wr.vector 2 (vecsW 1 t.alpn)).b)) ∨ (t.scts = true ∧ e = (18, [])) ∨ (t.sv ≠ [] ∧ e = (43, (Wr.vector 1 (wordsW t.sv)).b)) ∨ (t.cookie ≠ [] ∧ e = (44, (Wr.vector 2 (Wr.plain t.cookie)).b)) ∨ (t.kg ≠ [] ∧ e = (51, (Wr.vector 2 (kshW (chKs t))).b)) ∨
    (t.early = true ∧ e = (42, [])) ∨ (t.modes ≠ [] ∧ e = (45, (Wr.vector 1 (Wr.plain t.modes)).b)) ∨ (t.quic = true ∧ e = (57, t.qtp)) ∨ (t.ech ≠ [] ∧ e = (65037, t.ech)) ∨
    (t.pl ≠ [] ∧ e = (41, (behindW (Wr.vector 2 (identsW (chPs t))) (Wr.vector 2 (vecsW 1 t.pb))).b)) := by
  rw [chE_eq, itemsE_mem]
  simp only [chItems, List.map_cons, List.map_nil, chItem, List.mem_cons, List.not_mem_nil, or_false, exists_eq_or_imp, exists_eq_left, ne_pos, ne_emp]
  rfl
structure ChSm (t : Ch) : Prop where
  pts : t.pts ≠ [] → t.pts.length < 256
  rn : t.rns = true → t.rn.length < 256
  alpn : t.alpn ≠ [] → ∀ x ∈ t.alpn, x.length < 256
  sv : t.sv ≠ [] → (wordsB t.sv).length < 256
  modes : t.modes ≠ [] → t.modes.length < 256
  pb : t.pl ≠ [] → ∀ x ∈ t.pb, x.length < 256
theorem vecsBad_of {n : Nat} {l : List (List UInt8)} (h : vecsBad n l = false) : ∀ x ∈ l, x.length < 256 ^ n := by
  unfold vecsBad at h
  rw [List.any_eq_false] at h
  intro x hx
  have := h x hx
  simpa using this
theorem ch_small {t : Ch} (hb : (chExtL t).bad = false) : ChSm t := by
  rw [chBad_eq] at hb
  unfold itemsBad at hb
  rw [List.any_eq_false] at hb
  have hg : ∀ i : Nat, i < 19 → (chItem t i).1 = true → (chItem t i).2.2.bad = false := by
    intro i hi ht
    have hm : chItem t i ∈ chItems t := by
      unfold chItems
      refine List.mem_map_of_mem ?_
      have : i = 0 ∨ i = 1 ∨ i = 2 ∨ i = 3 ∨ i = 4 ∨ i = 5 ∨ i = 6 ∨ i = 7 ∨ i = 8 ∨ i = 9 ∨ i = 10 ∨ i = 11 ∨ i = 12 ∨ i = 13 ∨ i = 14 ∨ i = 15 ∨ i = 16 ∨ i = 17 ∨ i = 18 := by omega
      simpa using this
    have := hb _ hm
    rw [ht, Bool.true_and] at this
    simpa using this
  refine ⟨fun h => ?_, fun h => ?_, fun h => ?_, fun h => ?_, fun h => ?_, fun h => ?_⟩
  · have := hg 3 (by omega) ((ne_pos _).2 h)
    have this : (Wr.vector 1 (Wr.plain t.pts)).bad = false := this
    rw [vector_bad] at this
    simpa [Wr.plain] using this
  · have := hg 7 (by omega) h
    have this : (Wr.vector 1 (Wr.plain t.rn)).bad = false := this
    rw [vector_bad] at this
    simpa [Wr.plain] using this
  · have := hg 9 (by omega) ((ne_pos _).2 h)
    have this : (Wr.vector 2 (vecsW 1 t.alpn)).bad = false := this
    rw [vector_bad] at this
    exact vecsBad_of (Bool.or_eq_false_iff.1 this).1
  · have := hg 11 (by omega) ((ne_pos _).2 h)
    have this : (Wr.vector 1 (wordsW t.sv)).bad = false := this
    rw [vector_bad] at this
    simpa [wordsW] using this
  · have := hg 15 (by omega) ((ne_pos _).2 h)
    have this : (Wr.vector 1 (Wr.plain t.modes)).bad = false := this
    rw [vector_bad] at this
    simpa [Wr.plain] using this
  · have := hg 18 (by omega) ((ne_pos _).2 h)
    have this : (behindW (Wr.vector 2 (identsW (chPs t))) (Wr.vector 2 (vecsW 1 t.pb))).bad = false := this
    unfold behindW at this
    have this := (Bool.or_eq_false_iff.1 this).2
    rw [vector_bad] at this
    exact vecsBad_of (Bool.or_eq_false_iff.1 this).1
theorem zip_fst {α β : Type} : ∀ {l : List α} {m : List β}, l.length = m.length → (l.zip m).map (·.1) = l
  | [], [], _ => rfl
  | a :: l, b :: m, h => by simp [zip_fst (l := l) (m := m) (by simpa using h)]
  | [], _ :: _, h => by simp at h
  | _ :: _, [], h => by simp at h
theorem zip_snd {α β : Type} : ∀ {l : List α} {m : List β}, l.length = m.length → (l.zip m).map (·.2) = m
  | [], [], _ => rfl
  | a :: l, b :: m, h => by simp [zip_snd (l := l) (m := m) (by simpa using h)]
  | [], _ :: _, h => by simp at h
  | _ :: _, [], h => by simp at h
theorem zip_ne {α β : Type} {l : List α} {m : List β} (h : l.length = m.length) (h0 : l ≠ []) : l.zip m ≠ [] := by
  cases l with
  | nil => exact absurd rfl h0
  | cons a l => cases m with
    | nil => simp at h
    | cons b m => simp
theorem ch_step {t : Ch} (h : ChOk t) (hs : ChSm t) (S : UInt16 → Bool) (E : List UInt16) (e : Ex) (he : e ∈ chE t) (hS : S e.1 = false) : ChStep (chPart t S E) e.1 e.2 (chPart t (fun k => S k || k == e.1) E) := by
  rcases (chE_mem t e).1 he with ⟨hc, rfl⟩ | ⟨hc, rfl⟩ | ⟨hc, rfl⟩ | ⟨hc, rfl⟩ | ⟨hc, rfl⟩ | ⟨hc, rfl⟩ | ⟨hc, rfl⟩ | ⟨hc, rfl⟩ | ⟨hc, rfl⟩ | ⟨hc, rfl⟩ | ⟨hc, rfl⟩ | ⟨hc, rfl⟩ | ⟨hc, rfl⟩ | ⟨hc, rfl⟩ | ⟨hc, rfl⟩ | ⟨hc, rfl⟩ | ⟨hc, rfl⟩ | ⟨hc, rfl⟩ | ⟨hc, rfl⟩
  · have hS : S 0 = false := hS
    have := ChStep.host (chPart t S E) (Wr.vector 2 (hostW t.host)).b t.host (by simp [chPart, hS]) hc h.host (by rw [vector_b, hostW_b]; simp [be_len]; congr 1; omega)
    simpa [chPart] using this
  · have := ChStep.ocsp (chPart t S E) statusW.b statusW_b
    simpa [chPart, hc] using this
  · have hS : S 10 = false := hS
    have := ChStep.curves (chPart t S E) (Wr.vector 2 (wordsW t.curves)).b t.curves (by simp [chPart, hS]) hc (by rw [vector_b]; rfl)
    simpa [chPart] using this
  · have := ChStep.pts (chPart t S E) (Wr.vector 1 (Wr.plain t.pts)).b t.pts hc (hs.pts hc) (by rw [vector_b]; rfl)
    simpa [chPart] using this
  · have := ChStep.ticket (chPart t S E) t.tick
    simpa [chPart, hc] using this
  · have hS : S 13 = false := hS
    have := ChStep.sig (chPart t S E) (Wr.vector 2 (wordsW t.sig)).b t.sig (by simp [chPart, hS]) hc (by rw [vector_b]; rfl)
    simpa [chPart] using this
  · have hS : S 50 = false := hS
    have := ChStep.sigc (chPart t S E) (Wr.vector 2 (wordsW t.sigc)).b t.sigc (by simp [chPart, hS]) hc (by rw [vector_b]; rfl)
    simpa [chPart] using this
  · have := ChStep.rn (chPart t S E) (Wr.vector 1 (Wr.plain t.rn)).b t.rn (hs.rn hc) (by rw [vector_b]; rfl)
    simpa [chPart, hc] using this
  · have := ChStep.ems (chPart t S E) [] rfl
    simpa [chPart, hc] using this
  · have hS : S 16 = false := hS
    have := ChStep.alpn (chPart t S E) (Wr.vector 2 (vecsW 1 t.alpn)).b t.alpn (by simp [chPart, hS]) hc (fun x hx => ⟨h.al x hx, hs.alpn hc x hx⟩) (by rw [vector_b]; rfl)
    simpa [chPart] using this
  · have := ChStep.scts (chPart t S E) [] rfl
    simpa [chPart, hc] using this
  · have hS : S 43 = false := hS
    have := ChStep.sv (chPart t S E) (Wr.vector 1 (wordsW t.sv)).b t.sv (by simp [chPart, hS]) hc (hs.sv hc) (by rw [vector_b]; rfl)
    simpa [chPart] using this
  · have := ChStep.cookie (chPart t S E) (Wr.vector 2 (Wr.plain t.cookie)).b t.cookie hc (by rw [vector_b]; rfl)
    simpa [chPart] using this
  · have hS : S 51 = false := hS
    have := ChStep.ks (chPart t S E) (Wr.vector 2 (kshW (chKs t))).b (chKs t) (by simp [chPart, hS]) (by simp [chPart, hS]) (zip_ne h.ks hc) (fun e he => h.kd _ (List.of_mem_zip he).2) (by rw [vector_b]; rfl)
    rw [show (chKs t).map (·.1) = t.kg from zip_fst h.ks, show (chKs t).map (·.2) = t.kd from zip_snd h.ks] at this
    simpa [chPart] using this
  · have := ChStep.early (chPart t S E) [] rfl
    simpa [chPart, hc] using this
  · have := ChStep.modes (chPart t S E) (Wr.vector 1 (Wr.plain t.modes)).b t.modes hc (hs.modes hc) (by rw [vector_b]; rfl)
    simpa [chPart] using this
  · have := ChStep.quic (chPart t S E) t.qtp
    simpa [chPart, hc] using this
  · have := ChStep.ech (chPart t S E) t.ech hc
    simpa [chPart] using this
  · have hS : S 41 = false := hS
    have := ChStep.psk (chPart t S E) (behindW (Wr.vector 2 (identsW (chPs t))) (Wr.vector 2 (vecsW 1 t.pb))).b (chPs t) t.pb (by simp [chPart, hS]) (by simp [chPart, hS]) (by simp [chPart, hS]) (zip_ne h.pa hc) (fun e he => h.pl _ (List.of_mem_zip he).1)
      (by unfold chPs; rw [List.length_zip]; have := h.pa; have := h.pb; omega) (fun x hx => ⟨h.bl x hx, hs.pb hc x hx⟩) (by show (Wr.vector 2 _).b ++ (Wr.vector 2 _).b = _; rw [vector_b, vector_b]; simp [identsW, vecsW])
    rw [show (chPs t).map (·.1) = t.pl from zip_fst h.pa, show (chPs t).map (·.2) = t.pa from zip_snd h.pa] at this
    simpa [chPart] using this
theorem chPart_low (t : Ch) (S : UInt16 → Bool) (E : List UInt16) (k : UInt16) (h1 : 43520 ≤ k.toNat) (h2 : k.toNat < 44520) : chPart t (fun j => S j || j == k) E = chPart t S E := by
  have hne : ∀ j : UInt16, j.toNat < 43520 ∨ 44520 ≤ j.toNat → (j == k) = false := by
    intro j hj
    rw [beq_eq_false_iff_ne]
    intro e
    rw [e] at hj; omega
  unfold chPart
  simp only [hne 0 (by decide), hne 5 (by decide), hne 10 (by decide), hne 11 (by decide), hne 35 (by decide), hne 13 (by decide), hne 50 (by decide), hne 65281 (by decide), hne 23 (by decide), hne 16 (by decide), hne 18 (by decide), hne 43 (by decide), hne 44 (by decide), hne 51 (by decide),
    hne 42 (by decide), hne 45 (by decide), hne 41 (by decide), hne 57 (by decide), hne 65037 (by decide), Bool.or_false]
theorem ch_lists {t : Ch} (h : ChOk t) (hs : ChSm t) : ∀ (L : List Ex), (L.map (·.1)).Nodup → (∀ e ∈ L, e ∈ chE t ∨ 43520 ≤ e.1.toNat ∧ e.1.toNat < 44520) → PskLast L → ∀ (S : UInt16 → Bool) (E : List UInt16), (∀ e ∈ L, S e.1 = false) → (∀ e ∈ L, e.1 ∉ E) →
    ∃ S', ChRun (chPart t S E) L (chPart t S' (E ++ L.map (·.1))) ∧ (∀ k, S k = true → S' k = true) ∧ ∀ e ∈ L, S' e.1 = true
  | [], _, _, _, S, E, _, _ => ⟨S, by simpa using ChRun.nil _, fun _ h => h, by simp⟩
  | (k, d) :: L, hn, hl, hp, S, E, hS, hE => by
    rw [List.map_cons, List.nodup_cons] at hn
    have hne : ∀ x ∈ L, x.1 ≠ k := fun x hx hx2 => hn.1 (List.mem_map.2 ⟨x, hx, hx2⟩)
    obtain ⟨S', h1, h2, h3⟩ := ch_lists h hs L hn.2 (fun x hx => hl x (List.mem_cons_of_mem _ hx)) hp.2 (fun j => S j || j == k) (E ++ [k]) (fun x hx => by
        simp only [Bool.or_eq_false_iff, beq_eq_false_iff_ne]
        exact ⟨hS x (List.mem_cons_of_mem _ hx), hne x hx⟩) (fun x hx hm => by
        rcases List.mem_append.1 hm with hm | hm
        · exact hE x (List.mem_cons_of_mem _ hx) hm
        · exact hne x hx (List.mem_singleton.1 hm))
    have hst : ChStep (chPart t S (E ++ [k])) k d (chPart t (fun j => S j || j == k) (E ++ [k])) := by
      rcases hl (k, d) (by simp) with he | ⟨u1, u2⟩
      · exact ch_step h hs S (E ++ [k]) (k, d) he (hS (k, d) (by simp))
      · rw [chPart_low t S (E ++ [k]) k u1 u2]
        exact .other _ k d u1 u2
    refine ⟨S', ?_, fun j hj => h2 j (by simp [hj]), fun e he => ?_⟩
    · rw [List.append_assoc] at h1
      exact .cons _ _ _ k d L (hE (k, d) (by simp)) hst hp.1 h1
    · rcases List.mem_cons.1 he with rfl | he
      · exact h2 k (by simp)
      · exact h3 e he
theorem ch_run {t : Ch} (h : ChOk t) (hs : ChSm t) {L : List Ex} (hL : ListsE (chE t) L) (hp : PskLast L) : ChRun (chHd t) L { t with exs := L.map (·.1) } := by
  obtain ⟨S, h1, -, h3⟩ := ch_lists h hs L hL.1 hL.2.1 hp (fun _ => false) [] (fun _ _ => rfl) (fun _ _ hm => by cases hm)
  have e0 : chPart t (fun _ => false) [] = chHd t := by simp [chPart, chHd, Ch.zero]
  have e1 : chPart t S ([] ++ L.map (·.1)) = { t with exs := L.map (·.1) } := by
    have mem : ∀ e, e ∈ chE t → S e.1 = true := fun e he => h3 e (hL.2.2 e he)
    have m0 : t.host ≠ [] → S 0 = true := fun hh => mem (0, _) ((chE_mem t _).2 (.inl ⟨hh, rfl⟩))
    have m5 : t.ocsp = true → S 5 = true := fun hh => mem (5, _) ((chE_mem t _).2 (.inr (.inl ⟨hh, rfl⟩)))
    have m10 : t.curves ≠ [] → S 10 = true := fun hh => mem (10, _) ((chE_mem t _).2 (.inr (.inr (.inl ⟨hh, rfl⟩))))
    have m11 : t.pts ≠ [] → S 11 = true := fun hh => mem (11, _) ((chE_mem t _).2 (.inr (.inr (.inr (.inl ⟨hh, rfl⟩)))))
    have m35 : t.ticket = true → S 35 = true := fun hh => mem (35, _) ((chE_mem t _).2 (.inr (.inr (.inr (.inr (.inl ⟨hh, rfl⟩))))))
    have m13 : t.sig ≠ [] → S 13 = true := fun hh => mem (13, _) ((chE_mem t _).2 (.inr (.inr (.inr (.inr (.inr (.inl ⟨hh, rfl⟩)))))))
    have m50 : t.sigc ≠ [] → S 50 = true := fun hh => mem (50, _) ((chE_mem t _).2 (.inr (.inr (.inr (.inr (.inr (.inr (.inl ⟨hh, rfl⟩))))))))
    have mrn : t.rns = true → S 65281 = true := fun hh => mem (65281, _) ((chE_mem t _).2 (.inr (.inr (.inr (.inr (.inr (.inr (.inr (.inl ⟨hh, rfl⟩)))))))))
    have m23 : t.ems = true → S 23 = true := fun hh => mem (23, _) ((chE_mem t _).2 (.inr (.inr (.inr (.inr (.inr (.inr (.inr (.inr (.inl ⟨hh, rfl⟩))))))))))
    have m16 : t.alpn ≠ [] → S 16 = true := fun hh => mem (16, _) ((chE_mem t _).2 (.inr (.inr (.inr (.inr (.inr (.inr (.inr (.inr (.inr (.inl ⟨hh, rfl⟩)))))))))))
    have m18 : t.scts = true → S 18 = true := fun hh => mem (18, _) ((chE_mem t _).2 (.inr (.inr (.inr (.inr (.inr (.inr (.inr (.inr (.inr (.inr (.inl ⟨hh, rfl⟩))))))))))))
    have m43 : t.sv ≠ [] → S 43 = true := fun hh => mem (43, _) ((chE_mem t _).2 (.inr (.inr (.inr (.inr (.inr (.inr (.inr (.inr (.inr (.inr (.inr (.inl ⟨hh, rfl⟩)))))))))))))
    have m44 : t.cookie ≠ [] → S 44 = true := fun hh => mem (44, _) ((chE_mem t _).2 (.inr (.inr (.inr (.inr (.inr (.inr (.inr (.inr (.inr (.inr (.inr (.inr (.inl ⟨hh, rfl⟩))))))))))))))
    have m51 : t.kg ≠ [] → S 51 = true := fun hh => mem (51, _) ((chE_mem t _).2 (.inr (.inr (.inr (.inr (.inr (.inr (.inr (.inr (.inr (.inr (.inr (.inr (.inr (.inl ⟨hh, rfl⟩)))))))))))))))
    have m42 : t.early = true → S 42 = true := fun hh => mem (42, _) ((chE_mem t _).2 (.inr (.inr (.inr (.inr (.inr (.inr (.inr (.inr (.inr (.inr (.inr (.inr (.inr (.inr (.inl ⟨hh, rfl⟩))))))))))))))))
    have m45 : t.modes ≠ [] → S 45 = true := fun hh => mem (45, _) ((chE_mem t _).2 (.inr (.inr (.inr (.inr (.inr (.inr (.inr (.inr (.inr (.inr (.inr (.inr (.inr (.inr (.inr (.inl ⟨hh, rfl⟩)))))))))))))))))
    have m57 : t.quic = true → S 57 = true := fun hh => mem (57, _) ((chE_mem t _).2 (.inr (.inr (.inr (.inr (.inr (.inr (.inr (.inr (.inr (.inr (.inr (.inr (.inr (.inr (.inr (.inr (.inl ⟨hh, rfl⟩))))))))))))))))))
    have mech : t.ech ≠ [] → S 65037 = true := fun hh => mem (65037, _) ((chE_mem t _).2 (.inr (.inr (.inr (.inr (.inr (.inr (.inr (.inr (.inr (.inr (.inr (.inr (.inr (.inr (.inr (.inr (.inr (.inl ⟨hh, rfl⟩)))))))))))))))))))
    have m41 : t.pl ≠ [] → S 41 = true := fun hh => mem (41, _) ((chE_mem t _).2 (.inr (.inr (.inr (.inr (.inr (.inr (.inr (.inr (.inr (.inr (.inr (.inr (.inr (.inr (.inr (.inr (.inr (.inr ⟨hh, rfl⟩)))))))))))))))))))
    have m35' : t.tick ≠ [] → S 35 = true := fun hh => m35 (h.tick.resolve_right hh)
    have mrn' : t.rn ≠ [] → S 65281 = true := fun hh => mrn (h.rn.resolve_right hh)
    have m57' : t.qtp ≠ [] → S 57 = true := fun hh => m57 (h.quic.resolve_right hh)
    have len0 : ∀ {α β : Type} {a : List α} {b : List β}, a.length = b.length → b ≠ [] → a ≠ [] := by
      intro α β a b he hb ha
      rw [ha] at he
      exact hb (List.eq_nil_of_length_eq_zero (by simpa using he.symm))
    have m51' : t.kd ≠ [] → S 51 = true := fun hh => m51 (len0 h.ks hh)
    have m41a : t.pa ≠ [] → S 41 = true := fun hh => m41 (len0 h.pa hh)
    have m41b : t.pb ≠ [] → S 41 = true := fun hh => m41 (len0 h.pb hh)
    have bb : ∀ (s b : Bool), (b = true → s = true) → (s && b) = b := by intro s b h; cases b <;> simp_all
    have ll : ∀ {α : Type} (s : Bool) (l : List α), (l ≠ [] → s = true) → (if s = true then l else []) = l := by
      intro α s l h
      by_cases h0 : l = []
      · subst h0; simp
      · rw [if_pos (h h0)]
    unfold chPart
    rw [ll _ _ m0, bb _ _ m5, ll _ _ m10, ll _ _ m11, bb _ _ m35, ll _ _ m35', ll _ _ m13, ll _ _ m50, bb _ _ mrn, ll _ _ mrn', bb _ _ m23, ll _ _ m16, bb _ _ m18, ll _ _ m43, ll _ _ m44, ll _ _ m51, ll _ _ m51', bb _ _ m42, ll _ _ m45, ll _ _ m41, ll _ _ m41a, ll _ _ m41b, bb _ _ m57, ll _ _ m57', ll _ _ mech]
    simp
  rw [e0, e1] at h1
  exact h1
end Go.Proofs.YtaajmfgplhfncaaGreat
namespace Go.Proofs.YtaajmfgplhfncaaGreat
open Go.RowKit
set_option maxRecDepth 100000
theorem olen_ofW (x : Wr) : olen (ofW x) ≤ x.b.length := by
  unfold ofW
  split
  · exact Nat.zero_le _
  · exact Nat.le_refl _
theorem olen_vecs (n : Nat) (ls : List (List UInt8)) : olen (ofW (vecsW n ls)) ≤ (vecsB n ls).length := olen_ofW _
theorem app_vecs (n : Nat) (ls : List (List UInt8)) (x : List UInt8) : app (ofW (vecsW n ls)) (lpOut n (some x)) = ofW (vecsW n (ls ++ [x])) := by
  rw [← ofW_vecs_one, app_ofW]
  simp [behindW, vecsW, vecsB, vecsBad]
section
variable {w w0 w1 w2 wr w' : World} {base q off pl : Nat} {v u content ic : Value} {xs bs : List UInt8} {st out : Option (List UInt8)} {S : List Nat} {B R R' need : Nat} {F : World → Prop} {e : Ending} {fid : FuncId} {T : TypeId}
end
end Go.Proofs.YtaajmfgplhfncaaGreat
namespace Go.Proofs.YtaajmfgplhfncaaGreat
open Go.RowKit
set_option maxRecDepth 100000
def ablOut (n : Nat) (xs : List UInt8) : Option (List UInt8) := if xs.length = n then some xs else none
theorem ablOut_ok {n : Nat} {xs : List UInt8} (h : xs.length = n) : ablOut n xs = some xs := if_pos h
theorem olen_abl (n : Nat) (xs : List UInt8) : olen (ablOut n xs) ≤ xs.length := by
  unfold ablOut
  split
  · exact Nat.le_refl _
  · exact Nat.zero_le _
section
variable {w w0 w1 w2 wr w' : World} {base p q off pl a b n : Nat} {v u content ic : Value} {xs bs : List UInt8} {st out : Option (List UInt8)} {S : List Nat} {B R R' need : Nat} {F : World → Prop} {e : Ending} {fid : FuncId} {T : TypeId}
def AblP (w : World) (base p : Nat) (v : Value) (off pl : Nat) (ic : Value) (st : Option (List UInt8)) (n : Nat) (xs : List UInt8) (e : Ending) (w' : World) : Prop :=
  (xs.length = n ∧ e = .returned .nilIface ∧ ∃ v', BS w' base p v' off pl ic (app st (some xs)) ∧ Upd (p :: v.ownBlock.toList) w w' ∧ (v'.ownBlock = v.ownBlock ∨ ∃ g, v'.ownBlock = some g ∧ w.heap.size ≤ g)) ∨
  (xs.length ≠ n ∧ (∃ t x, e = .returned (.iface t x)) ∧ BS w' base p v off pl ic st ∧ Upd [] w w')
set_option maxHeartbeats 1000000 in
theorem abl_1 (hb : BS w base p v off pl ic st) (ha : Blk w a 23 #[content]) (hn : Blk w b 3 #[.int .i64 n]) (hc : Src w base p v content xs) (hl : olen st ≤ 17592186044416) (hx : xs.length ≤ 17592186044416) :
    Calls Tryz.prog 141 #[.pointer (some ⟨p, 0, none⟩), .pointer (some ⟨a, 0, none⟩), .pointer (some ⟨b, 0, none⟩)] w (AblP w base p v off pl ic st n xs) := by
  have hc0 := hc
  obtain ⟨B, hy, -⟩ := hc0
  obtain ⟨A, c, rfl, hy, -, -⟩ := Byt.form hy rfl
  have d0 := ha.cell 0
  have d1 := hn.cell 0
  simp at d0 d1
  by_cases he : xs.length = n
  · have t0 : ((xs.length : Int) != (n : Int)) = false := by rw [bne_eq_false_iff_eq]; omega
    have H := hid (AddBytes_any hb hc hl hx)
    clear hb hc hy ha hn
    have HE := hid he
    clear he
    go_enter Tryz.func141, Tryz.ntmps141
    go_wp2_with fail
    refine H.out.mono ?_
    intro e1 w1 hp
    obtain ⟨he, hp⟩ := hp
    subst he
    go_wp2
    go_ret
    exact .inl ⟨HE.out, rfl, hp⟩
  · have t0 : ((xs.length : Int) != (n : Int)) = true := by rw [bne_iff_ne]; omega
    have HE := hid he
    have HB := hid hb
    clear he hb hc hy ha hn
    go_enter Tryz.func141, Tryz.ntmps141
    go_wp2_with fail
    refine (errors_New_any _).mono ?_
    rintro e1 w1 ⟨rfl, hu⟩
    go_wp2
    go_ret
    exact .inr ⟨HE.out, ⟨_, _, rfl⟩, HB.out.upd hu (by simp) (by simp), hu⟩
set_option maxHeartbeats 1000000 in
theorem abl_Marshal (hb : BS w base p v off pl ic st) (ha : Blk w a 23 #[content]) (hn : Blk w b 3 #[.int .i64 n]) (hc : Src w base p v content xs) (hl : olen st ≤ 17592186044416) (hx : xs.length ≤ 17592186044416) :
    Calls Tryz.prog 163 #[.func (.func 141) #[] #[.pointer (some ⟨a, 0, none⟩), .pointer (some ⟨b, 0, none⟩)], .pointer (some ⟨p, 0, none⟩)] w (AblP w base p v off pl ic st n xs) := by
  have H := hid (abl_1 hb ha hn hc hl hx)
  have hen : Enters 141 := by intro args w; kernel_rfl
  unfold Enters at hen
  go_enter Tryz.func163, Tryz.ntmps163
  go_wp2_with fail
  refine H.out.mono ?_
  intro e1 w1 hp
  rcases hp with ⟨h1, rfl, h2⟩ | ⟨h1, ⟨t, x, rfl⟩, h2, h3⟩
  · have HP := hid h2
    clear h2
    go_wp2
    go_ret
    exact .inl ⟨h1, rfl, HP.out⟩
  · have HP := hid h2
    clear h2
    go_wp2
    go_ret
    exact .inr ⟨h1, ⟨_, _, rfl⟩, HP.out, h3⟩
set_option maxHeartbeats 1000000 in
theorem abl_AddValue (hb : BS w base p v off pl ic st) (ha : Blk w a 23 #[content]) (hn : Blk w b 3 #[.int .i64 n]) (hc : Src w base p v content xs) (hl : olen st ≤ 17592186044416) (hx : xs.length ≤ 17592186044416) :
    Calls Tryz.prog 140 #[.pointer (some ⟨p, 0, none⟩), .iface 153 (.func (.func 141) #[] #[.pointer (some ⟨a, 0, none⟩), .pointer (some ⟨b, 0, none⟩)])] w (BSP w base p v off pl ic (app st (ablOut n xs))) := by
  have H := hid (abl_Marshal hb ha hn hc hl hx)
  go_enter Tryz.func140, Tryz.ntmps140
  go_wp2_with fail
  refine H.out.mono ?_
  intro e1 w1 hp
  have q1 := neq_err_nil
  have q2 := neq_err_some
  rcases hp with ⟨h1, rfl, h2⟩ | ⟨h1, ⟨t, x, rfl⟩, h2, h3⟩
  · have HP := hid h2
    clear h2
    go_wp2
    go_end0
    exact ⟨rfl, by rw [ablOut_ok h1]; exact HP.out⟩
  · have hp0 : base ≤ p := by cases st with
      | none => exact (h2 : BErr _ _ _).1
      | some bs => exact (h2 : Bld _ _ _ _ _ _ _ _).1
    obtain ⟨cs, hbl, hs8, h30⟩ : ∃ cs, Blk w1 p 139 cs ∧ cs.size = 8 ∧ cs[3]? = some (.pointer none) := by
      cases st with
      | none =>
        obtain ⟨-, cs, t, x, k1, k2, k3, k4⟩ := (h2 : BErr _ _ _)
        exact ⟨cs, k1, k2, k4⟩
      | some bs => exact ⟨_, (h2 : Bld _ _ _ _ _ _ _ _).2.1, rfl, rfl⟩
    have c0 : w1.cell? ⟨p, 0, none⟩ = some cs[0] := by rw [hbl.cell]; simp [hs8]
    have f0 := hbl.frozen 0
    have hb2 := hbl.set_ 0 (.iface t x)
    have HB := hid hb2
    have H3 := hid h3
    clear h2 hbl hb2 h3
    go_wp2
    go_end0
    refine ⟨rfl, v, ?_, (H3.out.mono (S' := p :: v.ownBlock.toList) (by simp)).trans (((Upd.refl [p] _).setCell (by simp) _)) (by simp), .inl rfl⟩
    have e : app st (ablOut n xs) = none := by unfold ablOut; rw [if_neg h1, app_none]
    rw [e]
    refine ⟨hp0, _, t, x, HB.out, by simp [hs8], ?_, ?_⟩
    · rw [Array.getElem?_setIfInBounds_self_of_lt (by omega)]
    · rw [Array.getElem?_setIfInBounds_ne (by omega)]; exact h30
theorem abl_any (hb : BS w base p v off pl ic st) (hc : Src w base p v content xs) (hl : olen st ≤ 17592186044416) (hx : xs.length ≤ 17592186044416) :
    Calls Tryz.prog 129 #[.pointer (some ⟨p, 0, none⟩), content, .int .i64 n] w (BSP w base p v off pl ic (app st (ablOut n xs))) := by
  have hy := hc
  obtain ⟨B, hy, -⟩ := hy
  obtain ⟨A, c, rfl, -, -, -⟩ := Byt.form hy rfl
  obtain ⟨w1, hw1⟩ : ∃ w1, (w.alloc (.cells #[.slice A xs.length c] 23)).alloc (.cells #[.int .i64 (n : Int)] 3) = w1 := ⟨_, rfl⟩
  obtain ⟨s, hs⟩ : ∃ s, w.heap.size = s := ⟨_, rfl⟩
  have hu1 : Upd [] w w1 := by rw [← hw1]; exact ((Upd.refl _ _).alloc _).alloc _
  have ha : Blk w1 s 23 #[.slice A xs.length c] := by rw [← hw1, ← hs]; exact (Blk.new _ _ _).alloc _
  have hn : Blk w1 (s + 1) 3 #[.int .i64 (n : Int)] := by
    rw [← hw1, ← hs]
    have := Blk.new (w.alloc (.cells #[.slice A xs.length c] 23)) 3 #[.int .i64 (n : Int)]
    rwa [show (w.alloc (.cells #[.slice A xs.length c] 23)).heap.size = w.heap.size + 1 by simp] at this
  have H := hid (abl_AddValue (hb.upd hu1 (by simp) (by simp)) ha hn (hc.upd hu1 (by simp)) hl hx)
  have hmf : ∀ (fn : Fn) (first cap : Array Value) (w : World), (Instr.makeFunc fn first cap).run Tryz.prog w = .ok (.func fn first cap) w := fun _ _ _ _ => rfl
  have HW := hid hw1
  have HS := hid hs
  clear hb hc hy ha hn hw1 hs
  go_enter Tryz.func129, Tryz.ntmps129
  go_wp2_with fail
  rw [HW.out, HS.out]
  refine H.out.mono ?_
  intro e w2 hp
  obtain ⟨he, v', h1, h2, h3⟩ := hp
  subst he
  have HP := hid h1
  clear h1
  go_wp2
  go_end0
  have hsz := hu1.size
  exact ⟨rfl, v', HP.out, (hu1.mono (S' := p :: v.ownBlock.toList) (by simp)).trans h2 (fun k hk => .inl hk), h3.imp id fun ⟨g, hg, hge⟩ => ⟨g, hg, by omega⟩⟩
theorem Em.abl (h : Em w1 q v base off pl ic B F st R w2) (hc : Byt w2 B content xs) (hR : R' + xs.length ≤ R) :
    Calls Tryz.prog 129 #[.pointer (some ⟨q, 0, none⟩), content, .int .i64 n] w2 (EmP w1 q v base off pl ic B F (app st (ablOut n xs)) R') := by
  obtain ⟨v2, hb, hu, hv2⟩ := h.main
  have hr := h.room
  have ho := olen_app st (ablOut n xs)
  have h1 := olen_abl n xs
  refine (abl_any hb (src_of hc h.hq ?_) (by omega) (by omega)).mono fun e w' hp => h.step hu hv2 hp (by omega)
  intro g hg
  rcases hv2 with h2 | ⟨g', h2, hg'⟩
  · rw [h2] at hg; exact h.hv g hg
  · rw [h2] at hg
    injection hg with hg
    have := h.B1
    omega
end
end Go.Proofs.YtaajmfgplhfncaaGreat

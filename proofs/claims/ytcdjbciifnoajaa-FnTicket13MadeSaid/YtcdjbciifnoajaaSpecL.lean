/- Contract of the reference's list of extensions: add. -/
import Derived.Test.YtcdjbciifnoajaaExtRow
import Derived.Test.YtcdjbciifnoajaaExtW
import Derived.Deep.RegionLaw
namespace Go.Proofs.Ytcdjbciifnoajaa
open Go.RowKit
set_option maxRecDepth 100000

/-- the list at block p -/
def LWs (w : World) (base p : Nat) (v : Value) (s : LW) : Prop :=
  base ≤ p ∧ Blk w p 68 #[v, .bool s.bad] ∧
  ∃ us, w.ownsRow base 66 2 v s.l.length (ecells s.l us) ∧ All2 (fun u e => Byt w w.heap.size u e.2 ∧ (e.2 ≠ [] → ∀ g, u.ownBlock = some g → v.ownBlock ≠ some g ∧ g ≠ p)) us s.l
def LWP (w : World) (base p : Nat) (v : Value) (s : LW) (e : Ending) (w' : World) : Prop :=
  e = .returned (.tuple #[]) ∧ ∃ v', LWs w' base p v' s ∧ Upd (p :: v.ownBlock.toList) w w' ∧ (v'.ownBlock = v.ownBlock ∨ ∃ g, v'.ownBlock = some g ∧ w.heap.size ≤ g)

section
variable {w w' : World} {B base p : Nat} {v content : Value} {L : List Ex} {S : List Nat} {s : LW} {xs : List UInt8}

theorem own2_upd {xs : List Value} {n : Nat} (h1 : w.ownsRow base 66 2 v n xs) (hu : Upd S w w') (hs : ∀ g, v.ownBlock = some g → g ∉ S) : w'.ownsRow base 66 2 v n xs := by
  refine ⟨h1.1, ?_⟩
  rcases h1.2 with hn | ⟨g, cap, cur, rfl, hb, hg, rest⟩
  · exact .inl hn
  · exact .inr ⟨g, cap, cur, rfl, hb, (hu.block g (Array.getElem?_eq_some_iff.1 hg).1 (hs g rfl)).trans hg, rest⟩
theorem own2_ne {xs : List Value} {n g : Nat} {t : TypeId} {cs : Array Value} (h : w.ownsRow base 66 2 v n xs) (hb : Blk w g t cs) (hne : 66 ≠ t) : ∀ k, v.ownBlock = some k → k ≠ g := by
  intro k hk
  rcases h.2 with ⟨rfl, _⟩ | ⟨g', cap, cur, rfl, _, hh, _⟩
  · simp [Value.ownBlock] at hk
  · have : g' = k := by simpa [Value.ownBlock] using hk
    subst this
    exact Blk.ne_ (t := 66) hh hb hne
theorem own2_form {xs : List Value} {n : Nat} (h1 : w.ownsRow base 66 2 v n xs) : ∃ A c, v = .slice A n c ∧ n ≤ c ∧ c ≤ 9223372036854775807 := by
  rcases h1.2 with ⟨rfl, rfl⟩ | ⟨g, cap, cur, rfl, hb, hg, hn, hm, _⟩
  · exact ⟨none, 0, rfl, by omega, by omega⟩
  · exact ⟨_, cap, rfl, hn, hm⟩
/-- the list stays where nothing of it turns -/
theorem LWs.upd (h : LWs w base p v s) (hu : Upd [] w w') : LWs w' base p v s := by
  obtain ⟨h1, h2, us, h3, h4⟩ := h
  exact ⟨h1, h2.upd hu (by simp), us, own2_upd h3 hu (by simp), h4.imp fun _ _ hy => ⟨(Row.upd hy.1 hu (by simp)).shrink, hy.2⟩⟩
theorem LWs.exr (h : LWs w base p v s) : Exr w w.heap.size w.heap.size v s.l := by
  obtain ⟨_, _, us, h1, h2'⟩ := h
  have h2 : All2 (fun u e => Byt w w.heap.size u e.2) us s.l := h2'.imp fun _ _ hy => hy.1
  clear h2'
  rcases h1.2 with ⟨rfl, h0⟩ | ⟨g, cap, cur, rfl, hb, hg, hn, hm, hs, ht⟩
  · have : s.l = [] := List.eq_nil_of_length_eq_zero h0
    rw [this]
    exact Exr.nil_ _ _ _
  · refine ⟨some ⟨g, 0, none⟩, cap, us, rfl, hn, hm, fun e => by (cases e), h2, fun _ => ⟨g, 0, rfl, (Array.getElem?_eq_some_iff.1 hg).1, fun j u hu => ?_⟩⟩
    have := h1.cells (g := g) rfl j u hu
    rwa [add_lit] at this
theorem LWs.new (w : World) : LWs (w.alloc (.cells #[.slice none 0 0, .bool false] 68)) w.heap.size w.heap.size (.slice none 0 0) LW.nil :=
  ⟨Nat.le_refl _, Blk.new w _ _, [], World.ownsRow_nil _ _ _ 2, trivial⟩
theorem LWP.after {w1 w2 : World} {v1 : Value} {e : Ending} (hu : Upd (p :: v.ownBlock.toList) w w1) (hv : v1.ownBlock = v.ownBlock ∨ ∃ g, v1.ownBlock = some g ∧ w.heap.size ≤ g)
    (h : LWP w1 base p v1 s e w2) : LWP w base p v s e w2 := by
  obtain ⟨rfl, v2, h1, h2, h3⟩ := h
  refine ⟨rfl, v2, h1, hu.trans h2 ?_, ?_⟩
  · intro x hx
    rcases List.mem_cons.1 hx with hx | hx
    · exact .inl (by simp [hx])
    · rcases hv with hv | ⟨g, hv, hg⟩
      · rw [hv] at hx; exact .inl (by simp at hx ⊢; exact .inr hx)
      · rw [hv] at hx
        have : x = g := by simpa using hx
        exact .inr (by omega)
  · rcases h3 with h3 | ⟨g, h3, hg⟩
    · rw [h3]; exact hv
    · exact .inr ⟨g, h3, Nat.le_trans hu.size hg⟩

/-- 'append' of one extension, at a step of a region that draws -/
theorem step_append_ow {ops : Array Oper} {o : Oper} {a : Act} {K : Act → World → Prop} {Q : Exit → Act → World → Prop} {E : Prop} (hgd : o.guard = none) (x1 x2 : Operand)
    (ho : o.op = .call { callee := .builtin .append, args := #[x1, x2], argTypes := #[31, 31] })
    (hs : a.eval x1 = v) {us : List Value} (hown : w.ownsRow base 66 2 v L.length (ecells L us)) {g : Nat} {u : Value} {k : UInt16} (hx : a.eval x2 = .slice (some ⟨g, 0, none⟩) 1 1)
    (hb : Blk w g 66 #[wv k, u]) (hu1 : u.oneCell' = true) (hul : us.length = L.length) (hlen : L.length + 1 ≤ 4398046511104) (hbase : base ≤ w.heap.size)
    (h : ∀ (v' : Value) (w' : World), (∀ d, w'.ownsRow base 66 2 v' (L ++ [(k, d)]).length (ecells (L ++ [(k, d)]) (us ++ [u]))) → Upd v.ownBlock.toList w w' → (v'.ownBlock = v.ownBlock ∨ v'.ownBlock = some w.heap.size) → K (a.put o.dst v') w') :
    if Region.wanted o (yielded ops a.tmps) = true then Oper.wp Try.prog o a w K Q else E := by
  have hw : Region.wanted o (yielded ops a.tmps) = true := by simp [Region.wanted, hgd]
  rw [if_pos hw]
  obtain ⟨i, hi, hz, hsize, hby⟩ := info_parts info_ext
  have hcells : ∀ j u', [wv k, u][j]? = some u' → w.cell? ((⟨g, 0, none⟩ : Addr).add j) = some u' := by
    intro j u' hj
    rw [add_lit, Nat.zero_add, hb.cell]
    simpa using hj
  obtain ⟨v', w', hrun, h3, h4, _, h5⟩ := run_append_own_at (P := Try.prog) w base 31 o.type 66 i _ 2 32 Try.underlying31 hi hz hsize hby rfl (by omega) v L.length _ hown ⟨g, 0, none⟩ 1 1 [wv k, u] rfl hcells (by
      intro u' hu'
      simp at hu'
      rcases hu' with rfl | rfl
      · rfl
      · exact hu1)
    (by simp only [maxLen]; omega) (by omega) hbase
  unfold Oper.wp execOp
  simp only [ho, resolve, invoke, builtin, Sem.run_bind, Sem.run_pure, Result.andThen_ok, List.map_toArray, List.map_cons, List.map_nil, hs, hx, hrun]
  refine h v' w' (fun d => ?_) (upd_of_grown h4) h5
  rw [List.length_append, ecells_append hul]
  exact h3
/-- behind the append -/
theorem add_end {v3 : Value} {w1 w2 w3 : World} {us : List Value} {u : Value} {k : UInt16} {xb : Bool} (h : LWs w base p v s) (hu1 : Upd [] w w1) (hall : All2 (fun u e => Byt w w.heap.size u e.2 ∧ (e.2 ≠ [] → ∀ g, u.ownBlock = some g → v.ownBlock ≠ some g ∧ g ≠ p)) us s.l)
    (hc : Byt w B u xs) (hcn : xs ≠ [] → ∀ g, u.ownBlock = some g → v.ownBlock ≠ some g ∧ g ≠ p)
    (hap : ∀ d, w2.ownsRow base 66 2 v3 (s.l ++ [(k, d)]).length (ecells (s.l ++ [(k, d)]) (us ++ [u]))) (hu2 : Upd v.ownBlock.toList w1 w2) (hv : v3.ownBlock = v.ownBlock ∨ ∃ g, v3.ownBlock = some g ∧ w1.heap.size ≤ g)
    (hw3 : w3 = (w2.setCell ⟨p, 0, none⟩ v3).setCell ⟨p, 1, none⟩ (.bool xb)) : LWP w base p v ⟨s.l ++ [(k, xs)], xb⟩ (.returned (.tuple #[])) w3 := by
  have hpw := h.2.1.lt
  have hnp : ∀ k, v.ownBlock = some k → k ≠ p := by
    obtain ⟨_, hb, us', ho, _⟩ := h
    exact own2_ne ho hb (by decide)
  have hb2 : Blk w2 p 68 #[v, .bool s.bad] := (h.2.1.upd hu1 (by simp)).upd hu2 (fun hm => hnp p (Option.mem_toList.1 hm) rfl)
  have hb3 : Blk w3 p 68 #[v3, .bool xb] := by
    rw [hw3]
    have := (hb2.set_ 0 v3).set_ 1 (.bool xb)
    simpa using this
  have hu3 : Upd [p] w2 w3 := by rw [hw3]; exact ((Upd.refl [p] w2).setCell (by simp) _).setCell (by simp) _
  have hu13 : Upd (p :: v.ownBlock.toList) w w3 := by
    refine ((hu1.mono (S' := p :: v.ownBlock.toList) (by simp)).trans hu2 ?_).trans hu3 (by simp)
    intro x hx
    exact .inl (List.mem_cons_of_mem _ hx)
  have hnp3 : ∀ k, v3.ownBlock = some k → k ≠ p := by
    intro k' hk'
    rcases hv with hv | ⟨gg, hv, hgg⟩
    · rw [hv] at hk'; exact hnp k' hk'
    · rw [hv] at hk'
      have : gg = k' := by simpa using hk'
      have := hu1.size
      omega
  have hkeep : ∀ {u' : Value} {ys : List UInt8} {C : Nat}, Byt w C u' ys → (ys ≠ [] → ∀ g, u'.ownBlock = some g → v.ownBlock ≠ some g ∧ g ≠ p) → Byt w3 w3.heap.size u' ys ∧ (ys ≠ [] → ∀ g, u'.ownBlock = some g → v3.ownBlock ≠ some g ∧ g ≠ p) := by
    intro u' ys C hy hn
    by_cases hys : ys = []
    · subst hys
      obtain ⟨A, c, e, h1, h2, h3, _⟩ := hy
      exact ⟨⟨A, c, e, h1, h2, h3, fun h => absurd rfl h⟩, fun h => absurd rfl h⟩
    · have hn := hn hys
      refine ⟨(Row.apart hy hu13 fun g hg hm => ?_).shrink, fun _ g hg => ⟨fun h3 => ?_, (hn g hg).2⟩⟩
      · rcases List.mem_cons.1 hm with hm | hm
        · exact (hn g hg).2 hm
        · exact (hn g hg).1 (Option.mem_toList.1 hm)
      · rcases hv with hv | ⟨gg, hv, hgg⟩
        · rw [hv] at h3; exact (hn g hg).1 h3
        · rw [hv] at h3
          have h3 : gg = g := by simpa using h3
          obtain ⟨A, c, rfl, _, _, h0, h4⟩ := hy.shrink
          obtain ⟨b, o, rfl, hb, _⟩ := h4 (by simpa using hys)
          have : b = g := by simpa [Value.ownBlock] using hg
          have := hu1.size
          omega
  refine ⟨rfl, v3, ⟨h.1, hb3, us ++ [u], own2_upd (hap xs) hu3 (fun g hg hm => hnp3 g hg (by simpa using hm)), ?_⟩, hu13, ?_⟩
  · refine All2.append (hall.imp fun u' e hy => hkeep hy.1 hy.2) ⟨hkeep hc hcn, trivial⟩
  · rcases hv with hv | ⟨gg, hv, hgg⟩
    · exact .inl hv
    · exact .inr ⟨_, hv, Nat.le_trans hu1.size hgg⟩
end
end Go.Proofs.Ytcdjbciifnoajaa

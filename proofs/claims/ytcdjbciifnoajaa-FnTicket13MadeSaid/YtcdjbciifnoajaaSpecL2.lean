/- Contract of the reference's list of extensions: add. -/
import Derived.Test.YtcdjbciifnoajaaSpecL
import Derived.Deep.DeepMust
namespace Go.Proofs.Ytcdjbciifnoajaa
open Go.RowKit
set_option maxRecDepth 100000

section
variable {w w' : World} {B base p : Nat} {v content : Value} {L : List Ex} {S : List Nat} {s : LW} {xs : List UInt8}

set_option maxHeartbeats 2000000 in
theorem add_ex_any (h : LWs w base p v s) (is : Bool) (k : UInt16) (hc : Byt w B content xs) (hcn : is = true → xs ≠ [] → ∀ g, content.ownBlock = some g → v.ownBlock ≠ some g ∧ g ≠ p) (xb : Bool) (hl : s.l.length ≤ 1000) :
    Calls Try.prog 39 #[.pointer (some ⟨p, 0, none⟩), .bool is, wv k, .agg #[content, .bool xb]] w (LWP w base p v (s.add is k ⟨xs, xb⟩)) := by
  obtain ⟨Ac, cc, rfl, hc, -⟩ := Byt.form hc rfl
  have h0 := h
  obtain ⟨hbp, hbk, us, hown, hall⟩ := h
  obtain ⟨Av, cv, rfl, hvl, hvc⟩ := own2_form hown
  have hul : us.length = s.l.length := hall.length
  have hpl := hbk.lt
  cases is
  · go_enter Try.func39, Try.ntmps39
    go_wp2
    go_end0
    exact ⟨rfl, _, h0.upd ((Upd.refl [] w).alloc _), (Upd.refl _ w).alloc _, .inl rfl⟩
  · have hcn := hcn rfl
    obtain ⟨w1, hw1⟩ : ∃ w1, w.alloc (.cells #[.slice Ac xs.length cc, .bool xb] 57) = w1 := ⟨_, rfl⟩
    obtain ⟨q, hq⟩ : ∃ q, w.heap.size = q := ⟨_, rfl⟩
    have hu1 : Upd [] w w1 := by rw [← hw1]; exact (Upd.refl _ _).alloc _
    have hbq : Blk w1 q 57 #[.slice Ac xs.length cc, .bool xb] := by rw [← hw1, ← hq]; exact Blk.new _ _ _
    have hb1 := hbk.upd hu1 (by simp)
    have hown1 := own2_upd hown hu1 (by simp)
    have hq1 : q < w1.heap.size := hbq.lt
    have hpq : p < q := by omega
    have hbase : base ≤ w1.heap.size := by omega
    have c0 := hb1.cell 0
    have c1 := hb1.cell 1
    have f0 := hb1.frozen 0
    have f1 := hb1.frozen 1
    have d0 := hbq.cell 0
    have d1 := hbq.cell 1
    simp at c0 c1 d0 d1
    have hpn : p ∉ (Value.slice Av s.l.length cv).ownBlock.toList := fun hm => own2_ne hown hbk (by decide) _ (Option.mem_toList.1 hm) rfl
    have hqn : q ∉ (Value.slice Av s.l.length cv).ownBlock.toList := fun hm => own2_ne hown1 hbq (by decide) _ (Option.mem_toList.1 hm) rfl
    have a0 := (hb1.alloc (.cells #[wv k, .slice Ac xs.length cc] 66)).cell 0
    have a1 := (hbq.alloc (.cells #[wv k, .slice Ac xs.length cc] 66)).cell 0
    simp at a0 a1
    have npq : ¬ p = q := by omega
    have nqp : ¬ q = p := by omega
    have HW := hid hw1
    have HQ := hid hq
    have HH := hid h0
    have HA := hid hall
    have HC := hid hc
    have HN := hid hcn
    have HU := hid hul
    clear hw1 hq h0 hall hc hcn hul hown hbk
    cases hsb : s.bad
    all_goals
      rw [hsb] at c1 hb1
      have HB := hid hsb
      clear hsb
      go_enter Try.func39, Try.ntmps39
      go_wp2_with fail
      rw [HW.out, HQ.out]
      go_wp2_with fail
      go_region_law (first | (refine step_append_ow rfl _ _ rfl rfl (own2_upd hown1 (((Upd.refl [] _).alloc _).drew) (by simp)) rfl (Blk.drew (Blk.new w1 66 #[wv k, .slice Ac xs.length cc])) rfl HU.out (by omega) (by simp; omega) ?_; intro v3 w3 hap hu3 hv3; have hb3 := ((hb1.alloc (.cells #[wv k, .slice Ac xs.length cc] 66)).drew).upd hu3 hpn; have e0 := hb3.cell 0; have e1 := hb3.cell 1; simp at e0 e1; have g0 := hb3.frozen 0; have g1 := hb3.frozen 1; have hq3 := ((hbq.alloc (.cells #[wv k, .slice Ac xs.length cc] 66)).drew).upd hu3 hqn; have k1 := hq3.cell 1; simp at k1; obtain ⟨A3, c3', hv3', -, -⟩ := own2_form (hap xs); subst hv3'))
      all_goals
        go_wp2
        go_end0
        rw [LW.add_true, HB.out]
        exact add_end HH.out hu1 HA.out HC.out HN.out hap (((Upd.refl _ w1).alloc _).drew.trans hu3 (fun _ hx => .inl hx)) (hv3.imp_right fun h => ⟨_, h, by simp⟩) (by simp only [List.length_append, List.length_singleton, Bool.false_or, Bool.true_or])
end
end Go.Proofs.Ytcdjbciifnoajaa

/- Texts joined: ChT2, None. -/
import Derived.Deep.LoopGhost
import Derived.Test.YtaajmfgplhfncaaGreatB11
import Derived.Test.YtaajmfgplhfncaaGreatB03
namespace Go.Proofs.YtaajmfgplhfncaaGreat
open Go.RowKit
set_option maxRecDepth 100000
structure ChArg (t : Ch) : Prop where
  sz : ChSz t
  ks : t.kg.length = t.kd.length
  pa : t.pl.length = t.pa.length
  ep : t.ech = [] ∨ t.pl = []
section
variable {w w' : World} {B m : Nat} {v : Value} {t : Ch} {cs : Array Value} {xs : List UInt8}
theorem marshal_Ch (hm : Blk w m 105 cs) (hT : TM (chFm t) cs w w.heap.size) (h : ChArg t) : Calls Tryz.prog 59 #[.pointer (some ⟨m, 0, none⟩)] w (BytesP w (chMake t)) := by
  have H := hid (marshalMsg_Ch hm hT h.sz h.ks h.pa h.ep)
  clear hm hT h
  go_enter Tryz.func59, Tryz.ntmps59
  go_wp2_with fail
  refine H.out.mono ?_
  intro e w4 hp
  obtain ⟨A1, n1, c1, x1, rfl⟩ := hp.pair
  go_wp2
  go_ret2
  exact hp
set_option maxHeartbeats 2000000 in
theorem tls_MarshalCh (hv : ChV w B v t) (h : ChArg t) : Calls Tryz.prog 37 #[v] w (BytesP w (chMake t)) := by
  obtain ⟨cs, rfl, -⟩ := ChV.okT.agg hv
  have hb0 := ChV.okT.box hv
  obtain ⟨w1, hw1⟩ : ∃ w1, w.alloc (.cells cs 72) = w1 := ⟨_, rfl⟩
  obtain ⟨g, hg⟩ : ∃ g, w.heap.size = g := ⟨_, rfl⟩
  have hu0 : Upd [] w w1 := by rw [← hw1]; exact (Upd.refl _ _).alloc _
  rw [hw1, hg] at hb0
  have H1 := hid (msg_Ch hb0.2 h.sz h.ks h.pa)
  have HW := hid hw1
  have HG := hid hg
  have HA := hid h
  clear hw1 hg hv h
  go_enter Tryz.func37, Tryz.ntmps37
  go_upto_region 1 with fail
  rw [HW.out, HG.out]
  go_wp2_with (refine wpList_load_vb ChV.okT hb0 _ rfl rfl rfl ?_)
  refine (H1.out).mono ?_
  rintro e w2 ⟨m, cs2, rfl, hm2, hT2, hu2⟩
  have H2 := hid (marshal_Ch hm2 hT2 HA.out)
  clear hm2 hT2 H1 hb0
  go_wp2_with fail
  refine (H2.out).mono ?_
  intro e w3 hp
  obtain ⟨A1, n1, c1, x1, rfl⟩ := hp.pair
  go_wp2
  go_ret2
  exact hp.up (hu0.trans hu2 (by simp))
set_option maxHeartbeats 2000000 in
theorem impl_MarshalCh (hv : ChV w B v t) (h : ChArg t) : Calls Tryz.prog 10 #[v] w (MadeP w (chMake t)) := by
  obtain ⟨cs, rfl, -⟩ := ChV.ok.agg hv
  have hb0 := ChV.ok.box hv
  obtain ⟨w1, hw1⟩ : ∃ w1, w.alloc (.cells cs 29) = w1 := ⟨_, rfl⟩
  obtain ⟨g, hg⟩ : ∃ g, w.heap.size = g := ⟨_, rfl⟩
  have hu0 : Upd [] w w1 := by rw [← hw1]; exact (Upd.refl _ _).alloc _
  rw [hw1, hg] at hb0
  have H1 := hid (tls_MarshalCh hb0.2 h)
  have HW := hid hw1
  have HG := hid hg
  clear hw1 hg hv h
  go_enter Tryz.func10, Tryz.ntmps10
  go_upto_region 1 with fail
  rw [HW.out, HG.out]
  go_wp2_with (refine wpList_load_vb ChV.ok hb0 _ rfl rfl rfl ?_)
  refine (H1.out).mono ?_
  intro e w1 hp
  have q1 := eql_err_nil
  have q2 := eql_err_some
  obtain ⟨A, n, c, ⟨rfl, hr⟩ | ⟨t, x, rfl, hr⟩⟩ := hp.two
  all_goals
    have HR := hid hr
    clear hr
    go_wp2_with fail
    go_quiet (fail)
    go_wp2
    go_ret2
    exact (HR.out _).up hu0
end
end Go.Proofs.YtaajmfgplhfncaaGreat
namespace Go.Proofs.YtaajmfgplhfncaaGreat
open Go.RowKit
set_option maxRecDepth 100000
def noneB (ls : List (List UInt8)) (lo hi : Nat) : Bool := ls.all fun x => !(decide (lo ≤ x.length) && decide (x.length ≤ hi))
theorem noneB_bad {ls : List (List UInt8)} {lo hi j : Nat} (h : j < ls.length) (h1 : lo ≤ ls[j].length) (h2 : ls[j].length ≤ hi) : noneB ls lo hi = false := by
  unfold noneB
  rw [List.all_eq_false]
  exact ⟨ls[j], List.getElem_mem h, by simp [h1, h2]⟩
theorem noneB_step {ls : List (List UInt8)} {lo hi j : Nat} (h : j < ls.length) (hn : ¬ (lo ≤ ls[j].length ∧ ls[j].length ≤ hi)) (ht : noneB (ls.take j) lo hi = true) : noneB (ls.take (j + 1)) lo hi = true := by
  unfold noneB at ht ⊢
  rw [List.take_succ_eq_append_getElem h, List.all_append, ht]
  simp only [List.all_cons, List.all_nil, Bool.and_true, Bool.true_and, Bool.not_eq_true', Bool.and_eq_false_iff, decide_eq_false_iff_not]
  by_cases h1 : lo ≤ ls[j].length
  · exact .inr (fun h2 => hn ⟨h1, h2⟩)
  · exact .inl h1
section
variable {w w' : World} {B : Nat} {content : Value} {ls : List (List UInt8)}
set_option maxHeartbeats 1000000 in
theorem none_any (hc : Lst w B content ls) (lo hi : Nat) : Calls Tryz.prog 20 #[content, .int .i64 lo, .int .i64 hi] w fun e w' => e = .returned (.bool (noneB ls lo hi)) ∧ w = w' := by
  obtain ⟨A, c, rfl, hcr, hlc, hm⟩ := hc.shrink.form
  go_enter Tryz.func20, Tryz.ntmps20
  go_wp2
  go_loopg [8, 11] ls.length (fun gk _ i wr => ∃ j : Nat, j + gk = ls.length ∧ i = .int .i64 j ∧ w = wr ∧ noneB (ls.take j) lo hi = true)
  case atStart => exact ⟨0, by omega, rfl, rfl, rfl⟩
  case round =>
    obtain ⟨j, hj0, rfl, rfl, hall⟩ := hrel
    have HJ := hid hj0
    have HA := hid hall
    have hj : j ≤ ls.length := by omega
    clear hj0 hall
    by_cases hlt : j < ls.length
    · obtain ⟨b, o, rfl, hb', hj', A', c', hcell, hy, hl1, hl2⟩ := hcr.at_ hlt
      by_cases h1 : lo ≤ (ls[j]).length
      · have h1' : decide (lo ≤ (ls[j]).length) = true := decide_eq_true (by omega)
        by_cases h2 : (ls[j]).length ≤ hi
        · have h2' : decide ((ls[j]).length ≤ hi) = true := decide_eq_true (by omega)
          have HN := hid (noneB_bad hlt h1 h2)
          clear h1 h2
          go_wp2
          go_ret
          exact ⟨by rw [HN.out]; rfl, rfl⟩
        · have h2' : decide ((ls[j]).length ≤ hi) = false := decide_eq_false (by omega)
          have HN := hid (noneB_step hlt (fun h => h2 h.2) HA.out)
          clear h1 h2
          go_wp2
          have hj0 := HJ.out
          go_roundg (ls.length - (j + 1))
          case measure => omega
          case rel => exact ⟨j + 1, by omega, by go_num, rfl, HN.out⟩
      · have h1' : decide (lo ≤ (ls[j]).length) = false := decide_eq_false (by omega)
        have HN := hid (noneB_step hlt (fun h => h1 h.1) HA.out)
        clear h1
        go_wp2
        have hj0 := HJ.out
        go_roundg (ls.length - (j + 1))
        case measure => omega
        case rel => exact ⟨j + 1, by omega, by go_num, rfl, HN.out⟩
    · obtain rfl : j = ls.length := by omega
      go_wp2
      go_ret
      refine ⟨?_, rfl⟩
      have := HA.out
      rw [List.take_length] at this
      rw [this]; rfl
end
end Go.Proofs.YtaajmfgplhfncaaGreat

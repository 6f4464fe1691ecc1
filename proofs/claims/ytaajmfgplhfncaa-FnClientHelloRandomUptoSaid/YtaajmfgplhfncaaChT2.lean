/- ClientHello: the package's makers: MarshalClientHello, MarshalWithoutBinders. -/
import Derived.Test.YtaajmfgplhfncaaChT
namespace Go.Proofs.Ytaajmfgplhfncaa
open Go.RowKit
set_option maxRecDepth 100000

/-- what the makers ask of a message -/
structure ChArg (t : Ch) : Prop where
  sz : ChSz t
  ks : t.kg.length = t.kd.length
  pa : t.pl.length = t.pa.length
  ep : t.ech = [] ∨ t.pl = []
section
variable {w w' : World} {B m : Nat} {v : Value} {t : Ch} {cs : Array Value} {xs : List UInt8}
theorem marshal_Ch (hm : Blk w m 90 cs) (hT : TM (chFm t) cs w w.heap.size) (h : ChArg t) : Calls Try.prog 50 #[.pointer (some ⟨m, 0, none⟩)] w (BytesP w (chMake t)) := by
  have H := hid (marshalMsg_Ch hm hT h.sz h.ks h.pa h.ep)
  clear hm hT h
  go_enter Try.func50, Try.ntmps50
  go_wp2_with fail
  refine H.out.mono ?_
  intro e w4 hp
  obtain ⟨A1, n1, c1, x1, rfl⟩ := hp.pair
  go_wp2
  go_ret2
  exact hp
set_option maxHeartbeats 2000000 in
theorem tls_MarshalCh (hv : ChV w B v t) (h : ChArg t) : Calls Try.prog 45 #[v] w (BytesP w (chMake t)) := by
  obtain ⟨cs, rfl, -⟩ := ChV.okT.agg hv
  have hb0 := ChV.okT.box hv
  obtain ⟨w1, hw1⟩ : ∃ w1, w.alloc (.cells cs 72) = w1 := ⟨_, rfl⟩
  obtain ⟨g, hg⟩ : ∃ g, w.heap.size = g := ⟨_, rfl⟩
  have hu0 : Upd [] w w1 := by rw [← hw1]; exact (Upd.refl _ _).alloc _
  rw [hw1, hg] at hb0
  have H1 := hid (msg_Ch hb0.2 h.sz h.ks h.pa)
  have HW := hid hw1
  have HG := hid hg
  have HA := hid h
  clear hw1 hg hv h
  go_enter Try.func45, Try.ntmps45
  go_upto_region 1 with fail
  rw [HW.out, HG.out]
  go_wp2_with (refine wpList_load_vb ChV.okT hb0 _ rfl rfl rfl ?_)
  refine (H1.out).mono ?_
  rintro e w2 ⟨m, cs2, rfl, hm2, hT2, hu2⟩
  have H2 := hid (marshal_Ch hm2 hT2 HA.out)
  clear hm2 hT2 H1 hb0
  go_wp2_with fail
  refine (H2.out).mono ?_
  intro e w3 hp
  obtain ⟨A1, n1, c1, x1, rfl⟩ := hp.pair
  go_wp2
  go_ret2
  exact hp.up (hu0.trans hu2 (by simp))
set_option maxHeartbeats 2000000 in
theorem impl_MarshalCh (hv : ChV w B v t) (h : ChArg t) : Calls Try.prog 16 #[v] w (MadeP w (chMake t)) := by
  obtain ⟨cs, rfl, -⟩ := ChV.ok.agg hv
  have hb0 := ChV.ok.box hv
  obtain ⟨w1, hw1⟩ : ∃ w1, w.alloc (.cells cs 29) = w1 := ⟨_, rfl⟩
  obtain ⟨g, hg⟩ : ∃ g, w.heap.size = g := ⟨_, rfl⟩
  have hu0 : Upd [] w w1 := by rw [← hw1]; exact (Upd.refl _ _).alloc _
  rw [hw1, hg] at hb0
  have H1 := hid (tls_MarshalCh hb0.2 h)
  have HW := hid hw1
  have HG := hid hg
  clear hw1 hg hv h
  go_enter Try.func16, Try.ntmps16
  go_upto_region 1 with fail
  rw [HW.out, HG.out]
  go_wp2_with (refine wpList_load_vb ChV.ok hb0 _ rfl rfl rfl ?_)
  refine (H1.out).mono ?_
  intro e w1 hp
  have q1 := eql_err_nil
  have q2 := eql_err_some
  obtain ⟨A, n, c, ⟨rfl, hr⟩ | ⟨t, x, rfl, hr⟩⟩ := hp.two
  all_goals
    have HR := hid hr
    clear hr
    go_wp2_with fail
    go_quiet (fail)
    go_wp2
    go_ret2
    exact (HR.out _).up hu0
end
end Go.Proofs.Ytaajmfgplhfncaa

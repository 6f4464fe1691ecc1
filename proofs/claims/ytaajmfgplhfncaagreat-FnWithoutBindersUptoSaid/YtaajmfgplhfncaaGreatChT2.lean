/- ClientHello: the package's makers: MarshalClientHello, MarshalWithoutBinders. -/
import Derived.Test.YtaajmfgplhfncaaGreatChT
namespace Go.Proofs.YtaajmfgplhfncaaGreat
open Go.RowKit
set_option maxRecDepth 100000

/-- what the makers ask of a message -/
structure ChArg (t : Ch) : Prop where
  sz : ChSz t
  ks : t.kg.length = t.kd.length
  pa : t.pl.length = t.pa.length
  ep : t.ech = [] ∨ t.pl = []
section
variable {w w' : World} {B m : Nat} {v : Value} {t : Ch} {cs : Array Value} {xs : List UInt8}
theorem marshal_Ch (hm : Blk w m 105 cs) (hT : TM (chFm t) cs w w.heap.size) (h : ChArg t) : Calls Tryz.prog 59 #[.pointer (some ⟨m, 0, none⟩)] w (BytesP w (chMake t)) := by
  have H := hid (marshalMsg_Ch hm hT h.sz h.ks h.pa h.ep)
  clear hm hT h
  go_enter Tryz.func59, Tryz.ntmps59
  go_wp2_with fail
  refine H.out.mono ?_
  intro e w4 hp
  obtain ⟨A1, n1, c1, x1, rfl⟩ := hp.pair
  go_wp2
  go_ret2
  exact hp
set_option maxHeartbeats 2000000 in
theorem tls_MarshalCh (hv : ChV w B v t) (h : ChArg t) : Calls Tryz.prog 37 #[v] w (BytesP w (chMake t)) := by
  obtain ⟨cs, rfl, -⟩ := ChV.okT.agg hv
  have hb0 := ChV.okT.box hv
  obtain ⟨w1, hw1⟩ : ∃ w1, w.alloc (.cells cs 72) = w1 := ⟨_, rfl⟩
  obtain ⟨g, hg⟩ : ∃ g, w.heap.size = g := ⟨_, rfl⟩
  have hu0 : Upd [] w w1 := by rw [← hw1]; exact (Upd.refl _ _).alloc _
  rw [hw1, hg] at hb0
  have H1 := hid (msg_Ch hb0.2 h.sz h.ks h.pa)
  have HW := hid hw1
  have HG := hid hg
  have HA := hid h
  clear hw1 hg hv h
  go_enter Tryz.func37, Tryz.ntmps37
  go_upto_region 1 with fail
  rw [HW.out, HG.out]
  go_wp2_with (refine wpList_load_vb ChV.okT hb0 _ rfl rfl rfl ?_)
  refine (H1.out).mono ?_
  rintro e w2 ⟨m, cs2, rfl, hm2, hT2, hu2⟩
  have H2 := hid (marshal_Ch hm2 hT2 HA.out)
  clear hm2 hT2 H1 hb0
  go_wp2_with fail
  refine (H2.out).mono ?_
  intro e w3 hp
  obtain ⟨A1, n1, c1, x1, rfl⟩ := hp.pair
  go_wp2
  go_ret2
  exact hp.up (hu0.trans hu2 (by simp))
set_option maxHeartbeats 2000000 in
theorem impl_MarshalCh (hv : ChV w B v t) (h : ChArg t) : Calls Tryz.prog 10 #[v] w (MadeP w (chMake t)) := by
  obtain ⟨cs, rfl, -⟩ := ChV.ok.agg hv
  have hb0 := ChV.ok.box hv
  obtain ⟨w1, hw1⟩ : ∃ w1, w.alloc (.cells cs 29) = w1 := ⟨_, rfl⟩
  obtain ⟨g, hg⟩ : ∃ g, w.heap.size = g := ⟨_, rfl⟩
  have hu0 : Upd [] w w1 := by rw [← hw1]; exact (Upd.refl _ _).alloc _
  rw [hw1, hg] at hb0
  have H1 := hid (tls_MarshalCh hb0.2 h)
  have HW := hid hw1
  have HG := hid hg
  clear hw1 hg hv h
  go_enter Tryz.func10, Tryz.ntmps10
  go_upto_region 1 with fail
  rw [HW.out, HG.out]
  go_wp2_with (refine wpList_load_vb ChV.ok hb0 _ rfl rfl rfl ?_)
  refine (H1.out).mono ?_
  intro e w1 hp
  have q1 := eql_err_nil
  have q2 := eql_err_some
  obtain ⟨A, n, c, ⟨rfl, hr⟩ | ⟨t, x, rfl, hr⟩⟩ := hp.two
  all_goals
    have HR := hid hr
    clear hr
    go_wp2_with fail
    go_quiet (fail)
    go_wp2
    go_ret2
    exact (HR.out _).up hu0
/-- how long the binders' part is -/
def chBl (t : Ch) : Nat := 2 + (vecsB 1 t.pb).length
theorem vecsB1_take (ls : List (List UInt8)) (j : Nat) (h : j < ls.length) : (vecsB 1 (ls.take (j + 1))).length = (vecsB 1 (ls.take j)).length + 1 + (ls[j]).length := by
  have e : vecsB 1 (ls.take (j + 1)) = vecsB 1 (ls.take j) ++ (be 1 (ls[j]).length ++ ls[j]) := by
    rw [List.take_succ_eq_append_getElem h]
    unfold vecsB
    rw [List.flatMap_append]
    simp
  rw [e, List.length_append, List.length_append, be_len]
  omega
theorem vecsB1_le (ls : List (List UInt8)) (j : Nat) : (vecsB 1 (ls.take j)).length ≤ (vecsB 1 ls).length := by
  have : vecsB 1 ls = vecsB 1 (ls.take j) ++ vecsB 1 (ls.drop j) := by
    unfold vecsB; rw [← List.flatMap_append, List.take_append_drop]
  rw [this, List.length_append]
  omega
set_option maxHeartbeats 4000000 in
theorem marshalWB_Ch (hm : Blk w m 105 cs) (hT : TM (chFm t) cs w w.heap.size) (h : ChArg t) (hk : chMake t = some xs) (hl : chBl t ≤ xs.length) :
    Calls Tryz.prog 66 #[.pointer (some ⟨m, 0, none⟩)] w (BytesP w (some (xs.take (xs.length - chBl t)))) := by
  have q2 : ∀ (w : World) (a : Option Addr) (n c n' c' : Nat), (binOp .neq 23 (.slice a n c) (.slice none n' c')).run Tryz.prog w = .ok (.bool a.isSome) w := fun w a n c n' c' => by rw [run_neq_slice_nil_any w _ _ a n c n' c' Tryz.underlying23]; cases a <;> rfl
  have H := hid (marshal_Ch hm hT h)
  rw [hk] at H
  obtain ⟨A25, c25, a25, x25⟩ := hT.lst (i := 25) (ls := t.pb) rfl
  have d25 : w.cell? ⟨m, 25, none⟩ = some (.slice A25 t.pb.length c25) := (hm.cell 25).trans a25
  have d0 : w.cell? ⟨m, 0, none⟩ = some (.slice none 0 0) := (hm.cell 0).trans (hT.val (i := 0) rfl)
  have hlb : (vecsB 1 t.pb).length ≤ 2097152 := by have := vecsB_lst 1 t.pb; have := h.sz.pb; omega
  have hln : t.pb.length ≤ 1048576 := Nat.le_trans (lstSz_len _) h.sz.pb
  have HL := hid hl
  have HX := hid x25
  have HB := hid hlb
  clear hm hT h hk hl x25 a25 hlb
  go_enter Tryz.func66, Tryz.ntmps66
  go_wp2_with fail
  go_loopg [4, 6, 14] t.pb.length (fun gk a _ i wr => ∃ j : Nat, j + gk = t.pb.length ∧ i = .int .i64 (j : Int) ∧ a = .int .i64 ((2 + (vecsB 1 (t.pb.take j)).length : Nat) : Int) ∧ wr = w)
  case atStart => exact ⟨0, by omega, rfl, rfl, rfl⟩
  case round =>
    obtain ⟨j, hj0, rfl, rfl, rfl⟩ := hrel
    have HJ := hid hj0
    have hj : j ≤ t.pb.length := by omega
    clear hj0
    by_cases hlt : j < t.pb.length
    · obtain ⟨b, o, rfl, hb, hj', A', c', hcell, hy, hy1, hy2⟩ := HX.out.at_ hlt
      have HS := hid (vecsB1_take t.pb j hlt)
      have hL := vecsB1_le t.pb (j + 1)
      have hB := HB.out
      have hle : 2 + (vecsB 1 (t.pb.take j)).length + 1 + (t.pb[j]).length ≤ 9223372036854775807 := by have := HS.out; omega
      clear hy hL hB
      go_wp2
      have hj0 := HJ.out
      have hS := HS.out
      go_roundg (t.pb.length - (j + 1))
      case measure => omega
      case rel => exact ⟨j + 1, by omega, by go_num, by rw [hS]; go_num, rfl⟩
    · obtain rfl : j = t.pb.length := by have := HJ.out; omega
      rw [List.take_length]
      have eB : 2 + (vecsB 1 t.pb).length = chBl t := rfl
      rw [eB]
      have hB : chBl t ≤ 2097160 := by have := HB.out; omega
      have q1 := neq_err_nil
      have q3 := neq_err_some
      clear eB HB HX
      go_wp2_with fail
      refine H.out.mono ?_
      intro e w4 hp
      obtain ⟨hu, u, rfl, hy, hn, A, n, c, rfl⟩ := hp
      obtain ⟨A, c, e, hy, hl1, hl2⟩ := Byt.form hy rfl
      injection e with e1 e2 e3
      subst e1 e2 e3
      have hsub : ((xs.length : Int) - (chBl t : Int)) = (((xs.length - chBl t : Nat)) : Int) := by have := HL.out; omega
      have hle : xs.length - chBl t ≤ c := by omega
      have HY := hid hy
      have HN := hid hn
      have HU := hid hu
      clear hy hn hu H
      go_wp2
      go_ret2
      have hN : NewFrom wr.heap.size (.slice A (xs.length - chBl t) c) := by
        intro k hk
        refine HN.out k ?_
        rcases A with _ | a
        · simp [Value.ownBlock] at hk
        · simpa [Value.ownBlock] using hk
      exact ⟨HU.out, .slice A (xs.length - chBl t) c, rfl, Byt.takeTo HY.out (by omega) (by omega) (Nat.le_refl _) (Row.capNone HY.out), hN, ⟨_, _, _, rfl⟩⟩
set_option maxHeartbeats 2000000 in
theorem tls_MarshalWB (hv : ChV w B v t) (h : ChArg t) (hk : chMake t = some xs) (hl : chBl t ≤ xs.length) : Calls Tryz.prog 57 #[v] w (BytesP w (some (xs.take (xs.length - chBl t)))) := by
  obtain ⟨cs, rfl, -⟩ := ChV.okT.agg hv
  have hb0 := ChV.okT.box hv
  obtain ⟨w1, hw1⟩ : ∃ w1, w.alloc (.cells cs 72) = w1 := ⟨_, rfl⟩
  obtain ⟨g, hg⟩ : ∃ g, w.heap.size = g := ⟨_, rfl⟩
  have hu0 : Upd [] w w1 := by rw [← hw1]; exact (Upd.refl _ _).alloc _
  rw [hw1, hg] at hb0
  have H1 := hid (msg_Ch hb0.2 h.sz h.ks h.pa)
  have HW := hid hw1
  have HG := hid hg
  have HA := hid h
  have HK := hid hk
  have HL := hid hl
  clear hw1 hg hv h hk hl
  go_enter Tryz.func57, Tryz.ntmps57
  go_upto_region 1 with fail
  rw [HW.out, HG.out]
  go_wp2_with (refine wpList_load_vb ChV.okT hb0 _ rfl rfl rfl ?_)
  refine (H1.out).mono ?_
  rintro e w2 ⟨m, cs2, rfl, hm2, hT2, hu2⟩
  have H2 := hid (marshalWB_Ch hm2 hT2 HA.out HK.out HL.out)
  clear hm2 hT2 H1 hb0
  go_wp2_with fail
  refine (H2.out).mono ?_
  intro e w3 hp
  obtain ⟨A1, n1, c1, x1, rfl⟩ := hp.pair
  go_wp2
  go_ret2
  exact hp.up (hu0.trans hu2 (by simp))
set_option maxHeartbeats 2000000 in
theorem impl_MarshalWB (hv : ChV w B v t) (h : ChArg t) (hk : chMake t = some xs) (hl : chBl t ≤ xs.length) : Calls Tryz.prog 15 #[v] w (MadeP w (some (xs.take (xs.length - chBl t)))) := by
  obtain ⟨cs, rfl, -⟩ := ChV.ok.agg hv
  have hb0 := ChV.ok.box hv
  obtain ⟨w1, hw1⟩ : ∃ w1, w.alloc (.cells cs 29) = w1 := ⟨_, rfl⟩
  obtain ⟨g, hg⟩ : ∃ g, w.heap.size = g := ⟨_, rfl⟩
  have hu0 : Upd [] w w1 := by rw [← hw1]; exact (Upd.refl _ _).alloc _
  rw [hw1, hg] at hb0
  have H1 := hid (tls_MarshalWB hb0.2 h hk hl)
  have HW := hid hw1
  have HG := hid hg
  clear hw1 hg hv h hk hl
  go_enter Tryz.func15, Tryz.ntmps15
  go_upto_region 1 with fail
  rw [HW.out, HG.out]
  go_wp2_with (refine wpList_load_vb ChV.ok hb0 _ rfl rfl rfl ?_)
  refine (H1.out).mono ?_
  intro e w1 hp
  have q1 := eql_err_nil
  have q2 := eql_err_some
  obtain ⟨A, n, c, ⟨rfl, hr⟩ | ⟨t, x, rfl, hr⟩⟩ := hp.two
  all_goals
    have HR := hid hr
    clear hr
    go_wp2_with fail
    go_quiet (fail)
    go_wp2
    go_ret2
    exact (HR.out _).up hu0
end
end Go.Proofs.YtaajmfgplhfncaaGreat

/- Texts joined: ChM2. -/
import Derived.Deep.RegionHeld3
import Derived.Test.YtaajmfgplhfncaaGreatB08
namespace Go.Proofs.YtaajmfgplhfncaaGreat
open Go.RowKit
set_option maxRecDepth 100000
theorem app_lnil (o : Option (List UInt8)) : app (some []) o = o := by cases o <;> simp [app]
theorem TopS.box {w0 w : World} {p : Nat} {st : Option (List UInt8)} (h : TopS w0 w p st) (T : TypeId) (cs : Array Value) : TopS w0 (w.alloc (.cells cs T)) p st ∧ Blk (w.alloc (.cells cs T)) w.heap.size T cs := ⟨h.new_ ((Upd.refl [] _).alloc _), Blk.new _ _ _⟩
theorem chOut_form {t : Ch} (hks : t.kg.length = t.kd.length) (hpa : t.pl.length = t.pa.length) : chOut t = app (app (app (app (app (app (app (app (app (app (app (app (app (app (app (app (app (app (app (some []) (condOut (decide (0 < t.host.length)) (extOut 0 (lpOut 2 (app (some [UInt8.ofNat 0]) (lpOut 2 (some t.host))))))) (condOut (decide (0 < t.pts.length)) (extOut 11 (lpOut 1 (some t.pts))))) (condOut (t.ticket) (extOut 35 (some t.tick)))) (condOut (t.rns) (extOut 65281 (lpOut 1 (some t.rn))))) (condOut (t.ems) (extOut 23 (some [])))) (condOut (t.scts) (extOut 18 (some [])))) (condOut (t.early) (extOut 42 (some [])))) (condOut (t.quic) (extOut 57 (some (if t.quic = true then t.qtp else []))))) (condOut (decide (0 < t.ech.length)) (extOut 65037 (some t.ech)))) (condOut (t.ocsp) (extOut 5 (app (some [UInt8.ofNat 1]) (app (some (be 2 0)) (some (be 2 0))))))) (condOut (decide (0 < t.curves.length)) (extOut 10 (lpOut 2 (some (wordsB t.curves)))))) (condOut (decide (0 < t.sig.length)) (extOut 13 (lpOut 2 (some (wordsB t.sig)))))) (condOut (decide (0 < t.sigc.length)) (extOut 50 (lpOut 2 (some (wordsB t.sigc)))))) (condOut (decide (0 < t.alpn.length)) (extOut 16 (lpOut 2 (ofW (vecsW 1 t.alpn)))))) (condOut (decide (0 < t.sv.length)) (extOut 43 (lpOut 1 (some (wordsB t.sv)))))) (condOut (decide (0 < t.cookie.length)) (extOut 44 (lpOut 2 (some t.cookie))))) (condOut (decide (0 < (chKs t).length)) (extOut 51 (lpOut 2 (ofW (kshW (chKs t))))))) (condOut (decide (0 < t.modes.length)) (extOut 45 (lpOut 1 (some t.modes))))) (condOut (decide (0 < (chPs t).length)) (extOut 41 (app (lpOut 2 (ofW (identsW (chPs t)))) (lpOut 2 (ofW (vecsW 1 t.pb)))))) := by
  have e0 : ofW (Wr.vector 2 (hostW t.host)) = lpOut 2 (app (some [UInt8.ofNat 0]) (lpOut 2 (some t.host))) := by
    rw [← lpOut_ofW]
    congr 1
    have h : hostW t.host = (Wr.nil.num 1 0).vec 2 t.host := rfl
    rw [h, ofW_vec, ofW_num]
    rfl
  have pl : ∀ (n : Nat) (x : List UInt8), ofW (Wr.vector n (Wr.plain x)) = lpOut n (some x) := fun n x => by rw [← lpOut_ofW]; rfl
  have ws : ∀ (n : Nat) (l : List UInt16), ofW (Wr.vector n (wordsW l)) = lpOut n (some (wordsB l)) := fun n l => by rw [← lpOut_ofW]; rfl
  have e1 : ofW statusW = app (some [UInt8.ofNat 1]) (app (some (be 2 0)) (some (be 2 0))) := rfl
  have ea : ofW (Wr.vector 2 (vecsW 1 t.alpn)) = lpOut 2 (ofW (vecsW 1 t.alpn)) := (lpOut_ofW _ _).symm
  have ek : ofW (Wr.vector 2 (kshW (chKs t))) = lpOut 2 (ofW (kshW (chKs t))) := (lpOut_ofW _ _).symm
  have ep : ofW (behindW (Wr.vector 2 (identsW (chPs t))) (Wr.vector 2 (vecsW 1 t.pb))) = app (lpOut 2 (ofW (identsW (chPs t)))) (lpOut 2 (ofW (vecsW 1 t.pb))) := by
    rw [← app_ofW, ← lpOut_ofW, ← lpOut_ofW]
  have eq : condOut t.quic (extOut 57 (some (if t.quic = true then t.qtp else []))) = condOut t.quic (extOut 57 (ofW (Wr.plain t.qtp))) := by
    cases t.quic <;> rfl
  have lk : (chKs t).length = t.kg.length := by unfold chKs; rw [List.length_zip]; omega
  have lp : (chPs t).length = t.pl.length := by unfold chPs; rw [List.length_zip]; omega
  have eh : (!t.host.isEmpty) = decide (0 < t.host.length) := by cases t.host <;> rfl
  rw [eq, lk, lp]
  unfold chOut itemsOut chPkg
  simp only [List.map_cons, List.map_nil, List.foldl_cons, List.foldl_nil, chItem]
  rw [e0, e1, ea, ek, ep, eh, pl, pl, pl, pl, ws, ws, ws, ws]
  rfl
section
variable {w w' : World} {m : Nat} {cs : Array Value} {v : Value} {t : Ch}
set_option maxHeartbeats 16000000 in
theorem marshalMsg_Ch (hm : Blk w m 105 cs) (hT : TM (chFm t) cs w w.heap.size) (hZ : ChSz t) (hks : t.kg.length = t.kd.length) (hpa : t.pl.length = t.pa.length) (hep : t.ech = [] ∨ t.pl = []) :
    Calls Tryz.prog 67 #[.pointer (some ⟨m, 0, none⟩), .bool false] w (BytesP w (chMake t)) := by
  obtain ⟨w0, hw0⟩ : ∃ w0, (w.alloc (.cells #[.pointer (some ⟨m, 0, none⟩)] 99)).alloc (.cells #[.bool false] 4) = w0 := ⟨_, rfl⟩
  obtain ⟨s, hs⟩ : ∃ s, w.heap.size = s := ⟨_, rfl⟩
  have hs0 : w0.heap.size = s + 1 + 1 := by rw [← hw0, ← hs]; simp
  have hu0 : Upd [] w w0 := by rw [← hw0]; exact ((Upd.refl _ _).alloc _).alloc _
  have hml := hm.lt
  have hm0 := hm.upd hu0 (by simp)
  have hk0 : Blk w0 s 99 #[.pointer (some ⟨m, 0, none⟩)] := by rw [← hw0, ← hs]; exact (Blk.new _ _ _).alloc _
  have he0 : Blk w0 (s + 1) 4 #[.bool false] := by
    rw [← hw0, ← hs]
    have := Blk.new (w.alloc (.cells #[.pointer (some ⟨m, 0, none⟩)] 99)) 4 #[.bool false]
    rwa [show (w.alloc (.cells #[.pointer (some ⟨m, 0, none⟩)] 99)).heap.size = w.heap.size + 1 by simp] at this
  have hF : ChE w0.heap.size m s (s + 1) cs t w0 := ⟨hm0, hk0, he0, (hT.upd hu0 (by simp)).shrink⟩
  have hmB : m < w0.heap.size := by omega
  have hkB : s < w0.heap.size := by omega
  have heB : s + 1 < w0.heap.size := by omega
  have hmf : ∀ (fn : Fn) (first cap : Array Value) (w : World), (Instr.makeFunc fn first cap).run Tryz.prog w = .ok (.func fn first cap) w := fun _ _ _ _ => rfl
  have q2 : ∀ (w : World) (a : Option Addr) (n c n' c' : Nat), (binOp .neq 23 (.slice a n c) (.slice none n' c')).run Tryz.prog w = .ok (.bool a.isSome) w := fun w a n c n' c' => by rw [run_neq_slice_nil_any w _ _ a n c n' c' Tryz.underlying23]; cases a <;> rfl
  have HFF := hid (fun (wx : World) (hu : Upd [] w0 wx) => ChE.stable hmB hkB heB _ _ (hu.below (Nat.le_refl _) (by simp)) hF)
  have hne : (chPs t).length = 0 ∨ t.ech = [] := by
    rcases hep with h | h
    · exact .inr h
    · left; unfold chPs; rw [h]; rfl
  have HNE := hid hne
  have HKS := hid hks
  have HPA := hid hpa
  have HE0 := hid (ch_h1 (B := w0.heap.size) (m := m) (k := s) (ei := s + 1) (cs := cs) (t := t) hmB hkB heB hZ)
  have HE1 := hid (ch_p1 (B := w0.heap.size) (m := m) (k := s) (ei := s + 1) (cs := cs) (t := t) hmB hkB heB hZ)
  have HE2 := hid (ch_t1 (B := w0.heap.size) (m := m) (k := s) (ei := s + 1) (cs := cs) (t := t) hmB hkB heB hZ)
  have HE3 := hid (ch_r1 (B := w0.heap.size) (m := m) (k := s) (ei := s + 1) (cs := cs) (t := t) hmB hkB heB hZ)
  have HE4 := hid (ch_q1 (B := w0.heap.size) (m := m) (k := s) (ei := s + 1) (cs := cs) (t := t) hmB hkB heB hZ)
  have HE5 := hid (ch_e1 (B := w0.heap.size) (m := m) (k := s) (ei := s + 1) (cs := cs) (t := t) hmB hkB heB hZ)
  have HE6 := hid (ch_o1 (B := w0.heap.size) (m := m) (k := s) (ei := s + 1) (cs := cs) (t := t) hmB hkB heB hZ)
  have HE7 := hid (ch_c1 (B := w0.heap.size) (m := m) (k := s) (ei := s + 1) (cs := cs) (t := t) hmB hkB heB hZ)
  have HE8 := hid (ch_s1 (B := w0.heap.size) (m := m) (k := s) (ei := s + 1) (cs := cs) (t := t) hmB hkB heB hZ)
  have HE9 := hid (ch_sc1 (B := w0.heap.size) (m := m) (k := s) (ei := s + 1) (cs := cs) (t := t) hmB hkB heB hZ)
  have HE10 := hid (ch_a1 (B := w0.heap.size) (m := m) (k := s) (ei := s + 1) (cs := cs) (t := t) hmB hkB heB hZ)
  have HE11 := hid (ch_v1 (B := w0.heap.size) (m := m) (k := s) (ei := s + 1) (cs := cs) (t := t) hmB hkB heB hZ)
  have HE12 := hid (ch_k1 (B := w0.heap.size) (m := m) (k := s) (ei := s + 1) (cs := cs) (t := t) hmB hkB heB hZ)
  have HE13 := hid (ch_ks1 (B := w0.heap.size) (m := m) (k := s) (ei := s + 1) (cs := cs) (t := t) hmB hkB heB hZ)
  have HE14 := hid (ch_m1 (B := w0.heap.size) (m := m) (k := s) (ei := s + 1) (cs := cs) (t := t) hmB hkB heB hZ)
  have HE15 := hid (ch_psk (B := w0.heap.size) (m := m) (k := s) (ei := s + 1) (cs := cs) (t := t) hmB hkB heB hZ)
  have hT0 : TopS w0 (w0.alloc (.cells #[.nilIface, .slice none 0 0, .bool false, .pointer none, .int .i64 0, .int .i64 0, .bool false, .pointer none] 139)) w0.heap.size (some []) := TopS.new w0
  obtain ⟨wT, hwT⟩ : ∃ wT, w0.alloc (.cells #[.nilIface, .slice none 0 0, .bool false, .pointer none, .int .i64 0, .int .i64 0, .bool false, .pointer none] 139) = wT := ⟨_, rfl⟩
  rw [hwT] at hT0
  rw [hs0] at hT0
  obtain ⟨ST0, hST0⟩ : ∃ x : Option (List UInt8), some [] = x := ⟨_, rfl⟩
  rw [hST0] at hT0
  have hln0 : olen ST0 ≤ 0 := by rw [← hST0]; exact Nat.le_refl _
  have HST0 := hid hST0
  have HLN := hid hln0
  have HF := hid hF
  have HW := hid hw0
  have HWT := hid hwT
  have HS := hid hs
  have HS0 := hid hs0
  have HU0 := hid hu0
  have HZ := hid hZ
  have HT0 := hid hT0
  clear hw0 hwT hs hST0 hln0 hm0 hk0 he0 hm hF hu0 hZ hs0 hmB hkB heB hT hT0 hml hks hpa hep hne
  go_enter Tryz.func67, Tryz.ntmps67
  go_upto_region 2 with fail
  rw [HW.out, HWT.out, HS.out]
  have hT := HT0.out
  clear HT0
  obtain ⟨ST1, hST1⟩ : ∃ x, app ST0 (condOut (decide (0 < t.host.length)) (extOut 0 (lpOut 2 (app (some [UInt8.ofNat 0]) (lpOut 2 (some t.host)))))) = x := ⟨_, rfl⟩
  have hln1 : olen ST1 ≤ 8388640 := by
    have h0 := HLN.out
    rw [← hST1]
    have h1 := olen_app ST0 (condOut (decide (0 < t.host.length)) (extOut 0 (lpOut 2 (app (some [UInt8.ofNat 0]) (lpOut 2 (some t.host))))))
    have h2 := olen_cond (decide (0 < t.host.length)) (extOut 0 (lpOut 2 (app (some [UInt8.ofNat 0]) (lpOut 2 (some t.host)))))
    have h3 := olen_ext 0 (lpOut 2 (app (some [UInt8.ofNat 0]) (lpOut 2 (some t.host))))
    have h4 : olen (lpOut 2 (app (some [UInt8.ofNat 0]) (lpOut 2 (some t.host)))) ≤ 8388624 := HE0.out.1
    omega
  have HLN1 := hid hln1
  have HST1 := hid hST1
  clear hln1 hST1
  have hf := HFF.out _ hT.up
  have d0 := hf.ptr
  have d1 := hf.flag
  have cc := hf.val (i := 6) (u := strv t.host) rfl
  have HT := hid hT
  clear hT hf
  go_upto_if 16 with fail
  go_cut [] from 11 to 19 (fun wx => TopS w0 wx (s + 1 + 1) ST1)
  case first =>
    rcases bcase (decide (0 < t.host.length)) with hz | hz
    · try rw [hz]
      have HZ1 := hid hz
      clear hz
      have H := hid (AddUint16_top HT.out (by have := HLN.out; omega) 0 (by omega))
      go_wp2_with fail
      refine H.out.mono ?_
      rintro e w2 ⟨rfl, hT⟩
      have H2 := hid (AddLP16_topF hT HE0.out HF.out (Nat.le_refl _) (by have := olen_app ST0 (some (be 2 0)); have h5 : olen (some (be 2 0)) = 2 := be_len _ _; have := HLN.out; omega))
      clear H hT
      go_wp2_with fail
      refine H2.out.mono ?_
      rintro e w3 ⟨rfl, hT⟩
      have HT3 := hid hT
      clear hT H2
      go_wp2_with fail
      go_meet
      exact TopS.cast HT3.out (by rw [← HST1.out, HZ1.out]; simp only [condOut_true, extOut, lpOut_empty, app_assoc])
    · try rw [hz]
      have HZ1 := hid hz
      clear hz
      go_wp2_with fail
      go_meet
      exact TopS.cast HT.out (by rw [← HST1.out, HZ1.out, condOut_false, app_nil])
  have hT := hcut
  clear hcut HT d0 d1 cc
  replace HLN := HLN1
  clear HLN1
  obtain ⟨ST2, hST2⟩ : ∃ x, app ST1 (condOut (decide (0 < t.pts.length)) (extOut 11 (lpOut 1 (some t.pts)))) = x := ⟨_, rfl⟩
  have hln2 : olen ST2 ≤ 16777272 := by
    have h0 := HLN.out
    rw [← hST2]
    have h1 := olen_app ST1 (condOut (decide (0 < t.pts.length)) (extOut 11 (lpOut 1 (some t.pts))))
    have h2 := olen_cond (decide (0 < t.pts.length)) (extOut 11 (lpOut 1 (some t.pts)))
    have h3 := olen_ext 11 (lpOut 1 (some t.pts))
    have h4 : olen (lpOut 1 (some t.pts)) ≤ 8388616 := HE1.out.1
    omega
  have HLN2 := hid hln2
  have HST2 := hid hST2
  clear hln2 hST2
  have hf := HFF.out _ hT.up
  have d0 := hf.ptr
  have d1 := hf.flag
  obtain ⟨A9, c9, cc, -⟩ := hf.byt (i := 9) (l := t.pts) rfl
  have HT := hid hT
  clear hT hf
  go_upto_region 5 with fail
  go_cut [29] from 20 to 29 (fun c wx => c = .bool (decide (0 < t.pts.length)) ∧ TopS w0 wx (s + 1 + 1) ST1)
  case first =>
    skip
    rcases bcase (decide (0 < t.pts.length)) with hz | hz
    · try rw [hz]
      go_wp2_with fail
      go_meet
      exact ⟨by rw [hz], HT.out⟩
    · try rw [hz]
      go_wp2_with fail
      go_meet
      exact ⟨by rw [hz], HT.out⟩
  have HCS := hid hcut.1
  have hT := hcut.2
  have HT := hid hT
  skip
  clear hT hcut d0 d1 cc
  rename_i cv wv9
  rw [HCS.out]
  clear HCS
  go_upto_if 29 with fail
  go_cut [] from 20 to 32 (fun wx => TopS w0 wx (s + 1 + 1) ST2)
  case first =>
    rcases bcase (decide (0 < t.pts.length)) with hz | hz
    · try rw [hz]
      have HZ1 := hid hz
      clear hz
      have H := hid (AddUint16_top HT.out (by have := HLN.out; omega) 11 (by omega))
      go_wp2_with fail
      refine H.out.mono ?_
      rintro e w2 ⟨rfl, hT⟩
      have H2 := hid (AddLP16_topF hT HE1.out HF.out (Nat.le_refl _) (by have := olen_app ST1 (some (be 2 11)); have h5 : olen (some (be 2 11)) = 2 := be_len _ _; have := HLN.out; omega))
      clear H hT
      go_wp2_with fail
      refine H2.out.mono ?_
      rintro e w3 ⟨rfl, hT⟩
      have HT3 := hid hT
      clear hT H2
      go_wp2_with fail
      go_meet
      exact TopS.cast HT3.out (by rw [← HST2.out, HZ1.out]; simp only [condOut_true, extOut, lpOut_empty, app_assoc])
    · try rw [hz]
      have HZ1 := hid hz
      clear hz
      go_wp2_with fail
      go_meet
      exact TopS.cast HT.out (by rw [← HST2.out, HZ1.out, condOut_false, app_nil])
  have hT := hcut
  clear hcut HT
  replace HLN := HLN2
  clear HLN2
  obtain ⟨ST3, hST3⟩ : ∃ x, app ST2 (condOut (t.ticket) (extOut 35 (some t.tick))) = x := ⟨_, rfl⟩
  have hln3 : olen ST3 ≤ 25165896 := by
    have h0 := HLN.out
    rw [← hST3]
    have h1 := olen_app ST2 (condOut (t.ticket) (extOut 35 (some t.tick)))
    have h2 := olen_cond (t.ticket) (extOut 35 (some t.tick))
    have h3 := olen_ext 35 (some t.tick)
    have h4 : olen (some t.tick) ≤ 8388608 := HE2.out.1
    omega
  have HLN3 := hid hln3
  have HST3 := hid hST3
  clear hln3 hST3
  have hf := HFF.out _ hT.up
  have d0 := hf.ptr
  have d1 := hf.flag
  have cc := hf.val (i := 10) (u := .bool t.ticket) rfl
  have HT := hid hT
  clear hT hf
  go_upto_region 8 with fail
  go_cut [40] from 33 to 40 (fun c wx => c = .bool (t.ticket) ∧ TopS w0 wx (s + 1 + 1) ST2)
  case first =>
    skip
    rcases bcase (t.ticket) with hz | hz
    · try rw [hz]
      go_wp2_with fail
      go_meet
      exact ⟨by rw [hz], HT.out⟩
    · try rw [hz]
      go_wp2_with fail
      go_meet
      exact ⟨by rw [hz], HT.out⟩
  have HCS := hid hcut.1
  have hT := hcut.2
  have HT := hid hT
  skip
  clear hT hcut d0 d1 cc
  rename_i cv wv9
  rw [HCS.out]
  clear HCS
  go_upto_if 40 with fail
  go_cut [] from 33 to 43 (fun wx => TopS w0 wx (s + 1 + 1) ST3)
  case first =>
    rcases bcase (t.ticket) with hz | hz
    · try rw [hz]
      have HZ1 := hid hz
      clear hz
      have H := hid (AddUint16_top HT.out (by have := HLN.out; omega) 35 (by omega))
      go_wp2_with fail
      refine H.out.mono ?_
      rintro e w2 ⟨rfl, hT⟩
      have H2 := hid (AddLP16_topF hT HE2.out HF.out (Nat.le_refl _) (by have := olen_app ST2 (some (be 2 35)); have h5 : olen (some (be 2 35)) = 2 := be_len _ _; have := HLN.out; omega))
      clear H hT
      go_wp2_with fail
      refine H2.out.mono ?_
      rintro e w3 ⟨rfl, hT⟩
      have HT3 := hid hT
      clear hT H2
      go_wp2_with fail
      go_meet
      exact TopS.cast HT3.out (by rw [← HST3.out, HZ1.out]; simp only [condOut_true, extOut, lpOut_empty, app_assoc])
    · try rw [hz]
      have HZ1 := hid hz
      clear hz
      go_wp2_with fail
      go_meet
      exact TopS.cast HT.out (by rw [← HST3.out, HZ1.out, condOut_false, app_nil])
  have hT := hcut
  clear hcut HT
  replace HLN := HLN3
  clear HLN3
  obtain ⟨ST4, hST4⟩ : ∃ x, app ST3 (condOut (t.rns) (extOut 65281 (lpOut 1 (some t.rn)))) = x := ⟨_, rfl⟩
  have hln4 : olen ST4 ≤ 33554528 := by
    have h0 := HLN.out
    rw [← hST4]
    have h1 := olen_app ST3 (condOut (t.rns) (extOut 65281 (lpOut 1 (some t.rn))))
    have h2 := olen_cond (t.rns) (extOut 65281 (lpOut 1 (some t.rn)))
    have h3 := olen_ext 65281 (lpOut 1 (some t.rn))
    have h4 : olen (lpOut 1 (some t.rn)) ≤ 8388616 := HE3.out.1
    omega
  have HLN4 := hid hln4
  have HST4 := hid hST4
  clear hln4 hST4
  have hf := HFF.out _ hT.up
  have d0 := hf.ptr
  have d1 := hf.flag
  have cc := hf.val (i := 14) (u := .bool t.rns) rfl
  have HT := hid hT
  clear hT hf
  go_upto_region 11 with fail
  go_cut [51] from 44 to 51 (fun c wx => c = .bool (t.rns) ∧ TopS w0 wx (s + 1 + 1) ST3)
  case first =>
    skip
    rcases bcase (t.rns) with hz | hz
    · try rw [hz]
      go_wp2_with fail
      go_meet
      exact ⟨by rw [hz], HT.out⟩
    · try rw [hz]
      go_wp2_with fail
      go_meet
      exact ⟨by rw [hz], HT.out⟩
  have HCS := hid hcut.1
  have hT := hcut.2
  have HT := hid hT
  skip
  clear hT hcut d0 d1 cc
  rename_i cv wv9
  rw [HCS.out]
  clear HCS
  go_upto_if 51 with fail
  go_cut [] from 44 to 54 (fun wx => TopS w0 wx (s + 1 + 1) ST4)
  case first =>
    rcases bcase (t.rns) with hz | hz
    · try rw [hz]
      have HZ1 := hid hz
      clear hz
      have H := hid (AddUint16_top HT.out (by have := HLN.out; omega) 65281 (by omega))
      go_wp2_with fail
      refine H.out.mono ?_
      rintro e w2 ⟨rfl, hT⟩
      have H2 := hid (AddLP16_topF hT HE3.out HF.out (Nat.le_refl _) (by have := olen_app ST3 (some (be 2 65281)); have h5 : olen (some (be 2 65281)) = 2 := be_len _ _; have := HLN.out; omega))
      clear H hT
      go_wp2_with fail
      refine H2.out.mono ?_
      rintro e w3 ⟨rfl, hT⟩
      have HT3 := hid hT
      clear hT H2
      go_wp2_with fail
      go_meet
      exact TopS.cast HT3.out (by rw [← HST4.out, HZ1.out]; simp only [condOut_true, extOut, lpOut_empty, app_assoc])
    · try rw [hz]
      have HZ1 := hid hz
      clear hz
      go_wp2_with fail
      go_meet
      exact TopS.cast HT.out (by rw [← HST4.out, HZ1.out, condOut_false, app_nil])
  have hT := hcut
  clear hcut HT
  replace HLN := HLN4
  clear HLN4
  obtain ⟨ST5, hST5⟩ : ∃ x, app ST4 (condOut (t.ems) (extOut 23 (some []))) = x := ⟨_, rfl⟩
  have hln5 : olen ST5 ≤ 33554544 := by
    have h0 := HLN.out
    rw [← hST5]
    have h1 := olen_app ST4 (condOut (t.ems) (extOut 23 (some [])))
    have h2 := olen_cond (t.ems) (extOut 23 (some []))
    have h3 := olen_ext 23 (some [])
    have h4 : olen (some []) ≤ 0 := Nat.le_refl _
    omega
  have HLN5 := hid hln5
  have HST5 := hid hST5
  clear hln5 hST5
  have hf := HFF.out _ hT.up
  have d0 := hf.ptr
  have d1 := hf.flag
  have cc := hf.val (i := 16) (u := .bool t.ems) rfl
  have HT := hid hT
  clear hT hf
  go_upto_region 14 with fail
  go_cut [62] from 55 to 62 (fun c wx => c = .bool (t.ems) ∧ TopS w0 wx (s + 1 + 1) ST4)
  case first =>
    skip
    rcases bcase (t.ems) with hz | hz
    · try rw [hz]
      go_wp2_with fail
      go_meet
      exact ⟨by rw [hz], HT.out⟩
    · try rw [hz]
      go_wp2_with fail
      go_meet
      exact ⟨by rw [hz], HT.out⟩
  have HCS := hid hcut.1
  have hT := hcut.2
  have HT := hid hT
  skip
  clear hT hcut d0 d1 cc
  rename_i cv wv9
  rw [HCS.out]
  clear HCS
  go_upto_if 62 with fail
  go_cut [] from 55 to 64 (fun wx => TopS w0 wx (s + 1 + 1) ST5)
  case first =>
    rcases bcase (t.ems) with hz | hz
    · try rw [hz]
      have HZ1 := hid hz
      clear hz
      have H := hid (AddUint16_top HT.out (by have := HLN.out; omega) 23 (by omega))
      go_wp2_with fail
      refine H.out.mono ?_
      rintro e w2 ⟨rfl, hT⟩
      have H2 := hid (AddUint16_top hT (by have := olen_app ST4 (some (be 2 23)); have h5 : olen (some (be 2 23)) = 2 := be_len _ _; have := HLN.out; omega) 0 (by omega))
      clear H hT
      go_wp2_with fail
      refine H2.out.mono ?_
      rintro e w3 ⟨rfl, hT⟩
      have HT3 := hid hT
      clear hT H2
      go_wp2_with fail
      go_meet
      exact TopS.cast HT3.out (by rw [← HST5.out, HZ1.out]; simp only [condOut_true, extOut, lpOut_empty, app_assoc])
    · try rw [hz]
      have HZ1 := hid hz
      clear hz
      go_wp2_with fail
      go_meet
      exact TopS.cast HT.out (by rw [← HST5.out, HZ1.out, condOut_false, app_nil])
  have hT := hcut
  clear hcut HT
  replace HLN := HLN5
  clear HLN5
  obtain ⟨ST6, hST6⟩ : ∃ x, app ST5 (condOut (t.scts) (extOut 18 (some []))) = x := ⟨_, rfl⟩
  have hln6 : olen ST6 ≤ 33554560 := by
    have h0 := HLN.out
    rw [← hST6]
    have h1 := olen_app ST5 (condOut (t.scts) (extOut 18 (some [])))
    have h2 := olen_cond (t.scts) (extOut 18 (some []))
    have h3 := olen_ext 18 (some [])
    have h4 : olen (some []) ≤ 0 := Nat.le_refl _
    omega
  have HLN6 := hid hln6
  have HST6 := hid hST6
  clear hln6 hST6
  have hf := HFF.out _ hT.up
  have d0 := hf.ptr
  have d1 := hf.flag
  have cc := hf.val (i := 18) (u := .bool t.scts) rfl
  have HT := hid hT
  clear hT hf
  go_upto_if 68 with fail
  go_cut [] from 65 to 70 (fun wx => TopS w0 wx (s + 1 + 1) ST6)
  case first =>
    rcases bcase (t.scts) with hz | hz
    · try rw [hz]
      have HZ1 := hid hz
      clear hz
      have H := hid (AddUint16_top HT.out (by have := HLN.out; omega) 18 (by omega))
      go_wp2_with fail
      refine H.out.mono ?_
      rintro e w2 ⟨rfl, hT⟩
      have H2 := hid (AddUint16_top hT (by have := olen_app ST5 (some (be 2 18)); have h5 : olen (some (be 2 18)) = 2 := be_len _ _; have := HLN.out; omega) 0 (by omega))
      clear H hT
      go_wp2_with fail
      refine H2.out.mono ?_
      rintro e w3 ⟨rfl, hT⟩
      have HT3 := hid hT
      clear hT H2
      go_wp2_with fail
      go_meet
      exact TopS.cast HT3.out (by rw [← HST6.out, HZ1.out]; simp only [condOut_true, extOut, lpOut_empty, app_assoc])
    · try rw [hz]
      have HZ1 := hid hz
      clear hz
      go_wp2_with fail
      go_meet
      exact TopS.cast HT.out (by rw [← HST6.out, HZ1.out, condOut_false, app_nil])
  have hT := hcut
  clear hcut HT d0 d1 cc
  replace HLN := HLN6
  clear HLN6
  obtain ⟨ST7, hST7⟩ : ∃ x, app ST6 (condOut (t.early) (extOut 42 (some []))) = x := ⟨_, rfl⟩
  have hln7 : olen ST7 ≤ 33554576 := by
    have h0 := HLN.out
    rw [← hST7]
    have h1 := olen_app ST6 (condOut (t.early) (extOut 42 (some [])))
    have h2 := olen_cond (t.early) (extOut 42 (some []))
    have h3 := olen_ext 42 (some [])
    have h4 : olen (some []) ≤ 0 := Nat.le_refl _
    omega
  have HLN7 := hid hln7
  have HST7 := hid hST7
  clear hln7 hST7
  have hf := HFF.out _ hT.up
  have d0 := hf.ptr
  have d1 := hf.flag
  have cc := hf.val (i := 22) (u := .bool t.early) rfl
  have HT := hid hT
  clear hT hf
  go_upto_if 74 with fail
  go_cut [] from 71 to 76 (fun wx => TopS w0 wx (s + 1 + 1) ST7)
  case first =>
    rcases bcase (t.early) with hz | hz
    · try rw [hz]
      have HZ1 := hid hz
      clear hz
      have H := hid (AddUint16_top HT.out (by have := HLN.out; omega) 42 (by omega))
      go_wp2_with fail
      refine H.out.mono ?_
      rintro e w2 ⟨rfl, hT⟩
      have H2 := hid (AddUint16_top hT (by have := olen_app ST6 (some (be 2 42)); have h5 : olen (some (be 2 42)) = 2 := be_len _ _; have := HLN.out; omega) 0 (by omega))
      clear H hT
      go_wp2_with fail
      refine H2.out.mono ?_
      rintro e w3 ⟨rfl, hT⟩
      have HT3 := hid hT
      clear hT H2
      go_wp2_with fail
      go_meet
      exact TopS.cast HT3.out (by rw [← HST7.out, HZ1.out]; simp only [condOut_true, extOut, lpOut_empty, app_assoc])
    · try rw [hz]
      have HZ1 := hid hz
      clear hz
      go_wp2_with fail
      go_meet
      exact TopS.cast HT.out (by rw [← HST7.out, HZ1.out, condOut_false, app_nil])
  have hT := hcut
  clear hcut HT d0 d1 cc
  replace HLN := HLN7
  clear HLN7
  obtain ⟨ST8, hST8⟩ : ∃ x, app ST7 (condOut (t.quic) (extOut 57 (some (if t.quic = true then t.qtp else [])))) = x := ⟨_, rfl⟩
  have hln8 : olen ST8 ≤ 41943200 := by
    have h0 := HLN.out
    rw [← hST8]
    have h1 := olen_app ST7 (condOut (t.quic) (extOut 57 (some (if t.quic = true then t.qtp else []))))
    have h2 := olen_cond (t.quic) (extOut 57 (some (if t.quic = true then t.qtp else [])))
    have h3 := olen_ext 57 (some (if t.quic = true then t.qtp else []))
    have h4 : olen (some (if t.quic = true then t.qtp else [])) ≤ 8388608 := HE4.out.1
    omega
  have HLN8 := hid hln8
  have HST8 := hid hST8
  clear hln8 hST8
  have hf := HFF.out _ hT.up
  have d0 := hf.ptr
  have d1 := hf.flag
  obtain ⟨A9, c9, hcs, hq9, -⟩ := hf.2.2.2.cpy (i := 26) (has := t.quic) (l := if t.quic = true then t.qtp else []) rfl
  have cc := hf.cell hcs
  clear hcs
  generalize (if t.quic = true then t.qtp else []).length = n9 at cc
  have HQ9 := hid hq9
  clear hq9
  have HT := hid hT
  clear hT hf
  go_upto_if 81 with fail
  rw [HQ9.out]
  go_cut [] from 77 to 84 (fun wx => TopS w0 wx (s + 1 + 1) ST8)
  case first =>
    rcases bcase (t.quic) with hz | hz
    · try rw [hz]
      have HZ1 := hid hz
      clear hz
      have H := hid (AddUint16_top HT.out (by have := HLN.out; omega) 57 (by omega))
      go_wp2_with fail
      refine H.out.mono ?_
      rintro e w2 ⟨rfl, hT⟩
      have H2 := hid (AddLP16_topF hT HE4.out HF.out (Nat.le_refl _) (by have := olen_app ST7 (some (be 2 57)); have h5 : olen (some (be 2 57)) = 2 := be_len _ _; have := HLN.out; omega))
      clear H hT
      go_wp2_with fail
      refine H2.out.mono ?_
      rintro e w3 ⟨rfl, hT⟩
      have HT3 := hid hT
      clear hT H2
      go_wp2_with fail
      go_meet
      exact TopS.cast HT3.out (by rw [← HST8.out, HZ1.out]; simp only [condOut_true, extOut, lpOut_empty, app_assoc])
    · try rw [hz]
      have HZ1 := hid hz
      clear hz
      go_wp2_with fail
      go_meet
      exact TopS.cast HT.out (by rw [← HST8.out, HZ1.out, condOut_false, app_nil])
  have hT := hcut
  clear hcut HT d0 d1 cc HQ9
  replace HLN := HLN8
  clear HLN8
  obtain ⟨ST9, hST9⟩ : ∃ x, app ST8 (condOut (decide (0 < t.ech.length)) (extOut 65037 (some t.ech))) = x := ⟨_, rfl⟩
  have hln9 : olen ST9 ≤ 50331824 := by
    have h0 := HLN.out
    rw [← hST9]
    have h1 := olen_app ST8 (condOut (decide (0 < t.ech.length)) (extOut 65037 (some t.ech)))
    have h2 := olen_cond (decide (0 < t.ech.length)) (extOut 65037 (some t.ech))
    have h3 := olen_ext 65037 (some t.ech)
    have h4 : olen (some t.ech) ≤ 8388608 := HE5.out.1
    omega
  have HLN9 := hid hln9
  have HST9 := hid hST9
  clear hln9 hST9
  have hf := HFF.out _ hT.up
  have d0 := hf.ptr
  have d1 := hf.flag
  obtain ⟨A9, c9, cc, -⟩ := hf.byt (i := 27) (l := t.ech) rfl
  have HT := hid hT
  clear hT hf
  go_upto_if 90 with fail
  go_cut [] from 85 to 93 (fun wx => TopS w0 wx (s + 1 + 1) ST9)
  case first =>
    rcases bcase (decide (0 < t.ech.length)) with hz | hz
    · try rw [hz]
      have HZ1 := hid hz
      clear hz
      have H := hid (AddUint16_top HT.out (by have := HLN.out; omega) 65037 (by omega))
      go_wp2_with fail
      refine H.out.mono ?_
      rintro e w2 ⟨rfl, hT⟩
      have H2 := hid (AddLP16_topF hT HE5.out HF.out (Nat.le_refl _) (by have := olen_app ST8 (some (be 2 65037)); have h5 : olen (some (be 2 65037)) = 2 := be_len _ _; have := HLN.out; omega))
      clear H hT
      go_wp2_with fail
      refine H2.out.mono ?_
      rintro e w3 ⟨rfl, hT⟩
      have HT3 := hid hT
      clear hT H2
      go_wp2_with fail
      go_meet
      exact TopS.cast HT3.out (by rw [← HST9.out, HZ1.out]; simp only [condOut_true, extOut, lpOut_empty, app_assoc])
    · try rw [hz]
      have HZ1 := hid hz
      clear hz
      go_wp2_with fail
      go_meet
      exact TopS.cast HT.out (by rw [← HST9.out, HZ1.out, condOut_false, app_nil])
  have hT := hcut
  clear hcut HT d0 d1 cc
  replace HLN := HLN9
  clear HLN9
  obtain ⟨g, hg⟩ : ∃ g, wc.heap.size = g := ⟨_, rfl⟩
  obtain ⟨wd0, hwd⟩ : ∃ x, wc.alloc (.cells #[.slice none 0 0] 24) = x := ⟨_, rfl⟩
  have hTB := hT.box 24 #[.slice none 0 0]
  rw [hwd, hg] at hTB
  have HWD := hid hwd
  have HG0 := hid hg
  have HTB := hid hTB
  clear hwd hg hT hTB
  go_upto_region 30 with fail
  rw [HWD.out, HG0.out]
  clear HWD HG0
  obtain ⟨hT, hG⟩ := HTB.out
  clear HTB
  obtain ⟨ST10, hST10⟩ : ∃ x, app ST9 (condOut (t.ocsp) (extOut 5 (app (some [UInt8.ofNat 1]) (app (some (be 2 0)) (some (be 2 0)))))) = x := ⟨_, rfl⟩
  have hln10 : olen ST10 ≤ 50331848 := by
    have h0 := HLN.out
    rw [← hST10]
    have h1 := olen_app ST9 (condOut (t.ocsp) (extOut 5 (app (some [UInt8.ofNat 1]) (app (some (be 2 0)) (some (be 2 0))))))
    have h2 := olen_cond (t.ocsp) (extOut 5 (app (some [UInt8.ofNat 1]) (app (some (be 2 0)) (some (be 2 0)))))
    have h3 := olen_ext 5 (app (some [UInt8.ofNat 1]) (app (some (be 2 0)) (some (be 2 0))))
    have h4 : olen (app (some [UInt8.ofNat 1]) (app (some (be 2 0)) (some (be 2 0)))) ≤ 8 := HE6.out.1
    omega
  have HLN10 := hid hln10
  have HST10 := hid hST10
  clear hln10 hST10
  have hf := HFF.out _ hT.up
  have d0 := hf.ptr
  have d1 := hf.flag
  have cc := hf.val (i := 7) (u := .bool t.ocsp) rfl
  have HT := hid hT
  clear hT hf
  have HG := hid hG
  have d2 : _ = some (Value.slice none 0 0) := hG.cell 0
  clear hG
  go_upto_if 97 with fail
  go_cut [] from 94 to 103 (fun wx => TopS w0 wx (s + 1 + 1) ST10 ∧ Blk wx g 24 #[.slice none 0 0])
  case first =>
    rcases bcase (t.ocsp) with hz | hz
    · try rw [hz]
      have HZ1 := hid hz
      clear hz
      have H := hid (AddUint16_topK HT.out HG.out (by decide) (by have := HLN.out; omega) 5 (by omega))
      go_wp2_with fail
      refine H.out.mono ?_
      rintro e w2 ⟨⟨rfl, hT⟩, hG⟩
      have H2 := hid (AddLP16_topK hT hG (by decide) HE6.out HF.out (Nat.le_refl _) (by have := olen_app ST9 (some (be 2 5)); have h5 : olen (some (be 2 5)) = 2 := be_len _ _; have := HLN.out; omega))
      clear H hT hG
      go_wp2_with fail
      refine H2.out.mono ?_
      rintro e w3 ⟨⟨rfl, hT⟩, hG⟩
      have HT3 := hid hT
      have HGF := hid hG
      clear hG
      clear hT H2
      go_wp2_with fail
      go_meet
      exact ⟨TopS.cast HT3.out (by rw [← HST10.out, HZ1.out]; simp only [condOut_true, extOut, lpOut_empty, app_assoc]), HGF.out⟩
    · try rw [hz]
      have HZ1 := hid hz
      clear hz
      have HGF := HG
      go_wp2_with fail
      go_meet
      exact ⟨TopS.cast HT.out (by rw [← HST10.out, HZ1.out, condOut_false, app_nil]), HGF.out⟩
  have hT := hcut.1
  have hG := hcut.2
  clear hcut HT d0 d1 cc d2 HG
  replace HLN := HLN10
  clear HLN10
  obtain ⟨ST11, hST11⟩ : ∃ x, app ST10 (condOut (decide (0 < t.curves.length)) (extOut 10 (lpOut 2 (some (wordsB t.curves))))) = x := ⟨_, rfl⟩
  have hln11 : olen ST11 ≤ 52429024 := by
    have h0 := HLN.out
    rw [← hST11]
    have h1 := olen_app ST10 (condOut (decide (0 < t.curves.length)) (extOut 10 (lpOut 2 (some (wordsB t.curves)))))
    have h2 := olen_cond (decide (0 < t.curves.length)) (extOut 10 (lpOut 2 (some (wordsB t.curves))))
    have h3 := olen_ext 10 (lpOut 2 (some (wordsB t.curves)))
    have h4 : olen (lpOut 2 (some (wordsB t.curves))) ≤ 2097160 := HE7.out.1
    omega
  have HLN11 := hid hln11
  have HST11 := hid hST11
  clear hln11 hST11
  have hf := HFF.out _ hT.up
  have d0 := hf.ptr
  have d1 := hf.flag
  obtain ⟨A9, c9, hcs⟩ := hf.rowC (i := 8) (us := t.curves.map wv) rfl (n := t.curves.length) (by simp)
  have cc := hf.cell hcs
  clear hcs
  have HT := hid hT
  clear hT hf
  have HG := hid hG
  have d2 : _ = some (Value.slice none 0 0) := hG.cell 0
  clear hG
  go_upto_if 109 with fail
  go_cut [] from 104 to 116 (fun wx => TopS w0 wx (s + 1 + 1) ST11 ∧ Blk wx g 24 #[.slice none 0 0])
  case first =>
    rcases bcase (decide (0 < t.curves.length)) with hz | hz
    · try rw [hz]
      have HZ1 := hid hz
      clear hz
      have H := hid (AddUint16_topK HT.out HG.out (by decide) (by have := HLN.out; omega) 10 (by omega))
      go_wp2_with fail
      refine H.out.mono ?_
      rintro e w2 ⟨⟨rfl, hT⟩, hG⟩
      have H2 := hid (AddLP16_topK hT hG (by decide) HE7.out HF.out (Nat.le_refl _) (by have := olen_app ST10 (some (be 2 10)); have h5 : olen (some (be 2 10)) = 2 := be_len _ _; have := HLN.out; omega))
      clear H hT hG
      go_wp2_with fail
      refine H2.out.mono ?_
      rintro e w3 ⟨⟨rfl, hT⟩, hG⟩
      have HT3 := hid hT
      have HGF := hid hG
      clear hG
      clear hT H2
      go_wp2_with fail
      go_meet
      exact ⟨TopS.cast HT3.out (by rw [← HST11.out, HZ1.out]; simp only [condOut_true, extOut, lpOut_empty, app_assoc]), HGF.out⟩
    · try rw [hz]
      have HZ1 := hid hz
      clear hz
      have HGF := HG
      go_wp2_with fail
      go_meet
      exact ⟨TopS.cast HT.out (by rw [← HST11.out, HZ1.out, condOut_false, app_nil]), HGF.out⟩
  have hT := hcut.1
  have hG := hcut.2
  clear hcut HT d0 d1 cc d2 HG
  replace HLN := HLN11
  clear HLN11
  obtain ⟨ST12, hST12⟩ : ∃ x, app ST11 (condOut (decide (0 < t.sig.length)) (extOut 13 (lpOut 2 (some (wordsB t.sig))))) = x := ⟨_, rfl⟩
  have hln12 : olen ST12 ≤ 54526200 := by
    have h0 := HLN.out
    rw [← hST12]
    have h1 := olen_app ST11 (condOut (decide (0 < t.sig.length)) (extOut 13 (lpOut 2 (some (wordsB t.sig)))))
    have h2 := olen_cond (decide (0 < t.sig.length)) (extOut 13 (lpOut 2 (some (wordsB t.sig))))
    have h3 := olen_ext 13 (lpOut 2 (some (wordsB t.sig)))
    have h4 : olen (lpOut 2 (some (wordsB t.sig))) ≤ 2097160 := HE8.out.1
    omega
  have HLN12 := hid hln12
  have HST12 := hid hST12
  clear hln12 hST12
  have hf := HFF.out _ hT.up
  have d0 := hf.ptr
  have d1 := hf.flag
  obtain ⟨A9, c9, hcs⟩ := hf.rowC (i := 12) (us := t.sig.map wv) rfl (n := t.sig.length) (by simp)
  have cc := hf.cell hcs
  clear hcs
  have HT := hid hT
  clear hT hf
  have HG := hid hG
  have d2 : _ = some (Value.slice none 0 0) := hG.cell 0
  clear hG
  go_upto_if 122 with fail
  go_cut [] from 117 to 129 (fun wx => TopS w0 wx (s + 1 + 1) ST12 ∧ Blk wx g 24 #[.slice none 0 0])
  case first =>
    rcases bcase (decide (0 < t.sig.length)) with hz | hz
    · try rw [hz]
      have HZ1 := hid hz
      clear hz
      have H := hid (AddUint16_topK HT.out HG.out (by decide) (by have := HLN.out; omega) 13 (by omega))
      go_wp2_with fail
      refine H.out.mono ?_
      rintro e w2 ⟨⟨rfl, hT⟩, hG⟩
      have H2 := hid (AddLP16_topK hT hG (by decide) HE8.out HF.out (Nat.le_refl _) (by have := olen_app ST11 (some (be 2 13)); have h5 : olen (some (be 2 13)) = 2 := be_len _ _; have := HLN.out; omega))
      clear H hT hG
      go_wp2_with fail
      refine H2.out.mono ?_
      rintro e w3 ⟨⟨rfl, hT⟩, hG⟩
      have HT3 := hid hT
      have HGF := hid hG
      clear hG
      clear hT H2
      go_wp2_with fail
      go_meet
      exact ⟨TopS.cast HT3.out (by rw [← HST12.out, HZ1.out]; simp only [condOut_true, extOut, lpOut_empty, app_assoc]), HGF.out⟩
    · try rw [hz]
      have HZ1 := hid hz
      clear hz
      have HGF := HG
      go_wp2_with fail
      go_meet
      exact ⟨TopS.cast HT.out (by rw [← HST12.out, HZ1.out, condOut_false, app_nil]), HGF.out⟩
  have hT := hcut.1
  have hG := hcut.2
  clear hcut HT d0 d1 cc d2 HG
  replace HLN := HLN12
  clear HLN12
  obtain ⟨ST13, hST13⟩ : ∃ x, app ST12 (condOut (decide (0 < t.sigc.length)) (extOut 50 (lpOut 2 (some (wordsB t.sigc))))) = x := ⟨_, rfl⟩
  have hln13 : olen ST13 ≤ 56623376 := by
    have h0 := HLN.out
    rw [← hST13]
    have h1 := olen_app ST12 (condOut (decide (0 < t.sigc.length)) (extOut 50 (lpOut 2 (some (wordsB t.sigc)))))
    have h2 := olen_cond (decide (0 < t.sigc.length)) (extOut 50 (lpOut 2 (some (wordsB t.sigc))))
    have h3 := olen_ext 50 (lpOut 2 (some (wordsB t.sigc)))
    have h4 : olen (lpOut 2 (some (wordsB t.sigc))) ≤ 2097160 := HE9.out.1
    omega
  have HLN13 := hid hln13
  have HST13 := hid hST13
  clear hln13 hST13
  have hf := HFF.out _ hT.up
  have d0 := hf.ptr
  have d1 := hf.flag
  obtain ⟨A9, c9, hcs⟩ := hf.rowC (i := 13) (us := t.sigc.map wv) rfl (n := t.sigc.length) (by simp)
  have cc := hf.cell hcs
  clear hcs
  have HT := hid hT
  clear hT hf
  have HG := hid hG
  have d2 : _ = some (Value.slice none 0 0) := hG.cell 0
  clear hG
  go_upto_if 135 with fail
  go_cut [] from 130 to 142 (fun wx => TopS w0 wx (s + 1 + 1) ST13 ∧ Blk wx g 24 #[.slice none 0 0])
  case first =>
    rcases bcase (decide (0 < t.sigc.length)) with hz | hz
    · try rw [hz]
      have HZ1 := hid hz
      clear hz
      have H := hid (AddUint16_topK HT.out HG.out (by decide) (by have := HLN.out; omega) 50 (by omega))
      go_wp2_with fail
      refine H.out.mono ?_
      rintro e w2 ⟨⟨rfl, hT⟩, hG⟩
      have H2 := hid (AddLP16_topK hT hG (by decide) HE9.out HF.out (Nat.le_refl _) (by have := olen_app ST12 (some (be 2 50)); have h5 : olen (some (be 2 50)) = 2 := be_len _ _; have := HLN.out; omega))
      clear H hT hG
      go_wp2_with fail
      refine H2.out.mono ?_
      rintro e w3 ⟨⟨rfl, hT⟩, hG⟩
      have HT3 := hid hT
      have HGF := hid hG
      clear hG
      clear hT H2
      go_wp2_with fail
      go_meet
      exact ⟨TopS.cast HT3.out (by rw [← HST13.out, HZ1.out]; simp only [condOut_true, extOut, lpOut_empty, app_assoc]), HGF.out⟩
    · try rw [hz]
      have HZ1 := hid hz
      clear hz
      have HGF := HG
      go_wp2_with fail
      go_meet
      exact ⟨TopS.cast HT.out (by rw [← HST13.out, HZ1.out, condOut_false, app_nil]), HGF.out⟩
  have hT := hcut.1
  have hG := hcut.2
  clear hcut HT d0 d1 cc d2 HG
  replace HLN := HLN13
  clear HLN13
  obtain ⟨ST14, hST14⟩ : ∃ x, app ST13 (condOut (decide (0 < t.alpn.length)) (extOut 16 (lpOut 2 (ofW (vecsW 1 t.alpn))))) = x := ⟨_, rfl⟩
  have hln14 : olen ST14 ≤ 65012008 := by
    have h0 := HLN.out
    rw [← hST14]
    have h1 := olen_app ST13 (condOut (decide (0 < t.alpn.length)) (extOut 16 (lpOut 2 (ofW (vecsW 1 t.alpn)))))
    have h2 := olen_cond (decide (0 < t.alpn.length)) (extOut 16 (lpOut 2 (ofW (vecsW 1 t.alpn))))
    have h3 := olen_ext 16 (lpOut 2 (ofW (vecsW 1 t.alpn)))
    have h4 : olen (lpOut 2 (ofW (vecsW 1 t.alpn))) ≤ 8388616 := HE10.out.1
    omega
  have HLN14 := hid hln14
  have HST14 := hid hST14
  clear hln14 hST14
  have hf := HFF.out _ hT.up
  have d0 := hf.ptr
  have d1 := hf.flag
  obtain ⟨A9, c9, hcs⟩ := hf.rowC (i := 17) (us := t.alpn.map strv) rfl (n := t.alpn.length) (by simp)
  have cc := hf.cell hcs
  clear hcs
  have HT := hid hT
  clear hT hf
  have HG := hid hG
  have d2 : _ = some (Value.slice none 0 0) := hG.cell 0
  clear hG
  go_upto_if 148 with fail
  go_cut [] from 143 to 155 (fun wx => TopS w0 wx (s + 1 + 1) ST14 ∧ Blk wx g 24 #[.slice none 0 0])
  case first =>
    rcases bcase (decide (0 < t.alpn.length)) with hz | hz
    · try rw [hz]
      have HZ1 := hid hz
      clear hz
      have H := hid (AddUint16_topK HT.out HG.out (by decide) (by have := HLN.out; omega) 16 (by omega))
      go_wp2_with fail
      refine H.out.mono ?_
      rintro e w2 ⟨⟨rfl, hT⟩, hG⟩
      have H2 := hid (AddLP16_topK hT hG (by decide) HE10.out HF.out (Nat.le_refl _) (by have := olen_app ST13 (some (be 2 16)); have h5 : olen (some (be 2 16)) = 2 := be_len _ _; have := HLN.out; omega))
      clear H hT hG
      go_wp2_with fail
      refine H2.out.mono ?_
      rintro e w3 ⟨⟨rfl, hT⟩, hG⟩
      have HT3 := hid hT
      have HGF := hid hG
      clear hG
      clear hT H2
      go_wp2_with fail
      go_meet
      exact ⟨TopS.cast HT3.out (by rw [← HST14.out, HZ1.out]; simp only [condOut_true, extOut, lpOut_empty, app_assoc]), HGF.out⟩
    · try rw [hz]
      have HZ1 := hid hz
      clear hz
      have HGF := HG
      go_wp2_with fail
      go_meet
      exact ⟨TopS.cast HT.out (by rw [← HST14.out, HZ1.out, condOut_false, app_nil]), HGF.out⟩
  have hT := hcut.1
  have hG := hcut.2
  clear hcut HT d0 d1 cc d2 HG
  replace HLN := HLN14
  clear HLN14
  obtain ⟨ST15, hST15⟩ : ∃ x, app ST14 (condOut (decide (0 < t.sv.length)) (extOut 43 (lpOut 1 (some (wordsB t.sv))))) = x := ⟨_, rfl⟩
  have hln15 : olen ST15 ≤ 67109184 := by
    have h0 := HLN.out
    rw [← hST15]
    have h1 := olen_app ST14 (condOut (decide (0 < t.sv.length)) (extOut 43 (lpOut 1 (some (wordsB t.sv)))))
    have h2 := olen_cond (decide (0 < t.sv.length)) (extOut 43 (lpOut 1 (some (wordsB t.sv))))
    have h3 := olen_ext 43 (lpOut 1 (some (wordsB t.sv)))
    have h4 : olen (lpOut 1 (some (wordsB t.sv))) ≤ 2097160 := HE11.out.1
    omega
  have HLN15 := hid hln15
  have HST15 := hid hST15
  clear hln15 hST15
  have hf := HFF.out _ hT.up
  have d0 := hf.ptr
  have d1 := hf.flag
  obtain ⟨A9, c9, hcs⟩ := hf.rowC (i := 19) (us := t.sv.map wv) rfl (n := t.sv.length) (by simp)
  have cc := hf.cell hcs
  clear hcs
  have HT := hid hT
  clear hT hf
  have HG := hid hG
  have d2 : _ = some (Value.slice none 0 0) := hG.cell 0
  clear hG
  go_upto_if 161 with fail
  go_cut [] from 156 to 168 (fun wx => TopS w0 wx (s + 1 + 1) ST15 ∧ Blk wx g 24 #[.slice none 0 0])
  case first =>
    rcases bcase (decide (0 < t.sv.length)) with hz | hz
    · try rw [hz]
      have HZ1 := hid hz
      clear hz
      have H := hid (AddUint16_topK HT.out HG.out (by decide) (by have := HLN.out; omega) 43 (by omega))
      go_wp2_with fail
      refine H.out.mono ?_
      rintro e w2 ⟨⟨rfl, hT⟩, hG⟩
      have H2 := hid (AddLP16_topK hT hG (by decide) HE11.out HF.out (Nat.le_refl _) (by have := olen_app ST14 (some (be 2 43)); have h5 : olen (some (be 2 43)) = 2 := be_len _ _; have := HLN.out; omega))
      clear H hT hG
      go_wp2_with fail
      refine H2.out.mono ?_
      rintro e w3 ⟨⟨rfl, hT⟩, hG⟩
      have HT3 := hid hT
      have HGF := hid hG
      clear hG
      clear hT H2
      go_wp2_with fail
      go_meet
      exact ⟨TopS.cast HT3.out (by rw [← HST15.out, HZ1.out]; simp only [condOut_true, extOut, lpOut_empty, app_assoc]), HGF.out⟩
    · try rw [hz]
      have HZ1 := hid hz
      clear hz
      have HGF := HG
      go_wp2_with fail
      go_meet
      exact ⟨TopS.cast HT.out (by rw [← HST15.out, HZ1.out, condOut_false, app_nil]), HGF.out⟩
  have hT := hcut.1
  have hG := hcut.2
  clear hcut HT d0 d1 cc d2 HG
  replace HLN := HLN15
  clear HLN15
  obtain ⟨ST16, hST16⟩ : ∃ x, app ST15 (condOut (decide (0 < t.cookie.length)) (extOut 44 (lpOut 2 (some t.cookie)))) = x := ⟨_, rfl⟩
  have hln16 : olen ST16 ≤ 75497816 := by
    have h0 := HLN.out
    rw [← hST16]
    have h1 := olen_app ST15 (condOut (decide (0 < t.cookie.length)) (extOut 44 (lpOut 2 (some t.cookie))))
    have h2 := olen_cond (decide (0 < t.cookie.length)) (extOut 44 (lpOut 2 (some t.cookie)))
    have h3 := olen_ext 44 (lpOut 2 (some t.cookie))
    have h4 : olen (lpOut 2 (some t.cookie)) ≤ 8388616 := HE12.out.1
    omega
  have HLN16 := hid hln16
  have HST16 := hid hST16
  clear hln16 hST16
  have hf := HFF.out _ hT.up
  have d0 := hf.ptr
  have d1 := hf.flag
  obtain ⟨A9, c9, cc, -⟩ := hf.byt (i := 20) (l := t.cookie) rfl
  have HT := hid hT
  clear hT hf
  have HG := hid hG
  have d2 : _ = some (Value.slice none 0 0) := hG.cell 0
  clear hG
  go_upto_if 174 with fail
  go_cut [] from 169 to 181 (fun wx => TopS w0 wx (s + 1 + 1) ST16 ∧ Blk wx g 24 #[.slice none 0 0])
  case first =>
    rcases bcase (decide (0 < t.cookie.length)) with hz | hz
    · try rw [hz]
      have HZ1 := hid hz
      clear hz
      have H := hid (AddUint16_topK HT.out HG.out (by decide) (by have := HLN.out; omega) 44 (by omega))
      go_wp2_with fail
      refine H.out.mono ?_
      rintro e w2 ⟨⟨rfl, hT⟩, hG⟩
      have H2 := hid (AddLP16_topK hT hG (by decide) HE12.out HF.out (Nat.le_refl _) (by have := olen_app ST15 (some (be 2 44)); have h5 : olen (some (be 2 44)) = 2 := be_len _ _; have := HLN.out; omega))
      clear H hT hG
      go_wp2_with fail
      refine H2.out.mono ?_
      rintro e w3 ⟨⟨rfl, hT⟩, hG⟩
      have HT3 := hid hT
      have HGF := hid hG
      clear hG
      clear hT H2
      go_wp2_with fail
      go_meet
      exact ⟨TopS.cast HT3.out (by rw [← HST16.out, HZ1.out]; simp only [condOut_true, extOut, lpOut_empty, app_assoc]), HGF.out⟩
    · try rw [hz]
      have HZ1 := hid hz
      clear hz
      have HGF := HG
      go_wp2_with fail
      go_meet
      exact ⟨TopS.cast HT.out (by rw [← HST16.out, HZ1.out, condOut_false, app_nil]), HGF.out⟩
  have hT := hcut.1
  have hG := hcut.2
  clear hcut HT d0 d1 cc d2 HG
  replace HLN := HLN16
  clear HLN16
  obtain ⟨ST17, hST17⟩ : ∃ x, app ST16 (condOut (decide (0 < (chKs t).length)) (extOut 51 (lpOut 2 (ofW (kshW (chKs t)))))) = x := ⟨_, rfl⟩
  have hln17 : olen ST17 ≤ 83886448 := by
    have h0 := HLN.out
    rw [← hST17]
    have h1 := olen_app ST16 (condOut (decide (0 < (chKs t).length)) (extOut 51 (lpOut 2 (ofW (kshW (chKs t))))))
    have h2 := olen_cond (decide (0 < (chKs t).length)) (extOut 51 (lpOut 2 (ofW (kshW (chKs t)))))
    have h3 := olen_ext 51 (lpOut 2 (ofW (kshW (chKs t))))
    have h4 : olen (lpOut 2 (ofW (kshW (chKs t)))) ≤ 8388616 := HE13.out.1
    omega
  have HLN17 := hid hln17
  have HST17 := hid hST17
  clear hln17 hST17
  have hf := HFF.out _ hT.up
  have d0 := hf.ptr
  have d1 := hf.flag
  obtain ⟨A9, c9, hcs⟩ := hf.prsC (i := 21) rfl (n := (chKs t).length) (by simp [ksC, chKs])
  have cc := hf.cell hcs
  clear hcs
  have HT := hid hT
  clear hT hf
  have HG := hid hG
  have d2 : _ = some (Value.slice none 0 0) := hG.cell 0
  clear hG
  go_upto_if 187 with fail
  go_cut [] from 182 to 194 (fun wx => TopS w0 wx (s + 1 + 1) ST17 ∧ Blk wx g 24 #[.slice none 0 0])
  case first =>
    rcases bcase (decide (0 < (chKs t).length)) with hz | hz
    · try rw [hz]
      have HZ1 := hid hz
      clear hz
      have H := hid (AddUint16_topK HT.out HG.out (by decide) (by have := HLN.out; omega) 51 (by omega))
      go_wp2_with fail
      refine H.out.mono ?_
      rintro e w2 ⟨⟨rfl, hT⟩, hG⟩
      have H2 := hid (AddLP16_topK hT hG (by decide) HE13.out HF.out (Nat.le_refl _) (by have := olen_app ST16 (some (be 2 51)); have h5 : olen (some (be 2 51)) = 2 := be_len _ _; have := HLN.out; omega))
      clear H hT hG
      go_wp2_with fail
      refine H2.out.mono ?_
      rintro e w3 ⟨⟨rfl, hT⟩, hG⟩
      have HT3 := hid hT
      have HGF := hid hG
      clear hG
      clear hT H2
      go_wp2_with fail
      go_meet
      exact ⟨TopS.cast HT3.out (by rw [← HST17.out, HZ1.out]; simp only [condOut_true, extOut, lpOut_empty, app_assoc]), HGF.out⟩
    · try rw [hz]
      have HZ1 := hid hz
      clear hz
      have HGF := HG
      go_wp2_with fail
      go_meet
      exact ⟨TopS.cast HT.out (by rw [← HST17.out, HZ1.out, condOut_false, app_nil]), HGF.out⟩
  have hT := hcut.1
  have hG := hcut.2
  clear hcut HT d0 d1 cc d2 HG
  replace HLN := HLN17
  clear HLN17
  obtain ⟨ST18, hST18⟩ : ∃ x, app ST17 (condOut (decide (0 < t.modes.length)) (extOut 45 (lpOut 1 (some t.modes)))) = x := ⟨_, rfl⟩
  have hln18 : olen ST18 ≤ 92275080 := by
    have h0 := HLN.out
    rw [← hST18]
    have h1 := olen_app ST17 (condOut (decide (0 < t.modes.length)) (extOut 45 (lpOut 1 (some t.modes))))
    have h2 := olen_cond (decide (0 < t.modes.length)) (extOut 45 (lpOut 1 (some t.modes)))
    have h3 := olen_ext 45 (lpOut 1 (some t.modes))
    have h4 : olen (lpOut 1 (some t.modes)) ≤ 8388616 := HE14.out.1
    omega
  have HLN18 := hid hln18
  have HST18 := hid hST18
  clear hln18 hST18
  have hf := HFF.out _ hT.up
  have d0 := hf.ptr
  have d1 := hf.flag
  obtain ⟨A9, c9, cc, -⟩ := hf.byt (i := 23) (l := t.modes) rfl
  have HT := hid hT
  clear hT hf
  have HG := hid hG
  have d2 : _ = some (Value.slice none 0 0) := hG.cell 0
  clear hG
  go_upto_if 200 with fail
  go_cut [] from 195 to 207 (fun wx => TopS w0 wx (s + 1 + 1) ST18 ∧ Blk wx g 24 #[.slice none 0 0])
  case first =>
    rcases bcase (decide (0 < t.modes.length)) with hz | hz
    · try rw [hz]
      have HZ1 := hid hz
      clear hz
      have H := hid (AddUint16_topK HT.out HG.out (by decide) (by have := HLN.out; omega) 45 (by omega))
      go_wp2_with fail
      refine H.out.mono ?_
      rintro e w2 ⟨⟨rfl, hT⟩, hG⟩
      have H2 := hid (AddLP16_topK hT hG (by decide) HE14.out HF.out (Nat.le_refl _) (by have := olen_app ST17 (some (be 2 45)); have h5 : olen (some (be 2 45)) = 2 := be_len _ _; have := HLN.out; omega))
      clear H hT hG
      go_wp2_with fail
      refine H2.out.mono ?_
      rintro e w3 ⟨⟨rfl, hT⟩, hG⟩
      have HT3 := hid hT
      have HGF := hid hG
      clear hG
      clear hT H2
      go_wp2_with fail
      go_meet
      exact ⟨TopS.cast HT3.out (by rw [← HST18.out, HZ1.out]; simp only [condOut_true, extOut, lpOut_empty, app_assoc]), HGF.out⟩
    · try rw [hz]
      have HZ1 := hid hz
      clear hz
      have HGF := HG
      go_wp2_with fail
      go_meet
      exact ⟨TopS.cast HT.out (by rw [← HST18.out, HZ1.out, condOut_false, app_nil]), HGF.out⟩
  have hT := hcut.1
  have hG := hcut.2
  clear hcut HT d0 d1 cc d2 HG
  replace HLN := HLN18
  clear HLN18
  obtain ⟨ST19, hST19⟩ : ∃ x, app ST18 (condOut (decide (0 < (chPs t).length)) (extOut 41 (app (lpOut 2 (ofW (identsW (chPs t)))) (lpOut 2 (ofW (vecsW 1 t.pb)))))) = x := ⟨_, rfl⟩
  have hln19 : olen ST19 ≤ 109052328 := by
    have h0 := HLN.out
    rw [← hST19]
    have h1 := olen_app ST18 (condOut (decide (0 < (chPs t).length)) (extOut 41 (app (lpOut 2 (ofW (identsW (chPs t)))) (lpOut 2 (ofW (vecsW 1 t.pb))))))
    have h2 := olen_cond (decide (0 < (chPs t).length)) (extOut 41 (app (lpOut 2 (ofW (identsW (chPs t)))) (lpOut 2 (ofW (vecsW 1 t.pb)))))
    have h3 := olen_ext 41 (app (lpOut 2 (ofW (identsW (chPs t)))) (lpOut 2 (ofW (vecsW 1 t.pb))))
    have h4 : olen (app (lpOut 2 (ofW (identsW (chPs t)))) (lpOut 2 (ofW (vecsW 1 t.pb)))) ≤ 16777232 := HE15.out.1
    omega
  have HLN19 := hid hln19
  have HST19 := hid hST19
  clear hln19 hST19
  have hf := HFF.out _ hT.up
  have d0 := hf.ptr
  have d1 := hf.flag
  obtain ⟨A9, c9, hcs⟩ := hf.prsC (i := 24) rfl (n := (chPs t).length) (by simp [piC, chPs])
  have cc := hf.cell hcs
  clear hcs
  obtain ⟨A8, c8, cc8, -⟩ := hf.byt (i := 27) (l := t.ech) rfl
  have HT := hid hT
  clear hT hf
  have HG := hid hG
  have d2 : _ = some (Value.slice none 0 0) := hG.cell 0
  clear hG
  go_upto_region 78 with fail
  go_cut [241] from 217 to 241 (fun c wx => c = .bool (decide (0 < (chPs t).length)) ∧ TopS w0 wx (s + 1 + 1) ST18 ∧ Blk wx g 24 #[.slice none 0 0])
  case first =>
    skip
    rcases bcase (decide (0 < (chPs t).length)) with hz | hz
    · try rw [hz]
      have hE : t.ech = [] := by
        rcases HNE.out with h | h
        · rw [h] at hz; exact absurd hz (by decide)
        · exact h
      rw [hE] at cc8
      have HE8 := hid hE
      clear hE
      simp only [List.length_nil] at cc8
      go_wp2_with fail
      go_meet
      exact ⟨by rw [hz], HT.out, HG.out⟩
    · try rw [hz]
      go_wp2_with fail
      go_meet
      exact ⟨by rw [hz], HT.out, HG.out⟩
  have HCS := hid hcut.1
  have hT := hcut.2.1
  have HT := hid hT
  have HG := hid hcut.2.2
  clear d2 cc8
  clear hT hcut d0 d1 cc
  rename_i cv wv9
  rw [HCS.out]
  clear HCS
  go_upto_if 241 with fail
  go_cut [] from 217 to 244 (fun wx => TopS w0 wx (s + 1 + 1) ST19 ∧ Blk wx g 24 #[.slice none 0 0])
  case first =>
    rcases bcase (decide (0 < (chPs t).length)) with hz | hz
    · try rw [hz]
      have HZ1 := hid hz
      clear hz
      have H := hid (AddUint16_topK HT.out HG.out (by decide) (by have := HLN.out; omega) 41 (by omega))
      go_wp2_with fail
      refine H.out.mono ?_
      rintro e w2 ⟨⟨rfl, hT⟩, hG⟩
      have H2 := hid (AddLP16_topK hT hG (by decide) HE15.out HF.out (Nat.le_refl _) (by have := olen_app ST18 (some (be 2 41)); have h5 : olen (some (be 2 41)) = 2 := be_len _ _; have := HLN.out; omega))
      clear H hT hG
      go_wp2_with fail
      refine H2.out.mono ?_
      rintro e w3 ⟨⟨rfl, hT⟩, hG⟩
      have HT3 := hid hT
      have HGF := hid hG
      clear hG
      clear hT H2
      go_wp2_with fail
      go_meet
      exact ⟨TopS.cast HT3.out (by rw [← HST19.out, HZ1.out]; simp only [condOut_true, extOut, lpOut_empty, app_assoc]), HGF.out⟩
    · try rw [hz]
      have HZ1 := hid hz
      clear hz
      have HGF := HG
      go_wp2_with fail
      go_meet
      exact ⟨TopS.cast HT.out (by rw [← HST19.out, HZ1.out, condOut_false, app_nil]), HGF.out⟩
  have hT := hcut.1
  have hG := hcut.2
  clear hcut HT HG
  replace HLN := HLN19
  clear HLN19
  have hST : ST19 = chOut t := by
    rw [← HST19.out, ← HST18.out, ← HST17.out, ← HST16.out, ← HST15.out, ← HST14.out, ← HST13.out, ← HST12.out, ← HST11.out, ← HST10.out, ← HST9.out, ← HST8.out, ← HST7.out, ← HST6.out, ← HST5.out, ← HST4.out, ← HST3.out, ← HST2.out, ← HST1.out, ← HST0.out]
    rw [chOut_form HKS.out HPA.out]
  have HXL := hid (show olen (chOut t) ≤ 1099511627776 by rw [← hST]; have := HLN.out; omega)
  rw [hST] at hT
  have H := hid (Bytes_top hT (by have := HXL.out; omega))
  clear hT hST hG HST0 HST1 HST2 HST3 HST4 HST5 HST6 HST7 HST8 HST9 HST10 HST11 HST12 HST13 HST14 HST15 HST16 HST17 HST18 HST19 HE0 HE1 HE2 HE3 HE4 HE5 HE6 HE7 HE8 HE9 HE10 HE11 HE12 HE13 HE14 HE15 HG HLN
  have q1 := neq_err_nil
  have q3 := neq_err_some
  go_wp2_with fail
  refine H.out.mono ?_
  intro e w4 hp
  obtain ⟨hu4, hp⟩ := hp
  clear H
  generalize hO : chOut t = O at hp HXL
  have HO := hid hO
  clear hO
  rcases O with _ | xs
  · obtain ⟨tt, xx, rfl⟩ := hp
    have h1 : Upd [] w w4 := HU0.out.trans hu4 (by simp)
    go_wp2
    go_ret2
    have e : chMake t = none := by unfold chMake; rw [HO.out]; rfl
    rw [e]
    exact ⟨h1.trans ((Upd.refl [] w4).alloc _) (by simp), _, _, rfl⟩
  · obtain ⟨u, rfl, hy, hn, A, n, c, rfl⟩ := hp
    obtain ⟨A, c, e, hy, -, -⟩ := Byt.form hy rfl
    injection e with e1 e2 e3
    subst e1 e2 e3
    obtain ⟨g9, hg⟩ : ∃ g, w4.heap.size = g := ⟨_, rfl⟩
    obtain ⟨w5, hw5⟩ : ∃ w5, w4.alloc (.cells #[.slice A xs.length c] 23) = w5 := ⟨_, rfl⟩
    obtain ⟨w6, hw6⟩ : ∃ w6, w5.alloc (.cells #[.nilIface, .slice none 0 0, .bool false, .pointer none, .int .i64 0, .int .i64 0, .bool false, .pointer none] 139) = w6 := ⟨_, rfl⟩
    have hu5 : Upd [] w4 w5 := by
      rw [← hw5]
      exact (Upd.refl [] w4).alloc _
    have hb5 : Blk w5 g9 23 #[.slice A xs.length c] := by
      rw [← hw5, ← hg]
      exact Blk.new _ _ _
    have hs5 : w5.heap.size = g9 + 1 := by rw [← hw5]; simp [hg]
    have h05 : Upd [] w0 w5 := hu4.trans hu5 (by simp)
    have hsz0 := h05.size
    have hE5 := HFF.out _ h05
    have hmB : m < w5.heap.size := hE5.1.lt
    have hkB : s < w5.heap.size := hE5.2.1.lt
    have heB : s + 1 < w5.heap.size := hE5.2.2.1.lt
    have hG : ChG w5.heap.size m s (s + 1) g9 cs A c t xs w5 := ⟨⟨hE5.1, hE5.2.1, hE5.2.2.1, hE5.2.2.2.shrink⟩, hb5, (Row.upd hy hu5 (by simp)).shrink⟩
    have hxl : xs.length ≤ 1099511627776 := HXL.out
    have HE := hid (ch_body1 (B := w5.heap.size) (m := m) (k := s) (ei := s + 1) (x := g9) (cs := cs) (t := t) (xs := xs) (Ax := A) (cx := c) hmB hkB heB hb5.lt HZ.out hxl)
    have h6 : TopS w5 w6 w5.heap.size (some []) := by rw [← hw6]; exact TopS.new w5
    have H6 := hid (AddUint8_top h6 (by show 0 ≤ _; omega) 1 (by omega))
    rw [hs5] at H6
    have HW5 := hid hw5
    have HW6 := hid hw6
    have HG9 := hid hg
    have HG' := hid hG
    have HX := hid h05
    clear hw5 hw6 hg hG hb5 hu5 h05 hE5 hy hn h6 hmB hkB heB hxl
    go_upto_region 84 with fail
    rw [HG9.out, HW5.out]
    go_wp2_with fail
    rw [HW6.out]
    refine H6.out.mono ?_
    rintro e w7 ⟨rfl, h7⟩
    have H7 := hid (AddLP24_topF h7 HE.out HG'.out (Nat.le_refl _) (by show 1 + _ + 4 ≤ _; omega))
    clear h7 H6
    go_wp2_with fail
    refine H7.out.mono ?_
    rintro e w8 ⟨rfl, h8⟩
    have H8 := hid (Bytes_top h8 (by
      have h1 := olen_app (app (some []) (some [UInt8.ofNat 1])) (lpOut 3 (chBodyO t xs))
      have h2 : olen (app (some []) (some [UInt8.ofNat 1])) = 1 := rfl
      have h3 := olen_lp 3 (by omega) (chBodyO t xs)
      have h4 := HE.out.1
      omega))
    clear h8 H7
    go_wp2_with fail
    refine H8.out.mono ?_
    intro e w9 hp
    obtain ⟨A1, n1, d1, x1, rfl⟩ := hp.pair
    go_wp2
    go_ret2
    have e : chMake t = app (app (some []) (some [UInt8.ofNat 1])) (lpOut 3 (chBodyO t xs)) := by unfold chMake; rw [HO.out, app_lnil]; rfl
    rw [e]
    exact hp.up (HU0.out.trans HX.out (by simp))
end
end Go.Proofs.YtaajmfgplhfncaaGreat

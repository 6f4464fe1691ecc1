/- Texts joined: ChT. -/
import Derived.Deep.LoopGhost
import Derived.Test.YtaajmfgplhfncaaGreatB09
import Derived.Test.YtaajmfgplhfncaaGreatB10
namespace Go.Proofs.YtaajmfgplhfncaaGreat
open Go.RowKit
set_option maxRecDepth 100000
theorem info_ks : (Tryz.prog.info? 108).map (fun i => (i.zero, i.size, i.bytes)) = some (some (.agg #[.int .u16 0, .slice none 0 0]), 2, 32) := by kernel_rfl
theorem info_pi : (Tryz.prog.info? 110).map (fun i => (i.zero, i.size, i.bytes)) = some (some (.agg #[.slice none 0 0, .int .u32 0]), 2, 32) := by kernel_rfl
section
variable {w w' : World} {B i : Nat} {v : Value} {fs : List Fm} {cs : Array Value} {f : Fm} {x : Ch}
theorem set_same {cs : Array Value} {i : Nat} {v : Value} (h : cs[i]? = some v) : cs.setIfInBounds i v = cs := by
  obtain ⟨hi, e⟩ := Array.getElem?_eq_some_iff.1 h
  apply Array.ext
  · simp
  · intro j h1 h2
    by_cases hj : i = j
    · subst hj; simp [e]
    · rw [Array.getElem_setIfInBounds_ne h2 hj]
theorem TM.start {vs : List Value} (h : All2 (fun v f => FmOk w B v f) vs fs) : TM fs vs.toArray w B := by
  have hl := h.length
  refine ⟨by simpa using hl, fun i v f h1 h2 => ?_⟩
  obtain ⟨hi2, e2⟩ := List.getElem?_eq_some_iff.1 h2
  have h1 : vs[i]? = some v := by simpa using h1
  obtain ⟨hi1, e1⟩ := List.getElem?_eq_some_iff.1 h1
  have := h.get i hi1 hi2
  rw [e1, e2] at this
  exact this
theorem TM.set (h : TM fs cs w B) (hv : FmOk w B v f) : TM (fs.set i f) (cs.setIfInBounds i v) w B := by
  refine ⟨by simp [h.1], fun j u g h1 h2 => ?_⟩
  by_cases hj : j = i
  · subst hj
    have hjl : j < fs.length := by
      have := (List.getElem?_eq_some_iff.1 h2).1
      simpa using this
    have hjc : j < cs.size := by rw [h.1]; exact hjl
    rw [List.getElem?_set_self hjl] at h2
    rw [Array.getElem?_setIfInBounds_self_of_lt hjc] at h1
    injection h1 with h1
    injection h2 with h2
    rw [← h1, ← h2]; exact hv
  · rw [List.getElem?_set_ne (Ne.symm hj)] at h2
    rw [Array.getElem?_setIfInBounds_ne (Ne.symm hj)] at h1
    exact h.2 j u g h1 h2
theorem wp_build {o : Oper} {a : Act} {K : Act → World → Prop} {Q : Exit → Act → World → Prop} (T : TypeId) (parts : Array (Nat × Operand)) (ho : o.op = .build T parts)
    (cells : Array Value) (hf : Tryz.prog.built T (parts.map fun (i, x) => (i, a.eval x)).toList = some cells) (h : K (a.put o.dst (.agg cells)) w) : Oper.wp Tryz.prog o a w K Q := by
  unfold Oper.wp execOp
  simp only [ho, Sem.run_bind, run_build w T _ cells hf, Result.andThen_ok]
  exact h
end
theorem Prs.apart {w : World} {lo lo' B B' : Nat} {e e' : TypeId} {v v' : Value} {ls ls' : List (Cel × Cel)} (h : Prs w lo B e v ls) (h' : Prs w lo' B' e' v' ls') (hne : e ≠ e') : ∀ g, v.ownBlock = some g → v'.ownBlock ≠ some g := by
  intro g hg hg'
  obtain ⟨us, h, _⟩ := h
  rcases h.2 with ⟨rfl, _⟩ | ⟨g1, cap, cur, rfl, _, hh, _⟩
  · simp [Value.ownBlock] at hg
  · have : g1 = g := by simpa [Value.ownBlock] using hg
    subst this
    exact (Prs.ne h' (t := e) hh (Ne.symm hne)) g1 hg' rfl
def MsgCh (w : World) (t : Ch) (e : Ending) (w' : World) : Prop := ∃ m cs, e = .returned (.pointer (some ⟨m, 0, none⟩)) ∧ Blk w' m 105 cs ∧ TM (chFm t) cs w' w'.heap.size ∧ Upd [] w w'
section
variable {w w' : World} {B : Nat} {v : Value} {t : Ch}
set_option maxHeartbeats 16000000 in
theorem msg_Ch (hv : ChV w B v t) (hZ : ChSz t) (hks : t.kg.length = t.kd.length) (hpa : t.pl.length = t.pa.length) : Calls Tryz.prog 58 #[v] w (MsgCh w t) := by
  obtain ⟨cs1, rfl, -⟩ := ChV.okT.agg hv
  obtain ⟨s, hs⟩ : ∃ s, w.heap.size = s := ⟨_, rfl⟩
  obtain ⟨w1, hw1⟩ : ∃ w1, w.alloc (.cells cs1 72) = w1 := ⟨_, rfl⟩
  have hs1 : w1.heap.size = s + 1 := by rw [← hw1, ← hs]; simp
  have hu1 : Upd [] w w1 := by rw [← hw1]; exact (Upd.refl _ _).alloc _
  have hb1 : Blk w1 s 72 cs1 := by rw [← hw1, ← hs]; exact Blk.new _ _ _
  have d0 := hb1.at_ (GV.val hv (i := 0) (u := wv t.vers) rfl)
  obtain ⟨A1, c1, a1, x1⟩ := GV.byt hv (i := 1) (l := t.random) rfl
  have d1 := hb1.at_ a1
  clear a1
  obtain ⟨A2, c2, a2, x2⟩ := GV.byt hv (i := 2) (l := t.sid) rfl
  have d2 := hb1.at_ a2
  clear a2
  obtain ⟨A3, c3, a3, x3⟩ := GV.row hv (i := 3) (us := t.suites.map wv) rfl (n := t.suites.length) (by simp)
  have d3 := hb1.at_ a3
  clear a3
  obtain ⟨A4, c4, a4, x4⟩ := GV.byt hv (i := 4) (l := t.comps) rfl
  have d4 := hb1.at_ a4
  clear a4
  have d5 := hb1.at_ (GV.val hv (i := 5) (u := strv t.host) rfl)
  have d6 := hb1.at_ (GV.val hv (i := 6) (u := .bool t.ocsp) rfl)
  obtain ⟨A7, c7, a7, x7⟩ := GV.row hv (i := 7) (us := t.curves.map wv) rfl (n := t.curves.length) (by simp)
  have d7 := hb1.at_ a7
  clear a7
  obtain ⟨A8, c8, a8, x8⟩ := GV.byt hv (i := 8) (l := t.pts) rfl
  have d8 := hb1.at_ a8
  clear a8
  have d9 := hb1.at_ (GV.val hv (i := 9) (u := .bool t.ticket) rfl)
  obtain ⟨A10, c10, a10, x10⟩ := GV.byt hv (i := 10) (l := t.tick) rfl
  have d10 := hb1.at_ a10
  clear a10
  obtain ⟨A11, c11, a11, x11⟩ := GV.row hv (i := 11) (us := t.sig.map wv) rfl (n := t.sig.length) (by simp)
  have d11 := hb1.at_ a11
  clear a11
  obtain ⟨A12, c12, a12, x12⟩ := GV.row hv (i := 12) (us := t.sigc.map wv) rfl (n := t.sigc.length) (by simp)
  have d12 := hb1.at_ a12
  clear a12
  have d13 := hb1.at_ (GV.val hv (i := 13) (u := .bool t.rns) rfl)
  obtain ⟨A14, c14, a14, x14⟩ := GV.byt hv (i := 14) (l := t.rn) rfl
  have d14 := hb1.at_ a14
  clear a14
  have d15 := hb1.at_ (GV.val hv (i := 15) (u := .bool t.ems) rfl)
  obtain ⟨A16, c16, a16, x16⟩ := GV.row hv (i := 16) (us := t.alpn.map strv) rfl (n := t.alpn.length) (by simp)
  have d16 := hb1.at_ a16
  clear a16
  have d17 := hb1.at_ (GV.val hv (i := 17) (u := .bool t.scts) rfl)
  obtain ⟨A18, c18, a18, x18⟩ := GV.row hv (i := 18) (us := t.sv.map wv) rfl (n := t.sv.length) (by simp)
  have d18 := hb1.at_ a18
  clear a18
  obtain ⟨A19, c19, a19, x19⟩ := GV.byt hv (i := 19) (l := t.cookie) rfl
  have d19 := hb1.at_ a19
  clear a19
  obtain ⟨A20, c20, a20, x20⟩ := GV.row hv (i := 20) (us := t.kg.map wv) rfl (n := t.kg.length) (by simp)
  have d20 := hb1.at_ a20
  have HA20 := hid a20
  clear a20
  obtain ⟨A21, c21, a21, x21⟩ := GV.lst hv (i := 21) (ls := t.kd) rfl
  have d21 := hb1.at_ a21
  have HA21 := hid a21
  clear a21
  have d22 := hb1.at_ (GV.val hv (i := 22) (u := .bool t.early) rfl)
  obtain ⟨A23, c23, a23, x23⟩ := GV.byt hv (i := 23) (l := t.modes) rfl
  have d23 := hb1.at_ a23
  clear a23
  obtain ⟨A24, c24, a24, x24⟩ := GV.lst hv (i := 24) (ls := t.pl) rfl
  have d24 := hb1.at_ a24
  have HA24 := hid a24
  clear a24
  obtain ⟨A25, c25, a25, x25⟩ := GV.row hv (i := 25) (us := t.pa.map uv) rfl (n := t.pa.length) (by simp)
  have d25 := hb1.at_ a25
  have HA25 := hid a25
  clear a25
  obtain ⟨A26, c26, a26, x26⟩ := GV.lst hv (i := 26) (ls := t.pb) rfl
  have d26 := hb1.at_ a26
  clear a26
  have d27 := hb1.at_ (GV.val hv (i := 27) (u := .bool t.quic) rfl)
  obtain ⟨A28, c28, a28, x28⟩ := GV.byt hv (i := 28) (l := t.qtp) rfl
  have d28 := hb1.at_ a28
  have HA28 := hid a28
  clear a28
  obtain ⟨A29, c29, a29, x29⟩ := GV.byt hv (i := 29) (l := t.ech) rfl
  have d29 := hb1.at_ a29
  clear a29
  obtain ⟨wE, hwE⟩ : ∃ wE, w1.alloc (.cells #[.slice none 0 0, wv t.vers, .slice A1 t.random.length c1, .slice A2 t.sid.length c2, .slice A3 t.suites.length c3, .slice A4 t.comps.length c4, strv t.host, .bool t.ocsp, .slice A7 t.curves.length c7, .slice A8 t.pts.length c8, .bool t.ticket, .slice A10 t.tick.length c10, .slice A11 t.sig.length c11, .slice A12 t.sigc.length c12, .bool t.rns, .slice A14 t.rn.length c14, .bool t.ems, .slice A16 t.alpn.length c16, .bool t.scts, .slice A18 t.sv.length c18, .slice A19 t.cookie.length c19, .slice none 0 0, .bool t.early, .slice A23 t.modes.length c23, .slice none 0 0, .slice A26 t.pb.length c26, .slice none 0 0, .slice A29 t.ech.length c29, .slice none 0 0] 105) = wE := ⟨_, rfl⟩
  have huE : Upd [] w1 wE := by rw [← hwE]; exact (Upd.refl _ _).alloc _
  have hsE : wE.heap.size = s + 1 + 1 := by rw [← hwE]; simp [hs1]
  have huW : Upd [] w wE := hu1.trans huE (by simp)
  have hbE := hb1.upd huE (by simp)
  have hmE : Blk wE (s + 1) 105 #[.slice none 0 0, wv t.vers, .slice A1 t.random.length c1, .slice A2 t.sid.length c2, .slice A3 t.suites.length c3, .slice A4 t.comps.length c4, strv t.host, .bool t.ocsp, .slice A7 t.curves.length c7, .slice A8 t.pts.length c8, .bool t.ticket, .slice A10 t.tick.length c10, .slice A11 t.sig.length c11, .slice A12 t.sigc.length c12, .bool t.rns, .slice A14 t.rn.length c14, .bool t.ems, .slice A16 t.alpn.length c16, .bool t.scts, .slice A18 t.sv.length c18, .slice A19 t.cookie.length c19, .slice none 0 0, .bool t.early, .slice A23 t.modes.length c23, .slice none 0 0, .slice A26 t.pb.length c26, .slice none 0 0, .slice A29 t.ech.length c29, .slice none 0 0] := by rw [← hwE, ← hs1]; exact Blk.new _ _ _
  have xe1 := Row.upd x1.shrink huW (by simp)
  rw [hs] at xe1
  clear x1
  have xe2 := Row.upd x2.shrink huW (by simp)
  rw [hs] at xe2
  clear x2
  have xe3 := Row.upd x3.shrink huW (by simp)
  rw [hs] at xe3
  clear x3
  have xe4 := Row.upd x4.shrink huW (by simp)
  rw [hs] at xe4
  clear x4
  have xe7 := Row.upd x7.shrink huW (by simp)
  rw [hs] at xe7
  clear x7
  have xe8 := Row.upd x8.shrink huW (by simp)
  rw [hs] at xe8
  clear x8
  have xe10 := Row.upd x10.shrink huW (by simp)
  rw [hs] at xe10
  clear x10
  have xe11 := Row.upd x11.shrink huW (by simp)
  rw [hs] at xe11
  clear x11
  have xe12 := Row.upd x12.shrink huW (by simp)
  rw [hs] at xe12
  clear x12
  have xe14 := Row.upd x14.shrink huW (by simp)
  rw [hs] at xe14
  clear x14
  have xe16 := Row.upd x16.shrink huW (by simp)
  rw [hs] at xe16
  clear x16
  have xe18 := Row.upd x18.shrink huW (by simp)
  rw [hs] at xe18
  clear x18
  have xe19 := Row.upd x19.shrink huW (by simp)
  rw [hs] at xe19
  clear x19
  have xe20 := Row.upd x20.shrink huW (by simp)
  rw [hs] at xe20
  clear x20
  have xe21 := Lst.upd x21.shrink huW (by simp)
  rw [hs] at xe21
  clear x21
  have xe23 := Row.upd x23.shrink huW (by simp)
  rw [hs] at xe23
  clear x23
  have xe24 := Lst.upd x24.shrink huW (by simp)
  rw [hs] at xe24
  clear x24
  have xe25 := Row.upd x25.shrink huW (by simp)
  rw [hs] at xe25
  clear x25
  have xe26 := Lst.upd x26.shrink huW (by simp)
  rw [hs] at xe26
  clear x26
  have xe28 := Row.upd x28.shrink huW (by simp)
  rw [hs] at xe28
  clear x28
  have xe29 := Row.upd x29.shrink huW (by simp)
  rw [hs] at xe29
  clear x29
  have hTM : TM (chFm { t with kg := [], kd := [], pl := [], pa := [], quic := false }) #[.slice none 0 0, wv t.vers, .slice A1 t.random.length c1, .slice A2 t.sid.length c2, .slice A3 t.suites.length c3, .slice A4 t.comps.length c4, strv t.host, .bool t.ocsp, .slice A7 t.curves.length c7, .slice A8 t.pts.length c8, .bool t.ticket, .slice A10 t.tick.length c10, .slice A11 t.sig.length c11, .slice A12 t.sigc.length c12, .bool t.rns, .slice A14 t.rn.length c14, .bool t.ems, .slice A16 t.alpn.length c16, .bool t.scts, .slice A18 t.sv.length c18, .slice A19 t.cookie.length c19, .slice none 0 0, .bool t.early, .slice A23 t.modes.length c23, .slice none 0 0, .slice A26 t.pb.length c26, .slice none 0 0, .slice A29 t.ech.length c29, .slice none 0 0] wE s := TM.start ⟨⟨rfl, rfl⟩, ⟨rfl, rfl⟩, xe1, xe2, xe3, xe4, ⟨rfl, rfl⟩, ⟨rfl, rfl⟩, xe7, xe8, ⟨rfl, rfl⟩, xe10, xe11, xe12, ⟨rfl, rfl⟩, xe14, ⟨rfl, rfl⟩, xe16, ⟨rfl, rfl⟩, xe18, xe19, PrR.nil_ _ _, ⟨rfl, rfl⟩, xe23, PrR.nil_ _ _, xe26, ⟨none, 0, rfl, rfl, Row.nil_ _ _⟩, xe29, ⟨rfl, rfl⟩, trivial⟩
  obtain ⟨cs0, hcs0⟩ : ∃ x, #[.slice none 0 0, wv t.vers, .slice A1 t.random.length c1, .slice A2 t.sid.length c2, .slice A3 t.suites.length c3, .slice A4 t.comps.length c4, strv t.host, .bool t.ocsp, .slice A7 t.curves.length c7, .slice A8 t.pts.length c8, .bool t.ticket, .slice A10 t.tick.length c10, .slice A11 t.sig.length c11, .slice A12 t.sigc.length c12, .bool t.rns, .slice A14 t.rn.length c14, .bool t.ems, .slice A16 t.alpn.length c16, .bool t.scts, .slice A18 t.sv.length c18, .slice A19 t.cookie.length c19, .slice none 0 0, .bool t.early, .slice A23 t.modes.length c23, .slice none 0 0, .slice A26 t.pb.length c26, .slice none 0 0, .slice A29 t.ech.length c29, .slice none 0 0] = x := ⟨_, rfl⟩
  have hsz0 : cs0.size = 29 := by rw [← hcs0]; rfl
  rw [hcs0] at hmE hTM
  have HN21 := hid (show cs0[21]? = some (.slice none 0 0) by rw [← hcs0]; rfl)
  have HN24 := hid (show cs0[24]? = some (.slice none 0 0) by rw [← hcs0]; rfl)
  have HWE := hid hwE
  have HW1 := hid hw1
  have HS := hid hs
  have HS1 := hid hs1
  have HSE := hid hsE
  have HUW := hid huW
  have HKS := hid hks
  have HPA := hid hpa
  have HZ := hid hZ
  have HTM := hid hTM
  have HME := hid hmE
  have HBE := hid hbE
  have HC0 := hid hsz0
  have HX20 := hid xe20
  have HX21 := hid xe21
  have HX24 := hid xe24
  have HX25 := hid xe25
  have HX28 := hid xe28
  have HA27 := hid (GV.val hv (i := 27) (u := .bool t.quic) rfl)
  clear hwE hw1 hs hs1 hsE huW huE hu1 hks hpa hZ hTM hmE hbE hb1 hsz0 d20 d21 d24 d25 d27 d28 hcs0 hv xe1 xe2 xe3 xe4 xe7 xe8 xe10 xe11 xe12 xe14 xe16 xe18 xe19 xe20 xe21 xe23 xe24 xe25 xe26 xe28 xe29
  go_enter Tryz.func58, Tryz.ntmps58
  go_upto_region 1 with fail
  rw [HW1.out, HS.out]
  go_wp2_with fail
  refine wp_build 105 _ rfl #[.slice none 0 0, wv t.vers, .slice A1 t.random.length c1, .slice A2 t.sid.length c2, .slice A3 t.suites.length c3, .slice A4 t.comps.length c4, strv t.host, .bool t.ocsp, .slice A7 t.curves.length c7, .slice A8 t.pts.length c8, .bool t.ticket, .slice A10 t.tick.length c10, .slice A11 t.sig.length c11, .slice A12 t.sigc.length c12, .bool t.rns, .slice A14 t.rn.length c14, .bool t.ems, .slice A16 t.alpn.length c16, .bool t.scts, .slice A18 t.sv.length c18, .slice A19 t.cookie.length c19, .slice none 0 0, .bool t.early, .slice A23 t.modes.length c23, .slice none 0 0, .slice A26 t.pb.length c26, .slice none 0 0, .slice A29 t.ech.length c29, .slice none 0 0] (by kernel_rfl) ?_
  rename_i hK
  refine hK _ _ ?_
  clear d0 d1 d2 d3 d4 d5 d6 d7 d8 d9 d10 d11 d12 d13 d14 d15 d16 d17 d18 d19 d22 d23 d26 d29
  go_upto_region 2 with fail
  rw [HWE.out, HS1.out]
  clear HWE HW1 HS1
  have hbE1 := HBE.out
  have e20 := hbE1.at_ HA20.out
  clear hbE1
  go_wp2_with fail
  clear e20
  go_loopg [4, 5, 61] t.kg.length (fun gk _ _ i wr => ∃ (j : Nat) (v : Value), j + gk = t.kg.length ∧ i = .int .i64 (j : Int) ∧ Blk wr (s + 1) 105 (cs0.setIfInBounds 21 v) ∧ Prs wr (s + 2) s 108 v ((ksC t).take j) ∧ Upd [s + 1] wE wr)
  case atStart => exact ⟨0, .slice none 0 0, by omega, rfl, (by rw [set_same HN21.out]; exact HME.out), Prs.nil_ _ _ _ _, (Upd.refl _ _)⟩
  case round =>
    obtain ⟨j, v1, hj0, rfl, hmr, hpr, hur⟩ := hrel
    have HJ := hid hj0
    have HUR := hid hur
    have hj : j ≤ t.kg.length := by omega
    clear hj0
    have hbr := HBE.out.upd hur (by simp)
    have hxr := Row.upd HX20.out hur (by simp)
    have hyr := Lst.upd HX21.out hur (by simp)
    have HHX := hid (show t.kd.length = t.kg.length from HKS.out.symm)
    by_cases hlt : j < t.kg.length
    · obtain ⟨Av, cv, rfl, -, -⟩ := hpr.form
      have eL : ((ksC t).take j).length = j := by have := HHX.out; simp [ksC]; omega
      rw [eL] at hmr hpr
      have HEL := hid eL
      clear eL
      obtain ⟨b, o, rfl, hb, hj', hcell⟩ := hxr.at_ hlt
      rw [List.getElem_map] at hcell
      obtain ⟨b2, o2, rfl, hb2, hj2, A', c', hcell2, hy, hy1, hy2⟩ := hyr.at_ (k := j) (by have := HHX.out; omega)
      have hcelm : ∀ (w' : World) (z : Value), Blk w' (s + 1) 105 (cs0.setIfInBounds 21 z) → w'.cell? ⟨s + 1, 21, none⟩ = some z := fun w' z h => (h.cell 21).trans (Array.getElem?_setIfInBounds_self_of_lt (by have := HC0.out; simp; omega))
      have HCELL := hid hcelm
      have c0 := hcelm _ _ hmr
      have c0f := hmr.frozen 21
      have hmrA := hmr.alloc (.cells #[wv (t.kg[j]), Value.slice A' (t.kd[j]).length c'] 108)
      have a0 := hcelm _ _ hmrA
      have a0f := hmrA.frozen 21
      have e21 := hbr.at_ HA21.out
      have hsz : s + 2 ≤ wr.heap.size := by have := hur.size; have := HSE.out; omega
      have HSZ := hid hsz
      have hnm : s + 1 ∉ (Value.slice Av j cv).ownBlock.toList := fun hm' => (hpr.ne hmr (by decide) (s + 1) (Option.mem_toList.1 hm')) rfl
      have HNM := hid hnm
      have hu1 : Upd [] wr (wr.alloc (.cells #[wv (t.kg[j]), Value.slice A' (t.kd[j]).length c'] 108)).drew := ((Upd.refl [] _).alloc _).drew
      have HPR := hid (hpr.upd hu1 (by simp) (by simp))
      have HYY := hid (Row.upd hy hu1 (by simp))
      have HMR := hid hmrA.drew
      have hk0 : (wr.alloc (.cells #[wv (t.kg[j]), Value.slice A' (t.kd[j]).length c'] 108)).drew.cell? ⟨wr.heap.size, 0, none⟩ = some (wv (t.kg[j])) := (Blk.new wr 108 #[wv (t.kg[j]), Value.slice A' (t.kd[j]).length c']).drew.cell 0
      have hk1 : (wr.alloc (.cells #[wv (t.kg[j]), Value.slice A' (t.kd[j]).length c'] 108)).drew.cell? ⟨wr.heap.size, 1, none⟩ = some (.slice A' (t.kd[j]).length c') := (Blk.new wr 108 #[wv (t.kg[j]), Value.slice A' (t.kd[j]).length c']).drew.cell 1
      have HK0 := hid hk0
      have HK1 := hid hk1
      have HU1 := hid hu1
      have hll : j + 1 ≤ 1048576 := by have := HZ.out.kg; omega
      clear hbr hxr hyr hpr hmr hmrA hcelm hnm hsz hk0 hk1 hu1 hy hur
      go_wp2_with fail
      go_region_law (first | (refine step_append_prs (v := .slice Av j cv) rfl _ _ 102 rfl 108 (.agg #[.int .u16 0, .slice none 0 0]) 32 Tryz.underlying102 info_ks rfl rfl HPR.out (b := wr.heap.size) rfl (x0 := wv (t.kg[j])) (y0 := .slice A' (t.kd[j]).length c') (c := (Cel.val (wv (t.kg[j])), Cel.byt (t.kd[j]))) HK0.out HK1.out ⟨rfl, rfl⟩ HYY.out (by rw [HEL.out]; omega) (by rw [HEL.out]; omega) (by have := HSZ.out; simp <;> omega) (by omega) ?_; intro v3 w3 hap; obtain ⟨A3, c3, hv3, -, -⟩ := hap.1.form; have eM : ((ksC t).take j ++ [(Cel.val (wv (t.kg[j])), Cel.byt (t.kd[j]))]).length = j + 1 := (by rw [List.length_append, HEL.out, List.length_singleton]); rw [eM] at hv3; clear eM; subst hv3; have hm3 := HMR.out.upd hap.2.1 HNM.out; have e0 := HCELL.out _ _ hm3; have g0 := hm3.frozen 21))
      all_goals
        go_wp2
        have hj0 := HJ.out
        go_roundg (t.kg.length - (j + 1))
        case measure => omega
        case rel =>
          have hup : Upd [s + 1] w3 (w3.setCell ⟨s + 1, 21, none⟩ (.slice A3 (j + 1) c3)) := (Upd.refl _ _).setCell (by simp) _
          have hmS : Blk (w3.setCell ⟨s + 1, 21, none⟩ (.slice A3 (j + 1) c3)) (s + 1) 105 (cs0.setIfInBounds 21 (.slice A3 (j + 1) c3)) := by
            have := hm3.set_ 21 (.slice A3 (j + 1) c3)
            rwa [Array.setIfInBounds_setIfInBounds] at this
          have hlo := fun g hg => (HPR.out.ge (g := g) hg).1
          have hu3 : Upd [s + 1] wE w3 := (HUR.out.trans HU1.out (by simp)).trans hap.2.1 (fun k hk => .inr (by have := hlo k (Option.mem_toList.1 hk); have := HSE.out; omega))
          refine ⟨j + 1, _, by omega, by go_num, hmS, ?_, hu3.trans hup (by simp)⟩
          have hp3 := hap.1.upd hup (fun g hg hk => by
            have := hap.1.ne hm3 (by decide) g hg
            simp at hk; exact this hk) (by simp)
          rw [show (ksC t).take (j + 1) = (ksC t).take j ++ [(Cel.val (wv (t.kg[j])), Cel.byt (t.kd[j]))] by rw [List.take_succ_eq_append_getElem (by have := HHX.out; simp [ksC]; omega)]; simp [ksC]]
          exact hp3
    · obtain rfl : j = t.kg.length := by have := HJ.out; omega
      have ek : (ksC t).take t.kg.length = ksC t := by
        apply List.take_of_length_le
        have := HHX.out
        simp [ksC]; omega
      rw [ek] at hpr
      clear ek hbr hxr hyr hlt hj HJ
      have HMR1 := hid hmr
      have HKK1 := hid hpr
      clear hmr hpr HHX hur
      have hbE2 := HBE.out.upd HUR.out (by simp)
      have e24 := hbE2.at_ HA24.out
      clear hbE2
      go_wp2_with fail
      clear e24
      go_loopg [6, 7, 86] t.pl.length (fun gk _ _ i wr => ∃ (j : Nat) (v : Value), j + gk = t.pl.length ∧ i = .int .i64 (j : Int) ∧ Blk wr (s + 1) 105 ((cs0.setIfInBounds 21 v1).setIfInBounds 24 v) ∧ Prs wr (s + 2) s 110 v ((piC t).take j) ∧ Upd [s + 1] wE wr ∧ Prs wr (s + 2) s 108 v1 (ksC t))
      case atStart => exact ⟨0, .slice none 0 0, by omega, rfl, (by rw [set_same (by rw [Array.getElem?_setIfInBounds_ne (by omega)]; exact HN24.out)]; exact HMR1.out), Prs.nil_ _ _ _ _, HUR.out, HKK1.out⟩
      case round =>
        obtain ⟨j, v2, hj0, rfl, hmr, hpr, hur, hkk⟩ := hrel
        have HJ := hid hj0
        have HUR := hid hur
        have HKK := hid hkk
        clear hkk
        have hj : j ≤ t.pl.length := by omega
        clear hj0
        have hbr := HBE.out.upd hur (by simp)
        have hxr := Lst.upd HX24.out hur (by simp)
        have hyr := Row.upd HX25.out hur (by simp)
        have HHX := hid (show t.pa.length = t.pl.length from HPA.out.symm)
        by_cases hlt : j < t.pl.length
        · obtain ⟨Av, cv, rfl, -, -⟩ := hpr.form
          have eL : ((piC t).take j).length = j := by have := HHX.out; simp [piC]; omega
          rw [eL] at hmr hpr
          have HEL := hid eL
          clear eL
          obtain ⟨b, o, rfl, hb, hj', A', c', hcell, hy, hy1, hy2⟩ := hxr.at_ hlt
          obtain ⟨b2, o2, rfl, hb2, hj2, hcell2⟩ := hyr.at_ (k := j) (by have := HHX.out; omega)
          rw [List.getElem_map] at hcell2
          have hj3 : j < t.pa.length := by have := HHX.out; omega
          have hcelm : ∀ (w' : World) (z : Value), Blk w' (s + 1) 105 ((cs0.setIfInBounds 21 v1).setIfInBounds 24 z) → w'.cell? ⟨s + 1, 24, none⟩ = some z := fun w' z h => (h.cell 24).trans (Array.getElem?_setIfInBounds_self_of_lt (by have := HC0.out; simp; omega))
          have HCELL := hid hcelm
          have c0 := hcelm _ _ hmr
          have c0f := hmr.frozen 24
          have hmrA := hmr.alloc (.cells #[Value.slice A' (t.pl[j]).length c', uv (t.pa[j])] 110)
          have a0 := hcelm _ _ hmrA
          have a0f := hmrA.frozen 24
          have e25 := hbr.at_ HA25.out
          have hsz : s + 2 ≤ wr.heap.size := by have := hur.size; have := HSE.out; omega
          have HSZ := hid hsz
          have hnm : s + 1 ∉ (Value.slice Av j cv).ownBlock.toList := fun hm' => (hpr.ne hmr (by decide) (s + 1) (Option.mem_toList.1 hm')) rfl
          have HNM := hid hnm
          have hu1 : Upd [] wr (wr.alloc (.cells #[Value.slice A' (t.pl[j]).length c', uv (t.pa[j])] 110)).drew := ((Upd.refl [] _).alloc _).drew
          have HPR := hid (hpr.upd hu1 (by simp) (by simp))
          have HYY := hid (Row.upd hy hu1 (by simp))
          have HMR := hid hmrA.drew
          have hk0 : (wr.alloc (.cells #[Value.slice A' (t.pl[j]).length c', uv (t.pa[j])] 110)).drew.cell? ⟨wr.heap.size, 0, none⟩ = some (.slice A' (t.pl[j]).length c') := (Blk.new wr 110 #[Value.slice A' (t.pl[j]).length c', uv (t.pa[j])]).drew.cell 0
          have hk1 : (wr.alloc (.cells #[Value.slice A' (t.pl[j]).length c', uv (t.pa[j])] 110)).drew.cell? ⟨wr.heap.size, 1, none⟩ = some (uv (t.pa[j])) := (Blk.new wr 110 #[Value.slice A' (t.pl[j]).length c', uv (t.pa[j])]).drew.cell 1
          have HK0 := hid hk0
          have HK1 := hid hk1
          have HU1 := hid hu1
          have hll : j + 1 ≤ 1048576 := by have := HZ.out.pa; omega
          clear hbr hxr hyr hpr hmr hmrA hcelm hnm hsz hk0 hk1 hu1 hy hur
          go_wp2_with fail
          go_region_law (first | (refine step_append_prs (v := .slice Av j cv) rfl _ _ 103 rfl 110 (.agg #[.slice none 0 0, .int .u32 0]) 32 Tryz.underlying103 info_pi rfl rfl HPR.out (b := wr.heap.size) rfl (x0 := .slice A' (t.pl[j]).length c') (y0 := uv (t.pa[j])) (c := (Cel.byt (t.pl[j]), Cel.val (uv (t.pa[j])))) HK0.out HK1.out HYY.out ⟨rfl, rfl⟩ (by rw [HEL.out]; omega) (by rw [HEL.out]; omega) (by have := HSZ.out; simp <;> omega) (by omega) ?_; intro v3 w3 hap; obtain ⟨A3, c3, hv3, -, -⟩ := hap.1.form; have eM : ((piC t).take j ++ [(Cel.byt (t.pl[j]), Cel.val (uv (t.pa[j])))]).length = j + 1 := (by rw [List.length_append, HEL.out, List.length_singleton]); rw [eM] at hv3; clear eM; subst hv3; have hm3 := HMR.out.upd hap.2.1 HNM.out; have e0 := HCELL.out _ _ hm3; have g0 := hm3.frozen 24))
          all_goals
            go_wp2
            have hj0 := HJ.out
            go_roundg (t.pl.length - (j + 1))
            case measure => omega
            case rel =>
              have hup : Upd [s + 1] w3 (w3.setCell ⟨s + 1, 24, none⟩ (.slice A3 (j + 1) c3)) := (Upd.refl _ _).setCell (by simp) _
              have hmS : Blk (w3.setCell ⟨s + 1, 24, none⟩ (.slice A3 (j + 1) c3)) (s + 1) 105 ((cs0.setIfInBounds 21 v1).setIfInBounds 24 (.slice A3 (j + 1) c3)) := by
                have := hm3.set_ 24 (.slice A3 (j + 1) c3)
                rwa [Array.setIfInBounds_setIfInBounds] at this
              have hlo := fun g hg => (HPR.out.ge (g := g) hg).1
              have hu3 : Upd [s + 1] wE w3 := (HUR.out.trans HU1.out (by simp)).trans hap.2.1 (fun k hk => .inr (by have := hlo k (Option.mem_toList.1 hk); have := HSE.out; omega))
              have k1 := HKK.out.upd HU1.out (by simp) (by simp)
              have k2 := k1.upd hap.2.1 (fun g hg hm => Prs.apart k1 HPR.out (by decide) g hg (Option.mem_toList.1 hm)) (fun x hx => by have := (HPR.out.ge (Option.mem_toList.1 hx)).1; omega)
              have k3 := k2.upd hup (fun g hg hm => by simp at hm; exact k2.ne hm3 (by decide) g hg hm) (by simp)
              refine ⟨j + 1, _, by omega, by go_num, hmS, ?_, hu3.trans hup (by simp), k3⟩
              have hp3 := hap.1.upd hup (fun g hg hk => by
                have := hap.1.ne hm3 (by decide) g hg
                simp at hk; exact this hk) (by simp)
              rw [show (piC t).take (j + 1) = (piC t).take j ++ [(Cel.byt (t.pl[j]), Cel.val (uv (t.pa[j])))] by rw [List.take_succ_eq_append_getElem (by have := HHX.out; simp [piC]; omega)]; simp [piC]]
              exact hp3
        · obtain rfl : j = t.pl.length := by have := HJ.out; omega
          have ek : (piC t).take t.pl.length = piC t := by
            apply List.take_of_length_le
            have := HHX.out
            simp [piC]; omega
          rw [ek] at hpr
          clear ek hbr hxr hyr hlt hj HJ
          have HKK2 := HKK
          have hTr := ((((HTM.out.upd hur (by simp)).shrink.set (i := 21) (f := .prs (ksC t)) (v := v1) HKK.out.read).set (i := 24) (f := .prs (piC t)) (v := v2) hpr.read))
          have hbr := HBE.out.upd hur (by simp)
          have d27 := hbr.at_ HA27.out
          obtain ⟨csf, hcsf⟩ : ∃ x, (cs0.setIfInBounds 21 v1).setIfInBounds 24 v2 = x := ⟨_, rfl⟩
          have hszf : csf.size = 29 := by rw [← hcsf]; simp [HC0.out]
          rw [hcsf] at hTr hmr
          have HCSF := hid hcsf
          have HKKF := HKK
          have HPRF := hid hpr
          have HURF := hid hur
          have hU : Upd [] w wr := HUW.out.trans hur (by simp; have := HS.out; omega)
          have HTR := hid hTr
          have HMRF := hid hmr
          have HUF := hid hU
          have HSF := hid hszf
          have hxq := Row.upd HX28.out hur (by simp)
          have HXQ := hid hxq
          have HBR := hid hbr
          have HSR := hid (show s + 2 ≤ wr.heap.size by have := hur.size; have := HSE.out; omega)
          clear hTr hmr hU hszf hcsf hxq hbr hpr hur HKK HKK2 HBE HX20 HX21 HX24 HX25 HX28 HMR1 HKK1 HC0 HN21 HN24
          rcases bcase t.quic with hz | hz
          · rw [hz] at d27
            have hq := HXQ.out
            have hne : ¬ s = s + 1 := by omega
            have HZQ := hid hz
            have hbA := HBR.out.alloc (.cells #[] 5)
            have d28 := hbA.at_ HA28.out
            have hql := HZ.out.qtp
            clear hz
            go_upto_region 13 with fail
            clear d27
            go_wp2_with (at_builtin; go_must (refine wpList_append_row (v := .slice (some ⟨wr.heap.size, 0, none⟩) 0 0) _ rfl (Operand.tmp 111) (Operand.tmp 113) 23 rfl wr.heap.size 5 (.int .u8 0) 1 Tryz.underlying23 info_u8 rfl rfl (own_none wr wr.heap.size 5 (Nat.le_refl _)) rfl (Row.alloc hq (.cells #[] 5)) (byt_oneCell _) (by simp; omega) (by simp; omega) (by simp) ?_; intro v3 w3 hap3; obtain ⟨A3, c3, hv3⟩ := Own.formN (n := t.qtp.length) hap3.1 (by simp); subst hv3; have hm3 := (HMRF.out.alloc (.cells #[] 5)).upd hap3.2.1 (by have := HSR.out; simp [Value.ownBlock]; omega); have c0 := hm3.at_ (i := 26) (Array.getElem?_eq_getElem (by have := HSF.out; omega)); have c0f := hm3.frozen 26))
            go_ret
            have hown := hap3.1
            rw [List.nil_append] at hown
            have hu3 : Upd [] wr w3 := ((Upd.refl [] wr).alloc _).trans hap3.2.1 (by simp [Value.ownBlock])
            have huS : Upd [s + 1] w3 (w3.setCell ⟨s + 1, 26, none⟩ (.slice A3 t.qtp.length c3)) := (Upd.refl _ _).setCell (by simp) _
            have hmS := hm3.set_ 26 (.slice A3 t.qtp.length c3)
            have hgs : ∀ g, (Value.slice A3 t.qtp.length c3).ownBlock = some g → s + 2 ≤ g := fun g hg => by have := (hown.ge hg).1; have := HSR.out; omega
            have hqS : Byt (w3.setCell ⟨s + 1, 26, none⟩ (.slice A3 t.qtp.length c3)) w3.heap.size (.slice A3 t.qtp.length c3) t.qtp := Row.apart hown.row huS (fun g hg hm => by have := hgs g hg; simp at hm; omega)
            have hA : A3.isSome = true := by
              cases A3 with
              | some a => rfl
              | none =>
                have := hap3.2.2
                simp [Value.ownBlock] at this
            have k1 := HKKF.out.upd hu3 (by simp) (by simp)
            have k1' := k1.upd huS (fun g hg hm => by simp at hm; exact k1.ne hm3 (by decide) g hg hm) (by simp)
            have k2 := HPRF.out.upd hu3 (by simp) (by simp)
            have k2' := k2.upd huS (fun g hg hm => by simp at hm; exact k2.ne hm3 (by decide) g hg hm) (by simp)
            have huF : Upd [s + 1] wE _ := (HURF.out.trans hu3 (by simp)).trans huS (by simp)
            have hTF := (((HTM.out.upd huF (by simp)).shrink.set (i := 21) (f := .prs (ksC t)) (v := v1) k1'.read).set (i := 24) (f := .prs (piC t)) (v := v2) k2'.read).set (i := 26) (f := .cpy true t.qtp) (v := .slice A3 t.qtp.length c3) ⟨A3, c3, rfl, hA, Row.shrink hqS⟩
            rw [HCSF.out] at hTF
            have e : chFm t = (((chFm { t with kg := [], kd := [], pl := [], pa := [], quic := false }).set 21 (.prs (ksC t))).set 24 (.prs (piC t))).set 26 (.cpy true t.qtp) := by unfold chFm; rw [HZQ.out]; rfl
            exact ⟨s + 1, _, rfl, hmS, by rw [e]; exact hTF, (HUF.out.trans hu3 (by simp)).trans huS (by simp; have := HS.out; omega)⟩
          · rw [hz] at d27
            have e : chFm t = ((chFm { t with kg := [], kd := [], pl := [], pa := [], quic := false }).set 21 (.prs (ksC t))).set 24 (.prs (piC t)) := by unfold chFm; rw [hz]; rfl
            have HE := hid e
            clear e hz
            go_wp2
            go_ret
            exact ⟨s + 1, csf, rfl, HMRF.out, by rw [HE.out]; exact HTR.out, HUF.out⟩
end
end Go.Proofs.YtaajmfgplhfncaaGreat

/- Texts joined: ChR1, ChK, Lex, Held, HeldC, ChSm0, HeldE. -/
import Derived.Deep.RegionHeld3
import Derived.StillTailTactics
import Derived.OrdersHeld
import Derived.Test.YtaajmfgplhfncaaGreatB16
import Derived.Test.YtaajmfgplhfncaaGreatB10
import Derived.Test.YtaajmfgplhfncaaGreatB08
namespace Go.Proofs.YtaajmfgplhfncaaGreat
open Go.RowKit
set_option maxRecDepth 100000
def rowN (e : TypeId) (us : List Value) : Fld := if us = [] then .val (.slice none 0 0) else .row e us
def vecN (ls : List (List UInt8)) : Fld := if ls = [] then .val (.slice none 0 0) else .vec ls
def chFR (M : Ch) : List Fld := [.val (wv M.vers), .byt M.random, .byt M.sid, .row 22 (M.suites.map wv), .byt M.comps, .val (strv M.host), .val (.bool M.ocsp), .row 22 (M.curves.map wv), .byt M.pts, .val (.bool M.ticket), .byt M.tick, .row 22 (M.sig.map wv), .row 22 (M.sigc.map wv), .val (.bool M.rns), .byt M.rn, .val (.bool M.ems),
  .row 9 (M.alpn.map strv), .val (.bool M.scts), .row 22 (M.sv.map wv), .byt M.cookie, rowN 22 (M.kg.map wv), vecN M.kd, .val (.bool M.early), .byt M.modes, vecN M.pl, rowN 97 (M.pa.map uv), .vec M.pb, .val (.bool M.quic), .byt M.qtp, .byt M.ech, .row 22 (M.exs.map wv)]
def NoOwn (q : Nat) (cs : Array Value) (fs : List Fld) : Prop := ∀ (i : Nat) (v : Value) (f : Fld) (g : Nat), cs[i]? = some v → fs[i]? = some f → f.isOwn = true → v.ownBlock = some g → g ≠ q
section
variable {w w' : World} {B N lo hi lo' hi' m q r i : Nat} {v x : Value} {T : TypeId} {cs : Array Value} {fs fs' : List Fld} {f : Fld} {S : List Nat} {e : TypeId} {us : List Value} {ls : List (List UInt8)}
theorem MSt.noOwn (h : MSt w B lo hi m T cs fs) (hq : hi ≤ q) : NoOwn q cs fs := by
  intro i v f g h1 h2 h3 h4
  have := h.own i v f g h1 h2 h3 h4
  omega
theorem NoOwn.cast (h : NoOwn q cs fs) (e : fs = fs') : NoOwn q cs fs' := e ▸ h
theorem NoOwn.put (h : NoOwn q cs fs) (hx : f.isOwn = true → ∀ g, x.ownBlock = some g → g ≠ q) : NoOwn q (cs.setIfInBounds i x) (fs.set i f) := by
  intro j v f0 g h1 h2 h3 h4
  by_cases hj : j = i
  · subst hj
    rw [Array.getElem?_setIfInBounds] at h1
    rw [List.getElem?_set] at h2
    simp only [if_true] at h1 h2
    split at h1
    · split at h2
      · cases h1; cases h2
        exact hx h3 g h4
      · cases h2
    · cases h1
  · rw [Array.getElem?_setIfInBounds_ne (Ne.symm hj)] at h1
    rw [List.getElem?_set_ne (Ne.symm hj)] at h2
    exact h j v f0 g h1 h2 h3 h4
theorem MSt.updx (h : MSt w B lo hi m T cs fs) (hu : Upd [r, q] w w') (hS : B ≤ r ∧ r ≠ m ∧ r < lo ∧ B ≤ q ∧ q ≠ m) (hn : NoOwn q cs fs) : MSt w' B lo hi m T cs fs := by
  refine ⟨h.blk.upd hu (by simp; omega), h.len, fun i v f h1 h2 => (h.ok i v f h1 h2).upd hu (by simp; omega) fun h3 g h4 hm => ?_, h.own, h.ap⟩
  have h5 := h.own i v f g h1 h2 h3 h4
  have h6 := hn i v f g h1 h2 h3 h4
  simp at hm
  omega
theorem MSt.putO (h : MSt w B lo hi m T cs fs) (hml : m < lo) (hm : B ≤ m) (hx : ∀ g, x.ownBlock = some g → hi ≤ g ∧ lo ≤ g ∧ g < w.heap.size) (hf : FOk w B lo x f) (hh : hi ≤ w.heap.size) :
    MSt (w.setCell ⟨m, i, none⟩ x) B lo w.heap.size m T (cs.setIfInBounds i x) (fs.set i f) := by
  have hu : Upd [m] w (w.setCell ⟨m, i, none⟩ x) := (Upd.refl _ _).setCell (by simp) _
  exact h.put hml hu (by simp; omega) (h.blk.set_ i x) (hf.upd hu (by simpa using hm) (fun _ g hg hk => by have := hx g hg; simp at hk; omega)) (fun _ g hg => .inl (hx g hg)) hh
theorem Own.less8 (h : Own w lo e v us) (hl : lo' ≤ lo) : Own w lo' e v us := by
  refine ⟨h.1, h.2.imp id ?_⟩
  rintro ⟨g, cap, cur, e, hb2, r⟩
  exact ⟨g, cap, cur, e, Nat.le_trans hl hb2, r⟩
theorem Vecs.less8 (h : Vecs w lo B v ls) (hl : lo' ≤ lo) : Vecs w lo' B v ls := by
  obtain ⟨us, h1, h2⟩ := h
  exact ⟨us, h1.less8 hl, h2⟩
theorem Vecs.ge8 (h : Vecs w lo B v ls) {g : Nat} (hg : v.ownBlock = some g) : lo ≤ g ∧ g < w.heap.size := by
  obtain ⟨us, h1, h2⟩ := h
  exact h1.ge hg
end
def ChXP (w : World) (N lo q mb : Nat) (M : Ch) (e : Ending) (w' : World) : Prop :=
  e = .returned (.tuple #[]) ∧ Upd [q, mb] w w' ∧ Rd w' N q ⟨[], 0⟩ ∧ ∃ cs, MSt w' N lo w'.heap.size mb 29 cs (chFR M) ∧ NoOwn q cs (chFR M)
theorem str_last {h : List UInt8} (h0 : h ≠ []) : ∀ w, (Instr.index 9 (strv h) (.int .i64 ((h.length : Int) - 1))).run Tryz.prog w = .ok (.int .u8 ((h.getLast h0).toNat : Int)) w := by
  have hp : 0 < h.length := List.length_pos_iff.2 h0
  intro w
  rw [run_index_string w 9 _ _ _ Tryz.underlying9]
  have hsz : (⟨h.toArray⟩ : ByteArray).size = h.length := by simp [ByteArray.size]
  rw [dif_pos (by rw [hsz]; omega)]
  congr 3
  have hi : ((h.length : Int) - 1).toNat = h.length - 1 := by omega
  have : (⟨h.toArray⟩ : ByteArray)[((h.length : Int) - 1).toNat]'(by rw [hsz]; omega) = h.getLast h0 := by
    show h.toArray[((h.length : Int) - 1).toNat]'_ = _
    simp only [hi, List.getElem_toArray]
    rw [List.getLast_eq_getElem]
  rw [this]
section
variable {w : World} {N lo hi q mb : Nat} {M : Ch} {cs : Array Value} {d x h : List UInt8} {l : List UInt16} {ls : List (List UInt8)}
set_option maxHeartbeats 4000000 in
theorem x_sv (hq : Rd w N q ⟨be 1 (wordsB l).length ++ wordsB l, 0⟩) (hM : MSt w N lo hi mb 29 cs (chFR M)) (hml : mb < lo) (hNm : N ≤ mb) (hlo : lo ≤ hi) (hiq : hi ≤ q) (hhi : hi ≤ w.heap.size) (hdl : (be 1 (wordsB l).length ++ wordsB l : List UInt8).length < 65536) (h0 : l ≠ []) (hx : (wordsB l).length < 256) :
    Calls Tryz.prog 63 #[.pointer (some ⟨q, 0, none⟩), .int .u16 43, .pointer (some ⟨mb, 0, none⟩)] w (ChXP w N lo q mb { M with sv := l }) := by
  have hqN := hq.1
  have hql0 := hq.lt
  have hlp : lp 1 (be 1 (wordsB l).length ++ wordsB l) = some (wordsB l, []) := by simpa using lpR 1 (wordsB l) [] (.inl ⟨rfl, hx⟩)
  have hx0 : 2 ≤ (wordsB l).length := by rw [wordsB_len]; have := List.length_pos_iff.2 h0; omega
  go_enter Tryz.func63, Tryz.ntmps63
  have H := hid (vecS hq 1 2 255 hlp (by omega) (by omega) (by omega))
  go_wp2_with fail
  refine H.out.mono ?_
  rintro e w1 ⟨A1, c1, rfl, hu1, hq1, hyr⟩
  have hM1 := hM.upd hu1 (by simp; omega)
  have hU1 := ((Upd.refl [q, mb] w)).trans hu1 (by simp)
  clear H
  have hno0 := hM.noOwn hiq
  have hszw := hU1.size
  clear hlp
  have H := hid (wordsS hq1 hyr (by omega))
  go_wp2_with fail
  refine H.out.mono ?_
  rintro e w2 ⟨A2, c2, rfl, ho, hu2, hq2⟩
  have hM2 := hM1.upd hu2 (by simp; omega)
  have hU2 := (hU1).trans hu2 (by simp)
  clear H
  replace hszw := hU2.size
  have hszv := hu2.size
  have hsz1 := hU1.size
  obtain ⟨vc18, hcv18, -⟩ := hM2.get (i := 18) rfl
  have cc18 := hM2.cell hcv18
  have ff18 := hM2.blk.frozen 18
  clear hcv18
  have hge := fun g hg => ho.ge (g := g) hg
  have hszo : hi ≤ w2.heap.size := by have := hszw; omega
  have hus3 : Upd [mb] w2 (w2.setCell ⟨mb, 18, none⟩ (.slice A2 l.length c2)) := (Upd.refl _ _).setCell (by simp) _
  have hM3 := hM2.putO (i := 18) (x := .slice A2 l.length c2) (f := .row 22 (l.map wv)) hml hNm (fun g hg => by have := hge g hg; omega) (show FOk _ N lo _ (.row 22 (l.map wv)) from ho.less8 (by omega)) hszo
  have hno3 := NoOwn.put (i := 18) (x := .slice A2 l.length c2) (f := .row 22 (l.map wv)) hno0 (fun _ g hg => by have := hge g hg; omega)
  have hq3 := hq2.upd hus3 (by simp; omega) (by simp; omega)
  have hU3 := (hU2).trans hus3 (by simp)
  go_wp2
  go_end0
  exact ⟨rfl, hU3, hq3, _, MSt.wide (MSt.cast hM3 rfl) (by have := hU3.size; have := hus3.size; omega), NoOwn.cast hno3 rfl⟩
set_option maxHeartbeats 4000000 in
theorem x_cookie (hq : Rd w N q ⟨be 2 x.length ++ x, 0⟩) (hM : MSt w N lo hi mb 29 cs (chFR M)) (hml : mb < lo) (hNm : N ≤ mb) (hlo : lo ≤ hi) (hiq : hi ≤ q) (hhi : hi ≤ w.heap.size) (hdl : (be 2 x.length ++ x : List UInt8).length < 65536) (h0 : x ≠ []) (hx : x.length < 65536) :
    Calls Tryz.prog 63 #[.pointer (some ⟨q, 0, none⟩), .int .u16 44, .pointer (some ⟨mb, 0, none⟩)] w (ChXP w N lo q mb { M with cookie := x }) := by
  have hqN := hq.1
  have hql0 := hq.lt
  have hlp : lp 2 (be 2 x.length ++ x) = some (x, []) := by simpa using lpR 2 x [] (.inr ⟨rfl, hx⟩)
  have hx0 : 0 < x.length := List.length_pos_iff.2 h0
  go_enter Tryz.func63, Tryz.ntmps63
  have H := hid (vecS hq 2 1 65535 hlp (by omega) (by omega) (by omega))
  go_wp2_with fail
  refine H.out.mono ?_
  rintro e w1 ⟨A1, c1, rfl, hu1, hq1, hyr⟩
  have hM1 := hM.upd hu1 (by simp; omega)
  have hU1 := ((Upd.refl [q, mb] w)).trans hu1 (by simp)
  clear H
  have hno0 := hM.noOwn hiq
  clear hlp
  obtain ⟨vc19, hcv19, -⟩ := hM1.get (i := 19) rfl
  have cc19 := hM1.cell hcv19
  have ff19 := hM1.blk.frozen 19
  clear hcv19
  have hus2 : Upd [mb] w1 (w1.setCell ⟨mb, 19, none⟩ (.slice A1 x.length c1)) := (Upd.refl _ _).setCell (by simp) _
  have hM2 := hM1.putV (i := 19) (f := .byt x) hml hus2 (by simp; omega) (hM1.blk.set_ 19 (.slice A1 x.length c1)) (Row.upd hyr hus2 (by simp; omega)) rfl
  have hno2 := NoOwn.put (i := 19) (x := .slice A1 x.length c1) (f := .byt x) hno0 (fun e => by cases e)
  have hq2 := hq1.upd hus2 (by simp; omega) (by simp; omega)
  have hU2 := (hU1).trans hus2 (by simp)
  go_wp2
  go_end0
  exact ⟨rfl, hU2, hq2, _, MSt.wide (MSt.cast hM2 rfl) (by have := hU2.size; omega), NoOwn.cast hno2 rfl⟩
set_option maxHeartbeats 4000000 in
theorem x_early (hq : Rd w N q ⟨[], 0⟩) (hM : MSt w N lo hi mb 29 cs (chFR M)) (hml : mb < lo) (hNm : N ≤ mb) (hlo : lo ≤ hi) (hiq : hi ≤ q) (hhi : hi ≤ w.heap.size) (hdl : ([] : List UInt8).length < 65536) :
    Calls Tryz.prog 63 #[.pointer (some ⟨q, 0, none⟩), .int .u16 42, .pointer (some ⟨mb, 0, none⟩)] w (ChXP w N lo q mb { M with early := true }) := by
  have hqN := hq.1
  have hql0 := hq.lt
  obtain ⟨vc22, hcv22, -⟩ := hM.get (i := 22) rfl
  have cc22 := hM.cell hcv22
  have ff22 := hM.blk.frozen 22
  clear hcv22
  go_enter Tryz.func63, Tryz.ntmps63
  have hus1 : Upd [mb] w (w.setCell ⟨mb, 22, none⟩ (.bool true)) := (Upd.refl _ _).setCell (by simp) _
  have hM1 := hM.putV (i := 22) (f := .val (.bool true)) hml hus1 (by simp; omega) (hM.blk.set_ 22 (.bool true)) rfl rfl
  have hno1 := NoOwn.put (i := 22) (x := .bool true) (f := .val (.bool true)) (hM.noOwn hiq) (fun e => by cases e)
  have hq1 := hq.upd hus1 (by simp; omega) (by simp; omega)
  have hU1 := ((Upd.refl [q, mb] w)).trans hus1 (by simp)
  go_wp2
  go_end0
  exact ⟨rfl, hU1, hq1, _, MSt.wide (MSt.cast hM1 rfl) (by have := hU1.size; omega), NoOwn.cast hno1 rfl⟩
set_option maxHeartbeats 4000000 in
theorem x_modes (hq : Rd w N q ⟨be 1 x.length ++ x, 0⟩) (hM : MSt w N lo hi mb 29 cs (chFR M)) (hml : mb < lo) (hNm : N ≤ mb) (hlo : lo ≤ hi) (hiq : hi ≤ q) (hhi : hi ≤ w.heap.size) (hdl : (be 1 x.length ++ x : List UInt8).length < 65536) (h0 : x ≠ []) (hx : x.length < 256) :
    Calls Tryz.prog 63 #[.pointer (some ⟨q, 0, none⟩), .int .u16 45, .pointer (some ⟨mb, 0, none⟩)] w (ChXP w N lo q mb { M with modes := x }) := by
  have hqN := hq.1
  have hql0 := hq.lt
  have hlp : lp 1 (be 1 x.length ++ x) = some (x, []) := by simpa using lpR 1 x [] (.inl ⟨rfl, hx⟩)
  have hx0 : 0 < x.length := List.length_pos_iff.2 h0
  go_enter Tryz.func63, Tryz.ntmps63
  have H := hid (vecS hq 1 1 255 hlp (by omega) (by omega) (by omega))
  go_wp2_with fail
  refine H.out.mono ?_
  rintro e w1 ⟨A1, c1, rfl, hu1, hq1, hyr⟩
  have hM1 := hM.upd hu1 (by simp; omega)
  have hU1 := ((Upd.refl [q, mb] w)).trans hu1 (by simp)
  clear H
  have hno0 := hM.noOwn hiq
  clear hlp
  obtain ⟨vc23, hcv23, -⟩ := hM1.get (i := 23) rfl
  have cc23 := hM1.cell hcv23
  have ff23 := hM1.blk.frozen 23
  clear hcv23
  have hus2 : Upd [mb] w1 (w1.setCell ⟨mb, 23, none⟩ (.slice A1 x.length c1)) := (Upd.refl _ _).setCell (by simp) _
  have hM2 := hM1.putV (i := 23) (f := .byt x) hml hus2 (by simp; omega) (hM1.blk.set_ 23 (.slice A1 x.length c1)) (Row.upd hyr hus2 (by simp; omega)) rfl
  have hno2 := NoOwn.put (i := 23) (x := .slice A1 x.length c1) (f := .byt x) hno0 (fun e => by cases e)
  have hq2 := hq1.upd hus2 (by simp; omega) (by simp; omega)
  have hU2 := (hU1).trans hus2 (by simp)
  go_wp2
  go_end0
  exact ⟨rfl, hU2, hq2, _, MSt.wide (MSt.cast hM2 rfl) (by have := hU2.size; omega), NoOwn.cast hno2 rfl⟩
set_option maxHeartbeats 4000000 in
theorem x_quic (hq : Rd w N q ⟨x, 0⟩) (hM : MSt w N lo hi mb 29 cs (chFR M)) (hml : mb < lo) (hNm : N ≤ mb) (hlo : lo ≤ hi) (hiq : hi ≤ q) (hhi : hi ≤ w.heap.size) (hdl : (x : List UInt8).length < 65536) :
    Calls Tryz.prog 63 #[.pointer (some ⟨q, 0, none⟩), .int .u16 57, .pointer (some ⟨mb, 0, none⟩)] w (ChXP w N lo q mb { M with quic := true, qtp := x }) := by
  have hqN := hq.1
  have hql0 := hq.lt
  obtain ⟨Aq, cq, q0, q1, qf0, qf1, hql, hqc⟩ := hq.open_
  go_enter Tryz.func63, Tryz.ntmps63
  have H := hid (takeS hq (by omega))
  go_wp2_with fail
  refine H.out.mono ?_
  rintro e w1 ⟨A1, c1, rfl, hu1, hq1, hyr⟩
  have hM1 := hM.upd hu1 (by simp; omega)
  have hU1 := ((Upd.refl [q, mb] w)).trans hu1 (by simp)
  clear H
  have hno0 := hM.noOwn hiq
  clear q0 q1 qf0 qf1
  obtain ⟨vc27, hcv27, -⟩ := hM1.get (i := 27) rfl
  have cc27 := hM1.cell hcv27
  have ff27 := hM1.blk.frozen 27
  clear hcv27
  obtain ⟨vc28, hcv28, -⟩ := hM1.get (i := 28) rfl
  have cc28 := hM1.cell hcv28
  have ff28 := hM1.blk.frozen 28
  clear hcv28
  have hus2 : Upd [mb] w1 (w1.setCell ⟨mb, 27, none⟩ (.bool true)) := (Upd.refl _ _).setCell (by simp) _
  have hM2 := hM1.putV (i := 27) (f := .val (.bool true)) hml hus2 (by simp; omega) (hM1.blk.set_ 27 (.bool true)) rfl rfl
  have hno2 := NoOwn.put (i := 27) (x := .bool true) (f := .val (.bool true)) hno0 (fun e => by cases e)
  have hq2 := hq1.upd hus2 (by simp; omega) (by simp; omega)
  have hU2 := (hU1).trans hus2 (by simp)
  have hyr := Row.upd hyr hus2 (by simp; omega)
  have hus3 : Upd [mb] (w1.setCell ⟨mb, 27, none⟩ (.bool true)) ((w1.setCell ⟨mb, 27, none⟩ (.bool true)).setCell ⟨mb, 28, none⟩ (.slice A1 x.length c1)) := (Upd.refl _ _).setCell (by simp) _
  have hM3 := hM2.putV (i := 28) (f := .byt x) hml hus3 (by simp; omega) (hM2.blk.set_ 28 (.slice A1 x.length c1)) (Row.upd hyr hus3 (by simp; omega)) rfl
  have hno3 := NoOwn.put (i := 28) (x := .slice A1 x.length c1) (f := .byt x) hno2 (fun e => by cases e)
  have hq3 := hq2.upd hus3 (by simp; omega) (by simp; omega)
  have hU3 := (hU2).trans hus3 (by simp)
  go_wp2
  go_end0
  exact ⟨rfl, hU3, hq3, _, MSt.wide (MSt.cast hM3 rfl) (by have := hU3.size; omega), NoOwn.cast hno3 rfl⟩
set_option maxHeartbeats 4000000 in
theorem x_ech (hq : Rd w N q ⟨x, 0⟩) (hM : MSt w N lo hi mb 29 cs (chFR M)) (hml : mb < lo) (hNm : N ≤ mb) (hlo : lo ≤ hi) (hiq : hi ≤ q) (hhi : hi ≤ w.heap.size) (hdl : (x : List UInt8).length < 65536) (h0 : x ≠ []) :
    Calls Tryz.prog 63 #[.pointer (some ⟨q, 0, none⟩), .int .u16 65037, .pointer (some ⟨mb, 0, none⟩)] w (ChXP w N lo q mb { M with ech := x }) := by
  have hqN := hq.1
  have hql0 := hq.lt
  go_enter Tryz.func63, Tryz.ntmps63
  have H := hid (restS hq (by omega) h0)
  go_wp2_with fail
  refine H.out.mono ?_
  rintro e w1 ⟨A1, c1, rfl, hu1, hq1, hyr⟩
  have hM1 := hM.upd hu1 (by simp; omega)
  have hU1 := ((Upd.refl [q, mb] w)).trans hu1 (by simp)
  clear H
  have hno0 := hM.noOwn hiq
  obtain ⟨vc29, hcv29, -⟩ := hM1.get (i := 29) rfl
  have cc29 := hM1.cell hcv29
  have ff29 := hM1.blk.frozen 29
  clear hcv29
  have hus2 : Upd [mb] w1 (w1.setCell ⟨mb, 29, none⟩ (.slice A1 x.length c1)) := (Upd.refl _ _).setCell (by simp) _
  have hM2 := hM1.putV (i := 29) (f := .byt x) hml hus2 (by simp; omega) (hM1.blk.set_ 29 (.slice A1 x.length c1)) (Row.upd hyr hus2 (by simp; omega)) rfl
  have hno2 := NoOwn.put (i := 29) (x := .slice A1 x.length c1) (f := .byt x) hno0 (fun e => by cases e)
  have hq2 := hq1.upd hus2 (by simp; omega) (by simp; omega)
  have hU2 := (hU1).trans hus2 (by simp)
  go_wp2
  go_end0
  exact ⟨rfl, hU2, hq2, _, MSt.wide (MSt.cast hM2 rfl) (by have := hU2.size; omega), NoOwn.cast hno2 rfl⟩
set_option maxHeartbeats 4000000 in
theorem x_other {k : UInt16} (hq : Rd w N q ⟨x, 0⟩) (hM : MSt w N lo hi mb 29 cs (chFR M)) (hml : mb < lo) (hNm : N ≤ mb) (hlo : lo ≤ hi) (hiq : hi ≤ q) (hhi : hi ≤ w.heap.size) (hdl : (x : List UInt8).length < 65536) (k43 : k ≠ 43) (k44 : k ≠ 44) (k51 : k ≠ 51) (k42 : k ≠ 42) (k45 : k ≠ 45) (k57 : k ≠ 57) (k65037 : k ≠ 65037) (k41 : k ≠ 41) :
    Calls Tryz.prog 63 #[.pointer (some ⟨q, 0, none⟩), wv k, .pointer (some ⟨mb, 0, none⟩)] w (ChXP w N lo q mb M) := by
  have hqN := hq.1
  have hql0 := hq.lt
  have d43 := u16_eq k 43
  rw [show ((43 : UInt16).toNat : Int) = 43 from rfl, decide_eq_false k43] at d43
  have d44 := u16_eq k 44
  rw [show ((44 : UInt16).toNat : Int) = 44 from rfl, decide_eq_false k44] at d44
  have d51 := u16_eq k 51
  rw [show ((51 : UInt16).toNat : Int) = 51 from rfl, decide_eq_false k51] at d51
  have d42 := u16_eq k 42
  rw [show ((42 : UInt16).toNat : Int) = 42 from rfl, decide_eq_false k42] at d42
  have d45 := u16_eq k 45
  rw [show ((45 : UInt16).toNat : Int) = 45 from rfl, decide_eq_false k45] at d45
  have d57 := u16_eq k 57
  rw [show ((57 : UInt16).toNat : Int) = 57 from rfl, decide_eq_false k57] at d57
  have d65037 := u16_eq k 65037
  rw [show ((65037 : UInt16).toNat : Int) = 65037 from rfl, decide_eq_false k65037] at d65037
  have d41 := u16_eq k 41
  rw [show ((41 : UInt16).toNat : Int) = 41 from rfl, decide_eq_false k41] at d41
  clear k43 k44 k51 k42 k45 k57 k65037 k41
  obtain ⟨Aq, cq, q0, q1, qf0, qf1, hql, hqc⟩ := hq.open_
  go_enter Tryz.func63, Tryz.ntmps63
  have H := hid (takeS hq (by omega))
  go_wp2_with fail
  refine H.out.mono ?_
  rintro e w1 ⟨A1, c1, rfl, hu1, hq1, hyr⟩
  have hM1 := hM.upd hu1 (by simp; omega)
  have hU1 := ((Upd.refl [q, mb] w)).trans hu1 (by simp)
  clear H
  have hno0 := hM.noOwn hiq
  clear q0 q1 qf0 qf1
  go_wp2
  go_end0
  exact ⟨rfl, hU1, hq1, _, MSt.wide (MSt.cast hM1 rfl) (by have := hU1.size; omega), NoOwn.cast hno0 rfl⟩
set_option maxHeartbeats 4000000 in
theorem x_host (hq : Rd w N q ⟨be 2 (3 + h.length) ++ (0 :: (be 2 h.length ++ h)), 0⟩) (hM : MSt w N lo hi mb 29 cs (chFR M)) (hml : mb < lo) (hNm : N ≤ mb) (hlo : lo ≤ hi) (hiq : hi ≤ q) (hhi : hi ≤ w.heap.size) (hdl : (be 2 (3 + h.length) ++ (0 :: (be 2 h.length ++ h)) : List UInt8).length < 65536) (h0 : h ≠ []) (hd : h.getLast? ≠ some 46) :
    Calls Tryz.prog 53 #[.pointer (some ⟨q, 0, none⟩), .int .u16 0, .pointer (some ⟨mb, 0, none⟩)] w (ChXP w N lo q mb { M with host := h }) := by
  have hqN := hq.1
  have hql0 := hq.lt
  have hp : 0 < h.length := List.length_pos_iff.2 h0
  have hbl : (be 2 h.length).length = 2 := be_len 2 _
  obtain ⟨X, hX⟩ : ∃ X, (0 : UInt8) :: (be 2 h.length ++ h) = X := ⟨_, rfl⟩
  have hXl : X.length = 3 + h.length := by rw [← hX, List.length_cons, List.length_append, hbl]; omega
  have eY : ∀ Y : List UInt8, (0 : UInt8) :: Y = be 1 0 ++ Y := fun Y => rfl
  have hXe : X = be 1 0 ++ (be 2 h.length ++ h) := by rw [← hX]; exact eY _
  rw [hX] at hq hdl
  clear hX eY
  have hXs : X.length < 65536 := by rw [List.length_append, be_len] at hdl; omega
  have hlp : lp 2 (be 2 (3 + h.length) ++ X) = some (X, []) := by
    have := lpR 2 X [] (.inr ⟨rfl, hXs⟩)
    rwa [hXl, List.append_nil] at this
  have hhl : h.length < 65536 := by omega
  have hlp2 : lp 2 (be 2 h.length ++ h) = some (h, []) := by
    have := lpR 2 h [] (.inr ⟨rfl, hhl⟩)
    rwa [List.append_nil] at this
  have hxi := str_last h0
  have hxl : (((h.getLast h0).toNat : Int) == 46) = false := by
    rw [beq_eq_false_iff_ne]
    intro e
    have e2 : h.getLast h0 = 46 := by apply UInt8.toNat_inj.1; show (h.getLast h0).toNat = 46; omega
    exact hd (by rw [List.getLast?_eq_some_getLast h0, e2])
  generalize h.getLast h0 = lst at hxi hxl
  have hb2 : decide ((0 : Int) < (h.length : Int)) = true := decide_eq_true (by omega)
  have HLP := hid hlp
  have hX1 : 1 ≤ X.length := by omega
  clear hXl
  have HLP2 := hid hlp2
  have HXE := hid hXe
  have HXI := hid hxi
  have hp1 : 1 ≤ h.length := hp
  clear hlp hlp2 hXe hbl hp hd hxi hdl
  go_enter Tryz.func53, Tryz.ntmps53
  have H := hid (vecS hq 2 1 65535 HLP.out (by omega) (by omega) (by omega))
  go_wp2_with fail
  refine H.out.mono ?_
  rintro e w1 ⟨A1, c1, rfl, hu1, hq1, hyr⟩
  have hM1 := hM.upd hu1 (by simp; omega)
  have hU1 := (Upd.refl [q, mb] w).trans hu1 (by simp)
  have hs1 := hu1.size
  have hno0 := hM.noOwn hiq
  clear H HLP
  have H := hid (withinS (N' := N) hq1 (by omega) hyr)
  go_wp2_with fail
  refine H.out.mono ?_
  rintro e w2 ⟨rfl, hu2, hy2⟩
  have hM2 := hM1.upd hu2 (by simp)
  have hq2 := hq1.upd hu2 (by simp) (by simp)
  have hU2 := hU1.trans hu2 (by simp)
  have hqy : q < w1.heap.size := by omega
  have hyy : hi ≤ w1.heap.size ∧ w.heap.size ≤ w1.heap.size := by omega
  clear H hyr hu1 hu2
  generalize w1.heap.size = y at hy2 hqy hyy
  have hyl := hy2.lt
  rw [HXE.out] at hy2
  have H := hid (numS hy2 (by omega) (beNat_be1 0 (by omega)))
  go_wp2_with fail
  refine H.out.mono ?_
  rintro e w3 ⟨rfl, hu3, hy3⟩
  have hM3 := hM2.upd hu3 (by simp; omega)
  have hq3 := hq2.upd hu3 (by simp; omega) (by simp; omega)
  have hU3 : Upd [q, mb] w w3 := hU2.trans hu3 (by simp; omega)
  clear H hu3 hy2
  have H := hid (vecS hy3 2 1 65535 HLP2.out (by omega) (by omega) (by omega))
  go_wp2_with fail
  refine H.out.mono ?_
  rintro e w4 ⟨A4, c4, rfl, hu4, hy4, hyr⟩
  have hM4 := hM3.upd hu4 (by simp; omega)
  have hq4 := hq3.upd hu4 (by simp; omega) (by simp; omega)
  have hU4 : Upd [q, mb] w w4 := hU3.trans hu4 (by simp; omega)
  have hcv := conv_bytes 23 Tryz.underlying23 hyr
  clear H hu4 hy3 HLP2 HXE
  obtain ⟨vc5, hcv5, -⟩ := hM4.get (i := 5) rfl
  have cc5 := hM4.cell hcv5
  have ff5 := hM4.blk.frozen 5
  clear hcv5
  have hus5 : Upd [mb] w4 (w4.setCell ⟨mb, 5, none⟩ (strv h)) := (Upd.refl _ _).setCell (by simp) _
  have hM5 := hM4.putV (i := 5) (f := .val (strv h)) hml hus5 (by simp; omega) (hM4.blk.set_ 5 (strv h)) rfl rfl
  have hno5 := NoOwn.put (i := 5) (x := strv h) (f := .val (strv h)) hno0 (fun e => by cases e)
  have hq5 := hq4.upd hus5 (by simp; omega) (by simp; omega)
  have hU5 := (hU4).trans hus5 (by simp)
  have hy5 := hy4.upd hus5 (by simp; omega) (by simp; omega)
  have hc5 := hM5.cell (i := 5) (v := strv h) (Array.getElem?_setIfInBounds_self_of_lt (by rw [hM4.len]; exact (by decide : 5 < 31)))
  obtain ⟨Aq, cq, q0, q1, qf0, qf1, -, -⟩ := hy5.open_
  obtain ⟨wS, hwS⟩ : ∃ x, w4.setCell ⟨mb, 5, none⟩ (strv h) = x := ⟨_, rfl⟩
  rw [hwS] at hM5 hq5 hU5 hy5 hc5 q0 q1 qf0 qf1 hus5
  have HWS := hid hwS
  clear hwS
  have H := hid (doneS hq5 hy5 (by omega) (by omega))
  have hxi := HXI.out
  go_upto_region 8 with fail
  rw [HWS.out]
  go_wp2_with fail
  refine H.out.mono ?_
  rintro e w6 ⟨rfl, hu6, hq6⟩
  have hno6 : NoOwn y _ _ := hM5.noOwn (by omega)
  have hM6 := hM5.upd hu6 (by simp; omega)
  have hU6 : Upd [q, mb] w w6 := hU5.trans hu6 (by simp; omega)
  clear q0 q1 qf0 qf1 H
  go_wp2
  go_end0
  exact ⟨rfl, hU6, hq6, _, MSt.wide (MSt.cast hM6 rfl) (by have := hU6.size; omega), NoOwn.cast hno5 rfl⟩
set_option maxHeartbeats 4000000 in
theorem x_ocsp (hq : Rd w N q ⟨[1, 0, 0, 0, 0], 0⟩) (hM : MSt w N lo hi mb 29 cs (chFR M)) (hml : mb < lo) (hNm : N ≤ mb) (hlo : lo ≤ hi) (hiq : hi ≤ q) (hhi : hi ≤ w.heap.size) (hdl : ([1, 0, 0, 0, 0] : List UInt8).length < 65536) :
    Calls Tryz.prog 53 #[.pointer (some ⟨q, 0, none⟩), .int .u16 5, .pointer (some ⟨mb, 0, none⟩)] w (ChXP w N lo q mb { M with ocsp := true }) := by
  have hqN := hq.1
  have hql0 := hq.lt
  go_enter Tryz.func53, Tryz.ntmps53
  rw [show ([1, 0, 0, 0, 0] : List UInt8) = be 1 1 ++ [0, 0, 0, 0] from rfl] at hq
  have H := hid (numS hq (by omega) (beNat_be1 1 (by omega)))
  go_wp2_with fail
  refine H.out.mono ?_
  rintro e w1 ⟨rfl, hu1, hq1⟩
  have hM1 := hM.upd hu1 (by simp; omega)
  have hU1 := ((Upd.refl [q, mb] w)).trans hu1 (by simp)
  clear H
  have hno0 := hM.noOwn hiq
  have H := hid (vecS hq1 2 0 65535 (x := []) (r := [0, 0]) rfl (by omega) (by simp) (by simp))
  go_wp2_with fail
  refine H.out.mono ?_
  rintro e w2 ⟨A2, c2, rfl, hu2, hq2, hyr⟩
  have hM2 := hM1.upd hu2 (by simp; omega)
  have hU2 := (hU1).trans hu2 (by simp)
  clear H
  have H := hid (vectorsS2 hq2 hyr)
  go_wp2_with fail
  refine H.out.mono ?_
  rintro e w3 ⟨A3, c3, rfl, hu3, hq3⟩
  have hM3 := hM2.upd hu3 (by simp; omega)
  have hU3 := (hU2).trans hu3 (by simp)
  clear H
  have H := hid (vecS hq3 2 0 65535 (x := []) (r := []) rfl (by omega) (by simp) (by simp))
  go_wp2_with fail
  refine H.out.mono ?_
  rintro e w4 ⟨A4, c4, rfl, hu4, hq4, hyr4⟩
  have hM4 := hM3.upd hu4 (by simp; omega)
  have hU4 := (hU3).trans hu4 (by simp)
  clear H
  obtain ⟨vc6, hcv6, -⟩ := hM4.get (i := 6) rfl
  have cc6 := hM4.cell hcv6
  have ff6 := hM4.blk.frozen 6
  clear hcv6
  have hus5 : Upd [mb] w4 (w4.setCell ⟨mb, 6, none⟩ (.bool true)) := (Upd.refl _ _).setCell (by simp) _
  have hM5 := hM4.putV (i := 6) (f := .val (.bool true)) hml hus5 (by simp; omega) (hM4.blk.set_ 6 (.bool true)) rfl rfl
  have hno5 := NoOwn.put (i := 6) (x := .bool true) (f := .val (.bool true)) hno0 (fun e => by cases e)
  have hq5 := hq4.upd hus5 (by simp; omega) (by simp; omega)
  have hU5 := (hU4).trans hus5 (by simp)
  go_wp2
  go_end0
  exact ⟨rfl, hU5, hq5, _, MSt.wide (MSt.cast hM5 rfl) (by have := hU5.size; omega), NoOwn.cast hno5 rfl⟩
set_option maxHeartbeats 4000000 in
theorem x_curves (hq : Rd w N q ⟨be 2 (wordsB l).length ++ wordsB l, 0⟩) (hM : MSt w N lo hi mb 29 cs (chFR M)) (hml : mb < lo) (hNm : N ≤ mb) (hlo : lo ≤ hi) (hiq : hi ≤ q) (hhi : hi ≤ w.heap.size) (hdl : (be 2 (wordsB l).length ++ wordsB l : List UInt8).length < 65536) (h0 : l ≠ []) (hx : (wordsB l).length < 65536) :
    Calls Tryz.prog 53 #[.pointer (some ⟨q, 0, none⟩), .int .u16 10, .pointer (some ⟨mb, 0, none⟩)] w (ChXP w N lo q mb { M with curves := l }) := by
  have hqN := hq.1
  have hql0 := hq.lt
  have hlp : lp 2 (be 2 (wordsB l).length ++ wordsB l) = some (wordsB l, []) := by simpa using lpR 2 (wordsB l) [] (.inr ⟨rfl, hx⟩)
  have hx0 : 2 ≤ (wordsB l).length := by rw [wordsB_len]; have := List.length_pos_iff.2 h0; omega
  go_enter Tryz.func53, Tryz.ntmps53
  have H := hid (vecS hq 2 2 65535 hlp (by omega) (by omega) (by omega))
  go_wp2_with fail
  refine H.out.mono ?_
  rintro e w1 ⟨A1, c1, rfl, hu1, hq1, hyr⟩
  have hM1 := hM.upd hu1 (by simp; omega)
  have hU1 := ((Upd.refl [q, mb] w)).trans hu1 (by simp)
  clear H
  have hno0 := hM.noOwn hiq
  have hszw := hU1.size
  clear hlp
  have H := hid (wordsS hq1 hyr (by omega))
  go_wp2_with fail
  refine H.out.mono ?_
  rintro e w2 ⟨A2, c2, rfl, ho, hu2, hq2⟩
  have hM2 := hM1.upd hu2 (by simp; omega)
  have hU2 := (hU1).trans hu2 (by simp)
  clear H
  replace hszw := hU2.size
  have hszv := hu2.size
  have hsz1 := hU1.size
  obtain ⟨vc7, hcv7, -⟩ := hM2.get (i := 7) rfl
  have cc7 := hM2.cell hcv7
  have ff7 := hM2.blk.frozen 7
  clear hcv7
  have hge := fun g hg => ho.ge (g := g) hg
  have hszo : hi ≤ w2.heap.size := by have := hszw; omega
  have hus3 : Upd [mb] w2 (w2.setCell ⟨mb, 7, none⟩ (.slice A2 l.length c2)) := (Upd.refl _ _).setCell (by simp) _
  have hM3 := hM2.putO (i := 7) (x := .slice A2 l.length c2) (f := .row 22 (l.map wv)) hml hNm (fun g hg => by have := hge g hg; omega) (show FOk _ N lo _ (.row 22 (l.map wv)) from ho.less8 (by omega)) hszo
  have hno3 := NoOwn.put (i := 7) (x := .slice A2 l.length c2) (f := .row 22 (l.map wv)) hno0 (fun _ g hg => by have := hge g hg; omega)
  have hq3 := hq2.upd hus3 (by simp; omega) (by simp; omega)
  have hU3 := (hU2).trans hus3 (by simp)
  go_wp2
  go_end0
  exact ⟨rfl, hU3, hq3, _, MSt.wide (MSt.cast hM3 rfl) (by have := hU3.size; have := hus3.size; omega), NoOwn.cast hno3 rfl⟩
set_option maxHeartbeats 4000000 in
theorem x_pts (hq : Rd w N q ⟨be 1 x.length ++ x, 0⟩) (hM : MSt w N lo hi mb 29 cs (chFR M)) (hml : mb < lo) (hNm : N ≤ mb) (hlo : lo ≤ hi) (hiq : hi ≤ q) (hhi : hi ≤ w.heap.size) (hdl : (be 1 x.length ++ x : List UInt8).length < 65536) (h0 : x ≠ []) (hx : x.length < 256) :
    Calls Tryz.prog 53 #[.pointer (some ⟨q, 0, none⟩), .int .u16 11, .pointer (some ⟨mb, 0, none⟩)] w (ChXP w N lo q mb { M with pts := x }) := by
  have hqN := hq.1
  have hql0 := hq.lt
  have hlp : lp 1 (be 1 x.length ++ x) = some (x, []) := by simpa using lpR 1 x [] (.inl ⟨rfl, hx⟩)
  have hx0 : 0 < x.length := List.length_pos_iff.2 h0
  go_enter Tryz.func53, Tryz.ntmps53
  have H := hid (vecS hq 1 1 255 hlp (by omega) (by omega) (by omega))
  go_wp2_with fail
  refine H.out.mono ?_
  rintro e w1 ⟨A1, c1, rfl, hu1, hq1, hyr⟩
  have hM1 := hM.upd hu1 (by simp; omega)
  have hU1 := ((Upd.refl [q, mb] w)).trans hu1 (by simp)
  clear H
  have hno0 := hM.noOwn hiq
  clear hlp
  obtain ⟨vc8, hcv8, -⟩ := hM1.get (i := 8) rfl
  have cc8 := hM1.cell hcv8
  have ff8 := hM1.blk.frozen 8
  clear hcv8
  have hus2 : Upd [mb] w1 (w1.setCell ⟨mb, 8, none⟩ (.slice A1 x.length c1)) := (Upd.refl _ _).setCell (by simp) _
  have hM2 := hM1.putV (i := 8) (f := .byt x) hml hus2 (by simp; omega) (hM1.blk.set_ 8 (.slice A1 x.length c1)) (Row.upd hyr hus2 (by simp; omega)) rfl
  have hno2 := NoOwn.put (i := 8) (x := .slice A1 x.length c1) (f := .byt x) hno0 (fun e => by cases e)
  have hq2 := hq1.upd hus2 (by simp; omega) (by simp; omega)
  have hU2 := (hU1).trans hus2 (by simp)
  go_wp2
  go_end0
  exact ⟨rfl, hU2, hq2, _, MSt.wide (MSt.cast hM2 rfl) (by have := hU2.size; omega), NoOwn.cast hno2 rfl⟩
set_option maxHeartbeats 4000000 in
theorem x_ticket (hq : Rd w N q ⟨x, 0⟩) (hM : MSt w N lo hi mb 29 cs (chFR M)) (hml : mb < lo) (hNm : N ≤ mb) (hlo : lo ≤ hi) (hiq : hi ≤ q) (hhi : hi ≤ w.heap.size) (hdl : (x : List UInt8).length < 65536) :
    Calls Tryz.prog 53 #[.pointer (some ⟨q, 0, none⟩), .int .u16 35, .pointer (some ⟨mb, 0, none⟩)] w (ChXP w N lo q mb { M with ticket := true, tick := x }) := by
  have hqN := hq.1
  have hql0 := hq.lt
  obtain ⟨Aq, cq, q0, q1, qf0, qf1, hql, hqc⟩ := hq.open_
  go_enter Tryz.func53, Tryz.ntmps53
  have H := hid (takeS hq (by omega))
  go_wp2_with fail
  refine H.out.mono ?_
  rintro e w1 ⟨A1, c1, rfl, hu1, hq1, hyr⟩
  have hM1 := hM.upd hu1 (by simp; omega)
  have hU1 := ((Upd.refl [q, mb] w)).trans hu1 (by simp)
  clear H
  have hno0 := hM.noOwn hiq
  clear q0 q1 qf0 qf1
  obtain ⟨vc9, hcv9, -⟩ := hM1.get (i := 9) rfl
  have cc9 := hM1.cell hcv9
  have ff9 := hM1.blk.frozen 9
  clear hcv9
  obtain ⟨vc10, hcv10, -⟩ := hM1.get (i := 10) rfl
  have cc10 := hM1.cell hcv10
  have ff10 := hM1.blk.frozen 10
  clear hcv10
  have hus2 : Upd [mb] w1 (w1.setCell ⟨mb, 9, none⟩ (.bool true)) := (Upd.refl _ _).setCell (by simp) _
  have hM2 := hM1.putV (i := 9) (f := .val (.bool true)) hml hus2 (by simp; omega) (hM1.blk.set_ 9 (.bool true)) rfl rfl
  have hno2 := NoOwn.put (i := 9) (x := .bool true) (f := .val (.bool true)) hno0 (fun e => by cases e)
  have hq2 := hq1.upd hus2 (by simp; omega) (by simp; omega)
  have hU2 := (hU1).trans hus2 (by simp)
  have hyr := Row.upd hyr hus2 (by simp; omega)
  have hus3 : Upd [mb] (w1.setCell ⟨mb, 9, none⟩ (.bool true)) ((w1.setCell ⟨mb, 9, none⟩ (.bool true)).setCell ⟨mb, 10, none⟩ (.slice A1 x.length c1)) := (Upd.refl _ _).setCell (by simp) _
  have hM3 := hM2.putV (i := 10) (f := .byt x) hml hus3 (by simp; omega) (hM2.blk.set_ 10 (.slice A1 x.length c1)) (Row.upd hyr hus3 (by simp; omega)) rfl
  have hno3 := NoOwn.put (i := 10) (x := .slice A1 x.length c1) (f := .byt x) hno2 (fun e => by cases e)
  have hq3 := hq2.upd hus3 (by simp; omega) (by simp; omega)
  have hU3 := (hU2).trans hus3 (by simp)
  go_wp2
  go_end0
  exact ⟨rfl, hU3, hq3, _, MSt.wide (MSt.cast hM3 rfl) (by have := hU3.size; omega), NoOwn.cast hno3 rfl⟩
set_option maxHeartbeats 4000000 in
theorem x_sig (hq : Rd w N q ⟨be 2 (wordsB l).length ++ wordsB l, 0⟩) (hM : MSt w N lo hi mb 29 cs (chFR M)) (hml : mb < lo) (hNm : N ≤ mb) (hlo : lo ≤ hi) (hiq : hi ≤ q) (hhi : hi ≤ w.heap.size) (hdl : (be 2 (wordsB l).length ++ wordsB l : List UInt8).length < 65536) (h0 : l ≠ []) (hx : (wordsB l).length < 65536) :
    Calls Tryz.prog 53 #[.pointer (some ⟨q, 0, none⟩), .int .u16 13, .pointer (some ⟨mb, 0, none⟩)] w (ChXP w N lo q mb { M with sig := l }) := by
  have hqN := hq.1
  have hql0 := hq.lt
  have hlp : lp 2 (be 2 (wordsB l).length ++ wordsB l) = some (wordsB l, []) := by simpa using lpR 2 (wordsB l) [] (.inr ⟨rfl, hx⟩)
  have hx0 : 2 ≤ (wordsB l).length := by rw [wordsB_len]; have := List.length_pos_iff.2 h0; omega
  go_enter Tryz.func53, Tryz.ntmps53
  have H := hid (vecS hq 2 2 65535 hlp (by omega) (by omega) (by omega))
  go_wp2_with fail
  refine H.out.mono ?_
  rintro e w1 ⟨A1, c1, rfl, hu1, hq1, hyr⟩
  have hM1 := hM.upd hu1 (by simp; omega)
  have hU1 := ((Upd.refl [q, mb] w)).trans hu1 (by simp)
  clear H
  have hno0 := hM.noOwn hiq
  have hszw := hU1.size
  clear hlp
  have H := hid (wordsS hq1 hyr (by omega))
  go_wp2_with fail
  refine H.out.mono ?_
  rintro e w2 ⟨A2, c2, rfl, ho, hu2, hq2⟩
  have hM2 := hM1.upd hu2 (by simp; omega)
  have hU2 := (hU1).trans hu2 (by simp)
  clear H
  replace hszw := hU2.size
  have hszv := hu2.size
  have hsz1 := hU1.size
  obtain ⟨vc11, hcv11, -⟩ := hM2.get (i := 11) rfl
  have cc11 := hM2.cell hcv11
  have ff11 := hM2.blk.frozen 11
  clear hcv11
  have hge := fun g hg => ho.ge (g := g) hg
  have hszo : hi ≤ w2.heap.size := by have := hszw; omega
  have hus3 : Upd [mb] w2 (w2.setCell ⟨mb, 11, none⟩ (.slice A2 l.length c2)) := (Upd.refl _ _).setCell (by simp) _
  have hM3 := hM2.putO (i := 11) (x := .slice A2 l.length c2) (f := .row 22 (l.map wv)) hml hNm (fun g hg => by have := hge g hg; omega) (show FOk _ N lo _ (.row 22 (l.map wv)) from ho.less8 (by omega)) hszo
  have hno3 := NoOwn.put (i := 11) (x := .slice A2 l.length c2) (f := .row 22 (l.map wv)) hno0 (fun _ g hg => by have := hge g hg; omega)
  have hq3 := hq2.upd hus3 (by simp; omega) (by simp; omega)
  have hU3 := (hU2).trans hus3 (by simp)
  go_wp2
  go_end0
  exact ⟨rfl, hU3, hq3, _, MSt.wide (MSt.cast hM3 rfl) (by have := hU3.size; have := hus3.size; omega), NoOwn.cast hno3 rfl⟩
set_option maxHeartbeats 4000000 in
theorem x_sigc (hq : Rd w N q ⟨be 2 (wordsB l).length ++ wordsB l, 0⟩) (hM : MSt w N lo hi mb 29 cs (chFR M)) (hml : mb < lo) (hNm : N ≤ mb) (hlo : lo ≤ hi) (hiq : hi ≤ q) (hhi : hi ≤ w.heap.size) (hdl : (be 2 (wordsB l).length ++ wordsB l : List UInt8).length < 65536) (h0 : l ≠ []) (hx : (wordsB l).length < 65536) :
    Calls Tryz.prog 53 #[.pointer (some ⟨q, 0, none⟩), .int .u16 50, .pointer (some ⟨mb, 0, none⟩)] w (ChXP w N lo q mb { M with sigc := l }) := by
  have hqN := hq.1
  have hql0 := hq.lt
  have hlp : lp 2 (be 2 (wordsB l).length ++ wordsB l) = some (wordsB l, []) := by simpa using lpR 2 (wordsB l) [] (.inr ⟨rfl, hx⟩)
  have hx0 : 2 ≤ (wordsB l).length := by rw [wordsB_len]; have := List.length_pos_iff.2 h0; omega
  go_enter Tryz.func53, Tryz.ntmps53
  have H := hid (vecS hq 2 2 65535 hlp (by omega) (by omega) (by omega))
  go_wp2_with fail
  refine H.out.mono ?_
  rintro e w1 ⟨A1, c1, rfl, hu1, hq1, hyr⟩
  have hM1 := hM.upd hu1 (by simp; omega)
  have hU1 := ((Upd.refl [q, mb] w)).trans hu1 (by simp)
  clear H
  have hno0 := hM.noOwn hiq
  have hszw := hU1.size
  clear hlp
  have H := hid (wordsS hq1 hyr (by omega))
  go_wp2_with fail
  refine H.out.mono ?_
  rintro e w2 ⟨A2, c2, rfl, ho, hu2, hq2⟩
  have hM2 := hM1.upd hu2 (by simp; omega)
  have hU2 := (hU1).trans hu2 (by simp)
  clear H
  replace hszw := hU2.size
  have hszv := hu2.size
  have hsz1 := hU1.size
  obtain ⟨vc12, hcv12, -⟩ := hM2.get (i := 12) rfl
  have cc12 := hM2.cell hcv12
  have ff12 := hM2.blk.frozen 12
  clear hcv12
  have hge := fun g hg => ho.ge (g := g) hg
  have hszo : hi ≤ w2.heap.size := by have := hszw; omega
  have hus3 : Upd [mb] w2 (w2.setCell ⟨mb, 12, none⟩ (.slice A2 l.length c2)) := (Upd.refl _ _).setCell (by simp) _
  have hM3 := hM2.putO (i := 12) (x := .slice A2 l.length c2) (f := .row 22 (l.map wv)) hml hNm (fun g hg => by have := hge g hg; omega) (show FOk _ N lo _ (.row 22 (l.map wv)) from ho.less8 (by omega)) hszo
  have hno3 := NoOwn.put (i := 12) (x := .slice A2 l.length c2) (f := .row 22 (l.map wv)) hno0 (fun _ g hg => by have := hge g hg; omega)
  have hq3 := hq2.upd hus3 (by simp; omega) (by simp; omega)
  have hU3 := (hU2).trans hus3 (by simp)
  go_wp2
  go_end0
  exact ⟨rfl, hU3, hq3, _, MSt.wide (MSt.cast hM3 rfl) (by have := hU3.size; have := hus3.size; omega), NoOwn.cast hno3 rfl⟩
set_option maxHeartbeats 4000000 in
theorem x_rn (hq : Rd w N q ⟨be 1 x.length ++ x, 0⟩) (hM : MSt w N lo hi mb 29 cs (chFR M)) (hml : mb < lo) (hNm : N ≤ mb) (hlo : lo ≤ hi) (hiq : hi ≤ q) (hhi : hi ≤ w.heap.size) (hdl : (be 1 x.length ++ x : List UInt8).length < 65536) (hx : x.length < 256) :
    Calls Tryz.prog 53 #[.pointer (some ⟨q, 0, none⟩), .int .u16 65281, .pointer (some ⟨mb, 0, none⟩)] w (ChXP w N lo q mb { M with rns := true, rn := x }) := by
  have hqN := hq.1
  have hql0 := hq.lt
  have hlp : lp 1 (be 1 x.length ++ x) = some (x, []) := by simpa using lpR 1 x [] (.inl ⟨rfl, hx⟩)
  go_enter Tryz.func53, Tryz.ntmps53
  have H := hid (vecS hq 1 0 255 hlp (by omega) (by omega) (by omega))
  go_wp2_with fail
  refine H.out.mono ?_
  rintro e w1 ⟨A1, c1, rfl, hu1, hq1, hyr⟩
  have hM1 := hM.upd hu1 (by simp; omega)
  have hU1 := ((Upd.refl [q, mb] w)).trans hu1 (by simp)
  clear H
  have hno0 := hM.noOwn hiq
  clear hlp
  obtain ⟨vc13, hcv13, -⟩ := hM1.get (i := 13) rfl
  have cc13 := hM1.cell hcv13
  have ff13 := hM1.blk.frozen 13
  clear hcv13
  obtain ⟨vc14, hcv14, -⟩ := hM1.get (i := 14) rfl
  have cc14 := hM1.cell hcv14
  have ff14 := hM1.blk.frozen 14
  clear hcv14
  have hus2 : Upd [mb] w1 (w1.setCell ⟨mb, 13, none⟩ (.bool true)) := (Upd.refl _ _).setCell (by simp) _
  have hM2 := hM1.putV (i := 13) (f := .val (.bool true)) hml hus2 (by simp; omega) (hM1.blk.set_ 13 (.bool true)) rfl rfl
  have hno2 := NoOwn.put (i := 13) (x := .bool true) (f := .val (.bool true)) hno0 (fun e => by cases e)
  have hq2 := hq1.upd hus2 (by simp; omega) (by simp; omega)
  have hU2 := (hU1).trans hus2 (by simp)
  have hyr := Row.upd hyr hus2 (by simp; omega)
  have hus3 : Upd [mb] (w1.setCell ⟨mb, 13, none⟩ (.bool true)) ((w1.setCell ⟨mb, 13, none⟩ (.bool true)).setCell ⟨mb, 14, none⟩ (.slice A1 x.length c1)) := (Upd.refl _ _).setCell (by simp) _
  have hM3 := hM2.putV (i := 14) (f := .byt x) hml hus3 (by simp; omega) (hM2.blk.set_ 14 (.slice A1 x.length c1)) (Row.upd hyr hus3 (by simp; omega)) rfl
  have hno3 := NoOwn.put (i := 14) (x := .slice A1 x.length c1) (f := .byt x) hno2 (fun e => by cases e)
  have hq3 := hq2.upd hus3 (by simp; omega) (by simp; omega)
  have hU3 := (hU2).trans hus3 (by simp)
  go_wp2
  go_end0
  exact ⟨rfl, hU3, hq3, _, MSt.wide (MSt.cast hM3 rfl) (by have := hU3.size; omega), NoOwn.cast hno3 rfl⟩
set_option maxHeartbeats 4000000 in
theorem x_ems (hq : Rd w N q ⟨[], 0⟩) (hM : MSt w N lo hi mb 29 cs (chFR M)) (hml : mb < lo) (hNm : N ≤ mb) (hlo : lo ≤ hi) (hiq : hi ≤ q) (hhi : hi ≤ w.heap.size) (hdl : ([] : List UInt8).length < 65536) :
    Calls Tryz.prog 53 #[.pointer (some ⟨q, 0, none⟩), .int .u16 23, .pointer (some ⟨mb, 0, none⟩)] w (ChXP w N lo q mb { M with ems := true }) := by
  have hqN := hq.1
  have hql0 := hq.lt
  obtain ⟨vc15, hcv15, -⟩ := hM.get (i := 15) rfl
  have cc15 := hM.cell hcv15
  have ff15 := hM.blk.frozen 15
  clear hcv15
  go_enter Tryz.func53, Tryz.ntmps53
  have hus1 : Upd [mb] w (w.setCell ⟨mb, 15, none⟩ (.bool true)) := (Upd.refl _ _).setCell (by simp) _
  have hM1 := hM.putV (i := 15) (f := .val (.bool true)) hml hus1 (by simp; omega) (hM.blk.set_ 15 (.bool true)) rfl rfl
  have hno1 := NoOwn.put (i := 15) (x := .bool true) (f := .val (.bool true)) (hM.noOwn hiq) (fun e => by cases e)
  have hq1 := hq.upd hus1 (by simp; omega) (by simp; omega)
  have hU1 := ((Upd.refl [q, mb] w)).trans hus1 (by simp)
  go_wp2
  go_end0
  exact ⟨rfl, hU1, hq1, _, MSt.wide (MSt.cast hM1 rfl) (by have := hU1.size; omega), NoOwn.cast hno1 rfl⟩
set_option maxHeartbeats 4000000 in
theorem x_scts (hq : Rd w N q ⟨[], 0⟩) (hM : MSt w N lo hi mb 29 cs (chFR M)) (hml : mb < lo) (hNm : N ≤ mb) (hlo : lo ≤ hi) (hiq : hi ≤ q) (hhi : hi ≤ w.heap.size) (hdl : ([] : List UInt8).length < 65536) :
    Calls Tryz.prog 53 #[.pointer (some ⟨q, 0, none⟩), .int .u16 18, .pointer (some ⟨mb, 0, none⟩)] w (ChXP w N lo q mb { M with scts := true }) := by
  have hqN := hq.1
  have hql0 := hq.lt
  obtain ⟨vc17, hcv17, -⟩ := hM.get (i := 17) rfl
  have cc17 := hM.cell hcv17
  have ff17 := hM.blk.frozen 17
  clear hcv17
  go_enter Tryz.func53, Tryz.ntmps53
  have hus1 : Upd [mb] w (w.setCell ⟨mb, 17, none⟩ (.bool true)) := (Upd.refl _ _).setCell (by simp) _
  have hM1 := hM.putV (i := 17) (f := .val (.bool true)) hml hus1 (by simp; omega) (hM.blk.set_ 17 (.bool true)) rfl rfl
  have hno1 := NoOwn.put (i := 17) (x := .bool true) (f := .val (.bool true)) (hM.noOwn hiq) (fun e => by cases e)
  have hq1 := hq.upd hus1 (by simp; omega) (by simp; omega)
  have hU1 := ((Upd.refl [q, mb] w)).trans hus1 (by simp)
  go_wp2
  go_end0
  exact ⟨rfl, hU1, hq1, _, MSt.wide (MSt.cast hM1 rfl) (by have := hU1.size; omega), NoOwn.cast hno1 rfl⟩
set_option maxHeartbeats 4000000 in
theorem x_alpn (hq : Rd w N q ⟨be 2 (vecsB 1 ls).length ++ vecsB 1 ls, 0⟩) (hM : MSt w N lo hi mb 29 cs (chFR M)) (hml : mb < lo) (hNm : N ≤ mb) (hlo : lo ≤ hi) (hiq : hi ≤ q) (hhi : hi ≤ w.heap.size) (hdl : (be 2 (vecsB 1 ls).length ++ vecsB 1 ls : List UInt8).length < 65536) (h0 : ls ≠ []) (hall : ∀ x ∈ ls, x ≠ [] ∧ x.length < 256) (hx : (vecsB 1 ls).length < 65536) :
    Calls Tryz.prog 53 #[.pointer (some ⟨q, 0, none⟩), .int .u16 16, .pointer (some ⟨mb, 0, none⟩)] w (ChXP w N lo q mb { M with alpn := ls }) := by
  have hqN := hq.1
  have hql0 := hq.lt
  have hlp : lp 2 (be 2 (vecsB 1 ls).length ++ vecsB 1 ls) = some (vecsB 1 ls, []) := by simpa using lpR 2 (vecsB 1 ls) [] (.inr ⟨rfl, hx⟩)
  have hx0 : 2 ≤ (vecsB 1 ls).length := by
    cases ls with
    | nil => exact absurd rfl h0
    | cons z t =>
      have := List.length_pos_iff.2 (hall z (by simp)).1
      rw [vecsB1_cons, List.length_append, be_len, List.length_append]; omega
  have hll : ls.length ≤ 65536 := by
    have : ∀ t : List (List UInt8), t.length ≤ (vecsB 1 t).length := by
      intro t
      induction t with
      | nil => simp
      | cons z t ih => rw [vecsB1_cons, List.length_append, be_len, List.length_append, List.length_cons]; omega
    have := this ls; omega
  go_enter Tryz.func53, Tryz.ntmps53
  have H := hid (vecS hq 2 2 65535 hlp (by omega) (by omega) (by omega))
  go_wp2_with fail
  refine H.out.mono ?_
  rintro e w1 ⟨A1, c1, rfl, hu1, hq1, hyr⟩
  have hM1 := hM.upd hu1 (by simp; omega)
  have hU1 := ((Upd.refl [q, mb] w)).trans hu1 (by simp)
  clear H
  have hno0 := hM.noOwn hiq
  have hsz1 := hU1.size
  clear hlp
  have H := hid (vectorsS1 hq1 hyr (by omega) hall)
  go_wp2_with fail
  refine H.out.mono ?_
  rintro e w2 ⟨A2, c2, rfl, ho, hu2, hq2⟩
  have hM2 := hM1.upd hu2 (by simp; omega)
  have hU2 := (hU1).trans hu2 (by simp)
  clear H
  have hsz2 := hU2.size
  have hszv := hu2.size
  have H := hid (texts_any ho.lst (by omega) (fun z hz => by have := (hall z hz).2; omega))
  go_wp2_with fail
  refine H.out.mono ?_
  rintro e w3 ⟨A3, c3, rfl, ho3, hu3⟩
  have hM3 := hM2.upd hu3 (by simp)
  have hq3 := hq2.upd hu3 (by simp) (by simp)
  have hU3 := hU2.trans hu3 (by simp)
  have hszw := hU3.size
  have hsz3 := hu3.size
  clear H
  obtain ⟨vc16, hcv16, -⟩ := hM3.get (i := 16) rfl
  have cc16 := hM3.cell hcv16
  have ff16 := hM3.blk.frozen 16
  clear hcv16
  have hge := fun g hg => ho3.ge (g := g) hg
  have hszo : hi ≤ w3.heap.size := by have := hszw; omega
  have hus4 : Upd [mb] w3 (w3.setCell ⟨mb, 16, none⟩ (.slice A3 ls.length c3)) := (Upd.refl _ _).setCell (by simp) _
  have hM4 := hM3.putO (i := 16) (x := .slice A3 ls.length c3) (f := .row 9 (ls.map strv)) hml hNm (fun g hg => by have := hge g hg; omega) (show FOk _ N lo _ (.row 9 (ls.map strv)) from ho3.less8 (by omega)) hszo
  have hno4 := NoOwn.put (i := 16) (x := .slice A3 ls.length c3) (f := .row 9 (ls.map strv)) hno0 (fun _ g hg => by have := hge g hg; omega)
  have hq4 := hq3.upd hus4 (by simp; omega) (by simp; omega)
  have hU4 := (hU3).trans hus4 (by simp)
  go_wp2
  go_end0
  exact ⟨rfl, hU4, hq4, _, MSt.wide (MSt.cast hM4 rfl) (by have := hU4.size; have := hus4.size; omega), NoOwn.cast hno4 rfl⟩
end
end Go.Proofs.YtaajmfgplhfncaaGreat
namespace Go.Proofs.YtaajmfgplhfncaaGreat
open Go.RowKit
set_option maxRecDepth 100000
section
variable {w w' : World} {B C : Nat} {v u : Value} {t : Ch}
set_option maxHeartbeats 8000000 in
theorem sameKeys_eq {E : List UInt16} (hv : ChV w B v { t with exs := E }) (hu : ChV w C u t) (hl : t.pl.length = t.pa.length) (hz : (identsB (chPs t)).length ≤ 1099511627776) : Calls Tryz.prog 42 #[v, u] w (LawP w) := by
  have hfw := run_field_writer
  obtain ⟨cs1, rfl, -⟩ := ChV.ok.agg hv
  obtain ⟨cs2, rfl, -⟩ := ChV.ok.agg hu
  obtain ⟨w1, hw1⟩ : ∃ w1, (w.alloc (.cells cs1 29)).alloc (.cells cs2 29) = w1 := ⟨_, rfl⟩
  obtain ⟨s, hs⟩ : ∃ s, w.heap.size = s := ⟨_, rfl⟩
  have hu1 : Upd [] w w1 := by rw [← hw1]; exact ((Upd.refl _ _).alloc _).alloc _
  have hb1 : Blk w1 s 29 cs1 := by rw [← hw1, ← hs]; exact (Blk.new _ _ _).alloc _
  have hm1 : Blk w1 (s + 1) 29 cs2 := by
    rw [← hw1, ← hs]
    have := Blk.new (w.alloc (.cells cs1 29)) 29 cs2
    rwa [show (w.alloc (.cells cs1 29)).heap.size = w.heap.size + 1 by simp] at this
  obtain ⟨A24, c24, a24, x24⟩ := GV.lst hv (i := 24) (ls := t.pl) rfl
  obtain ⟨A25, c25, a25, x25⟩ := GV.row hv (i := 25) (us := t.pa.map uv) rfl (n := t.pa.length) (by simp)
  obtain ⟨A26, c26, a26, x26⟩ := GV.lst hv (i := 26) (ls := t.pb) rfl
  obtain ⟨Ab24, cb24, b24, y24⟩ := GV.lst hu (i := 24) (ls := t.pl) rfl
  obtain ⟨Ab25, cb25, b25, y25⟩ := GV.row hu (i := 25) (us := t.pa.map uv) rfl (n := t.pa.length) (by simp)
  obtain ⟨Ab26, cb26, b26, y26⟩ := GV.lst hu (i := 26) (ls := t.pb) rfl
  replace x24 := Lst.upd x24.shrink hu1 (by simp)
  replace y24 := Lst.upd y24.shrink hu1 (by simp)
  replace x25 := Row.upd x25.shrink hu1 (by simp)
  replace y25 := Row.upd y25.shrink hu1 (by simp)
  replace x26 := Lst.upd x26.shrink hu1 (by simp)
  replace y26 := Lst.upd y26.shrink hu1 (by simp)
  have e1 : (chPs t).map (·.1) = t.pl := zip_fst hl
  have e2 : ((chPs t).map fun x => uv x.2) = t.pa.map uv := by
    have := congrArg (List.map uv) (zip_snd hl)
    rw [List.map_map] at this
    exact this
  replace x24 : Lst w1 w1.heap.size (.slice A24 t.pl.length c24) ((chPs t).map (·.1)) := by rw [e1]; exact Lst.shrink x24
  replace y24 : Lst w1 w1.heap.size (.slice Ab24 t.pl.length cb24) ((chPs t).map (·.1)) := by rw [e1]; exact Lst.shrink y24
  replace x25 : Row w1 w1.heap.size (.slice A25 t.pa.length c25) ((chPs t).map fun x => uv x.2) := by rw [e2]; exact Row.shrink x25
  replace y25 : Row w1 w1.heap.size (.slice Ab25 t.pa.length cb25) ((chPs t).map fun x => uv x.2) := by rw [e2]; exact Row.shrink y25
  have HW := hid hw1
  have HS0 := hid hs
  clear hw1 hs hl e1 e2 hv hu
  go_enter Tryz.func42, Tryz.ntmps42
  go_upto_region 1 with fail
  rw [HW.out, HS0.out]
  go_wp2_with fail
  refine wp_region_held (S := fun u => u.cell? ⟨s, 24, none⟩ = some (.slice A24 t.pl.length c24) ∧ u.cell? ⟨s, 25, none⟩ = some (.slice A25 t.pa.length c25) ∧ u.cell? ⟨s, 26, none⟩ = some (.slice A26 t.pb.length c26) ∧ u.cell? ⟨s + 1, 24, none⟩ = some (.slice Ab24 t.pl.length cb24) ∧ u.cell? ⟨s + 1, 25, none⟩ = some (.slice Ab25 t.pa.length cb25) ∧ u.cell? ⟨s + 1, 26, none⟩ = some (.slice Ab26 t.pb.length cb26)) (by kernel_rfl) ?_
  change wpAnyH _ _ _ _ _ _ _ _ (World.drew _)
  have hdr : Upd [] w1 (World.drew w1) := (Upd.refl [] w1).drew
  have hU2 := hu1.trans hdr (by simp)
  have hb2 := hb1.upd hdr (by simp)
  have hm2 := hm1.upd hdr (by simp)
  replace x24 := Lst.upd x24 hdr (by simp)
  replace y24 := Lst.upd y24 hdr (by simp)
  replace x25 := Row.upd x25 hdr (by simp)
  replace y25 := Row.upd y25 hdr (by simp)
  replace x26 := Lst.upd x26 hdr (by simp)
  replace y26 := Lst.upd y26 hdr (by simp)
  obtain ⟨w2, hw2⟩ : ∃ x, World.drew w1 = x := ⟨_, rfl⟩
  rw [hw2] at hb2 hm2 hU2 x24 x25 x26 y24 y25 y26 ⊢
  clear hw2 hdr hb1 hm1 hu1
  have HS : w2.cell? ⟨s, 24, none⟩ = some (.slice A24 t.pl.length c24) ∧ w2.cell? ⟨s, 25, none⟩ = some (.slice A25 t.pa.length c25) ∧ w2.cell? ⟨s, 26, none⟩ = some (.slice A26 t.pb.length c26) ∧ w2.cell? ⟨s + 1, 24, none⟩ = some (.slice Ab24 t.pl.length cb24) ∧ w2.cell? ⟨s + 1, 25, none⟩ = some (.slice Ab25 t.pa.length cb25) ∧ w2.cell? ⟨s + 1, 26, none⟩ = some (.slice Ab26 t.pb.length cb26) := ⟨hb2.at_ a24, hb2.at_ a25, hb2.at_ a26, hm2.at_ b24, hm2.at_ b25, hm2.at_ b26⟩
  try simp only [Act.put, List.getElem_toArray, List.getElem_cons_zero, List.getElem_cons_succ, List.setIfInBounds_toArray, List.set_cons_zero, List.set_cons_succ]
  refine wpAnyH_take (i := 0) (v := ?vR0) rfl (by kernel_rfl) (by kernel_rfl) (by kernel_rfl) (fun _ _ _ h => h) (Or.inl ⟨by rfl, ?hR0⟩) HS ?restR0
  case hR0 =>
    rintro u ⟨k1, k2, k3, k4, k5, k6⟩
    go_simp
    try with_reducible rfl
  try simp only [Act.put, List.getElem_toArray, List.getElem_cons_zero, List.getElem_cons_succ, List.setIfInBounds_toArray, List.set_cons_zero, List.set_cons_succ]
  refine wpAnyH_take (i := 1) (v := ?vR1) rfl (by kernel_rfl) (by kernel_rfl) (by kernel_rfl) (fun _ _ _ h => h) (Or.inl ⟨by rfl, ?hR1⟩) HS ?restR1
  case hR1 =>
    rintro u ⟨k1, k2, k3, k4, k5, k6⟩
    go_simp
    try with_reducible rfl
  try simp only [Act.put, List.getElem_toArray, List.getElem_cons_zero, List.getElem_cons_succ, List.setIfInBounds_toArray, List.set_cons_zero, List.set_cons_succ]
  refine wpAnyH_take (i := 2) (v := ?vR2) rfl (by kernel_rfl) (by kernel_rfl) (by kernel_rfl) (fun _ _ _ h => h) (Or.inl ⟨by rfl, ?hR2⟩) HS ?restR2
  case hR2 =>
    rintro u ⟨k1, k2, k3, k4, k5, k6⟩
    go_simp
    try with_reducible rfl
  try simp only [Act.put, List.getElem_toArray, List.getElem_cons_zero, List.getElem_cons_succ, List.setIfInBounds_toArray, List.set_cons_zero, List.set_cons_succ]
  refine wpAnyH_take (i := 3) (v := ?vR3) rfl (by kernel_rfl) (by kernel_rfl) (by kernel_rfl) (fun _ _ _ h => h) (Or.inl ⟨by rfl, ?hR3⟩) HS ?restR3
  case hR3 =>
    rintro u ⟨k1, k2, k3, k4, k5, k6⟩
    go_simp
    try with_reducible rfl
  try simp only [Act.put, List.getElem_toArray, List.getElem_cons_zero, List.getElem_cons_succ, List.setIfInBounds_toArray, List.set_cons_zero, List.set_cons_succ]
  refine wpAnyH_take (i := 6) (v := ?vR6) rfl (by kernel_rfl) (by kernel_rfl) (by kernel_rfl) (fun _ _ _ h => h) (Or.inl ⟨by rfl, ?hR6⟩) HS ?restR6
  case hR6 =>
    rintro u ⟨k1, k2, k3, k4, k5, k6⟩
    go_simp
    try with_reducible rfl
  try simp only [Act.put, List.getElem_toArray, List.getElem_cons_zero, List.getElem_cons_succ, List.setIfInBounds_toArray, List.set_cons_zero, List.set_cons_succ]
  refine wpAnyH_take (i := 7) (v := ?vR7) rfl (by kernel_rfl) (by kernel_rfl) (by kernel_rfl) (fun _ _ _ h => h) (Or.inl ⟨by rfl, ?hR7⟩) HS ?restR7
  case hR7 =>
    rintro u ⟨k1, k2, k3, k4, k5, k6⟩
    go_simp
    try with_reducible rfl
  try simp only [Act.put, List.getElem_toArray, List.getElem_cons_zero, List.getElem_cons_succ, List.setIfInBounds_toArray, List.set_cons_zero, List.set_cons_succ]
  refine wpAnyH_take (i := 8) (v := ?vR8) rfl (by kernel_rfl) (by kernel_rfl) (by kernel_rfl) (fun _ _ _ h => h) (Or.inl ⟨by rfl, ?hR8⟩) HS ?restR8
  case hR8 =>
    rintro u ⟨k1, k2, k3, k4, k5, k6⟩
    go_simp
    try with_reducible rfl
  try simp only [Act.put, List.getElem_toArray, List.getElem_cons_zero, List.getElem_cons_succ, List.setIfInBounds_toArray, List.set_cons_zero, List.set_cons_succ]
  refine wpAnyH_take (i := 9) (v := ?vR9) rfl (by kernel_rfl) (by kernel_rfl) (by kernel_rfl) (fun _ _ _ h => h) (Or.inl ⟨by rfl, ?hR9⟩) HS ?restR9
  case hR9 =>
    rintro u ⟨k1, k2, k3, k4, k5, k6⟩
    go_simp
    try with_reducible rfl
  try simp only [Act.put, List.getElem_toArray, List.getElem_cons_zero, List.getElem_cons_succ, List.setIfInBounds_toArray, List.set_cons_zero, List.set_cons_succ]
  refine wpAnyH_all (rs := [4]) (by kernel_rfl) (by simp) (fun i hi => ?_)
  obtain rfl : i = 4 := by simpa using hi
  clear hi
  refine wpOp_enter rfl rfl 31 #[.slice A24 t.pl.length c24, .slice A25 t.pa.length c25] (by kernel_rfl) ?_
  refine (identities_any_w x24 x25 hz).mono ?_
  rintro e w3 ⟨v3, rfl, hy3, hn3, ⟨A3, n3, c3, rfl⟩, hu3⟩
  have hb3 := hb2.upd hu3 (by simp)
  have hm3 := hm2.upd hu3 (by simp)
  have hU3 := hU2.trans hu3 (by simp)
  replace x24 := Lst.upd x24 hu3 (by simp)
  replace y24 := Lst.upd y24 hu3 (by simp)
  replace x25 := Row.upd x25 hu3 (by simp)
  replace y25 := Row.upd y25 hu3 (by simp)
  replace x26 := Lst.upd x26 hu3 (by simp)
  replace y26 := Lst.upd y26 hu3 (by simp)
  clear HS
  have HS : w3.cell? ⟨s, 24, none⟩ = some (.slice A24 t.pl.length c24) ∧ w3.cell? ⟨s, 25, none⟩ = some (.slice A25 t.pa.length c25) ∧ w3.cell? ⟨s, 26, none⟩ = some (.slice A26 t.pb.length c26) ∧ w3.cell? ⟨s + 1, 24, none⟩ = some (.slice Ab24 t.pl.length cb24) ∧ w3.cell? ⟨s + 1, 25, none⟩ = some (.slice Ab25 t.pa.length cb25) ∧ w3.cell? ⟨s + 1, 26, none⟩ = some (.slice Ab26 t.pb.length cb26) := ⟨hb3.at_ a24, hb3.at_ a25, hb3.at_ a26, hm3.at_ b24, hm3.at_ b25, hm3.at_ b26⟩
  refine ⟨HS, ?_⟩
  try simp only [Act.put, List.getElem_toArray, List.getElem_cons_zero, List.getElem_cons_succ, List.setIfInBounds_toArray, List.set_cons_zero, List.set_cons_succ]
  refine wpAnyH_take (i := 5) (v := ?vR5) rfl (by kernel_rfl) (by kernel_rfl) (by kernel_rfl) (fun _ _ _ h => h) (Or.inl ⟨by rfl, ?hR5⟩) HS ?restR5
  case hR5 =>
    rintro u ⟨k1, k2, k3, k4, k5, k6⟩
    go_simp
    try with_reducible rfl
  try simp only [Act.put, List.getElem_toArray, List.getElem_cons_zero, List.getElem_cons_succ, List.setIfInBounds_toArray, List.set_cons_zero, List.set_cons_succ]
  refine wpAnyH_all (rs := [10]) (by kernel_rfl) (by simp) (fun i hi => ?_)
  obtain rfl : i = 10 := by simpa using hi
  clear hi
  refine wpOp_enter rfl rfl 31 #[.slice Ab24 t.pl.length cb24, .slice Ab25 t.pa.length cb25] (by kernel_rfl) ?_
  refine (identities_any_w y24 y25 hz).mono ?_
  rintro e w4 ⟨v4, rfl, hy4, hn4, ⟨A4, n4, c4, rfl⟩, hu4⟩
  replace hy3 := Row.upd hy3 hu4 (by simp)
  have hb4 := hb3.upd hu4 (by simp)
  have hm4 := hm3.upd hu4 (by simp)
  have hU4 := hU3.trans hu4 (by simp)
  replace x24 := Lst.upd x24 hu4 (by simp)
  replace y24 := Lst.upd y24 hu4 (by simp)
  replace x25 := Row.upd x25 hu4 (by simp)
  replace y25 := Row.upd y25 hu4 (by simp)
  replace x26 := Lst.upd x26 hu4 (by simp)
  replace y26 := Lst.upd y26 hu4 (by simp)
  clear HS
  have HS : w4.cell? ⟨s, 24, none⟩ = some (.slice A24 t.pl.length c24) ∧ w4.cell? ⟨s, 25, none⟩ = some (.slice A25 t.pa.length c25) ∧ w4.cell? ⟨s, 26, none⟩ = some (.slice A26 t.pb.length c26) ∧ w4.cell? ⟨s + 1, 24, none⟩ = some (.slice Ab24 t.pl.length cb24) ∧ w4.cell? ⟨s + 1, 25, none⟩ = some (.slice Ab25 t.pa.length cb25) ∧ w4.cell? ⟨s + 1, 26, none⟩ = some (.slice Ab26 t.pb.length cb26) := ⟨hb4.at_ a24, hb4.at_ a25, hb4.at_ a26, hm4.at_ b24, hm4.at_ b25, hm4.at_ b26⟩
  refine ⟨HS, ?_⟩
  try simp only [Act.put, List.getElem_toArray, List.getElem_cons_zero, List.getElem_cons_succ, List.setIfInBounds_toArray, List.set_cons_zero, List.set_cons_succ]
  refine wpAnyH_take (i := 11) (v := ?vR11) rfl (by kernel_rfl) (by kernel_rfl) (by kernel_rfl) (fun _ _ _ h => h) (Or.inl ⟨by rfl, ?hR11⟩) HS ?restR11
  case hR11 =>
    rintro u ⟨k1, k2, k3, k4, k5, k6⟩
    go_simp
    try with_reducible rfl
  try simp only [Act.put, List.getElem_toArray, List.getElem_cons_zero, List.getElem_cons_succ, List.setIfInBounds_toArray, List.set_cons_zero, List.set_cons_succ]
  refine wpAnyH_all (rs := [12]) (by kernel_rfl) (by simp) (fun i hi => ?_)
  obtain rfl : i = 12 := by simpa using hi
  clear hi
  refine wpOp_enter rfl rfl 39 #[.slice A3 n3 c3, .slice A4 n4 c4] (by kernel_rfl) ?_
  have hsm := same_any hy3 hy4
  rw [beq_self_eq_true] at hsm
  refine hsm.mono ?_
  rintro e w5 ⟨rfl, rfl⟩
  refine ⟨HS, ?_⟩
  try simp only [Act.put, List.getElem_toArray, List.getElem_cons_zero, List.getElem_cons_succ, List.setIfInBounds_toArray, List.set_cons_zero, List.set_cons_succ]
  refine wpAnyH_take (i := 13) (v := ?vR13) rfl (by kernel_rfl) (by kernel_rfl) (by kernel_rfl) (fun _ _ _ h => h) (Or.inl ⟨by rfl, ?hR13⟩) HS ?restR13
  case hR13 =>
    rintro u ⟨k1, k2, k3, k4, k5, k6⟩
    go_simp
    try with_reducible rfl
  try simp only [Act.put, List.getElem_toArray, List.getElem_cons_zero, List.getElem_cons_succ, List.setIfInBounds_toArray, List.set_cons_zero, List.set_cons_succ]
  refine wpAnyH_take (i := 14) (v := ?vR14) rfl (by kernel_rfl) (by kernel_rfl) (by kernel_rfl) (fun _ _ _ h => h) (Or.inl ⟨by rfl, ?hR14⟩) HS ?restR14
  case hR14 =>
    rintro u ⟨k1, k2, k3, k4, k5, k6⟩
    go_simp
    try with_reducible rfl
  try simp only [Act.put, List.getElem_toArray, List.getElem_cons_zero, List.getElem_cons_succ, List.setIfInBounds_toArray, List.set_cons_zero, List.set_cons_succ]
  refine wpAnyH_take (i := 15) (v := ?vR15) rfl (by kernel_rfl) (by kernel_rfl) (by kernel_rfl) (fun _ _ _ h => h) (Or.inl ⟨by rfl, ?hR15⟩) HS ?restR15
  case hR15 =>
    rintro u ⟨k1, k2, k3, k4, k5, k6⟩
    go_simp
    try with_reducible rfl
  try simp only [Act.put, List.getElem_toArray, List.getElem_cons_zero, List.getElem_cons_succ, List.setIfInBounds_toArray, List.set_cons_zero, List.set_cons_succ]
  refine wpAnyH_take (i := 16) (v := ?vR16) rfl (by kernel_rfl) (by kernel_rfl) (by kernel_rfl) (fun _ _ _ h => h) (Or.inl ⟨by rfl, ?hR16⟩) HS ?restR16
  case hR16 =>
    rintro u ⟨k1, k2, k3, k4, k5, k6⟩
    go_simp
    try with_reducible rfl
  try simp only [Act.put, List.getElem_toArray, List.getElem_cons_zero, List.getElem_cons_succ, List.setIfInBounds_toArray, List.set_cons_zero, List.set_cons_succ]
  refine wpAnyH_take (i := 17) (v := ?vR17) rfl (by kernel_rfl) (by kernel_rfl) (by kernel_rfl) (fun _ _ _ h => h) (Or.inl ⟨by rfl, ?hR17⟩) HS ?restR17
  case hR17 =>
    rintro u ⟨k1, k2, k3, k4, k5, k6⟩
    go_simp
    try with_reducible rfl
  try simp only [Act.put, List.getElem_toArray, List.getElem_cons_zero, List.getElem_cons_succ, List.setIfInBounds_toArray, List.set_cons_zero, List.set_cons_succ]
  refine wpAnyH_all (rs := [18]) (by kernel_rfl) (by simp) (fun i hi => ?_)
  obtain rfl : i = 18 := by simpa using hi
  clear hi
  refine wpOp_enter rfl rfl 41 #[.slice A26 t.pb.length c26, .slice Ab26 t.pb.length cb26] (by kernel_rfl) ?_
  have hsl := SameLists_any x26 y26
  rw [beq_self_eq_true] at hsl
  refine hsl.mono ?_
  rintro e w6 ⟨rfl, rfl⟩
  refine ⟨HS, ?_⟩
  try simp only [Act.put, List.getElem_toArray, List.getElem_cons_zero, List.getElem_cons_succ, List.setIfInBounds_toArray, List.set_cons_zero, List.set_cons_succ]
  refine wpAnyH_take (i := 19) (v := ?vR19) rfl (by kernel_rfl) (by kernel_rfl) (by kernel_rfl) (fun _ _ _ h => h) (Or.inl ⟨by rfl, ?hR19⟩) HS ?restR19
  case hR19 =>
    rintro u ⟨k1, k2, k3, k4, k5, k6⟩
    go_simp
    try with_reducible rfl
  try simp only [Act.put, List.getElem_toArray, List.getElem_cons_zero, List.getElem_cons_succ, List.setIfInBounds_toArray, List.set_cons_zero, List.set_cons_succ]
  refine wpAnyH_take (i := 20) (v := ?vR20) rfl (by kernel_rfl) (by kernel_rfl) (by kernel_rfl) (fun _ _ _ h => h) (Or.inl ⟨by rfl, ?hR20⟩) HS ?restR20
  case hR20 =>
    rintro u ⟨k1, k2, k3, k4, k5, k6⟩
    go_simp
    try with_reducible rfl
  try simp only [Act.put, List.getElem_toArray, List.getElem_cons_zero, List.getElem_cons_succ, List.setIfInBounds_toArray, List.set_cons_zero, List.set_cons_succ]
  refine wpAnyH_done (by kernel_rfl) ?_ _
  go_wp2
  go_ret
  exact ⟨rfl, hU4⟩
end
end Go.Proofs.YtaajmfgplhfncaaGreat
namespace Go.Proofs.YtaajmfgplhfncaaGreat
open Go
set_option maxRecDepth 100000
def lexWaits (oj : Oper) (i : Nat) : Bool := oj.after.any fun e => Region.binds .any e && e.on == i
def lexFast (ops : Array Oper) : List Oper → Nat → Bool
  | [], _ => true
  | o :: rest, i => o.after.all (fun e => !Region.binds .any e || decide (e.on < i)) && rest.all (fun oj => lexWaits oj i || o.apart ops oj) && lexFast ops rest (i + 1)
structure LexOk (ops : Array Oper) (s : List Oper) (k : Nat) : Prop where
  after : ∀ i o, s[i]? = some o → ∀ e ∈ o.after, Region.binds .any e = true → e.on < k + i
  pair : ∀ i j oi oj, i < j → s[i]? = some oi → s[j]? = some oj → lexWaits oj (k + i) = true ∨ oi.apart ops oj = true
theorem lexFast_ok (ops : Array Oper) : ∀ (s : List Oper) (k : Nat), lexFast ops s k = true → LexOk ops s k
  | [], k, _ => ⟨fun i o h => by simp at h, fun i j oi oj _ h => by simp at h⟩
  | o :: rest, k, h => by
    simp only [lexFast, Bool.and_eq_true] at h
    obtain ⟨⟨h1, h2⟩, h4⟩ := h
    have ih := lexFast_ok ops rest (k + 1) h4
    refine ⟨?_, ?_⟩
    · intro i o' ho e he hb
      cases i with
      | zero =>
        have : o = o' := by simpa using ho
        subst this
        have := Array.all_eq_true_iff_forall_mem.1 h1 e he
        simpa [hb] using this
      | succ i =>
        have := ih.after i o' (by simpa using ho) e he hb
        omega
    · intro i j oi oj hij hi hj
      cases j with
      | zero => omega
      | succ j =>
        cases i with
        | zero =>
          have e : o = oi := by simpa using hi
          subst e
          have hm : oj ∈ rest := List.mem_of_getElem? (by simpa using hj)
          have := List.all_eq_true.1 h2 oj hm
          simpa using this
        | succ i =>
          have := ih.pair i j oi oj (by omega) (by simpa using hi) (by simpa using hj)
          rwa [show k + (i + 1) = k + 1 + i by omega]
def LexL (n k : Nat) (listed : Array Bool) : Prop := listed.size = n ∧ ∀ j, j < n → listed[j]? = some (decide (j < k))
theorem LexL.start (n : Nat) : LexL n 0 (Array.replicate n false) := ⟨by simp, fun j hj => by simp [hj]⟩
theorem LexL.step {n k : Nat} {listed : Array Bool} (h : LexL n k listed) : LexL n (k + 1) (listed.setIfInBounds k true) := by
  refine ⟨by simp [h.1], fun j hj => ?_⟩
  rw [Array.getElem?_setIfInBounds]
  by_cases e : k = j
  · subst e
    rw [if_pos rfl, if_pos (by rw [h.1]; exact hj)]
    simp
  · rw [if_neg e, h.2 j hj]
    congr 1
    exact decide_eq_decide.2 (by omega)
theorem LexL.get {n k j : Nat} {listed : Array Bool} {b : Bool} (h : LexL n k listed) (hj : j < n) : listed.getD j b = decide (j < k) := by
  rw [Array.getD_eq_getD_getElem?, h.2 j hj]; rfl
theorem filter_one (p : Nat → Bool) : ∀ (m k : Nat), k < m → (∀ j, j < m → p j = decide (j = k)) → (List.range m).filter p = [k]
  | 0, k, h, _ => by omega
  | m + 1, k, h, hp => by
    rw [List.range_succ, List.filter_append]
    by_cases e : k = m
    · subst e
      have h1 : (List.range k).filter p = [] := by
        rw [List.filter_eq_nil_iff]
        intro j hj
        have hj := List.mem_range.1 hj
        rw [hp j (by omega), decide_eq_false (by omega)]
        simp
      rw [h1, List.nil_append, List.filter_cons, if_pos (by rw [hp k h]; simp)]
      rfl
    · rw [filter_one p m k (by omega) (fun j hj => hp j (by omega)), List.filter_cons, if_neg (by rw [hp m (by omega), decide_eq_false (by omega)]; simp)]
      rfl
theorem lex_ready {l : List Oper} (h : LexOk l.toArray l 0) {m k : Nat} {listed : Array Bool} (hm : l.length = m) (hk : k < m) (hL : LexL m k listed) : k ∈ Region.ready .any l.toArray listed := by
  have ho : l[k]? = some l[k] := List.getElem?_eq_getElem (by omega)
  refine mem_ready.2 ⟨by rw [hL.get hk]; simp, l[k], by simp, fun e he hb => ?_⟩
  have h1 := h.after k _ ho e he hb
  rw [hL.get (by omega)]
  simp only [Nat.zero_add] at h1
  exact decide_eq_true h1
end Go.Proofs.YtaajmfgplhfncaaGreat
namespace Go.Proofs.YtaajmfgplhfncaaGreat
set_option maxRecDepth 100000
end Go.Proofs.YtaajmfgplhfncaaGreat
namespace Go.Proofs.YtaajmfgplhfncaaGreat
set_option maxRecDepth 100000
def loneL (k : Nat) (rest : List Oper) : Bool := rest.all fun oj => oj.after.any fun e => Region.binds .any e && decide (k ≤ e.on)
def noWait (o : Oper) (k : Nat) : Bool := o.after.all fun e => !Region.binds .any e || e.on != k
def swapL (ops : Array Oper) (k : Nat) (o o1 o2 : Oper) (rest : List Oper) : Bool :=
  noWait o1 k && noWait o2 k && o1.apart ops o && o2.apart ops o && rest.all fun oj => oj.after.any fun e => Region.binds .any e && (e.on == k || decide (k + 3 ≤ e.on))
def HC (P : Program) (l : List Oper) (S : World → Prop) (Q : Exit → Act → World → Prop) (k : Nat) (a : Act) (w : World) : Prop :=
  ∀ listed, LexL l.length k listed → wpAnyH P .any l.toArray Q S (l.length - k) listed a w
section
variable {P : Program} {l : List Oper} {S : World → Prop} {Q : Exit → Act → World → Prop} {k : Nat} {a : Act} {w : World} {o o1 o2 : Oper} {v v1 v2 : Value}
theorem lexl_get {n : Nat} {listed : Array Bool} (h : LexL n k listed) (j : Nat) : listed.getD j false = decide (j < k ∧ j < n) := by
  by_cases hj : j < n
  · rw [h.get hj]; exact decide_eq_decide.2 (by omega)
  · rw [Array.getD_eq_getD_getElem?, Array.getElem?_eq_none (by rw [h.1]; omega), decide_eq_false (by omega)]; rfl
theorem HC.done (hk : k = l.length) (h : Q .normal a w) : HC P l S Q k a w := by
  intro listed hL
  subst hk
  refine wpAnyH_done ?_ h _
  unfold Region.ready
  rw [List.filter_eq_nil_iff]
  intro i hi
  have hi := List.mem_range.1 hi
  have hi : i < l.length := by simpa using hi
  rw [hL.get hi, decide_eq_true hi]
  simp
theorem HC.yields (hx : LexOk l.toArray l 0) (hs : Region.noSelect l.toArray = true) (hQ : ∀ c (a : Act) (d : Option Tmp) (v : Value) w, Q (.panic c) (a.put d v) w → Q (.panic c) a w)
    (ho : l[k]? = some o) (hy : YieldsIf P l.toArray S o v a) (hS : S w) (h : HC P l S Q (k + 1) (a.put o.dst v) w) : HC P l S Q k a w := by
  intro listed hL
  have hkl : k < l.length := (List.getElem?_eq_some_iff.1 ho).1
  rw [show l.length - k = (l.length - (k + 1)) + 1 by omega]
  refine wpAnyH_first (i := k) (oi := o) (v := v) (by simpa using ho) (Region.noSelect_spec hs) (fun c a w => hQ c a _ _ w) _ listed a w (fun j oj hj hne hun hno => ?_) (lex_ready hx rfl hkl hL) hy hS (h _ hL.step)
  have hjl : j < l.length := by
    have := (Array.getElem?_eq_some_iff.1 hj).1
    simpa using this
  rw [hL.get hjl] at hun
  have hkj : k < j := by
    have : ¬ j < k := by simpa using hun
    omega
  have hj' : l[j]? = some oj := by simpa using hj
  have hp := hx.pair k j _ oj hkj ho hj'
  rw [Nat.zero_add] at hp
  rcases hp with hp | hp
  · exfalso
    obtain ⟨e1, he, hb⟩ := Array.any_eq_true'.1 hp
    rw [Bool.and_eq_true] at hb
    exact hno e1 he hb.1 (by simpa using hb.2)
  · exact hp
theorem HC.call (hx : LexOk l.toArray l 0) (ho : l[k]? = some o) (hl : loneL k (l.drop (k + 1)) = true) (h : wpOp P l.toArray Q k (fun a' w' => S w' ∧ HC P l S Q (k + 1) a' w') a w) : HC P l S Q k a w := by
  intro listed hL
  have hkl : k < l.length := (List.getElem?_eq_some_iff.1 ho).1
  rw [show l.length - k = (l.length - (k + 1)) + 1 by omega]
  have hr : Region.ready .any l.toArray listed = [k] := by
    unfold Region.ready
    refine filter_one _ _ k (by simpa using hkl) fun j hj => ?_
    have hj : j < l.length := by simpa using hj
    by_cases e : j = k
    · subst e
      have := (List.mem_filter.1 (lex_ready hx rfl hkl hL)).2
      rw [this]; simp
    · rw [decide_eq_false e, hL.get hj]
      by_cases hjk : j < k
      · simp [hjk]
      · have hjm : l[j] ∈ l.drop (k + 1) := by
          rw [List.mem_iff_getElem?]
          exact ⟨j - (k + 1), by rw [List.getElem?_drop, show k + 1 + (j - (k + 1)) = j by omega]; exact List.getElem?_eq_getElem hj⟩
        have h1 := List.all_eq_true.1 hl _ hjm
        obtain ⟨e1, he, hb⟩ := Array.any_eq_true'.1 h1
        rw [Bool.and_eq_true, decide_eq_true_eq] at hb
        have ho2 : l.toArray[j]? = some l[j] := by simp
        rw [ho2, Option.map_some, Option.getD_some]
        have hf : (l[j].after.all fun e => !Region.binds .any e || listed.getD e.on false) = false := by
          rw [Bool.eq_false_iff]
          intro ha
          have := Array.all_eq_true_iff_forall_mem.1 ha e1 he
          rw [hb.1, lexl_get hL, decide_eq_false (by omega)] at this
          simp at this
        rw [hf, Bool.and_false]
  refine wpAnyH_all hr (by simp) fun i hi => ?_
  have hi : i = k := by simpa using hi
  subst hi
  exact wpOp_mono (fun a' w' h' => ⟨h'.1, h'.2 _ hL.step⟩) h
theorem HC.swap (hx : LexOk l.toArray l 0) (hs : Region.noSelect l.toArray = true) (hQ : ∀ c (a : Act) (d : Option Tmp) (v : Value) w, Q (.panic c) (a.put d v) w → Q (.panic c) a w)
    (ho : l[k]? = some o) (ho1 : l[k + 1]? = some o1) (ho2 : l[k + 2]? = some o2) (hl : swapL l.toArray k o o1 o2 (l.drop (k + 3)) = true) (hy1 : YieldsIf P l.toArray S o1 v1 a) (hy2 : YieldsIf P l.toArray S o2 v2 (a.put o1.dst v1)) (hS : S w)
    (h : wpOp P l.toArray Q k (fun a' w' => S w' ∧ HC P l S Q (k + 3) a' w') ((a.put o1.dst v1).put o2.dst v2) w) : HC P l S Q k a w := by
  intro listed hL
  have hk2 : k + 2 < l.length := (List.getElem?_eq_some_iff.1 ho2).1
  simp only [swapL, Bool.and_eq_true] at hl
  obtain ⟨⟨⟨⟨l1, l2⟩, l3⟩, l4⟩, l5⟩ := hl
  have hwt : ∀ {o : Oper}, noWait o k = true → ∀ e ∈ o.after, Region.binds .any e = true → e.on ≠ k := by
    intro o hn e he hb
    have := Array.all_eq_true_iff_forall_mem.1 hn e he
    simpa [hb] using this
  rw [show l.length - k = ((l.length - (k + 3)) + 1 + 1) + 1 by omega]
  have sz := hL.1
  -- the two first
  refine wpAnyH_first (i := k + 1) (oi := o1) (v := v1) (by simpa using ho1) (Region.noSelect_spec hs) (fun c a w => hQ c a _ _ w) _ listed a w (fun j oj hj hne hun hno => ?_) ?_ hy1 hS ?_
  · have hjl : j < l.length := by
      have := (Array.getElem?_eq_some_iff.1 hj).1
      simpa using this
    rw [hL.get hjl] at hun
    have hkj : ¬ j < k := by simpa using hun
    have hj' : l[j]? = some oj := by simpa using hj
    by_cases e : j = k
    · subst e
      rw [ho] at hj'
      injection hj' with hj'
      rw [← hj']; exact l3
    · have hp := hx.pair (k + 1) j _ oj (by omega) ho1 hj'
      rw [Nat.zero_add] at hp
      rcases hp with hp | hp
      · exfalso
        obtain ⟨e1, he, hb⟩ := Array.any_eq_true'.1 hp
        rw [Bool.and_eq_true] at hb
        exact hno e1 he hb.1 (by simpa using hb.2)
      · exact hp
  · refine mem_ready.2 ⟨by rw [hL.get (by omega)]; simp, o1, by simpa using ho1, fun e he hb => ?_⟩
    have h1 := hx.after _ _ ho1 e he hb
    have h2 := hwt l1 e he hb
    rw [lexl_get hL]
    exact decide_eq_true (by omega)
  have g1 : ∀ j b, (listed.setIfInBounds (k + 1) true).getD j b = if j = k + 1 then true else listed.getD j b := by
    intro j b
    rw [Array.getD_eq_getD_getElem?, Array.getD_eq_getD_getElem?, Array.getElem?_setIfInBounds]
    by_cases e : k + 1 = j
    · subst e; rw [if_pos rfl, if_pos rfl, if_pos (by rw [sz]; omega)]; rfl
    · rw [if_neg e, if_neg (Ne.symm e)]
  refine wpAnyH_first (i := k + 2) (oi := o2) (v := v2) (by simpa using ho2) (Region.noSelect_spec hs) (fun c a w => hQ c a _ _ w) _ _ _ w (fun j oj hj hne hun hno => ?_) ?_ hy2 hS ?_
  · have hjl : j < l.length := by
      have := (Array.getElem?_eq_some_iff.1 hj).1
      simpa using this
    rw [g1] at hun
    have hj' : l[j]? = some oj := by simpa using hj
    by_cases e1 : j = k + 1
    · rw [if_pos e1] at hun; cases hun
    rw [if_neg e1, hL.get hjl] at hun
    have hkj : ¬ j < k := by simpa using hun
    by_cases e : j = k
    · subst e
      rw [ho] at hj'
      injection hj' with hj'
      rw [← hj']; exact l4
    · have hp := hx.pair (k + 2) j _ oj (by omega) ho2 hj'
      rw [Nat.zero_add] at hp
      rcases hp with hp | hp
      · exfalso
        obtain ⟨e1, he, hb⟩ := Array.any_eq_true'.1 hp
        rw [Bool.and_eq_true] at hb
        exact hno e1 he hb.1 (by simpa using hb.2)
      · exact hp
  · refine mem_ready.2 ⟨by rw [g1, if_neg (by omega), hL.get (by omega)]; simp, o2, by simpa using ho2, fun e he hb => ?_⟩
    have h1 := hx.after _ _ ho2 e he hb
    have h2 := hwt l2 e he hb
    rw [g1]
    by_cases e1 : e.on = k + 1
    · rw [if_pos e1]
    · rw [if_neg e1, lexl_get hL]
      exact decide_eq_true (by omega)
  have g2 : ∀ j b, ((listed.setIfInBounds (k + 1) true).setIfInBounds (k + 2) true).getD j b = if j = k + 2 then true else (listed.setIfInBounds (k + 1) true).getD j b := by
    intro j b
    rw [Array.getD_eq_getD_getElem?, Array.getD_eq_getD_getElem?, Array.getElem?_setIfInBounds]
    by_cases e : k + 2 = j
    · subst e; rw [if_pos rfl, if_pos rfl, if_pos (by rw [Array.size_setIfInBounds, sz]; omega)]; rfl
    · rw [if_neg e, if_neg (Ne.symm e)]
  have hr : Region.ready .any l.toArray ((listed.setIfInBounds (k + 1) true).setIfInBounds (k + 2) true) = [k] := by
    unfold Region.ready
    refine filter_one _ _ k (by simp; omega) fun j hj => ?_
    have hj : j < l.length := by simpa using hj
    rw [g2, g1]
    by_cases e : j = k
    · subst e
      rw [if_neg (by omega), if_neg (by omega), hL.get hj]
      have hk : l.toArray[j]? = some o := by simpa using ho
      rw [hk, Option.map_some, Option.getD_some]
      have hf : (o.after.all fun e => !Region.binds .any e || ((listed.setIfInBounds (j + 1) true).setIfInBounds (j + 2) true).getD e.on false) = true := by
        rw [Array.all_eq_true_iff_forall_mem]
        intro e he
        cases hb : Region.binds .any e
        · rfl
        · have h1 := hx.after _ _ ho e he hb
          rw [g2, g1, if_neg (by omega), if_neg (by omega), lexl_get hL, decide_eq_true (by omega)]
          rfl
      rw [hf]
      simp
    · rw [decide_eq_false e]
      by_cases e2 : j = k + 2
      · rw [if_pos e2]; rfl
      by_cases e1 : j = k + 1
      · rw [if_neg e2, if_pos e1]; rfl
      rw [if_neg e2, if_neg e1, hL.get hj]
      by_cases hjk : j < k
      · simp [hjk]
      · have hjm : l[j] ∈ l.drop (k + 3) := by
          rw [List.mem_iff_getElem?]
          exact ⟨j - (k + 3), by rw [List.getElem?_drop, show k + 3 + (j - (k + 3)) = j by omega]; exact List.getElem?_eq_getElem hj⟩
        have h1 := List.all_eq_true.1 l5 _ hjm
        obtain ⟨e1, he, hb⟩ := Array.any_eq_true'.1 h1
        rw [Bool.and_eq_true, Bool.or_eq_true, beq_iff_eq, decide_eq_true_eq] at hb
        have ho2 : l.toArray[j]? = some l[j] := by simp
        rw [ho2, Option.map_some, Option.getD_some]
        have hf : (l[j].after.all fun e => !Region.binds .any e || ((listed.setIfInBounds (k + 1) true).setIfInBounds (k + 2) true).getD e.on false) = false := by
          rw [Bool.eq_false_iff]
          intro ha
          have := Array.all_eq_true_iff_forall_mem.1 ha e1 he
          rw [hb.1, g2, g1, if_neg (by omega), if_neg (by omega), lexl_get hL, decide_eq_false (by omega)] at this
          simp at this
        rw [hf, Bool.and_false]
  refine wpAnyH_all hr (by simp) fun i hi => ?_
  have hi : i = k := by simpa using hi
  subst hi
  refine wpOp_mono (fun a' w' h' => ⟨h'.1, h'.2 _ ⟨by simp [sz], fun j hj => ?_⟩⟩) h
  have hg := hL.2 j hj
  rw [Array.getElem?_setIfInBounds, Array.getElem?_setIfInBounds, Array.getElem?_setIfInBounds]
  simp only [Array.size_setIfInBounds, sz]
  by_cases e0 : i = j
  · rw [if_pos e0, if_pos (by omega), decide_eq_true (by omega)]
  rw [if_neg e0]
  by_cases e2 : i + 2 = j
  · rw [if_pos e2, if_pos (by omega), decide_eq_true (by omega)]
  rw [if_neg e2]
  by_cases e1 : i + 1 = j
  · rw [if_pos e1, if_pos (by omega), decide_eq_true (by omega)]
  rw [if_neg e1, hg]
  congr 1
  exact decide_eq_decide.2 (by omega)
theorem wp_region_HC {id : Nat} (hm : P.follows .mixedOrders = true) (h : HC P l S Q 0 a { w with drawn := w.drawn + 1 }) : (Code.region id l.toArray true).wp P Q a w := by
  refine wp_region_held (S := S) hm ?_
  have hz : l.toArray.size = l.length := by simp
  rw [hz]
  exact h _ (LexL.start _)
end
end Go.Proofs.YtaajmfgplhfncaaGreat
namespace Go.Proofs.YtaajmfgplhfncaaGreat
open Go.RowKit
set_option maxRecDepth 100000
def OpIs (l : List Oper) (k : Nat) (op : Op) (d : Nat) (g : Option (Nat × Bool)) : Prop := (l[k]?).map (fun o => (o.op, o.dst, o.guard)) = some (op, some d, g)
def AtS (a : Act) (i : Nat) (v : Value) : Prop := a.tmps[i]? = some v
section
variable {l : List Oper} {k j d i c : Nat} {op : Op} {g : Option (Nat × Bool)} {a : Act} {o : Oper} {v x : Value} {w : World}
theorem OpIs.mk (h : (l[k]?).map (fun o => (o.op, o.dst, o.guard)) = some (op, some d, g)) : OpIs l k op d g := h
theorem AtS.mk (h : a.tmps[i]? = some v) : AtS a i v := h
theorem OpIs.get (h : OpIs l k op d g) : ∃ o, l[k]? = some o ∧ o.op = op ∧ o.dst = some d ∧ o.guard = g := by
  unfold OpIs at h
  cases hk : l[k]? with
  | none => rw [hk] at h; cases h
  | some o =>
    rw [hk] at h
    injection h with h
    injection h with h1 h
    injection h with h2 h3
    exact ⟨o, rfl, h1, h2, h3⟩
theorem AtS.ev (h : AtS a i v) : a.eval (.tmp i) = v := by
  show a.tmps.getD i undef = v
  rw [Array.getD_eq_getD_getElem?, h]; rfl
theorem AtS.lt (h : AtS a i v) : i < a.tmps.size := (Array.getElem?_eq_some_iff.1 h).1
theorem AtS.put (h : AtS a i v) (hd : i ≠ d) : AtS (a.put (some d) x) i v := by
  show (a.tmps.setIfInBounds d x)[i]? = some v
  rw [Array.getElem?_setIfInBounds_ne (Ne.symm hd)]; exact h
theorem AtS.new (h : d < a.tmps.size) : AtS (a.put (some d) x) d x := by
  show (a.tmps.setIfInBounds d x)[d]? = some x
  rw [Array.getElem?_setIfInBounds_self_of_lt h]
theorem put_sz (a : Act) (d : Nat) (x : Value) : (a.put (some d) x).tmps.size = a.tmps.size := by
  show (a.tmps.setIfInBounds d x).size = _
  simp
theorem wanted_at (hg : o.guard = some (j, true)) (hd : (l[j]?).bind (·.dst) = some c) (ha : AtS a c (.bool true)) : Region.wanted o (yielded l.toArray a.tmps) = true := by
  unfold Region.wanted
  rw [hg]
  have e : yielded l.toArray a.tmps j = some true := by
    unfold yielded
    have h1 : (l.toArray[j]?).bind (·.dst) = some c := by simpa using hd
    rw [h1]
    show (match a.tmps[c]? with | some (.bool b) => some b | _ => none) = _
    rw [show a.tmps[c]? = some (.bool true) from ha]
  show (yielded l.toArray a.tmps j == some true) = true
  rw [e]; rfl
theorem wanted_none (hg : o.guard = none) : Region.wanted o (yielded l.toArray a.tmps) = true := by simp [Region.wanted, hg]
end
structure SmF (s c : Nat) (d : List Deferred) (a : Act) : Prop where
  n : a.tmps.size = 199
  p2 : AtS a 2 (.pointer (some ⟨s, 0, none⟩))
  p3 : AtS a 3 (.pointer (some ⟨s + 1, 0, none⟩))
  c : AtS a c (.bool true)
  df : a.defers = d
def SmS (s : Nat) (cs1 cs2 : Array Value) (w : World) : Prop := Blk w s 29 cs1 ∧ Blk w (s + 1) 29 cs2
def PQ : (Act → World → Prop) → Exit → Act → World → Prop := fun K => Exit.then K fun _ _ _ => False
section
variable {o : Oper} {a : Act} {w : World} {v v1 v2 x y : Value} {T R : TypeId} {g f : Nat} {p q : Operand}
theorem x_load (ho : o.op = .load T p) (hp : a.eval p = .pointer (some ⟨g, f, none⟩)) (h : (Instr.loadAt T (.pointer (some ⟨g, f, none⟩))).run Tryz.prog w = .ok v w) : (execOp a.eval o).run Tryz.prog w = .ok (.value v) w := by
  unfold execOp
  simp only [ho, hp, Sem.run_bind, h, Result.andThen_ok, Sem.run_pure]
theorem x_field (ho : o.op = .fieldAddr T p f) (hp : a.eval p = x) (h : (Instr.fieldAt T x f).run Tryz.prog w = .ok v w) : (execOp a.eval o).run Tryz.prog w = .ok (.value v) w := by
  unfold execOp
  simp only [ho, hp, Sem.run_bind, h, Result.andThen_ok, Sem.run_pure]
theorem x_bin (ho : o.op = .binOp .eql T p q R) (hp : a.eval p = x) (hq : a.eval q = y) (h : (do eqGuard .eql T p q x y; binOp .eql T x y).run Tryz.prog w = .ok v w) : (execOp a.eval o).run Tryz.prog w = .ok (.value v) w := by
  unfold execOp
  simp only [ho, hp, hq]
  rw [Sem.run_bind, h]
  rfl
theorem x_pick (ho : o.op = .pick p q (.const (.bool false))) (hp : a.eval p = .bool true) (hq : a.eval q = v) : (execOp a.eval o).run Tryz.prog w = .ok (.value v) w := by
  unfold execOp
  simp only [ho, hp, hq]
  rfl
theorem x_move (ho : o.op = .move p) (hp : a.eval p = v) : (execOp a.eval o).run Tryz.prog w = .ok (.value v) w := by
  unfold execOp
  simp only [ho, hp]
  rfl
theorem x_assign (ho : o.op = .assign p) (hp : a.eval p = v) : (execOp a.eval o).run Tryz.prog w = .ok (.value v) w := by
  unfold execOp
  simp only [ho, hp]
  rfl
theorem x_call2 {fn : FuncId} {ts : Array TypeId} (ho : o.op = .call { callee := .value (.func fn), args := #[p, q], argTypes := ts }) (hp : a.eval p = x) (hq : a.eval q = y) (hm : ∀ u : World, (callFunc fn #[x, y]).run Tryz.prog u = .ok (.enter fn #[x, y]) u) : (execOp a.eval o).run Tryz.prog w = .ok (.enter fn #[x, y]) w := by
  have e : a.eval (.func fn) = .func (.func fn) #[] #[] := rfl
  unfold execOp
  simp only [ho, resolve, List.map_toArray, List.map_cons, List.map_nil, hp, hq, Deferred.ofValue, e, Sem.run_bind, Sem.run_pure, Result.andThen_ok, invoke]
  exact hm w
theorem x_call1 {fn : FuncId} {ts : Array TypeId} (ho : o.op = .call { callee := .value (.func fn), args := #[p], argTypes := ts }) (hp : a.eval p = x) (hm : ∀ u : World, (callFunc fn #[x]).run Tryz.prog u = .ok (.enter fn #[x]) u) : (execOp a.eval o).run Tryz.prog w = .ok (.enter fn #[x]) w := by
  have e : a.eval (.func fn) = .func (.func fn) #[] #[] := rfl
  unfold execOp
  simp only [ho, resolve, List.map_toArray, List.map_cons, List.map_nil, hp, Deferred.ofValue, e, Sem.run_bind, Sem.run_pure, Result.andThen_ok, invoke]
  exact hm w
end
theorem smf0 (w : World) (g : Nat) : (Instr.fieldAt 29 (.pointer (some ⟨g, 0, none⟩)) 0).run Tryz.prog w = .ok (.pointer (some ⟨g, 0, none⟩)) w := by go_simp
theorem smf1 (w : World) (g : Nat) : (Instr.fieldAt 29 (.pointer (some ⟨g, 0, none⟩)) 1).run Tryz.prog w = .ok (.pointer (some ⟨g, 1, none⟩)) w := by go_simp
theorem smf2 (w : World) (g : Nat) : (Instr.fieldAt 29 (.pointer (some ⟨g, 0, none⟩)) 2).run Tryz.prog w = .ok (.pointer (some ⟨g, 2, none⟩)) w := by go_simp
theorem smf3 (w : World) (g : Nat) : (Instr.fieldAt 29 (.pointer (some ⟨g, 0, none⟩)) 3).run Tryz.prog w = .ok (.pointer (some ⟨g, 3, none⟩)) w := by go_simp
theorem smf4 (w : World) (g : Nat) : (Instr.fieldAt 29 (.pointer (some ⟨g, 0, none⟩)) 4).run Tryz.prog w = .ok (.pointer (some ⟨g, 4, none⟩)) w := by go_simp
theorem smf5 (w : World) (g : Nat) : (Instr.fieldAt 29 (.pointer (some ⟨g, 0, none⟩)) 5).run Tryz.prog w = .ok (.pointer (some ⟨g, 5, none⟩)) w := by go_simp
theorem smf6 (w : World) (g : Nat) : (Instr.fieldAt 29 (.pointer (some ⟨g, 0, none⟩)) 6).run Tryz.prog w = .ok (.pointer (some ⟨g, 6, none⟩)) w := by go_simp
theorem smf7 (w : World) (g : Nat) : (Instr.fieldAt 29 (.pointer (some ⟨g, 0, none⟩)) 7).run Tryz.prog w = .ok (.pointer (some ⟨g, 7, none⟩)) w := by go_simp
theorem smf8 (w : World) (g : Nat) : (Instr.fieldAt 29 (.pointer (some ⟨g, 0, none⟩)) 8).run Tryz.prog w = .ok (.pointer (some ⟨g, 8, none⟩)) w := by go_simp
theorem smf9 (w : World) (g : Nat) : (Instr.fieldAt 29 (.pointer (some ⟨g, 0, none⟩)) 9).run Tryz.prog w = .ok (.pointer (some ⟨g, 9, none⟩)) w := by go_simp
theorem smf10 (w : World) (g : Nat) : (Instr.fieldAt 29 (.pointer (some ⟨g, 0, none⟩)) 10).run Tryz.prog w = .ok (.pointer (some ⟨g, 10, none⟩)) w := by go_simp
theorem smf11 (w : World) (g : Nat) : (Instr.fieldAt 29 (.pointer (some ⟨g, 0, none⟩)) 11).run Tryz.prog w = .ok (.pointer (some ⟨g, 11, none⟩)) w := by go_simp
theorem smf12 (w : World) (g : Nat) : (Instr.fieldAt 29 (.pointer (some ⟨g, 0, none⟩)) 12).run Tryz.prog w = .ok (.pointer (some ⟨g, 12, none⟩)) w := by go_simp
theorem smf13 (w : World) (g : Nat) : (Instr.fieldAt 29 (.pointer (some ⟨g, 0, none⟩)) 13).run Tryz.prog w = .ok (.pointer (some ⟨g, 13, none⟩)) w := by go_simp
theorem smf14 (w : World) (g : Nat) : (Instr.fieldAt 29 (.pointer (some ⟨g, 0, none⟩)) 14).run Tryz.prog w = .ok (.pointer (some ⟨g, 14, none⟩)) w := by go_simp
theorem smf15 (w : World) (g : Nat) : (Instr.fieldAt 29 (.pointer (some ⟨g, 0, none⟩)) 15).run Tryz.prog w = .ok (.pointer (some ⟨g, 15, none⟩)) w := by go_simp
theorem smf16 (w : World) (g : Nat) : (Instr.fieldAt 29 (.pointer (some ⟨g, 0, none⟩)) 16).run Tryz.prog w = .ok (.pointer (some ⟨g, 16, none⟩)) w := by go_simp
theorem smf17 (w : World) (g : Nat) : (Instr.fieldAt 29 (.pointer (some ⟨g, 0, none⟩)) 17).run Tryz.prog w = .ok (.pointer (some ⟨g, 17, none⟩)) w := by go_simp
theorem smf18 (w : World) (g : Nat) : (Instr.fieldAt 29 (.pointer (some ⟨g, 0, none⟩)) 18).run Tryz.prog w = .ok (.pointer (some ⟨g, 18, none⟩)) w := by go_simp
theorem smf19 (w : World) (g : Nat) : (Instr.fieldAt 29 (.pointer (some ⟨g, 0, none⟩)) 19).run Tryz.prog w = .ok (.pointer (some ⟨g, 19, none⟩)) w := by go_simp
theorem smf20 (w : World) (g : Nat) : (Instr.fieldAt 29 (.pointer (some ⟨g, 0, none⟩)) 20).run Tryz.prog w = .ok (.pointer (some ⟨g, 20, none⟩)) w := by go_simp
theorem smf21 (w : World) (g : Nat) : (Instr.fieldAt 29 (.pointer (some ⟨g, 0, none⟩)) 21).run Tryz.prog w = .ok (.pointer (some ⟨g, 21, none⟩)) w := by go_simp
theorem smf22 (w : World) (g : Nat) : (Instr.fieldAt 29 (.pointer (some ⟨g, 0, none⟩)) 22).run Tryz.prog w = .ok (.pointer (some ⟨g, 22, none⟩)) w := by go_simp
theorem smf23 (w : World) (g : Nat) : (Instr.fieldAt 29 (.pointer (some ⟨g, 0, none⟩)) 23).run Tryz.prog w = .ok (.pointer (some ⟨g, 23, none⟩)) w := by go_simp
theorem smf27 (w : World) (g : Nat) : (Instr.fieldAt 29 (.pointer (some ⟨g, 0, none⟩)) 27).run Tryz.prog w = .ok (.pointer (some ⟨g, 27, none⟩)) w := by go_simp
theorem smf28 (w : World) (g : Nat) : (Instr.fieldAt 29 (.pointer (some ⟨g, 0, none⟩)) 28).run Tryz.prog w = .ok (.pointer (some ⟨g, 28, none⟩)) w := by go_simp
theorem smf29 (w : World) (g : Nat) : (Instr.fieldAt 29 (.pointer (some ⟨g, 0, none⟩)) 29).run Tryz.prog w = .ok (.pointer (some ⟨g, 29, none⟩)) w := by go_simp
theorem sml_u16 (w : World) (g i : Nat) (v : Value) (h : w.cell? ⟨g, i, none⟩ = some v) : (Instr.loadAt 22 (.pointer (some ⟨g, i, none⟩))).run Tryz.prog w = .ok v w := by go_simp
theorem sml_bytes (w : World) (g i : Nat) (v : Value) (h : w.cell? ⟨g, i, none⟩ = some v) : (Instr.loadAt 23 (.pointer (some ⟨g, i, none⟩))).run Tryz.prog w = .ok v w := by go_simp
theorem sml_words (w : World) (g i : Nat) (v : Value) (h : w.cell? ⟨g, i, none⟩ = some v) : (Instr.loadAt 24 (.pointer (some ⟨g, i, none⟩))).run Tryz.prog w = .ok v w := by go_simp
theorem sml_str (w : World) (g i : Nat) (v : Value) (h : w.cell? ⟨g, i, none⟩ = some v) : (Instr.loadAt 9 (.pointer (some ⟨g, i, none⟩))).run Tryz.prog w = .ok v w := by go_simp
theorem sml_bool (w : World) (g i : Nat) (v : Value) (h : w.cell? ⟨g, i, none⟩ = some v) : (Instr.loadAt 4 (.pointer (some ⟨g, i, none⟩))).run Tryz.prog w = .ok v w := by go_simp
theorem sml_strs (w : World) (g i : Nat) (v : Value) (h : w.cell? ⟨g, i, none⟩ = some v) : (Instr.loadAt 25 (.pointer (some ⟨g, i, none⟩))).run Tryz.prog w = .ok v w := by go_simp
theorem sml_lists (w : World) (g i : Nat) (v : Value) (h : w.cell? ⟨g, i, none⟩ = some v) : (Instr.loadAt 26 (.pointer (some ⟨g, i, none⟩))).run Tryz.prog w = .ok v w := by go_simp
theorem sme_u16 (w : World) (u : UInt16) (p q : Operand) : (do eqGuard .eql 22 p q (wv u) (wv u); binOp .eql 22 (wv u) (wv u)).run Tryz.prog w = .ok (.bool true) w := by go_simp
theorem sme_str (w : World) (u : List UInt8) (p q : Operand) : (do eqGuard .eql 9 p q (strv u) (strv u); binOp .eql 9 (strv u) (strv u)).run Tryz.prog w = .ok (.bool true) w := by go_simp
theorem sme_bool (w : World) (u : Bool) (p q : Operand) : (do eqGuard .eql 4 p q (.bool u) (.bool u); binOp .eql 4 (.bool u) (.bool u)).run Tryz.prog w = .ok (.bool true) w := by cases u <;> go_simp
end Go.Proofs.YtaajmfgplhfncaaGreat
namespace Go.Proofs.YtaajmfgplhfncaaGreat
open Go.RowKit
set_option maxRecDepth 100000
section
variable {P : Program} {ops : Array Oper} {Q : Exit → Act → World → Prop} {md : Region.Mode} {S : World → Prop} {E : Nat → Bool}
def ClosedL (md : Region.Mode) (ops : Array Oper) (listed : Array Bool) : Prop := ∀ (j : Nat) (o : Oper), listed.getD j false = true → ops[j]? = some o → ∀ e ∈ o.after, Region.binds md e = true → listed.getD e.on false = true
def reachB (md : Region.Mode) (ops : Array Oper) : Nat → Nat → Nat → Bool
  | 0, _, _ => false
  | f + 1, j, i => match ops[j]? with
    | none => false
    | some o => o.after.any fun e => Region.binds md e && (e.on == i || reachB md ops f e.on i)
theorem reach_listed {listed : Array Bool} (hc : ClosedL md ops listed) (i : Nat) : ∀ (f j : Nat), reachB md ops f j i = true → (listed.getD j false = true ∨ j ∈ Region.ready md ops listed) → listed.getD i false = true
  | 0, _, h, _ => by simp [reachB] at h
  | f + 1, j, h, hj => by
    unfold reachB at h
    cases ho : ops[j]? with
    | none => rw [ho] at h; simp at h
    | some o =>
      rw [ho] at h
      obtain ⟨e, he, hb⟩ := Array.any_eq_true'.1 h
      rw [Bool.and_eq_true, Bool.or_eq_true, beq_iff_eq] at hb
      have hl : listed.getD e.on false = true := by
        rcases hj with hj | hj
        · exact hc j o hj ho e he hb.1
        · obtain ⟨_, o', ho', hall⟩ := mem_ready.1 hj
          rw [ho] at ho'
          injection ho' with ho'
          subst ho'
          exact hall e he hb.1
      rcases hb.2 with h2 | h2
      · rw [← h2]; exact hl
      · exact reach_listed hc i f e.on h2 (.inl hl)
theorem getD_false_true {listed : Array Bool} {i : Nat} (h1 : listed.getD i true = false) : listed.getD i false = false := by
  rw [Array.getD_eq_getD_getElem?] at h1 ⊢
  cases h : listed[i]? with
  | none => rfl
  | some b => rw [h] at h1; exact h1
theorem ClosedL.step {listed : Array Bool} {j : Nat} (hc : ClosedL md ops listed) (hj : j ∈ Region.ready md ops listed) : ClosedL md ops (listed.setIfInBounds j true) := by
  intro k o hk ho e he hb
  obtain ⟨_, oj, hoj, hall⟩ := mem_ready.1 hj
  by_cases hkj : k = j
  · subst hkj
    rw [hoj] at ho
    injection ho with ho
    subst ho
    exact getD_set_true (hall e he hb)
  · rw [getD_set_ne false (Ne.symm hkj)] at hk
    exact getD_set_true (hc k o hk ho e he hb)
def wpAnyE (P : Program) (md : Region.Mode) (ops : Array Oper) (Q : Exit → Act → World → Prop) (S : World → Prop) (E : Nat → Bool) : Nat → Array Bool → Act → World → Prop
  | 0, listed, a, w => Region.ready md ops listed = [] ∧ Q .normal a w
  | fuel + 1, listed, a, w =>
    (Region.ready md ops listed = [] → Q .normal a w) ∧
    ∀ i ∈ Region.ready md ops listed, wpOp P ops Q i (fun a' w' => (E i = false → S w') ∧ wpAnyE P md ops Q S E fuel (listed.setIfInBounds i true) a' w') a w
theorem wpAny_of_E : ∀ (fuel : Nat) (listed : Array Bool) (a : Act) (w : World), wpAnyE P md ops Q S E fuel listed a w → wpAny P md ops Q fuel listed a w
  | 0, _, _, _, h => h
  | fuel + 1, _, _, _, h => ⟨h.1, fun i hi => wpOp_mono (fun a' w' h' => wpAny_of_E fuel _ a' w' h'.2) (h.2 i hi)⟩
theorem wpAnyE_first {i : Nat} {oi : Oper} {v : Value} (hi : ops[i]? = some oi) (hsel : ∀ (j : Nat) (o : Oper) cs b, ops[j]? = some o → o.op ≠ .select cs b)
    (hQ : ∀ c a w, Q (.panic c) (a.put oi.dst v) w → Q (.panic c) a w)
    (hE : ∀ j, E j = true → ∀ listed, ClosedL md ops listed → j ∈ Region.ready md ops listed → listed.getD i false = true) :
    ∀ (fuel : Nat) (listed : Array Bool) (a : Act) (w : World), ClosedL md ops listed →
      (∀ j oj, ops[j]? = some oj → j ≠ i → listed.getD j true = false → (∀ e ∈ oj.after, Region.binds md e = true → e.on ≠ i) → oi.apart ops oj = true) →
      i ∈ Region.ready md ops listed → YieldsIf P ops S oi v a → S w →
      wpAnyE P md ops Q S E fuel (listed.setIfInBounds i true) (a.put oi.dst v) w → wpAnyE P md ops Q S E (fuel + 1) listed a w := by
  intro fuel
  induction fuel with
  | zero =>
    intro listed a w _ _ hr hy hS H
    refine ⟨fun h => (by rw [h] at hr; cases hr), fun j hj => ?_⟩
    by_cases hji : j = i
    · subst hji; exact hy.wpOp hi hS ⟨fun _ => hS, H⟩
    · have := ready_mono hj hji
      rw [H.1] at this
      cases this
  | succ fuel ih =>
    intro listed a w hcl hfree hr hy hS H
    refine ⟨fun h => (by rw [h] at hr; cases hr), fun j hj => ?_⟩
    by_cases hji : j = i
    · subst hji; exact hy.wpOp hi hS ⟨fun _ => hS, H⟩
    · have h1 := H.2 j (ready_mono hj hji)
      obtain ⟨hjun, oj, hoj, hall⟩ := mem_ready.1 hj
      have hiun := (mem_ready.1 hr).1
      have hnot : ∀ e ∈ oj.after, Region.binds md e = true → e.on ≠ i := fun e he hb heq => by
        have h1 := hall e he hb
        rw [heq, getD_false_true hiun] at h1
        cases h1
      have hEj : E j = false := by
        cases h : E j with
        | false => rfl
        | true =>
          have := hE j h listed hcl hj
          rw [getD_false_true hiun] at this
          cases this
      have h2 := wpOp_putIf hoj (hfree j oj hoj hji hjun hnot) (fun cs b => hsel i oi cs b hi) (fun cs b => hsel j oj cs b hoj) hQ hy h1
      have hfree' : ∀ k ok, ops[k]? = some ok → k ≠ i → (listed.setIfInBounds j true).getD k true = false →
          (∀ e ∈ ok.after, Region.binds md e = true → e.on ≠ i) → oi.apart ops ok = true := fun k ok hk hki hun hno => by
        refine hfree k ok hk hki ?_ hno
        by_cases hjk : j = k
        · subst hjk; exact hjun
        · rw [getD_set_ne true hjk] at hun; exact hun
      refine wpOp_mono (fun a' w' h3 => ⟨h3.2.1, ih (listed.setIfInBounds j true) a' w' (hcl.step hj) hfree' (ready_mono hr (Ne.symm hji)) h3.1 (h3.2.1 hEj) ?_⟩) h2
      rw [Array.setIfInBounds_comm _ _ hji]
      exact h3.2.2
def closedB (md : Region.Mode) (ops : Array Oper) (listed : Array Bool) : Bool := (List.range ops.size).all fun j => !listed.getD j false || match ops[j]? with | none => true | some o => o.after.all fun e => !Region.binds md e || listed.getD e.on false
theorem closedB_ok {listed : Array Bool} (h : closedB md ops listed = true) : ClosedL md ops listed := by
  intro j o hj ho e he hb
  have hlt : j < ops.size := (Array.getElem?_eq_some_iff.1 ho).1
  have h1 := List.all_eq_true.1 h j (List.mem_range.2 hlt)
  rw [ho, hj] at h1
  have h2 : (o.after.all fun e => !Region.binds md e || listed.getD e.on false) = true := by simpa using h1
  have := Array.all_eq_true_iff_forall_mem.1 h2 e he
  simpa [hb] using this
theorem wpAnyE_take {i : Nat} {oi : Oper} {v : Value} {fuel : Nat} {listed : Array Bool} {a : Act} {w : World} (hi : ops[i]? = some oi)
    (hs : Region.noSelect ops = true) (hf : Region.free md ops listed i = true) (hr : (Region.ready md ops listed).contains i = true) (hc : closedB md ops listed = true) (hE : ((List.range ops.size).all fun j => !E j || reachB md ops 20 j i) = true)
    (hQ : ∀ c a w, Q (.panic c) (a.put oi.dst v) w → Q (.panic c) a w) (hy : YieldsIf P ops S oi v a) (hS : S w)
    (h : wpAnyE P md ops Q S E fuel (listed.setIfInBounds i true) (a.put oi.dst v) w) : wpAnyE P md ops Q S E (fuel + 1) listed a w := by
  refine wpAnyE_first hi (Region.noSelect_spec hs) hQ (fun j hj listed' hc' hr' => ?_) fuel listed a w (closedB_ok hc) (Region.free_spec hi hf) (by simpa using hr) hy hS h
  obtain ⟨_, oj, hoj, _⟩ := mem_ready.1 hr'
  have hlt : j < ops.size := (Array.getElem?_eq_some_iff.1 hoj).1
  have h1 := List.all_eq_true.1 hE j (List.mem_range.2 hlt)
  rw [hj] at h1
  exact reach_listed hc' i 20 j (by simpa using h1) (.inr hr')
theorem wpAnyE_all {rs : List Nat} {fuel : Nat} {listed : Array Bool} {a : Act} {w : World} (hr : Region.ready md ops listed = rs) (hne : rs ≠ [])
    (h : ∀ i ∈ rs, wpOp P ops Q i (fun a' w' => (E i = false → S w') ∧ wpAnyE P md ops Q S E fuel (listed.setIfInBounds i true) a' w') a w) : wpAnyE P md ops Q S E (fuel + 1) listed a w :=
  ⟨fun h0 => absurd (hr ▸ h0) hne, hr ▸ h⟩
theorem wpAnyE_one {k fuel : Nat} {listed : Array Bool} {a : Act} {w : World} (hr : Region.ready md ops listed = [k])
    (h : wpOp P ops Q k (fun a' w' => (E k = false → S w') ∧ wpAnyE P md ops Q S E fuel (listed.setIfInBounds k true) a' w') a w) : wpAnyE P md ops Q S E (fuel + 1) listed a w :=
  wpAnyE_all hr (by simp) fun i hi => by
    have : i = k := by simpa using hi
    subst this
    exact h
theorem wpAnyE_done {listed : Array Bool} {a : Act} {w : World} (hr : Region.ready md ops listed = []) (h : Q .normal a w) :
    ∀ fuel, wpAnyE P md ops Q S E fuel listed a w
  | 0 => ⟨hr, h⟩
  | _ + 1 => ⟨fun _ => h, by rw [hr]; simp⟩
theorem wp_region_E {id : Nat} {a : Act} {w : World} (hm : P.follows .mixedOrders = true)
    (h : wpAnyE P .any ops Q S E ops.size (Array.replicate ops.size false) a { w with drawn := w.drawn + 1 }) : (Code.region id ops true).wp P Q a w :=
  wp_region_any hm (wpAny_of_E _ _ _ _ h)
theorem wp_region_cast {id : Nat} {b : Bool} {ops' : Array Oper} {a : Act} {w : World} (e : ops = ops') (h : (Code.region id ops' b).wp P Q a w) : (Code.region id ops b).wp P Q a w := e ▸ h
theorem wpOp_val {i : Nat} {o : Oper} {a : Act} {w w' : World} {v : Value} {K : Act → World → Prop} (hi : ops[i]? = some o) (hg : o.guard = none) (hr : (execOp a.eval o).run P w = .ok (.value v) w') (hK : K (a.put o.dst v) w') : wpOp P ops Q i K a w := by
  have hw : Region.wanted o (yielded ops a.tmps) = true := by simp [Region.wanted, hg]
  unfold wpOp
  simp only [hi, hw, if_true]
  refine .inl ?_
  unfold Oper.wp
  rw [hr]
  exact hK
theorem wpOp_skip {i : Nat} {o : Oper} {a : Act} {w w' : World} {K : Act → World → Prop} (hi : ops[i]? = some o) (hg : o.guard = none) (hr : (execOp a.eval o).run P w = .ok .skip w') (hK : K (a.put o.dst undef) w') : wpOp P ops Q i K a w := by
  have hw : Region.wanted o (yielded ops a.tmps) = true := by simp [Region.wanted, hg]
  unfold wpOp
  simp only [hi, hw, if_true]
  refine .inl ?_
  unfold Oper.wp
  rw [hr]
  exact hK
theorem wpOp_wp {i : Nat} {o : Oper} {a : Act} {w : World} {K : Act → World → Prop} (hi : ops[i]? = some o) (hg : o.guard = none) (h : o.wp P a w K Q) : wpOp P ops Q i K a w := by
  have hw : Region.wanted o (yielded ops a.tmps) = true := by simp [Region.wanted, hg]
  unfold wpOp
  simp only [hi, hw, if_true]
  exact .inl h
end
theorem wp_normal2 {P : Program} {c : Code} {R : Act → World → Prop} {Q : Exit → Act → World → Prop} {a : Act} {w : World} (h : ∀ K : Act → World → Prop, (∀ a' w', R a' w' → K a' w') → c.wp P (Exit.then K fun _ _ _ => False) a w) (hQ : ∀ a' w', R a' w' → Q .normal a' w') : c.wp P Q a w := by
  refine wp_mono (h R fun _ _ h => h) ?_
  intro e a' w' he
  cases e with
  | normal => exact hQ a' w' he
  | exit id => exact he.elim
  | goto l => exact he.elim
  | ret => exact he.elim
  | panic ch => exact he.elim
  | outgrown => exact he.elim
def regOf (k : Nat) : Code → List Oper
  | .region i ops _ => if i == k then ops.toList else []
  | .seq a b => regOf k a ++ regOf k b
  | .cond _ a b => regOf k a ++ regOf k b
  | .block _ b => regOf k b
  | .loop b => regOf k b
  | .scope b => regOf k b
  | _ => []
end Go.Proofs.YtaajmfgplhfncaaGreat

/- ServerHello: an extension, read by the reference (printed by gen_shx.py). -/
import Derived.Test.YtcikeghdlolkaaaShV
import Derived.Test.YtcikeghdlolkaaaProt
import Derived.Test.YtcikeghdlolkaaaSpecE
import Derived.Test.YtcikeghdlolkaaaReader
namespace Go.Proofs.Ytcikeghdlolkaaa
open Go.RowKit
set_option maxRecDepth 100000

/-- what the cells of the reference's message hold -/
def shFR (M : Sh) : List Fld := [.val (wv M.vers), .byt M.random, .byt M.sid, .val (wv M.suite), .val (bv M.comp), .val (.bool M.ocsp), .val (.bool M.ticket), .val (.bool M.rns), .byt M.rn, .val (.bool M.ems), .val (strv M.alpn), .vec M.scts, .val (wv M.sv),
  .val (wv M.sg), .byt M.sd, .val (.bool M.sip), .val (wv M.si), .byt M.pts, .byt M.ech, .val (.bool M.ack), .byt M.cookie, .val (wv M.selg)]
theorem MSt.cast {w : World} {B lo hi m : Nat} {T : TypeId} {cs : Array Value} {fs fs' : List Fld} (h : MSt w B lo hi m T cs fs) (e : fs = fs') : MSt w B lo hi m T cs fs' := e ▸ h
theorem Vecs.less {w : World} {b b' B : Nat} {v : Value} {ls : List (List UInt8)} (h : Vecs w b B v ls) (hb : b' ≤ b) : Vecs w b' B v ls := by
  obtain ⟨us, h1, h2⟩ := h
  exact ⟨us, ⟨h1.1, h1.2.imp id fun ⟨g, cap, cur, e, hb2, r⟩ => ⟨g, cap, cur, e, Nat.le_trans hb hb2, r⟩⟩, h2⟩
theorem shx_vec_len (s : R) (n lo hi : Nat) (hn : n ≤ 2) : (s.vec n lo hi).1.length < 65536 := by
  unfold R.vec
  simp only
  split
  · rw [take_len]
    have h1 := beNat_lt (s.take n).1
    rw [take_len] at h1
    have h2 : 256 ^ n ≤ 256 ^ 2 := Nat.pow_le_pow_right (by omega) (by omega)
    show beNat (s.take n).1 < _
    omega
  · simp
/-- no own row lies in this block -/
def NoOwn (q : Nat) (cs : Array Value) (fs : List Fld) : Prop := ∀ (i : Nat) (v : Value) (f : Fld) (g : Nat), cs[i]? = some v → fs[i]? = some f → f.isOwn = true → v.ownBlock = some g → g ≠ q
theorem MSt.noOwn {w : World} {B lo hi m q : Nat} {T : TypeId} {cs : Array Value} {fs fs' : List Fld} (h : MSt w B lo hi m T cs fs) (e : fs = fs') (hq : hi ≤ q) : NoOwn q cs fs' := by
  subst e
  intro i v f g h1 h2 h3 h4
  have := h.own i v f g h1 h2 h3 h4
  omega
/-- blocks turn in which no own row lies -/
theorem MSt.updx {w w' : World} {B lo hi m q r : Nat} {T : TypeId} {cs : Array Value} {fs : List Fld} (h : MSt w B lo hi m T cs fs) (hu : Upd [r, q] w w') (hS : B ≤ r ∧ r ≠ m ∧ r < lo ∧ B ≤ q ∧ q ≠ m) (hn : NoOwn q cs fs) : MSt w' B lo hi m T cs fs := by
  refine ⟨h.blk.upd hu (by simp; omega), h.len, fun i v f h1 h2 => (h.ok i v f h1 h2).upd hu (by simp; omega) fun h3 g h4 hm => ?_, h.own, h.ap⟩
  have h5 := h.own i v f g h1 h2 h3 h4
  have h6 := hn i v f g h1 h2 h3 h4
  simp at hm
  omega
/-- what 'serverExtension' leaves -/
def ShXP (w : World) (N lo q mb : Nat) (o : Sh × R) (e : Ending) (w' : World) : Prop :=
  e = .returned (.tuple #[]) ∧ Upd [q, mb] w w' ∧ Rd w' N q o.2 ∧ ∃ cs, MSt w' N lo w'.heap.size mb 26 cs (shFR o.1) ∧ NoOwn q cs (shFR o.1)
set_option maxHeartbeats 8000000 in
theorem ext_Sh {w : World} {N lo hi q mb : Nat} {x : R} {M : Sh} {cs : Array Value} (k : UInt16) (hq : Rd w N q x) (hM : MSt w N lo hi mb 26 cs (shFR M)) (hml : mb < lo) (hNm : N ≤ mb) (hlo : lo ≤ hi) (hiq : hi ≤ q) (hhi : hi ≤ w.heap.size) (hxl : x.bs.length ≤ 65536) :
    Calls Try.prog 55 #[.pointer (some ⟨q, 0, none⟩), wv k, .pointer (some ⟨mb, 0, none⟩)] w (ShXP w N lo q mb (shRd M k x)) := by
  have d5 := u16_eq k 5
  rw [show ((5 : UInt16).toNat : Int) = 5 from rfl] at d5
  have d35 := u16_eq k 35
  rw [show ((35 : UInt16).toNat : Int) = 35 from rfl] at d35
  have d65281 := u16_eq k 65281
  rw [show ((65281 : UInt16).toNat : Int) = 65281 from rfl] at d65281
  have d23 := u16_eq k 23
  rw [show ((23 : UInt16).toNat : Int) = 23 from rfl] at d23
  have d16 := u16_eq k 16
  rw [show ((16 : UInt16).toNat : Int) = 16 from rfl] at d16
  have d18 := u16_eq k 18
  rw [show ((18 : UInt16).toNat : Int) = 18 from rfl] at d18
  have d43 := u16_eq k 43
  rw [show ((43 : UInt16).toNat : Int) = 43 from rfl] at d43
  have d51 := u16_eq k 51
  rw [show ((51 : UInt16).toNat : Int) = 51 from rfl] at d51
  have d41 := u16_eq k 41
  rw [show ((41 : UInt16).toNat : Int) = 41 from rfl] at d41
  have d44 := u16_eq k 44
  rw [show ((44 : UInt16).toNat : Int) = 44 from rfl] at d44
  have d11 := u16_eq k 11
  rw [show ((11 : UInt16).toNat : Int) = 11 from rfl] at d11
  have d65037 := u16_eq k 65037
  rw [show ((65037 : UInt16).toNat : Int) = 65037 from rfl] at d65037
  have d0 := u16_eq k 0
  rw [show ((0 : UInt16).toNat : Int) = 0 from rfl] at d0
  have hqN := hq.1
  have hql0 := hq.lt
  go_enter Try.func55, Try.ntmps55
  by_cases hk5 : k = 5
  · rw [decide_eq_true hk5] at d5
    have HE2 := hid (show shRd M k x = ({ M with ocsp := true }, x) by rw [hk5]; rfl)
    clear hk5
    obtain ⟨vc5, hcv5, -⟩ := hM.get (i := 5) rfl
    have cc5 := hM.cell hcv5
    have ff5 := hM.blk.frozen 5
    clear hcv5
    have hus1 : Upd [mb] w (w.setCell ⟨mb, 5, none⟩ (.bool true)) := (Upd.refl _ _).setCell (by simp) _
    have hM1 := hM.putV (i := 5) (f := .val (.bool true)) hml hus1 (by simp; omega) (hM.blk.set_ 5 (.bool true)) rfl rfl
    have hq1 := hq.upd hus1 (by simp; omega) (by simp; omega)
    have hU1 := ((Upd.refl [q, mb] w)).trans hus1 (by simp)
    go_wp2
    go_end0
    exact ⟨rfl, hU1, by rw [HE2.out]; exact hq1, by rw [HE2.out]; exact ⟨_, MSt.wide (MSt.cast hM1 rfl) (Nat.le_trans hhi hU1.size), MSt.noOwn hM1 rfl hiq⟩⟩
  rw [decide_eq_false hk5] at d5
  by_cases hk35 : k = 35
  · rw [decide_eq_true hk35] at d35
    have HE2 := hid (show shRd M k x = ({ M with ticket := true }, x) by rw [hk35]; rfl)
    clear hk35
    obtain ⟨vc6, hcv6, -⟩ := hM.get (i := 6) rfl
    have cc6 := hM.cell hcv6
    have ff6 := hM.blk.frozen 6
    clear hcv6
    have hus1 : Upd [mb] w (w.setCell ⟨mb, 6, none⟩ (.bool true)) := (Upd.refl _ _).setCell (by simp) _
    have hM1 := hM.putV (i := 6) (f := .val (.bool true)) hml hus1 (by simp; omega) (hM.blk.set_ 6 (.bool true)) rfl rfl
    have hq1 := hq.upd hus1 (by simp; omega) (by simp; omega)
    have hU1 := ((Upd.refl [q, mb] w)).trans hus1 (by simp)
    go_wp2
    go_end0
    exact ⟨rfl, hU1, by rw [HE2.out]; exact hq1, by rw [HE2.out]; exact ⟨_, MSt.wide (MSt.cast hM1 rfl) (Nat.le_trans hhi hU1.size), MSt.noOwn hM1 rfl hiq⟩⟩
  rw [decide_eq_false hk35] at d35
  by_cases hk65281 : k = 65281
  · rw [decide_eq_true hk65281] at d65281
    have HE2 := hid (show shRd M k x = ({ M with rns := true, rn := (x.vec 1 0 255).1 }, (x.vec 1 0 255).2) by rw [hk65281]; rfl)
    clear hk65281
    obtain ⟨xs, hxs⟩ : ∃ xs, (x.vec 1 0 255).1 = xs := ⟨_, rfl⟩
    obtain ⟨x2, hx2⟩ : ∃ x2, (x.vec 1 0 255).2 = x2 := ⟨_, rfl⟩
    rw [hxs, hx2] at HE2
    have H := hid (vec_any hq 1 0 255 (by omega))
    go_wp2_with fail
    refine H.out.mono ?_
    rintro e w1 ⟨v1, rfl, hu1, hq1, hyr⟩
    have hM1 := hM.upd hu1 (by simp; omega)
    have hU1 := ((Upd.refl [q, mb] w)).trans hu1 (by simp)
    rw [hxs] at hyr
    rw [hx2] at hq1
    obtain ⟨A1, c1, rfl, hyr, -, -⟩ := Byt.form hyr rfl
    clear hxs hx2 H
    obtain ⟨vc7, hcv7, -⟩ := hM1.get (i := 7) rfl
    have cc7 := hM1.cell hcv7
    have ff7 := hM1.blk.frozen 7
    clear hcv7
    obtain ⟨vc8, hcv8, -⟩ := hM1.get (i := 8) rfl
    have cc8 := hM1.cell hcv8
    have ff8 := hM1.blk.frozen 8
    clear hcv8
    have hus2 : Upd [mb] w1 (w1.setCell ⟨mb, 7, none⟩ (.bool true)) := (Upd.refl _ _).setCell (by simp) _
    have hM2 := hM1.putV (i := 7) (f := .val (.bool true)) hml hus2 (by simp; omega) (hM1.blk.set_ 7 (.bool true)) rfl rfl
    have hq2 := hq1.upd hus2 (by simp; omega) (by simp; omega)
    have hU2 := (hU1).trans hus2 (by simp)
    have hyr := Row.upd hyr hus2 (by simp; omega)
    have hus3 : Upd [mb] (w1.setCell ⟨mb, 7, none⟩ (.bool true)) ((w1.setCell ⟨mb, 7, none⟩ (.bool true)).setCell ⟨mb, 8, none⟩ (.slice A1 xs.length c1)) := (Upd.refl _ _).setCell (by simp) _
    have hM3 := hM2.putV (i := 8) (f := .byt xs) hml hus3 (by simp; omega) (hM2.blk.set_ 8 (.slice A1 xs.length c1)) (Row.upd hyr hus3 (by simp; omega)) rfl
    have hq3 := hq2.upd hus3 (by simp; omega) (by simp; omega)
    have hU3 := (hU2).trans hus3 (by simp)
    go_wp2
    go_end0
    exact ⟨rfl, hU3, by rw [HE2.out]; exact hq3, by rw [HE2.out]; exact ⟨_, MSt.wide (MSt.cast hM3 rfl) (Nat.le_trans hhi hU3.size), MSt.noOwn hM3 rfl hiq⟩⟩
  rw [decide_eq_false hk65281] at d65281
  by_cases hk23 : k = 23
  · rw [decide_eq_true hk23] at d23
    have HE2 := hid (show shRd M k x = ({ M with ems := true }, x) by rw [hk23]; rfl)
    clear hk23
    obtain ⟨vc9, hcv9, -⟩ := hM.get (i := 9) rfl
    have cc9 := hM.cell hcv9
    have ff9 := hM.blk.frozen 9
    clear hcv9
    have hus1 : Upd [mb] w (w.setCell ⟨mb, 9, none⟩ (.bool true)) := (Upd.refl _ _).setCell (by simp) _
    have hM1 := hM.putV (i := 9) (f := .val (.bool true)) hml hus1 (by simp; omega) (hM.blk.set_ 9 (.bool true)) rfl rfl
    have hq1 := hq.upd hus1 (by simp; omega) (by simp; omega)
    have hU1 := ((Upd.refl [q, mb] w)).trans hus1 (by simp)
    go_wp2
    go_end0
    exact ⟨rfl, hU1, by rw [HE2.out]; exact hq1, by rw [HE2.out]; exact ⟨_, MSt.wide (MSt.cast hM1 rfl) (Nat.le_trans hhi hU1.size), MSt.noOwn hM1 rfl hiq⟩⟩
  rw [decide_eq_false hk23] at d23
  by_cases hk16 : k = 16
  · rw [decide_eq_true hk16] at d16
    have HE2 := hid (show shRd M k x = ({ M with alpn := x.protocol.1 }, x.protocol.2) by rw [hk16]; rfl)
    clear hk16
    obtain ⟨xs, hxs⟩ : ∃ xs, x.protocol.1 = xs := ⟨_, rfl⟩
    obtain ⟨x2, hx2⟩ : ∃ x2, x.protocol.2 = x2 := ⟨_, rfl⟩
    rw [hxs, hx2] at HE2
    have H := hid (protocol_any hq)
    go_wp2_with fail
    refine H.out.mono ?_
    rintro e w1 ⟨rfl, hu1, hq1⟩
    have hM1 := hM.upd hu1 (by simp; omega)
    have hU1 := ((Upd.refl [q, mb] w)).trans hu1 (by simp)
    rw [hx2] at hq1
    rw [hxs]
    clear hxs hx2 H
    obtain ⟨vc10, hcv10, -⟩ := hM1.get (i := 10) rfl
    have cc10 := hM1.cell hcv10
    have ff10 := hM1.blk.frozen 10
    clear hcv10
    have hus2 : Upd [mb] w1 (w1.setCell ⟨mb, 10, none⟩ (strv xs)) := (Upd.refl _ _).setCell (by simp) _
    have hM2 := hM1.putV (i := 10) (f := .val (strv xs)) hml hus2 (by simp; omega) (hM1.blk.set_ 10 (strv xs)) rfl rfl
    have hq2 := hq1.upd hus2 (by simp; omega) (by simp; omega)
    have hU2 := (hU1).trans hus2 (by simp)
    go_wp2
    go_end0
    exact ⟨rfl, hU2, by rw [HE2.out]; exact hq2, by rw [HE2.out]; exact ⟨_, MSt.wide (MSt.cast hM2 rfl) (Nat.le_trans hhi hU2.size), MSt.noOwn hM2 rfl hiq⟩⟩
  rw [decide_eq_false hk16] at d16
  by_cases hk18 : k = 18
  · rw [decide_eq_true hk18] at d18
    have HE2 := hid (show shRd M k x = ({ M with scts := (x.listsV 2 1 65535 2).1 }, (x.listsV 2 1 65535 2).2) by rw [hk18]; rfl)
    clear hk18
    have hvl : (x.vec 2 1 65535).1.length < 65536 := shx_vec_len x 2 1 65535 (by omega)
    have hlv : x.listsV 2 1 65535 2 = (x.vec 2 1 65535).2.vectors (x.vec 2 1 65535).1 2 1 := rfl
    rw [hlv] at HE2
    clear hlv
    obtain ⟨xs, hxs⟩ : ∃ xs, (x.vec 2 1 65535).1 = xs := ⟨_, rfl⟩
    obtain ⟨x2, hx2⟩ : ∃ x2, (x.vec 2 1 65535).2 = x2 := ⟨_, rfl⟩
    rw [hxs, hx2] at HE2
    rw [hxs] at hvl
    have H := hid (vec_any hq 2 1 65535 (by omega))
    go_wp2_with fail
    refine H.out.mono ?_
    rintro e w1 ⟨v1, rfl, hu1, hq1, hyr⟩
    rw [hxs] at hyr
    rw [hx2] at hq1
    clear hxs hx2 H
    have hM1 := hM.upd hu1 (by simp; omega)
    have H2 := hid (vectors_any2 hq1 hyr (by omega) 1)
    have hs1 := hu1.size
    obtain ⟨pp, hpp⟩ : ∃ pp, x2.vectors xs 2 1 = pp := ⟨_, rfl⟩
    rw [hpp] at H2 HE2
    clear hpp hyr
    go_wp2_with fail
    refine H2.out.mono ?_
    rintro e w2 ⟨v2, rfl, ho2, hu2, hq2⟩
    obtain ⟨us2, ho2a, hall2⟩ := ho2
    obtain ⟨A6, c6, rfl⟩ := ho2a.formN (n := pp.1.length) hall2.length
    have hs2 := hu2.size
    have hM2 := hM1.upd hu2 (by simp; omega)
    have hU2 : Upd [q, mb] w w2 := ((Upd.refl [q, mb] w).trans hu1 (by simp)).trans hu2 (by simp)
    obtain ⟨vc, hcv, -⟩ := hM2.get (i := 11) rfl
    have cc := hM2.cell hcv
    have ff := hM2.blk.frozen 11
    clear hcv
    have hus : Upd [mb] w2 (w2.setCell ⟨mb, 11, none⟩ (.slice A6 pp.1.length c6)) := (Upd.refl _ _).setCell (by simp) _
    have hge := fun g hg => Own.ge ho2a (g := g) hg
    have hvec : FOk (w2.setCell ⟨mb, 11, none⟩ (.slice A6 pp.1.length c6)) N lo (.slice A6 pp.1.length c6) (.vec pp.1) :=
      Vecs.less (Vecs.upd ⟨us2, ho2a, hall2⟩ hus (fun g hg hm => by have := hge g hg; simp at hm; omega) (by simp; omega)) (by omega)
    have hM3 := hM2.put (i := 11) (x := .slice A6 pp.1.length c6) (f := .vec pp.1) (hi' := w2.heap.size) hml hus (by simp; omega) (hM2.blk.set_ 11 _) hvec (fun _ g hg => .inl (by have := hge g hg; omega)) (by omega)
    have hq3 := hq2.upd hus (by simp; omega) (by simp; omega)
    have hU3 := hU2.trans hus (by simp)
    have hno : NoOwn q (cs.setIfInBounds 11 (.slice A6 pp.1.length c6)) (shFR { M with scts := pp.1 }) := by
      intro i v f g h1 h2 h3 h4
      by_cases hi : i = 11
      · subst hi
        rw [Array.getElem?_setIfInBounds_self_of_lt (by rw [hM2.len]; exact (by decide : 11 < 22))] at h1
        cases h1
        have := hge g h4
        omega
      · rw [Array.getElem?_setIfInBounds_ne (Ne.symm hi)] at h1
        have h2' : (shFR M)[i]? = some f := by
          rw [← h2, show shFR { M with scts := pp.1 } = (shFR M).set 11 (.vec pp.1) from rfl, List.getElem?_set_ne (Ne.symm hi)]
        have := hM2.own i v f g h1 h2' h3 h4
        omega
    clear ho2a hall2 hq1 hvec H2
    go_wp2
    go_end0
    exact ⟨rfl, hU3, by rw [HE2.out]; exact hq3, by rw [HE2.out]; exact ⟨_, MSt.wide (MSt.cast hM3 rfl) hus.size, hno⟩⟩
  rw [decide_eq_false hk18] at d18
  by_cases hk43 : k = 43
  · rw [decide_eq_true hk43] at d43
    have HE2 := hid (show shRd M k x = ({ M with sv := UInt16.ofNat (x.num 2).1 }, (x.num 2).2) by rw [hk43]; rfl)
    clear hk43
    obtain ⟨n3, hn3⟩ : ∃ n, (x.num 2).1 = n := ⟨_, rfl⟩
    obtain ⟨x2, hx2⟩ : ∃ x2, (x.num 2).2 = x2 := ⟨_, rfl⟩
    have hlt3 : n3 < 65536 := by rw [← hn3]; exact num2_lt _
    rw [hn3, hx2] at HE2
    have H := hid (num_any hq 2 (by omega))
    rw [hn3, hx2] at H
    go_wp2_with fail
    refine H.out.mono ?_
    rintro e w1 ⟨rfl, hu1, hq1⟩
    have hM1 := hM.upd hu1 (by simp; omega)
    have hU1 := ((Upd.refl [q, mb] w)).trans hu1 (by simp)
    clear hn3 hx2 H
    have e3 : Value.int .u16 (n3 : Int) = wv (UInt16.ofNat n3) := by
      show _ = Value.int .u16 ((UInt16.ofNat n3).toNat : Int)
      rw [UInt16.toNat_ofNat_of_lt' (by simpa [UInt16.size] using hlt3)]
    have hmod : ((n3 : Int) % 65536) = (n3 : Int) := by omega
    obtain ⟨vc12, hcv12, -⟩ := hM1.get (i := 12) rfl
    have cc12 := hM1.cell hcv12
    have ff12 := hM1.blk.frozen 12
    clear hcv12
    have hus2 : Upd [mb] w1 (w1.setCell ⟨mb, 12, none⟩ (wv (UInt16.ofNat n3))) := (Upd.refl _ _).setCell (by simp) _
    have hM2 := hM1.putV (i := 12) (f := .val (wv (UInt16.ofNat n3))) hml hus2 (by simp; omega) (hM1.blk.set_ 12 (wv (UInt16.ofNat n3))) rfl rfl
    have hq2 := hq1.upd hus2 (by simp; omega) (by simp; omega)
    have hU2 := (hU1).trans hus2 (by simp)
    go_wp2
    go_end0
    exact ⟨rfl, hU2, by rw [HE2.out]; exact hq2, by rw [HE2.out]; exact ⟨_, MSt.wide (MSt.cast hM2 rfl) (Nat.le_trans hhi hU2.size), MSt.noOwn hM2 rfl hiq⟩⟩
  rw [decide_eq_false hk43] at d43
  by_cases hk51 : k = 51
  · rw [decide_eq_true hk51] at d51
    have HE2 := hid (show shRd M k x = shShare0 (UInt16.ofNat (x.num 2).1) (shShare M (UInt16.ofNat (x.num 2).1) (x.num 2).2) by rw [hk51]; rfl)
    clear hk51
    obtain ⟨n3, hn3⟩ : ∃ n, (x.num 2).1 = n := ⟨_, rfl⟩
    obtain ⟨x2, hx2⟩ : ∃ x2, (x.num 2).2 = x2 := ⟨_, rfl⟩
    have hlt3 : n3 < 65536 := by rw [← hn3]; exact num2_lt _
    rw [hn3, hx2] at HE2
    have H := hid (num_any hq 2 (by omega))
    rw [hn3, hx2] at H
    go_wp2_with fail
    refine H.out.mono ?_
    rintro e w1 ⟨rfl, hu1, hq1⟩
    have hM1 := hM.upd hu1 (by simp; omega)
    have hU1 := ((Upd.refl [q, mb] w)).trans hu1 (by simp)
    clear hn3 hx2 H
    have e3 : Value.int .u16 (n3 : Int) = wv (UInt16.ofNat n3) := by
      show _ = Value.int .u16 ((UInt16.ofNat n3).toNat : Int)
      rw [UInt16.toNat_ofNat_of_lt' (by simpa [UInt16.size] using hlt3)]
    have hmod : ((n3 : Int) % 65536) = (n3 : Int) := by omega
    obtain ⟨Aq, cq, q0, q1, qf0, qf1, hql, hqc⟩ := hq1.open_
    have hz16 : (UInt16.ofNat n3 = 0) ↔ n3 = 0 := by
      constructor
      · intro h
        have := congrArg UInt16.toNat h
        rwa [UInt16.toNat_ofNat_of_lt' (by simpa [UInt16.size] using hlt3)] at this
      · rintro rfl; rfl
    by_cases hc : x2.code = 0 ∧ x2.bs.length = 0
    · have t0 : ((x2.code : Int) == 0) = true := by rw [hc.1]; rfl
      have t1 : ((x2.bs.length : Int) == 0) = true := by rw [hc.2]; rfl
      rw [show shShare M (UInt16.ofNat n3) x2 = ({ M with selg := UInt16.ofNat n3 }, x2) by unfold shShare; rw [if_pos hc]] at HE2
      clear hc
      obtain ⟨vc21, hcv21, -⟩ := hM1.get (i := 21) rfl
      have cc21 := hM1.cell hcv21
      have ff21 := hM1.blk.frozen 21
      clear hcv21
      have hus2 : Upd [mb] w1 (w1.setCell ⟨mb, 21, none⟩ (wv (UInt16.ofNat n3))) := (Upd.refl _ _).setCell (by simp) _
      have hM2 := hM1.putV (i := 21) (f := .val (wv (UInt16.ofNat n3))) hml hus2 (by simp; omega) (hM1.blk.set_ 21 (wv (UInt16.ofNat n3))) rfl rfl
      have hq2 := hq1.upd hus2 (by simp; omega) (by simp; omega)
      have hU2 := (hU1).trans hus2 (by simp)
      obtain ⟨wY, hwY⟩ : ∃ wY, (w1.setCell ⟨mb, 21, none⟩ (wv (UInt16.ofNat n3))) = wY := ⟨_, rfl⟩
      rw [hwY] at hq2 hM2 hU2
      have HWY := hid hwY
      clear hwY
      by_cases hz : n3 = 0
      · have g0 : ((n3 : Int) == 0) = true := by rw [hz]; rfl
        have HE3 := hid (show shShare0 (UInt16.ofNat n3) ({ M with selg := UInt16.ofNat n3 }, x2) = ({ M with selg := UInt16.ofNat n3 }, (x2).fail 1) by unfold shShare0; rw [if_pos (hz16.2 hz)])
        clear hz hz16
        have H := hid (fail_any hq2 1)
        go_wp2_with fail
        rw [HWY.out]
        refine H.out.mono ?_
        rintro e w3 ⟨rfl, hu3, hq3⟩
        have hM3 := hM2.upd hu3 (by simp; omega)
        have hU3 := (hU2).trans hu3 (by simp)

        go_wp2
        go_end0
        exact ⟨rfl, hU3, by rw [HE2.out, HE3.out]; exact hq3, by rw [HE2.out, HE3.out]; exact ⟨_, MSt.wide (MSt.cast hM3 rfl) (Nat.le_trans hhi hU3.size), MSt.noOwn hM3 rfl hiq⟩⟩
      · have g0 : ((n3 : Int) == 0) = false := by rw [beq_eq_false_iff_ne]; omega
        have HE3 := hid (show shShare0 (UInt16.ofNat n3) ({ M with selg := UInt16.ofNat n3 }, x2) = ({ M with selg := UInt16.ofNat n3 }, x2) by unfold shShare0; rw [if_neg (fun h => hz (hz16.1 h))])
        clear hz hz16
        go_wp2
        rw [HWY.out]
        go_end0
        exact ⟨rfl, hU2, by rw [HE2.out, HE3.out]; exact hq2, by rw [HE2.out, HE3.out]; exact ⟨_, MSt.wide (MSt.cast hM2 rfl) (Nat.le_trans hhi hU2.size), MSt.noOwn hM2 rfl hiq⟩⟩
    · by_cases t0 : x2.code = 0
      · have t1 : ¬ x2.bs.length = 0 := fun h => hc ⟨t0, h⟩
        replace t0 : ((x2.code : Int) == 0) = true := by rw [t0]; rfl
        replace t1 : ((x2.bs.length : Int) == 0) = false := by rw [beq_eq_false_iff_ne]; omega
        rw [show shShare M (UInt16.ofNat n3) x2 = ({ M with sg := UInt16.ofNat n3, sd := (x2.vec 2 1 65535).1 }, (x2.vec 2 1 65535).2) by unfold shShare; rw [if_neg hc]] at HE2
        clear hc
        obtain ⟨xs, hxs⟩ : ∃ xs, (x2.vec 2 1 65535).1 = xs := ⟨_, rfl⟩
        obtain ⟨x3, hx3⟩ : ∃ x3, (x2.vec 2 1 65535).2 = x3 := ⟨_, rfl⟩
        rw [hxs, hx3] at HE2
        have H := hid (vec_any hq1 2 1 65535 (by omega))
        go_wp2_with fail
        refine H.out.mono ?_
        rintro e w2 ⟨v1, rfl, hu2, hq2, hyr⟩
        have hM2 := hM1.upd hu2 (by simp; omega)
        have hU2 := (hU1).trans hu2 (by simp)
        rw [hxs] at hyr
        rw [hx3] at hq2
        obtain ⟨A1, c1, rfl, hyr, -, -⟩ := Byt.form hyr rfl
        clear hxs hx3 H q0 q1 qf0 qf1
        obtain ⟨vc13, hcv13, -⟩ := hM2.get (i := 13) rfl
        have cc13 := hM2.cell hcv13
        have ff13 := hM2.blk.frozen 13
        clear hcv13
        obtain ⟨vc14, hcv14, -⟩ := hM2.get (i := 14) rfl
        have cc14 := hM2.cell hcv14
        have ff14 := hM2.blk.frozen 14
        clear hcv14
        have hus3 : Upd [mb] w2 (w2.setCell ⟨mb, 13, none⟩ (wv (UInt16.ofNat n3))) := (Upd.refl _ _).setCell (by simp) _
        have hM3 := hM2.putV (i := 13) (f := .val (wv (UInt16.ofNat n3))) hml hus3 (by simp; omega) (hM2.blk.set_ 13 (wv (UInt16.ofNat n3))) rfl rfl
        have hq3 := hq2.upd hus3 (by simp; omega) (by simp; omega)
        have hU3 := (hU2).trans hus3 (by simp)
        have hyr := Row.upd hyr hus3 (by simp; omega)
        have hus4 : Upd [mb] (w2.setCell ⟨mb, 13, none⟩ (wv (UInt16.ofNat n3))) ((w2.setCell ⟨mb, 13, none⟩ (wv (UInt16.ofNat n3))).setCell ⟨mb, 14, none⟩ (.slice A1 xs.length c1)) := (Upd.refl _ _).setCell (by simp) _
        have hM4 := hM3.putV (i := 14) (f := .byt xs) hml hus4 (by simp; omega) (hM3.blk.set_ 14 (.slice A1 xs.length c1)) (Row.upd hyr hus4 (by simp; omega)) rfl
        have hq4 := hq3.upd hus4 (by simp; omega) (by simp; omega)
        have hU4 := (hU3).trans hus4 (by simp)
        obtain ⟨wY, hwY⟩ : ∃ wY, ((w2.setCell ⟨mb, 13, none⟩ (wv (UInt16.ofNat n3))).setCell ⟨mb, 14, none⟩ (.slice A1 xs.length c1)) = wY := ⟨_, rfl⟩
        rw [hwY] at hq4 hM4 hU4
        have HWY := hid hwY
        clear hwY
        by_cases hz : n3 = 0
        · have g0 : ((n3 : Int) == 0) = true := by rw [hz]; rfl
          have HE3 := hid (show shShare0 (UInt16.ofNat n3) ({ M with sg := UInt16.ofNat n3, sd := xs }, x3) = ({ M with sg := UInt16.ofNat n3, sd := xs }, (x3).fail 1) by unfold shShare0; rw [if_pos (hz16.2 hz)])
          clear hz hz16
          have H := hid (fail_any hq4 1)
          go_wp2_with fail
          rw [HWY.out]
          refine H.out.mono ?_
          rintro e w5 ⟨rfl, hu5, hq5⟩
          have hM5 := hM4.upd hu5 (by simp; omega)
          have hU5 := (hU4).trans hu5 (by simp)

          go_wp2
          go_end0
          exact ⟨rfl, hU5, by rw [HE2.out, HE3.out]; exact hq5, by rw [HE2.out, HE3.out]; exact ⟨_, MSt.wide (MSt.cast hM5 rfl) (Nat.le_trans hhi hU5.size), MSt.noOwn hM5 rfl hiq⟩⟩
        · have g0 : ((n3 : Int) == 0) = false := by rw [beq_eq_false_iff_ne]; omega
          have HE3 := hid (show shShare0 (UInt16.ofNat n3) ({ M with sg := UInt16.ofNat n3, sd := xs }, x3) = ({ M with sg := UInt16.ofNat n3, sd := xs }, x3) by unfold shShare0; rw [if_neg (fun h => hz (hz16.1 h))])
          clear hz hz16
          go_wp2
          rw [HWY.out]
          go_end0
          exact ⟨rfl, hU4, by rw [HE2.out, HE3.out]; exact hq4, by rw [HE2.out, HE3.out]; exact ⟨_, MSt.wide (MSt.cast hM4 rfl) (Nat.le_trans hhi hU4.size), MSt.noOwn hM4 rfl hiq⟩⟩
      · replace t0 : ((x2.code : Int) == 0) = false := by rw [beq_eq_false_iff_ne]; omega
        rw [show shShare M (UInt16.ofNat n3) x2 = ({ M with sg := UInt16.ofNat n3, sd := (x2.vec 2 1 65535).1 }, (x2.vec 2 1 65535).2) by unfold shShare; rw [if_neg hc]] at HE2
        clear hc
        obtain ⟨xs, hxs⟩ : ∃ xs, (x2.vec 2 1 65535).1 = xs := ⟨_, rfl⟩
        obtain ⟨x3, hx3⟩ : ∃ x3, (x2.vec 2 1 65535).2 = x3 := ⟨_, rfl⟩
        rw [hxs, hx3] at HE2
        have H := hid (vec_any hq1 2 1 65535 (by omega))
        go_wp2_with fail
        refine H.out.mono ?_
        rintro e w2 ⟨v1, rfl, hu2, hq2, hyr⟩
        have hM2 := hM1.upd hu2 (by simp; omega)
        have hU2 := (hU1).trans hu2 (by simp)
        rw [hxs] at hyr
        rw [hx3] at hq2
        obtain ⟨A1, c1, rfl, hyr, -, -⟩ := Byt.form hyr rfl
        clear hxs hx3 H q0 q1 qf0 qf1
        obtain ⟨vc13, hcv13, -⟩ := hM2.get (i := 13) rfl
        have cc13 := hM2.cell hcv13
        have ff13 := hM2.blk.frozen 13
        clear hcv13
        obtain ⟨vc14, hcv14, -⟩ := hM2.get (i := 14) rfl
        have cc14 := hM2.cell hcv14
        have ff14 := hM2.blk.frozen 14
        clear hcv14
        have hus3 : Upd [mb] w2 (w2.setCell ⟨mb, 13, none⟩ (wv (UInt16.ofNat n3))) := (Upd.refl _ _).setCell (by simp) _
        have hM3 := hM2.putV (i := 13) (f := .val (wv (UInt16.ofNat n3))) hml hus3 (by simp; omega) (hM2.blk.set_ 13 (wv (UInt16.ofNat n3))) rfl rfl
        have hq3 := hq2.upd hus3 (by simp; omega) (by simp; omega)
        have hU3 := (hU2).trans hus3 (by simp)
        have hyr := Row.upd hyr hus3 (by simp; omega)
        have hus4 : Upd [mb] (w2.setCell ⟨mb, 13, none⟩ (wv (UInt16.ofNat n3))) ((w2.setCell ⟨mb, 13, none⟩ (wv (UInt16.ofNat n3))).setCell ⟨mb, 14, none⟩ (.slice A1 xs.length c1)) := (Upd.refl _ _).setCell (by simp) _
        have hM4 := hM3.putV (i := 14) (f := .byt xs) hml hus4 (by simp; omega) (hM3.blk.set_ 14 (.slice A1 xs.length c1)) (Row.upd hyr hus4 (by simp; omega)) rfl
        have hq4 := hq3.upd hus4 (by simp; omega) (by simp; omega)
        have hU4 := (hU3).trans hus4 (by simp)
        obtain ⟨wY, hwY⟩ : ∃ wY, ((w2.setCell ⟨mb, 13, none⟩ (wv (UInt16.ofNat n3))).setCell ⟨mb, 14, none⟩ (.slice A1 xs.length c1)) = wY := ⟨_, rfl⟩
        rw [hwY] at hq4 hM4 hU4
        have HWY := hid hwY
        clear hwY
        by_cases hz : n3 = 0
        · have g0 : ((n3 : Int) == 0) = true := by rw [hz]; rfl
          have HE3 := hid (show shShare0 (UInt16.ofNat n3) ({ M with sg := UInt16.ofNat n3, sd := xs }, x3) = ({ M with sg := UInt16.ofNat n3, sd := xs }, (x3).fail 1) by unfold shShare0; rw [if_pos (hz16.2 hz)])
          clear hz hz16
          have H := hid (fail_any hq4 1)
          go_wp2_with fail
          rw [HWY.out]
          refine H.out.mono ?_
          rintro e w5 ⟨rfl, hu5, hq5⟩
          have hM5 := hM4.upd hu5 (by simp; omega)
          have hU5 := (hU4).trans hu5 (by simp)

          go_wp2
          go_end0
          exact ⟨rfl, hU5, by rw [HE2.out, HE3.out]; exact hq5, by rw [HE2.out, HE3.out]; exact ⟨_, MSt.wide (MSt.cast hM5 rfl) (Nat.le_trans hhi hU5.size), MSt.noOwn hM5 rfl hiq⟩⟩
        · have g0 : ((n3 : Int) == 0) = false := by rw [beq_eq_false_iff_ne]; omega
          have HE3 := hid (show shShare0 (UInt16.ofNat n3) ({ M with sg := UInt16.ofNat n3, sd := xs }, x3) = ({ M with sg := UInt16.ofNat n3, sd := xs }, x3) by unfold shShare0; rw [if_neg (fun h => hz (hz16.1 h))])
          clear hz hz16
          go_wp2
          rw [HWY.out]
          go_end0
          exact ⟨rfl, hU4, by rw [HE2.out, HE3.out]; exact hq4, by rw [HE2.out, HE3.out]; exact ⟨_, MSt.wide (MSt.cast hM4 rfl) (Nat.le_trans hhi hU4.size), MSt.noOwn hM4 rfl hiq⟩⟩
  rw [decide_eq_false hk51] at d51
  by_cases hk41 : k = 41
  · rw [decide_eq_true hk41] at d41
    have HE2 := hid (show shRd M k x = ({ M with sip := true, si := UInt16.ofNat (x.num 2).1 }, (x.num 2).2) by rw [hk41]; rfl)
    clear hk41
    obtain ⟨n3, hn3⟩ : ∃ n, (x.num 2).1 = n := ⟨_, rfl⟩
    obtain ⟨x2, hx2⟩ : ∃ x2, (x.num 2).2 = x2 := ⟨_, rfl⟩
    have hlt3 : n3 < 65536 := by rw [← hn3]; exact num2_lt _
    rw [hn3, hx2] at HE2
    have H := hid (num_any hq 2 (by omega))
    rw [hn3, hx2] at H
    go_wp2_with fail
    refine H.out.mono ?_
    rintro e w1 ⟨rfl, hu1, hq1⟩
    have hM1 := hM.upd hu1 (by simp; omega)
    have hU1 := ((Upd.refl [q, mb] w)).trans hu1 (by simp)
    clear hn3 hx2 H
    have e3 : Value.int .u16 (n3 : Int) = wv (UInt16.ofNat n3) := by
      show _ = Value.int .u16 ((UInt16.ofNat n3).toNat : Int)
      rw [UInt16.toNat_ofNat_of_lt' (by simpa [UInt16.size] using hlt3)]
    have hmod : ((n3 : Int) % 65536) = (n3 : Int) := by omega
    obtain ⟨vc15, hcv15, -⟩ := hM1.get (i := 15) rfl
    have cc15 := hM1.cell hcv15
    have ff15 := hM1.blk.frozen 15
    clear hcv15
    obtain ⟨vc16, hcv16, -⟩ := hM1.get (i := 16) rfl
    have cc16 := hM1.cell hcv16
    have ff16 := hM1.blk.frozen 16
    clear hcv16
    have hus2 : Upd [mb] w1 (w1.setCell ⟨mb, 15, none⟩ (.bool true)) := (Upd.refl _ _).setCell (by simp) _
    have hM2 := hM1.putV (i := 15) (f := .val (.bool true)) hml hus2 (by simp; omega) (hM1.blk.set_ 15 (.bool true)) rfl rfl
    have hq2 := hq1.upd hus2 (by simp; omega) (by simp; omega)
    have hU2 := (hU1).trans hus2 (by simp)
    have hus3 : Upd [mb] (w1.setCell ⟨mb, 15, none⟩ (.bool true)) ((w1.setCell ⟨mb, 15, none⟩ (.bool true)).setCell ⟨mb, 16, none⟩ (wv (UInt16.ofNat n3))) := (Upd.refl _ _).setCell (by simp) _
    have hM3 := hM2.putV (i := 16) (f := .val (wv (UInt16.ofNat n3))) hml hus3 (by simp; omega) (hM2.blk.set_ 16 (wv (UInt16.ofNat n3))) rfl rfl
    have hq3 := hq2.upd hus3 (by simp; omega) (by simp; omega)
    have hU3 := (hU2).trans hus3 (by simp)
    go_wp2
    go_end0
    exact ⟨rfl, hU3, by rw [HE2.out]; exact hq3, by rw [HE2.out]; exact ⟨_, MSt.wide (MSt.cast hM3 rfl) (Nat.le_trans hhi hU3.size), MSt.noOwn hM3 rfl hiq⟩⟩
  rw [decide_eq_false hk41] at d41
  by_cases hk44 : k = 44
  · rw [decide_eq_true hk44] at d44
    have HE2 := hid (show shRd M k x = ({ M with cookie := (x.vec 2 1 65535).1 }, (x.vec 2 1 65535).2) by rw [hk44]; rfl)
    clear hk44
    obtain ⟨xs, hxs⟩ : ∃ xs, (x.vec 2 1 65535).1 = xs := ⟨_, rfl⟩
    obtain ⟨x2, hx2⟩ : ∃ x2, (x.vec 2 1 65535).2 = x2 := ⟨_, rfl⟩
    rw [hxs, hx2] at HE2
    have H := hid (vec_any hq 2 1 65535 (by omega))
    go_wp2_with fail
    refine H.out.mono ?_
    rintro e w1 ⟨v1, rfl, hu1, hq1, hyr⟩
    have hM1 := hM.upd hu1 (by simp; omega)
    have hU1 := ((Upd.refl [q, mb] w)).trans hu1 (by simp)
    rw [hxs] at hyr
    rw [hx2] at hq1
    obtain ⟨A1, c1, rfl, hyr, -, -⟩ := Byt.form hyr rfl
    clear hxs hx2 H
    obtain ⟨vc20, hcv20, -⟩ := hM1.get (i := 20) rfl
    have cc20 := hM1.cell hcv20
    have ff20 := hM1.blk.frozen 20
    clear hcv20
    have hus2 : Upd [mb] w1 (w1.setCell ⟨mb, 20, none⟩ (.slice A1 xs.length c1)) := (Upd.refl _ _).setCell (by simp) _
    have hM2 := hM1.putV (i := 20) (f := .byt xs) hml hus2 (by simp; omega) (hM1.blk.set_ 20 (.slice A1 xs.length c1)) (Row.upd hyr hus2 (by simp; omega)) rfl
    have hq2 := hq1.upd hus2 (by simp; omega) (by simp; omega)
    have hU2 := (hU1).trans hus2 (by simp)
    go_wp2
    go_end0
    exact ⟨rfl, hU2, by rw [HE2.out]; exact hq2, by rw [HE2.out]; exact ⟨_, MSt.wide (MSt.cast hM2 rfl) (Nat.le_trans hhi hU2.size), MSt.noOwn hM2 rfl hiq⟩⟩
  rw [decide_eq_false hk44] at d44
  by_cases hk11 : k = 11
  · rw [decide_eq_true hk11] at d11
    have HE2 := hid (show shRd M k x = ({ M with pts := (x.vec 1 1 255).1 }, (x.vec 1 1 255).2) by rw [hk11]; rfl)
    clear hk11
    obtain ⟨xs, hxs⟩ : ∃ xs, (x.vec 1 1 255).1 = xs := ⟨_, rfl⟩
    obtain ⟨x2, hx2⟩ : ∃ x2, (x.vec 1 1 255).2 = x2 := ⟨_, rfl⟩
    rw [hxs, hx2] at HE2
    have H := hid (vec_any hq 1 1 255 (by omega))
    go_wp2_with fail
    refine H.out.mono ?_
    rintro e w1 ⟨v1, rfl, hu1, hq1, hyr⟩
    have hM1 := hM.upd hu1 (by simp; omega)
    have hU1 := ((Upd.refl [q, mb] w)).trans hu1 (by simp)
    rw [hxs] at hyr
    rw [hx2] at hq1
    obtain ⟨A1, c1, rfl, hyr, -, -⟩ := Byt.form hyr rfl
    clear hxs hx2 H
    obtain ⟨vc17, hcv17, -⟩ := hM1.get (i := 17) rfl
    have cc17 := hM1.cell hcv17
    have ff17 := hM1.blk.frozen 17
    clear hcv17
    have hus2 : Upd [mb] w1 (w1.setCell ⟨mb, 17, none⟩ (.slice A1 xs.length c1)) := (Upd.refl _ _).setCell (by simp) _
    have hM2 := hM1.putV (i := 17) (f := .byt xs) hml hus2 (by simp; omega) (hM1.blk.set_ 17 (.slice A1 xs.length c1)) (Row.upd hyr hus2 (by simp; omega)) rfl
    have hq2 := hq1.upd hus2 (by simp; omega) (by simp; omega)
    have hU2 := (hU1).trans hus2 (by simp)
    go_wp2
    go_end0
    exact ⟨rfl, hU2, by rw [HE2.out]; exact hq2, by rw [HE2.out]; exact ⟨_, MSt.wide (MSt.cast hM2 rfl) (Nat.le_trans hhi hU2.size), MSt.noOwn hM2 rfl hiq⟩⟩
  rw [decide_eq_false hk11] at d11
  by_cases hk65037 : k = 65037
  · rw [decide_eq_true hk65037] at d65037
    have HE2 := hid (show shRd M k x = ({ M with ech := x.rest.1 }, x.rest.2) by rw [hk65037]; rfl)
    clear hk65037
    obtain ⟨xs, hxs⟩ : ∃ xs, x.rest.1 = xs := ⟨_, rfl⟩
    obtain ⟨x2, hx2⟩ : ∃ x2, x.rest.2 = x2 := ⟨_, rfl⟩
    rw [hxs, hx2] at HE2
    have H := hid (rest_any hq (by omega))
    go_wp2_with fail
    refine H.out.mono ?_
    rintro e w1 ⟨A1, c1, rfl, hyr, hu1, hq1⟩
    have hM1 := hM.upd hu1 (by simp; omega)
    have hU1 := ((Upd.refl [q, mb] w)).trans hu1 (by simp)
    rw [hxs] at hyr
    rw [hx2] at hq1
    rw [hxs]
    clear hxs hx2 H
    obtain ⟨vc18, hcv18, -⟩ := hM1.get (i := 18) rfl
    have cc18 := hM1.cell hcv18
    have ff18 := hM1.blk.frozen 18
    clear hcv18
    have hus2 : Upd [mb] w1 (w1.setCell ⟨mb, 18, none⟩ (.slice A1 xs.length c1)) := (Upd.refl _ _).setCell (by simp) _
    have hM2 := hM1.putV (i := 18) (f := .byt xs) hml hus2 (by simp; omega) (hM1.blk.set_ 18 (.slice A1 xs.length c1)) (Row.upd hyr hus2 (by simp; omega)) rfl
    have hq2 := hq1.upd hus2 (by simp; omega) (by simp; omega)
    have hU2 := (hU1).trans hus2 (by simp)
    go_wp2
    go_end0
    exact ⟨rfl, hU2, by rw [HE2.out]; exact hq2, by rw [HE2.out]; exact ⟨_, MSt.wide (MSt.cast hM2 rfl) (Nat.le_trans hhi hU2.size), MSt.noOwn hM2 rfl hiq⟩⟩
  rw [decide_eq_false hk65037] at d65037
  by_cases hk0 : k = 0
  · rw [decide_eq_true hk0] at d0
    have HE2 := hid (show shRd M k x = ({ M with ack := true }, x) by rw [hk0]; rfl)
    clear hk0
    obtain ⟨vc19, hcv19, -⟩ := hM.get (i := 19) rfl
    have cc19 := hM.cell hcv19
    have ff19 := hM.blk.frozen 19
    clear hcv19
    have hus1 : Upd [mb] w (w.setCell ⟨mb, 19, none⟩ (.bool true)) := (Upd.refl _ _).setCell (by simp) _
    have hM1 := hM.putV (i := 19) (f := .val (.bool true)) hml hus1 (by simp; omega) (hM.blk.set_ 19 (.bool true)) rfl rfl
    have hq1 := hq.upd hus1 (by simp; omega) (by simp; omega)
    have hU1 := ((Upd.refl [q, mb] w)).trans hus1 (by simp)
    go_wp2
    go_end0
    exact ⟨rfl, hU1, by rw [HE2.out]; exact hq1, by rw [HE2.out]; exact ⟨_, MSt.wide (MSt.cast hM1 rfl) (Nat.le_trans hhi hU1.size), MSt.noOwn hM1 rfl hiq⟩⟩
  rw [decide_eq_false hk0] at d0
  obtain ⟨Aq, cq, q0, q1, qf0, qf1, hql, hqc⟩ := hq.open_
  have HE2 := hid (show shRd M k x = (M, (x.take x.bs.length).2) by unfold shRd; rw [if_neg hk5, if_neg hk35, if_neg hk65281, if_neg hk23, if_neg hk16, if_neg hk18, if_neg hk43, if_neg hk51, if_neg hk41, if_neg hk44, if_neg hk11, if_neg hk65037, if_neg hk0])
  clear hk5 hk35 hk65281 hk23 hk16 hk18 hk43 hk51 hk41 hk44 hk11 hk65037 hk0
  have H := hid (take_any hq x.bs.length (by omega))
  go_wp2_with fail
  refine H.out.mono ?_
  rintro e w1 ⟨u1, rfl, hu1, hq1, -, -⟩
  have hM1 := hM.upd hu1 (by simp; omega)
  have hU1 := ((Upd.refl [q, mb] w)).trans hu1 (by simp)
  go_wp2
  go_end0
  exact ⟨rfl, hU1, by rw [HE2.out]; exact hq1, by rw [HE2.out]; exact ⟨_, MSt.wide (MSt.cast hM1 rfl) (Nat.le_trans hhi hU1.size), MSt.noOwn hM1 rfl hiq⟩⟩
end Go.Proofs.Ytcikeghdlolkaaa

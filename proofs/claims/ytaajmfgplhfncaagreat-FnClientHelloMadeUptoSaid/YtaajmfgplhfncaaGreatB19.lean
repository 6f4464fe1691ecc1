/- Texts joined: ChR3, ChR4. -/
import Derived.Deep.LoopGhost
import Derived.Deep.DeepCutAuto
import Derived.StillTailTactics
import Derived.Test.YtaajmfgplhfncaaGreatB18
import Derived.Test.YtaajmfgplhfncaaGreatB12
namespace Go.Proofs.YtaajmfgplhfncaaGreat
open Go.RowKit
set_option maxRecDepth 100000
section
variable {w w' : World} {B lo hi hi' m i j : Nat} {x1 x2 : Value} {T : TypeId} {cs : Array Value} {fs : List Fld} {f1 f2 : Fld} {S : List Nat}
theorem MSt.updn (h : MSt w B lo hi m T cs fs) (hu : Upd S w w') (hn : ∀ k ∈ S, B ≤ k ∧ k ≠ m ∧ NoOwn k cs fs) : MSt w' B lo hi m T cs fs :=
  ⟨h.blk.upd hu (fun hk => (hn m hk).2.1 rfl), h.len, fun i v f h1 h2 => (h.ok i v f h1 h2).upd hu (fun k hk => (hn k hk).1) fun h3 g h4 hm => (hn g hm).2.2 i v f g h1 h2 h3 h4 rfl, h.own, h.ap⟩
theorem MSt.put2 (h : MSt w B lo hi m T cs fs) (hij : i ≠ j) (hu : Upd S w w') (hS : ∀ k ∈ S, B ≤ k ∧ (k < lo ∨ hi ≤ k))
    (hb : Blk w' m T ((cs.setIfInBounds i x1).setIfInBounds j x2)) (h1 : FOk w' B lo x1 f1) (h2 : FOk w' B lo x2 f2) (hx1 : ∀ g, x1.ownBlock = some g → hi ≤ g ∧ lo ≤ g ∧ g < hi') (hx2 : ∀ g, x2.ownBlock = some g → hi ≤ g ∧ lo ≤ g ∧ g < hi')
    (hap : ∀ g, x1.ownBlock = some g → x2.ownBlock ≠ some g) (hh : hi ≤ hi') : MSt w' B lo hi' m T ((cs.setIfInBounds i x1).setIfInBounds j x2) ((fs.set i f1).set j f2) := by
  have cl : ∀ {k : Nat} {v : Value} {f : Fld}, ((cs.setIfInBounds i x1).setIfInBounds j x2)[k]? = some v → ((fs.set i f1).set j f2)[k]? = some f → (k = j ∧ v = x2 ∧ f = f2) ∨ (k = i ∧ v = x1 ∧ f = f1) ∨ (k ≠ i ∧ k ≠ j ∧ cs[k]? = some v ∧ fs[k]? = some f) := by
    intro k v f e1 e2
    by_cases hj : k = j
    · subst hj
      have hl : k < fs.length := by have := (List.getElem?_eq_some_iff.1 e2).1; simpa using this
      rw [Array.getElem?_setIfInBounds_self_of_lt (by rw [Array.size_setIfInBounds, h.len]; exact hl)] at e1
      rw [List.getElem?_set_self (by simpa using hl)] at e2
      cases e1; cases e2
      exact .inl ⟨rfl, rfl, rfl⟩
    · rw [Array.getElem?_setIfInBounds_ne (Ne.symm hj)] at e1
      rw [List.getElem?_set_ne (Ne.symm hj)] at e2
      by_cases hi : k = i
      · subst hi
        have hl : k < fs.length := by have := (List.getElem?_eq_some_iff.1 e2).1; simpa using this
        rw [Array.getElem?_setIfInBounds_self_of_lt (by rw [h.len]; exact hl)] at e1
        rw [List.getElem?_set_self hl] at e2
        cases e1; cases e2
        exact .inr (.inl ⟨rfl, rfl, rfl⟩)
      · rw [Array.getElem?_setIfInBounds_ne (Ne.symm hi)] at e1
        rw [List.getElem?_set_ne (Ne.symm hi)] at e2
        exact .inr (.inr ⟨hi, hj, e1, e2⟩)
  refine ⟨hb, by simp [h.len], ?_, ?_, ?_⟩
  · intro k v f e1 e2
    rcases cl e1 e2 with ⟨-, rfl, rfl⟩ | ⟨-, rfl, rfl⟩ | ⟨-, -, e3, e4⟩
    · exact h2
    · exact h1
    · refine (h.ok k v f e3 e4).upd hu (fun z hz => (hS z hz).1) fun e5 g e6 hm => ?_
      have := h.own k v f g e3 e4 e5 e6
      have := hS g hm
      omega
  · intro k v f g e1 e2 e5 e6
    rcases cl e1 e2 with ⟨-, rfl, rfl⟩ | ⟨-, rfl, rfl⟩ | ⟨-, -, e3, e4⟩
    · exact (hx2 g e6).2
    · exact (hx1 g e6).2
    · have := h.own k v f g e3 e4 e5 e6; omega
  · intro k1 k2 v1 v2 g1 g2 g hne a1 a2 b1 b2 d1 d2 e1 e2
    rcases cl a1 b1 with ⟨p1, rfl, rfl⟩ | ⟨p1, rfl, rfl⟩ | ⟨p1, p2, p3, p4⟩ <;> rcases cl a2 b2 with ⟨q1, rfl, rfl⟩ | ⟨q1, rfl, rfl⟩ | ⟨q1, q2, q3, q4⟩
    · omega
    · exact hap g e2 e1
    · have := h.own k2 v2 g2 g q3 q4 d2 e2; have := hx2 g e1; omega
    · exact hap g e1 e2
    · omega
    · have := h.own k2 v2 g2 g q3 q4 d2 e2; have := hx1 g e1; omega
    · have := h.own k1 v1 g1 g p3 p4 d1 e1; have := hx2 g e2; omega
    · have := h.own k1 v1 g1 g p3 p4 d1 e1; have := hx1 g e2; omega
    · exact h.ap k1 k2 v1 v2 g1 g2 g hne p3 q3 p4 q4 d1 d2 e1 e2
theorem set2a {a b c : Value} (hij : i ≠ j) : ((cs.setIfInBounds i a).setIfInBounds j b).setIfInBounds i c = (cs.setIfInBounds i c).setIfInBounds j b := by
  rw [Array.setIfInBounds_comm _ _ (Ne.symm hij) (xs := cs.setIfInBounds i a), Array.setIfInBounds_setIfInBounds]
end
theorem rowN_nil (e : TypeId) : rowN e [] = .val (.slice none 0 0) := rfl
theorem rowN_ne {e : TypeId} {us : List Value} (h : us ≠ []) : rowN e us = .row e us := by unfold rowN; rw [if_neg h]
theorem vecN_ne {ls : List (List UInt8)} (h : ls ≠ []) : vecN ls = .vec ls := by unfold vecN; rw [if_neg h]
section
variable {w : World} {N lo hi q mb : Nat} {M M' : Ch} {cs : Array Value} {d x h : List UInt8}
set_option maxHeartbeats 8000000 in
theorem x_ks {l : List (UInt16 × List UInt8)} (hq : Rd w N q ⟨be 2 (kshB l).length ++ kshB l, 0⟩) (hM : MSt w N lo hi mb 29 cs (chFR M)) (hml : mb < lo) (hNm : N ≤ mb) (hlo : lo ≤ hi) (hiq : hi ≤ q) (hhi : hi ≤ w.heap.size) (hg : M.kg = []) (hd : M.kd = []) (h0 : l ≠ []) (hne : ∀ e ∈ l, e.2 ≠ []) (hx : (kshB l).length < 65536) :
    Calls Tryz.prog 63 #[.pointer (some ⟨q, 0, none⟩), .int .u16 51, .pointer (some ⟨mb, 0, none⟩)] w (ChXP w N lo q mb { M with kg := l.map (·.1), kd := l.map (·.2) }) := by
  have hqN := hq.1
  have hql0 := hq.lt
  have hlp : lp 2 (be 2 (kshB l).length ++ kshB l) = some (kshB l, []) := by
    have := lpR 2 (kshB l) [] (.inr ⟨rfl, hx⟩)
    rwa [List.append_nil] at this
  have hc20 : cs[20]? = some (.slice none 0 0) := by
    obtain ⟨v, h1, h2⟩ := hM.get (i := 20) rfl
    rw [h1]
    have h2 : FOk w N lo v (rowN 22 (M.kg.map wv)) := h2
    rw [hg, List.map_nil, rowN_nil] at h2
    exact congrArg some h2
  have hc21 : cs[21]? = some (.slice none 0 0) := by
    obtain ⟨v, h1, h2⟩ := hM.get (i := 21) rfl
    rw [h1]
    have h2 : FOk w N lo v (vecN M.kd) := h2
    rw [hd, show vecN [] = .val (.slice none 0 0) from rfl] at h2
    exact congrArg some h2
  have hcl : cs.size = 31 := hM.len
  have hsetn : (cs.setIfInBounds 20 (.slice none 0 0)).setIfInBounds 21 (.slice none 0 0) = cs := by rw [set_self hc20, set_self hc21]
  have HLP := hid hlp
  have HX := hid hx
  have HNE := hid hne
  have HG := hid hg
  have HD := hid hd
  have HSN := hid hsetn
  have HCL := hid hcl
  clear hlp hx hne hc20 hc21 hg hd hsetn hcl
  go_enter Tryz.func63, Tryz.ntmps63
  have H := hid (vecS hq 2 0 65535 HLP.out (by omega) (by omega) (by have := HX.out; omega))
  go_wp2_with fail
  refine H.out.mono ?_
  rintro e w1 ⟨A1, c1, rfl, hu1, hq1, hyr⟩
  have hM1 := hM.upd hu1 (by simp; omega)
  have hU1 := (Upd.refl [q, mb] w).trans hu1 (by simp)
  have hs1 := hu1.size
  clear H HLP
  have H := hid (withinS (N' := N) hq1 (by omega) hyr)
  go_wp2_with fail
  refine H.out.mono ?_
  rintro e w2 ⟨rfl, hu2, hy2⟩
  have hM2 := hM1.upd hu2 (by simp)
  have hq2 := hq1.upd hu2 (by simp) (by simp)
  have hU2 := hU1.trans hu2 (by simp)
  have hqy : q < w1.heap.size := by omega
  have hyy : hi ≤ w1.heap.size ∧ w.heap.size ≤ w1.heap.size ∧ w1.heap.size < w2.heap.size := by have := hy2.lt; omega
  clear H hyr hu1 hu2 hM1 hU1 hq1
  generalize w1.heap.size = y at hy2 hqy hyy ⊢
  have hyl := hy2.lt
  have hb2 : Blk w2 mb 29 ((cs.setIfInBounds 20 (.slice none 0 0)).setIfInBounds 21 (.slice none 0 0)) := by rw [HSN.out]; exact hM2.blk
  have HB2 := hid hb2
  have HM2 := hid hM2
  have HQ2 := hid hq2
  have HY2 := hid hy2
  have HU2 := hid hU2
  have hym : y ≠ mb := by omega
  clear hb2 hM2 hq2 hy2 hU2
  go_wp2_with fail
  go_loopg [] l.length (fun gk wr => ∃ (l1 l2 : List (UInt16 × List UInt8)) (v1 v2 : Value) (us : List Value), l = l1 ++ l2 ∧ gk = l2.length ∧ Rd wr N y ⟨kshB l2, 0⟩ ∧ Blk wr mb 29 ((cs.setIfInBounds 20 v1).setIfInBounds 21 v2) ∧ Own wr w2.heap.size 22 v1 ((l1.map (·.1)).map wv) ∧ Own wr w2.heap.size 23 v2 us ∧ All2 (fun u z => Byt wr N u z) us (l1.map (·.2)) ∧ Upd [y, mb] w2 wr)
  case atStart => exact ⟨[], l, .slice none 0 0, .slice none 0 0, [], rfl, rfl, HY2.out, HB2.out, Own.nil_ _ _ _, Own.nil_ _ _ _, trivial, Upd.refl _ _⟩
  case round =>
    obtain ⟨l1, l2, v1, v2, us, htot, rfl, hy, hbr, ho1, ho2, hall, hur⟩ := hrel
    have HT := hid htot
    have hul : us.length = l1.length := by have := hall.length; simpa using this
    have hlen : ∀ t : List (UInt16 × List UInt8), t.length ≤ (kshB t).length := by
      intro t
      induction t with
      | nil => simp
      | cons z t ih =>
        obtain ⟨zk, zd⟩ := z
        rw [kshB_cons, List.length_append, be_len, List.length_append, be_len, List.length_append, List.length_cons]; omega
    have hl1 : l1.length ≤ 65536 := by have h1 := hlen l; have h2 := HX.out; have h3 := congrArg List.length htot; rw [List.length_append] at h3; omega
    have hsz := hur.size
    clear htot hlen
    rcases l2 with _ | ⟨⟨k, d⟩, l3⟩
    · have hle : l = l1 := by have := HT.out; rwa [List.append_nil] at this
      have hy : Rd wr N y ⟨[], 0⟩ := hy
      obtain ⟨Ay, cy, q0, q1, qf0, qf1, -, -⟩ := hy.open_
      have hqr := HQ2.out.upd hur (by simp; omega) (by simp; omega)
      have H := hid (doneS hqr hy (by omega) (by omega))
      have HR := hid (And.intro hbr (And.intro ho1 (And.intro ho2 (And.intro hall (And.intro hur hle)))))
      clear hbr ho1 ho2 hall hur hle hul
      go_wp2_with fail
      refine H.out.mono ?_
      rintro e w5 ⟨rfl, hu5, hq5⟩
      clear H q0 q1 qf0 qf1
      go_wp2
      go_end0
      obtain ⟨hbr, ho1, ho2, hall, hur, hle⟩ := HR.out
      subst hle
      have hg1 := fun g hg => ho1.ge (g := g) hg
      have hg2 := fun g hg => ho2.ge (g := g) hg
      have hMr := HM2.out.put2 (i := 20) (j := 21) (f1 := .row 22 ((l.map (fun z : UInt16 × List UInt8 => z.1)).map wv)) (f2 := .vec (l.map (fun z : UInt16 × List UInt8 => z.2))) (hi' := wr.heap.size) (by decide) hur (by simp; omega) hbr (show FOk wr N lo v1 (.row 22 ((l.map (fun z : UInt16 × List UInt8 => z.1)).map wv)) from ho1.less8 (by omega)) (show FOk wr N lo v2 (.vec (l.map (fun z : UInt16 × List UInt8 => z.2))) from ⟨us, ho2.less8 (by omega), hall⟩)
        (fun g hg => by have := hg1 g hg; omega) (fun g hg => by have := hg2 g hg; omega) (ho1.apart8 ho2 (by decide)) (by omega)
      have hno : ∀ z, hi ≤ z → z < w2.heap.size → NoOwn z ((cs.setIfInBounds 20 v1).setIfInBounds 21 v2) (((chFR M).set 20 (.row 22 ((l.map (·.1)).map wv))).set 21 (.vec (l.map (·.2)))) := fun z hz1 hz2 =>
        ((HM2.out.noOwn hz1).put (fun _ g hg => by have := hg1 g hg; omega)).put (fun _ g hg => by have := hg2 g hg; omega)
      have hM5 := hMr.updn hu5 (by
        intro z hz
        rcases List.mem_cons.1 hz with rfl | hz
        · exact ⟨hqN, by omega, hno _ hiq (by omega)⟩
        · have : z = y := by simpa using hz
          subst this
          exact ⟨by omega, hym, hno _ (by omega) (by omega)⟩)
      have efs : ((chFR M).set 20 (.row 22 ((l.map (·.1)).map wv))).set 21 (.vec (l.map (·.2))) = chFR { M with kg := l.map (·.1), kd := l.map (·.2) } := by
        rw [← rowN_ne (e := 22) (us := (l.map (·.1)).map wv) (by simpa using h0), ← vecN_ne (ls := l.map (·.2)) (by simpa using h0)]
        rfl
      exact ⟨rfl, (HU2.out.trans hur (by simp; omega)).trans hu5 (by simp; omega), hq5, _, MSt.wide (MSt.cast hM5 efs) hu5.size, (hno q hiq (by omega)).cast efs⟩
    · have hyX := hy
      rw [kshB_cons] at hyX
      have hdne := HNE.out (k, d) (by rw [HT.out]; simp)
      have hdl : d.length < 65536 := by
        have h1 : (kshB l).length = (kshB (l1 ++ (k, d) :: l3)).length := by rw [← HT.out]
        have h2 := HX.out
        have h3 : (kshB (l1 ++ (k, d) :: l3)).length = (kshB l1).length + (2 + (2 + (d.length + (kshB l3).length))) := by
          rw [show kshB (l1 ++ (k, d) :: l3) = kshB l1 ++ kshB ((k, d) :: l3) by simp [kshB], kshB_cons, List.length_append, List.length_append, be_len, List.length_append, be_len, List.length_append]
        omega
      have hd1 : 1 ≤ d.length := List.length_pos_iff.2 hdne
      obtain ⟨X, hX⟩ : ∃ X, kshB ((k, d) :: l3) = X := ⟨_, rfl⟩
      have hXp : decide (0 < X.length) = true := decide_eq_true (by rw [← hX, kshB_cons, List.length_append, be_len]; omega)
      rw [hX] at hy
      obtain ⟨Ay, cy, q0, q1, qf0, qf1, -, -⟩ := hy.open_
      have c1 : ((cs.setIfInBounds 20 v1).setIfInBounds 21 v2)[20]? = some v1 := by
        rw [Array.getElem?_setIfInBounds_ne (by decide), Array.getElem?_setIfInBounds_self_of_lt (by rw [HCL.out]; decide)]
      have HR := hid (And.intro hbr (And.intro ho1 (And.intro ho2 (And.intro hall (And.intro hur (And.intro hyX (And.intro c1 hul)))))))
      clear hbr ho1 ho2 hall hur hyX c1 hul hX hy hdne
      go_upto_region 9 with fail
      obtain ⟨hbr, ho1, ho2, hall, hur, hyX, c1, hul⟩ := HR.out
      refine wp_region_cast (ops' := kr1L.toArray) (by kernel_rfl) (kr1_wp (by kernel_rfl) rfl rfl hbr c1 ho1 ho2 (by simp; omega) hsz hyX hym (by omega) hNm ?_)
      clear hbr ho1 ho2 hall hur hyX c1 hul q0 q1 qf0 qf1
      intro y0 y1 y2 y3 y4 y5 y6 y7 y8 y9 y10 y11 wY v1' hbY hoY1 hoY2 hyY hUP hBY
      rw [set2a (by decide)] at hbY
      have c2 : ((cs.setIfInBounds 20 v1').setIfInBounds 21 v2)[21]? = some v2 := by
        rw [Array.getElem?_setIfInBounds_self_of_lt (by rw [Array.size_setIfInBounds, HCL.out]; decide)]
      have hlp2 := lp_b2 d (kshB l3) hdl
      have HY := hid (And.intro hbY (And.intro hoY1 (And.intro hoY2 (And.intro hyY (And.intro hUP (And.intro hBY (And.intro c2 hlp2)))))))
      have hszY := (hUP _ HR.out.2.2.2.2.1 (Nat.le_refl _)).size
      clear hbY hoY1 hoY2 hyY hUP hBY c2 hlp2
      simp only [List.take_succ_cons, List.take_zero, List.drop_succ_cons, List.drop_zero, List.cons_append, List.nil_append]
      rename_i K8 hK8
      refine hK8 _ _ ?_
      clear hK8
      go_upto_region 10 with fail
      obtain ⟨hbY, hoY1, hoY2, hyY, hUP, hBY, c2, hlp2⟩ := HY.out
      refine wp_region_cast (ops' := kr2L.toArray) (by kernel_rfl) (kr2_wp hlp2 hd1 (by omega) (by kernel_rfl) rfl rfl hbY c2 hoY2 hoY1 (by have := HR.out.2.2.2.2.2.2.2; omega) hszY hyY hym (by omega) hNm ?_)
      clear hbY hoY1 hoY2 hyY hUP hBY c2 hlp2
      intro z0 z1 z2 z3 z4 z5 z6 z7 z8 z9 z10 wZ v2' hbZ A9 c9 hyr9 hoZ2 hoZ1 hyZ hUPZ hBYZ
      rw [show ((cs.setIfInBounds 20 v1').setIfInBounds 21 v2).setIfInBounds 21 v2' = (cs.setIfInBounds 20 v1').setIfInBounds 21 v2' by rw [Array.setIfInBounds_setIfInBounds]] at hbZ
      have HZ := hid (And.intro hbZ (And.intro hyr9 (And.intro hoZ2 (And.intro hoZ1 (And.intro hyZ (And.intro hUPZ hBYZ))))))
      clear hbZ hyr9 hoZ2 hoZ1 hyZ hUPZ hBYZ
      simp only [List.take_succ_cons, List.take_zero, List.drop_succ_cons, List.drop_zero, List.cons_append, List.nil_append]
      rename_i K9 hK9
      refine hK9 _ _ ?_
      clear hK9
      go_wp2
      go_roundg l3.length
      case measure => simp
      case rel =>
        obtain ⟨hbr, ho1, ho2, hall, hur, hyX, c1, hul⟩ := HR.out
        obtain ⟨hbY, hoY1, hoY2, hyY, hUP, hBY, c2, hlp2⟩ := HY.out
        obtain ⟨hbZ, hyr9, hoZ2, hoZ1, hyZ, hUPZ, hBYZ⟩ := HZ.out
        refine ⟨l1 ++ [(k, d)], l3, v1', v2', us ++ [.slice A9 d.length c9], by rw [HT.out]; simp, rfl, hyZ, hbZ, ?_, hoZ2, ?_, hUPZ _ (hUP _ hur (Nat.le_refl _)) (Nat.le_refl _)⟩
        · rw [List.map_append, List.map_append]; exact hoZ1
        · rw [List.map_append]
          exact (hall.imp fun u z hz => hBYZ u z (hBY u z hz)).append ⟨hyr9, trivial⟩
set_option maxHeartbeats 8000000 in
theorem rk_Ch {l : List (List UInt8 × UInt32)} {b : List (List UInt8)} (hq : Rd w N q ⟨be 2 (identsB l).length ++ (identsB l ++ (be 2 (vecsB 1 b).length ++ vecsB 1 b)), 0⟩) (hM : MSt w N lo hi mb 29 cs (chFR M)) (hml : mb < lo) (hNm : N ≤ mb) (hlo : lo ≤ hi) (hiq : hi ≤ q) (hhi : hi ≤ w.heap.size) (hg : M.pl = []) (hd : M.pa = []) (h0 : l ≠ []) (hne : ∀ e ∈ l, e.1 ≠ []) (hbl : b.length = l.length) (hball : ∀ x ∈ b, 32 ≤ x.length ∧ x.length < 256) (hx : (identsB l).length < 65536) (hxb : (vecsB 1 b).length < 65536) :
    Calls Tryz.prog 81 #[.pointer (some ⟨q, 0, none⟩), .pointer (some ⟨mb, 0, none⟩)] w (ChXP w N lo q mb { M with pl := l.map (·.1), pa := l.map (·.2), pb := b }) := by
  have hqN := hq.1
  have hql0 := hq.lt
  have hlp : lp 2 (be 2 (identsB l).length ++ (identsB l ++ (be 2 (vecsB 1 b).length ++ vecsB 1 b))) = some (identsB l, be 2 (vecsB 1 b).length ++ vecsB 1 b) := lp_b2 _ _ hx
  have hlpb : lp 2 (be 2 (vecsB 1 b).length ++ vecsB 1 b) = some (vecsB 1 b, []) := by
    have := lpR 2 (vecsB 1 b) [] (.inr ⟨rfl, hxb⟩)
    rwa [List.append_nil] at this
  have hx7 : 7 ≤ (identsB l).length := by
    cases l with
    | nil => exact absurd rfl h0
    | cons z t =>
      obtain ⟨za, zb⟩ := z
      have := List.length_pos_iff.2 (hne (za, zb) (by simp))
      rw [identsB_cons, List.length_append, be_len, List.length_append, List.length_append, be_len]; simp only at this; omega
  have hb2l : 2 ≤ (vecsB 1 b).length := by
    cases b with
    | nil => rw [List.length_nil] at hbl; exact absurd (List.eq_nil_of_length_eq_zero hbl.symm) h0
    | cons z t =>
      have := (hball z (by simp)).1
      rw [vecsB1_cons, List.length_append, be_len, List.length_append]; omega
  have hnone : noneB b 1 31 = true := by
    unfold noneB
    rw [List.all_eq_true]
    intro z hz
    have := (hball z hz).1
    simp; omega
  have hbne : ∀ z ∈ b, z ≠ [] ∧ z.length < 256 := fun z hz => ⟨fun e => by have := (hball z hz).1; rw [e] at this; simp at this, (hball z hz).2⟩
  have hbl6 : b.length ≤ 65536 := by
    have key : ∀ t : List (List UInt8), t.length ≤ (vecsB 1 t).length := by
      intro t
      induction t with
      | nil => simp
      | cons z t ih => rw [vecsB1_cons, List.length_append, be_len, List.length_append, List.length_cons]; omega
    have := key b; omega
  have hnq : ((b.length : Int) != (l.length : Int)) = false := by rw [hbl]; simp
  have hc24 : cs[24]? = some (.slice none 0 0) := by
    obtain ⟨v, h1, h2⟩ := hM.get (i := 24) rfl
    rw [h1]
    have h2 : FOk w N lo v (vecN M.pl) := h2
    rw [hg, show vecN [] = .val (.slice none 0 0) from rfl] at h2
    exact congrArg some h2
  have hc25 : cs[25]? = some (.slice none 0 0) := by
    obtain ⟨v, h1, h2⟩ := hM.get (i := 25) rfl
    rw [h1]
    have h2 : FOk w N lo v (rowN 97 (M.pa.map uv)) := h2
    rw [hd, List.map_nil, rowN_nil] at h2
    exact congrArg some h2
  have hcl : cs.size = 31 := hM.len
  have hsetn : (cs.setIfInBounds 24 (.slice none 0 0)).setIfInBounds 25 (.slice none 0 0) = cs := by rw [set_self hc24, set_self hc25]
  have HLP := hid hlp
  have HLPB := hid hlpb
  have HX := hid hx
  have HX7 := hid hx7
  have HXB := hid hxb
  have HB2L := hid hb2l
  have HNO := hid hnone
  have HBNE := hid hbne
  have HBL6 := hid hbl6
  have HNQ := hid hnq
  have HNE := hid hne
  have HSN := hid hsetn
  have HCL := hid hcl
  clear hlp hlpb hx hx7 hxb hb2l hnone hbne hbl6 hnq hne hc24 hc25 hg hd hsetn hcl hball hbl
  go_enter Tryz.func81, Tryz.ntmps81
  have H := hid (vecS hq 2 7 65535 HLP.out (by omega) HX7.out (by have := HX.out; omega))
  go_wp2_with fail
  refine H.out.mono ?_
  rintro e w1 ⟨A1, c1, rfl, hu1, hq1, hyr⟩
  have hM1 := hM.upd hu1 (by simp; omega)
  have hU1 := (Upd.refl [q, mb] w).trans hu1 (by simp)
  have hs1 := hu1.size
  clear H HLP
  have H := hid (withinS (N' := N) hq1 (by omega) hyr)
  go_wp2_with fail
  refine H.out.mono ?_
  rintro e w2 ⟨rfl, hu2, hy2⟩
  have hM2 := hM1.upd hu2 (by simp)
  have hq2 := hq1.upd hu2 (by simp) (by simp)
  have hU2 := hU1.trans hu2 (by simp)
  have hqy : q < w1.heap.size := by omega
  have hyy : hi ≤ w1.heap.size ∧ w.heap.size ≤ w1.heap.size ∧ w1.heap.size < w2.heap.size := by have := hy2.lt; omega
  clear H hyr hu1 hu2 hM1 hU1 hq1
  generalize w1.heap.size = y at hy2 hqy hyy ⊢
  have hyl := hy2.lt
  have hb2 : Blk w2 mb 29 ((cs.setIfInBounds 24 (.slice none 0 0)).setIfInBounds 25 (.slice none 0 0)) := by rw [HSN.out]; exact hM2.blk
  have HB2 := hid hb2
  have HM2 := hid hM2
  have HQ2 := hid hq2
  have HY2 := hid hy2
  have HU2 := hid hU2
  have hym : y ≠ mb := by omega
  clear hb2 hM2 hq2 hy2 hU2
  go_wp2_with fail
  go_loopg [] l.length (fun gk wr => ∃ (l1 l2 : List (List UInt8 × UInt32)) (v1 v2 : Value) (us : List Value), l = l1 ++ l2 ∧ gk = l2.length ∧ Rd wr N y ⟨identsB l2, 0⟩ ∧ Blk wr mb 29 ((cs.setIfInBounds 24 v1).setIfInBounds 25 v2) ∧ Own wr w2.heap.size 23 v1 us ∧ Own wr w2.heap.size 97 v2 ((l1.map (·.2)).map uv) ∧ All2 (fun u z => Byt wr N u z) us (l1.map (·.1)) ∧ Upd [y, mb] w2 wr)
  case atStart => exact ⟨[], l, .slice none 0 0, .slice none 0 0, [], rfl, rfl, HY2.out, HB2.out, Own.nil_ _ _ _, Own.nil_ _ _ _, trivial, Upd.refl _ _⟩
  case round =>
    obtain ⟨l1, l2, v1, v2, us, htot, rfl, hy, hbr, ho1, ho2, hall, hur⟩ := hrel
    have HT := hid htot
    have hul : us.length = l1.length := by have := hall.length; simpa using this
    have hlen : ∀ t : List (List UInt8 × UInt32), t.length ≤ (identsB t).length := by
      intro t
      induction t with
      | nil => simp
      | cons z t ih =>
        obtain ⟨za, zb⟩ := z
        rw [identsB_cons, List.length_append, be_len, List.length_append, List.length_append, be_len, List.length_cons]; omega
    have hl1 : l1.length ≤ 65536 := by have h1 := hlen l; have h2 := HX.out; have h3 := congrArg List.length htot; rw [List.length_append] at h3; omega
    have hsz := hur.size
    clear htot hlen
    rcases l2 with _ | ⟨⟨d, k⟩, l3⟩
    · have hle : l = l1 := by have := HT.out; rwa [List.append_nil] at this
      have hy : Rd wr N y ⟨[], 0⟩ := hy
      obtain ⟨Ay, cy, q0, q1, qf0, qf1, -, -⟩ := hy.open_
      have hqr := HQ2.out.upd hur (by simp; omega) (by simp; omega)
      have H := hid (doneS hqr hy (by omega) (by omega))
      subst hle
      have hg1 := fun g hg => ho1.ge (g := g) hg
      have hg2 := fun g hg => ho2.ge (g := g) hg
      obtain ⟨Av, cv, rfl⟩ := ho1.formN (n := l.length) hul
      have hMr := HM2.out.put2 (i := 24) (j := 25) (f1 := .vec (l.map (fun z : List UInt8 × UInt32 => z.1))) (f2 := .row 97 ((l.map (fun z : List UInt8 × UInt32 => z.2)).map uv)) (hi' := wr.heap.size) (by decide) hur (by simp; omega) hbr (show FOk wr N lo _ (.vec (l.map (fun z : List UInt8 × UInt32 => z.1))) from ⟨us, ho1.less8 (by omega), hall⟩) (show FOk wr N lo v2 (.row 97 ((l.map (fun z : List UInt8 × UInt32 => z.2)).map uv)) from ho2.less8 (by omega))
        (fun g hg => by have := hg1 g hg; omega) (fun g hg => by have := hg2 g hg; omega) (ho1.apart8 ho2 (by decide)) (by omega)
      have hno : ∀ z, hi ≤ z → z < w2.heap.size → NoOwn z ((cs.setIfInBounds 24 (.slice Av l.length cv)).setIfInBounds 25 v2) (((chFR M).set 24 (.vec (l.map (fun z : List UInt8 × UInt32 => z.1)))).set 25 (.row 97 ((l.map (fun z : List UInt8 × UInt32 => z.2)).map uv))) := fun z hz1 hz2 =>
        ((HM2.out.noOwn hz1).put (fun _ g hg => by have := hg1 g hg; omega)).put (fun _ g hg => by have := hg2 g hg; omega)
      have efs : ((chFR M).set 24 (.vec (l.map (fun z : List UInt8 × UInt32 => z.1)))).set 25 (.row 97 ((l.map (fun z : List UInt8 × UInt32 => z.2)).map uv)) = chFR { M with pl := l.map (·.1), pa := l.map (·.2) } := by
        rw [← vecN_ne (ls := l.map (fun z : List UInt8 × UInt32 => z.1)) (by simpa using h0), ← rowN_ne (e := 97) (us := (l.map (fun z : List UInt8 × UInt32 => z.2)).map uv) (by simpa using h0)]
        rfl
      have hnoq := (hno q hiq (by omega)).cast efs
      have hnoy := (hno y (by omega) (by omega)).cast efs
      replace hMr := hMr.cast efs
      have hUr : Upd [q, mb] w wr := HU2.out.trans hur (by simp; omega)
      have hcsz : ((cs.setIfInBounds 24 (.slice Av l.length cv)).setIfInBounds 25 v2)[24]? = some (.slice Av l.length cv) := by
        rw [Array.getElem?_setIfInBounds_ne (by decide), Array.getElem?_setIfInBounds_self_of_lt (by rw [HCL.out]; decide)]
      obtain ⟨csX, hcsX⟩ : ∃ z, (cs.setIfInBounds 24 (.slice Av l.length cv)).setIfInBounds 25 v2 = z := ⟨_, rfl⟩
      rw [hcsX] at hMr hnoq hnoy hcsz
      have HR := hid (And.intro hMr (And.intro hnoq (And.intro hnoy (And.intro hUr hcsz))))
      clear hbr ho1 ho2 hall hur hul hg1 hg2 hMr hno efs hnoq hnoy hUr hcsX hqr hcsz
      go_wp2_with fail
      refine H.out.mono ?_
      rintro e w5 ⟨rfl, hu5, hq5⟩
      obtain ⟨hMr, hnoq, hnoy, hUr, hc24⟩ := HR.out
      have hM5 := hMr.updn hu5 (by
        intro z hz
        rcases List.mem_cons.1 hz with rfl | hz
        · exact ⟨hqN, by omega, hnoq⟩
        · have : z = y := by simpa using hz
          subst this
          exact ⟨by omega, hym, hnoy⟩)
      have hU5 : Upd [q, mb] w w5 := hUr.trans hu5 (by simp; omega)
      have hs5 := hu5.size
      have hMw5 := hM5.wide (hi' := w5.heap.size) hs5
      clear H q0 q1 qf0 qf1 hMr hnoy hUr hM5
      have H := hid (vecS hq5 2 2 65535 HLPB.out (by omega) HB2L.out (by have := HXB.out; omega))
      go_wp2_with fail
      refine H.out.mono ?_
      rintro e w6 ⟨A6, c6, rfl, hu6, hq6, hyr6⟩
      have hM6 := hMw5.updn hu6 (by
        intro z hz
        have : z = q := by simpa using hz
        subst this
        exact ⟨hqN, by omega, hnoq⟩)
      have hU6 : Upd [q, mb] w w6 := hU5.trans hu6 (by simp)
      have hs6 := hu6.size
      clear H HLPB
      have H := hid (vectorsS1 hq6 hyr6 (by have := HXB.out; omega) HBNE.out)
      go_wp2_with fail
      refine H.out.mono ?_
      rintro e w7 ⟨A7, c7, rfl, ho7, hu7, hq7⟩
      have hM7 := hM6.updn hu7 (by
        intro z hz
        have : z = q := by simpa using hz
        subst this
        exact ⟨hqN, by omega, hnoq⟩)
      have hU7 : Upd [q, mb] w w7 := hU6.trans hu7 (by simp)
      have hs7 := hu7.size
      have hge := fun g hg => ho7.ge8 (g := g) hg
      have hM8 := hM7.putO (i := 26) (x := .slice A7 b.length c7) (f := .vec b) hml hNm (fun g hg => by have := hge g hg; omega) (show FOk w7 N lo _ (.vec b) from ho7.less8 (by omega)) (by omega)
      have hno8 := NoOwn.put (i := 26) (x := .slice A7 b.length c7) (f := .vec b) hnoq (fun _ g hg => by have := hge g hg; omega)
      have hus8 : Upd [mb] w7 (w7.setCell ⟨mb, 26, none⟩ (.slice A7 b.length c7)) := (Upd.refl _ _).setCell (by simp) _
      have hq8 := hq7.upd hus8 (by simp; omega) (by simp; omega)
      have hU8 := hU7.trans hus8 (by simp)
      have hs8 := hus8.size
      obtain ⟨vc26, hcv26, -⟩ := hM7.get (i := 26) rfl
      have cc26 := hM7.cell hcv26
      have ff26 := hM7.blk.frozen 26
      have h8l : 26 < csX.size := (Array.getElem?_eq_some_iff.1 hcv26).1
      obtain ⟨w8, hw8⟩ : ∃ z, w7.setCell ⟨mb, 26, none⟩ (.slice A7 b.length c7) = z := ⟨_, rfl⟩
      rw [hw8] at hM8 hus8 hq8 hU8 hs8
      have HW8 := hid hw8
      have hd26 := hM8.cell (i := 26) (v := .slice A7 b.length c7) (Array.getElem?_setIfInBounds_self_of_lt h8l)
      have hd24 := hM8.cell (i := 24) (v := .slice Av l.length cv) (by rw [Array.getElem?_setIfInBounds_ne (by decide)]; exact hc24)
      obtain ⟨Aq, cq, q0, q1, qf0, qf1, -, -⟩ := hq8.open_
      have hL8 : Lst w8 w8.heap.size (.slice A7 b.length c7) b := by
        obtain ⟨us8, k1, k2⟩ := ho7
        have k1' := k1.upd hus8 (fun g hg hm => by have := k1.ge hg; simp at hm; omega)
        exact ⟨us8, k1'.row, k2.imp fun _ _ hb => (Row.upd hb hus8 (by simpa using hNm)).shrink⟩
      have HR8 := hid (And.intro hM8 (And.intro hno8 (And.intro hU8 (And.intro hq8 (And.intro hL8 (And.intro hd26 (And.intro hd24 q1)))))))
      clear hM8 hno8 hU8 hq8 hL8 hw8 hus8 ho7 hge hM7 hM6 hMw5 hq7 hq6 hu7 hu6 hu5 hcv26 q0 qf0 qf1 H HR hyr6 hd26 hd24 q1 h8l hnoq
      go_upto_region 6 with fail
      rw [HW8.out]
      obtain ⟨hM8, hno8, hU8, hq8, hL8, hd26, hd24, q1⟩ := HR8.out
      have q1 : w8.cell? ⟨q, 1, none⟩ = some (.int .i64 0) := q1
      refine wp_region_held (S := fun u => u.cell? ⟨q, 1, none⟩ = some (.int .i64 0) ∧ u.cell? ⟨mb, 26, none⟩ = some (.slice A7 b.length c7) ∧ u.cell? ⟨mb, 24, none⟩ = some (.slice Av l.length cv)) (by kernel_rfl) ?_
      change wpAnyH _ _ _ _ _ _ _ _ (World.drew _)
      have hdr : Upd [] w8 (World.drew w8) := (Upd.refl [] w8).drew
      have HSS : (World.drew w8).cell? ⟨q, 1, none⟩ = some (.int .i64 0) ∧ (World.drew w8).cell? ⟨mb, 26, none⟩ = some (.slice A7 b.length c7) ∧ (World.drew w8).cell? ⟨mb, 24, none⟩ = some (.slice Av l.length cv) := ⟨q1, hd26, hd24⟩
      have HL9 := hid (hL8.upd hdr (by simp))
      have HR9 := hid (And.intro (hM8.upd hdr (by simp)) (And.intro hno8 (And.intro (hU8.trans hdr (by simp)) (And.intro (hq8.upd hdr (by simp) (by simp)) (Nat.le_trans hs8 hdr.size)))))
      clear hM8 hno8 hU8 hq8 hL8 hd26 hd24 q1 hdr HR8 HW8
      obtain ⟨w9, hw9⟩ : ∃ z, World.drew w8 = z := ⟨_, rfl⟩
      rw [hw9] at HSS HL9 HR9 ⊢
      clear hw9
      have hnq := HNQ.out
      try simp only [Act.put, List.getElem_toArray, List.getElem_cons_zero, List.getElem_cons_succ, List.setIfInBounds_toArray, List.set_cons_zero, List.set_cons_succ]
      refine wpAnyH_take (i := 0) (v := ?vR0) rfl (by kernel_rfl) (by kernel_rfl) (by kernel_rfl) (fun _ _ _ h => h) (Or.inl ⟨by rfl, ?hR0⟩) HSS ?restR0
      case hR0 =>
        rintro u ⟨k1, k2, k3⟩
        go_simp
        try with_reducible rfl
      try simp only [Act.put, List.getElem_toArray, List.getElem_cons_zero, List.getElem_cons_succ, List.setIfInBounds_toArray, List.set_cons_zero, List.set_cons_succ]
      refine wpAnyH_take (i := 1) (v := ?vR1) rfl (by kernel_rfl) (by kernel_rfl) (by kernel_rfl) (fun _ _ _ h => h) (Or.inl ⟨by rfl, ?hR1⟩) HSS ?restR1
      case hR1 =>
        rintro u ⟨k1, k2, k3⟩
        go_simp
        try with_reducible rfl
      try simp only [Act.put, List.getElem_toArray, List.getElem_cons_zero, List.getElem_cons_succ, List.setIfInBounds_toArray, List.set_cons_zero, List.set_cons_succ]
      refine wpAnyH_take (i := 2) (v := ?vR2) rfl (by kernel_rfl) (by kernel_rfl) (by kernel_rfl) (fun _ _ _ h => h) (Or.inl ⟨by rfl, ?hR2⟩) HSS ?restR2
      case hR2 =>
        rintro u ⟨k1, k2, k3⟩
        go_simp
        try with_reducible rfl
      try simp only [Act.put, List.getElem_toArray, List.getElem_cons_zero, List.getElem_cons_succ, List.setIfInBounds_toArray, List.set_cons_zero, List.set_cons_succ]
      refine wpAnyH_take (i := 3) (v := ?vR3) rfl (by kernel_rfl) (by kernel_rfl) (by kernel_rfl) (fun _ _ _ h => h) (Or.inl ⟨by rfl, ?hR3⟩) HSS ?restR3
      case hR3 =>
        rintro u ⟨k1, k2, k3⟩
        go_simp
        try with_reducible rfl
      try simp only [Act.put, List.getElem_toArray, List.getElem_cons_zero, List.getElem_cons_succ, List.setIfInBounds_toArray, List.set_cons_zero, List.set_cons_succ]
      refine wpAnyH_take (i := 4) (v := ?vR4) rfl (by kernel_rfl) (by kernel_rfl) (by kernel_rfl) (fun _ _ _ h => h) (Or.inl ⟨by rfl, ?hR4⟩) HSS ?restR4
      case hR4 =>
        rintro u ⟨k1, k2, k3⟩
        go_simp
        try with_reducible rfl
      try simp only [Act.put, List.getElem_toArray, List.getElem_cons_zero, List.getElem_cons_succ, List.setIfInBounds_toArray, List.set_cons_zero, List.set_cons_succ]
      refine wpAnyH_take (i := 5) (v := ?vR5) rfl (by kernel_rfl) (by kernel_rfl) (by kernel_rfl) (fun _ _ _ h => h) (Or.inl ⟨by rfl, ?hR5⟩) HSS ?restR5
      case hR5 =>
        rintro u ⟨k1, k2, k3⟩
        go_simp
        try with_reducible rfl
      try simp only [Act.put, List.getElem_toArray, List.getElem_cons_zero, List.getElem_cons_succ, List.setIfInBounds_toArray, List.set_cons_zero, List.set_cons_succ]
      refine wpAnyH_take (i := 6) (v := ?vR6) rfl (by kernel_rfl) (by kernel_rfl) (by kernel_rfl) (fun _ _ _ h => h) (Or.inl ⟨by rfl, ?hR6⟩) HSS ?restR6
      case hR6 =>
        rintro u ⟨k1, k2, k3⟩
        go_simp
        try with_reducible rfl
      try simp only [Act.put, List.getElem_toArray, List.getElem_cons_zero, List.getElem_cons_succ, List.setIfInBounds_toArray, List.set_cons_zero, List.set_cons_succ]
      refine wpAnyH_take (i := 7) (v := ?vR7) rfl (by kernel_rfl) (by kernel_rfl) (by kernel_rfl) (fun _ _ _ h => h) (Or.inl ⟨by rfl, ?hR7⟩) HSS ?restR7
      case hR7 =>
        rintro u ⟨k1, k2, k3⟩
        go_simp
        try with_reducible rfl
      try simp only [Act.put, List.getElem_toArray, List.getElem_cons_zero, List.getElem_cons_succ, List.setIfInBounds_toArray, List.set_cons_zero, List.set_cons_succ]
      refine wpAnyH_take (i := 8) (v := ?vR8) rfl (by kernel_rfl) (by kernel_rfl) (by kernel_rfl) (fun _ _ _ h => h) (Or.inl ⟨by rfl, ?hR8⟩) HSS ?restR8
      case hR8 =>
        rintro u ⟨k1, k2, k3⟩
        go_simp
        try with_reducible rfl
      try simp only [Act.put, List.getElem_toArray, List.getElem_cons_zero, List.getElem_cons_succ, List.setIfInBounds_toArray, List.set_cons_zero, List.set_cons_succ]
      refine wpAnyH_take (i := 9) (v := ?vR9) rfl (by kernel_rfl) (by kernel_rfl) (by kernel_rfl) (fun _ _ _ h => h) (Or.inl ⟨by rfl, ?hR9⟩) HSS ?restR9
      case hR9 =>
        rintro u ⟨k1, k2, k3⟩
        go_simp
        try with_reducible rfl
      try simp only [Act.put, List.getElem_toArray, List.getElem_cons_zero, List.getElem_cons_succ, List.setIfInBounds_toArray, List.set_cons_zero, List.set_cons_succ]
      refine wpAnyH_take (i := 10) (v := ?vR10) rfl (by kernel_rfl) (by kernel_rfl) (by kernel_rfl) (fun _ _ _ h => h) (Or.inl ⟨by rfl, ?hR10⟩) HSS ?restR10
      case hR10 =>
        rintro u ⟨k1, k2, k3⟩
        go_simp
        try with_reducible rfl
      try simp only [Act.put, List.getElem_toArray, List.getElem_cons_zero, List.getElem_cons_succ, List.setIfInBounds_toArray, List.set_cons_zero, List.set_cons_succ]
      refine wpAnyH_take (i := 11) (v := ?vR11) rfl (by kernel_rfl) (by kernel_rfl) (by kernel_rfl) (fun _ _ _ h => h) (Or.inl ⟨by rfl, ?hR11⟩) HSS ?restR11
      case hR11 =>
        rintro u ⟨k1, k2, k3⟩
        go_simp
        try with_reducible rfl
      try simp only [Act.put, List.getElem_toArray, List.getElem_cons_zero, List.getElem_cons_succ, List.setIfInBounds_toArray, List.set_cons_zero, List.set_cons_succ]
      refine wpAnyH_take (i := 12) (v := ?vR12) rfl (by kernel_rfl) (by kernel_rfl) (by kernel_rfl) (fun _ _ _ h => h) (Or.inl ⟨by rfl, ?hR12⟩) HSS ?restR12
      case hR12 =>
        rintro u ⟨k1, k2, k3⟩
        go_simp
        try with_reducible rfl
      try simp only [Act.put, List.getElem_toArray, List.getElem_cons_zero, List.getElem_cons_succ, List.setIfInBounds_toArray, List.set_cons_zero, List.set_cons_succ]
      refine wpAnyH_take (i := 13) (v := ?vR13) rfl (by kernel_rfl) (by kernel_rfl) (by kernel_rfl) (fun _ _ _ h => h) (Or.inl ⟨by rfl, ?hR13⟩) HSS ?restR13
      case hR13 =>
        rintro u ⟨k1, k2, k3⟩
        go_simp
        try with_reducible rfl
      try simp only [Act.put, List.getElem_toArray, List.getElem_cons_zero, List.getElem_cons_succ, List.setIfInBounds_toArray, List.set_cons_zero, List.set_cons_succ]
      refine wpAnyH_take (i := 14) (v := ?vR14) rfl (by kernel_rfl) (by kernel_rfl) (by kernel_rfl) (fun _ _ _ h => h) (Or.inl ⟨by rfl, ?hR14⟩) HSS ?restR14
      case hR14 =>
        rintro u ⟨k1, k2, k3⟩
        go_simp
        try with_reducible rfl
      try simp only [Act.put, List.getElem_toArray, List.getElem_cons_zero, List.getElem_cons_succ, List.setIfInBounds_toArray, List.set_cons_zero, List.set_cons_succ]
      refine wpAnyH_take (i := 15) (v := ?vR15) rfl (by kernel_rfl) (by kernel_rfl) (by kernel_rfl) (fun _ _ _ h => h) (Or.inl ⟨by rfl, ?hR15⟩) HSS ?restR15
      case hR15 =>
        rintro u ⟨k1, k2, k3⟩
        go_simp
        try with_reducible rfl
      try simp only [Act.put, List.getElem_toArray, List.getElem_cons_zero, List.getElem_cons_succ, List.setIfInBounds_toArray, List.set_cons_zero, List.set_cons_succ]
      refine wpAnyH_take (i := 16) (v := ?vR16) rfl (by kernel_rfl) (by kernel_rfl) (by kernel_rfl) (fun _ _ _ h => h) (Or.inl ⟨by rfl, ?hR16⟩) HSS ?restR16
      case hR16 =>
        rintro u ⟨k1, k2, k3⟩
        go_simp
        try with_reducible rfl
      try simp only [Act.put, List.getElem_toArray, List.getElem_cons_zero, List.getElem_cons_succ, List.setIfInBounds_toArray, List.set_cons_zero, List.set_cons_succ]
      refine wpAnyH_take (i := 17) (v := ?vR17) rfl (by kernel_rfl) (by kernel_rfl) (by kernel_rfl) (fun _ _ _ h => h) (Or.inl ⟨by rfl, ?hR17⟩) HSS ?restR17
      case hR17 =>
        rintro u ⟨k1, k2, k3⟩
        go_simp
        try with_reducible rfl
      try simp only [Act.put, List.getElem_toArray, List.getElem_cons_zero, List.getElem_cons_succ, List.setIfInBounds_toArray, List.set_cons_zero, List.set_cons_succ]
      refine wpAnyH_take (i := 18) (v := ?vR18) rfl (by kernel_rfl) (by kernel_rfl) (by kernel_rfl) (fun _ _ _ h => h) (Or.inl ⟨by rfl, ?hR18⟩) HSS ?restR18
      case hR18 =>
        rintro u ⟨k1, k2, k3⟩
        go_simp
        try with_reducible rfl
      try simp only [Act.put, List.getElem_toArray, List.getElem_cons_zero, List.getElem_cons_succ, List.setIfInBounds_toArray, List.set_cons_zero, List.set_cons_succ]
      refine wpAnyH_take (i := 19) (v := ?vR19) rfl (by kernel_rfl) (by kernel_rfl) (by kernel_rfl) (fun _ _ _ h => h) (Or.inl ⟨by rfl, ?hR19⟩) HSS ?restR19
      case hR19 =>
        rintro u ⟨k1, k2, k3⟩
        go_simp
        try with_reducible rfl
      try simp only [Act.put, List.getElem_toArray, List.getElem_cons_zero, List.getElem_cons_succ, List.setIfInBounds_toArray, List.set_cons_zero, List.set_cons_succ]
      refine wpAnyH_take (i := 20) (v := ?vR20) rfl (by kernel_rfl) (by kernel_rfl) (by kernel_rfl) (fun _ _ _ h => h) (Or.inl ⟨by rfl, ?hR20⟩) HSS ?restR20
      case hR20 =>
        rintro u ⟨k1, k2, k3⟩
        go_simp
        try with_reducible rfl
      try simp only [Act.put, List.getElem_toArray, List.getElem_cons_zero, List.getElem_cons_succ, List.setIfInBounds_toArray, List.set_cons_zero, List.set_cons_succ]
      refine wpAnyH_take (i := 21) (v := ?vR21) rfl (by kernel_rfl) (by kernel_rfl) (by kernel_rfl) (fun _ _ _ h => h) (Or.inl ⟨by rfl, ?hR21⟩) HSS ?restR21
      case hR21 =>
        rintro u ⟨k1, k2, k3⟩
        go_simp
        try with_reducible rfl
      try simp only [Act.put, List.getElem_toArray, List.getElem_cons_zero, List.getElem_cons_succ, List.setIfInBounds_toArray, List.set_cons_zero, List.set_cons_succ]
      refine wpAnyH_all (rs := [22]) (by kernel_rfl) (by simp) (fun i hi => ?_)
      obtain rfl : i = 22 := by simpa using hi
      clear hi
      refine wpOp_enter rfl rfl 20 #[.slice A7 b.length c7, .int .i64 1, .int .i64 31] (by kernel_rfl) ?_
      refine (none_any HL9.out 1 31).mono ?_
      rintro e wz ⟨rfl, rfl⟩
      rw [HNO.out]
      refine ⟨HSS, ?_⟩
      try simp only [Act.put, List.getElem_toArray, List.getElem_cons_zero, List.getElem_cons_succ, List.setIfInBounds_toArray, List.set_cons_zero, List.set_cons_succ]
      refine wpAnyH_take (i := 23) (v := ?vR23) rfl (by kernel_rfl) (by kernel_rfl) (by kernel_rfl) (fun _ _ _ h => h) (Or.inl ⟨by rfl, ?hR23⟩) HSS ?restR23
      case hR23 =>
        rintro u ⟨k1, k2, k3⟩
        go_simp
        try with_reducible rfl
      try simp only [Act.put, List.getElem_toArray, List.getElem_cons_zero, List.getElem_cons_succ, List.setIfInBounds_toArray, List.set_cons_zero, List.set_cons_succ]
      refine wpAnyH_take (i := 24) (v := ?vR24) rfl (by kernel_rfl) (by kernel_rfl) (by kernel_rfl) (fun _ _ _ h => h) (Or.inl ⟨by rfl, ?hR24⟩) HSS ?restR24
      case hR24 =>
        rintro u ⟨k1, k2, k3⟩
        go_simp
        try with_reducible rfl
      try simp only [Act.put, List.getElem_toArray, List.getElem_cons_zero, List.getElem_cons_succ, List.setIfInBounds_toArray, List.set_cons_zero, List.set_cons_succ]
      refine wpAnyH_take (i := 25) (v := ?vR25) rfl (by kernel_rfl) (by kernel_rfl) (by kernel_rfl) (fun _ _ _ h => h) (Or.inl ⟨by rfl, ?hR25⟩) HSS ?restR25
      case hR25 =>
        rintro u ⟨k1, k2, k3⟩
        go_simp
        try with_reducible rfl
      try simp only [Act.put, List.getElem_toArray, List.getElem_cons_zero, List.getElem_cons_succ, List.setIfInBounds_toArray, List.set_cons_zero, List.set_cons_succ]
      refine wpAnyH_done (by kernel_rfl) ?_ _
      go_wp2
      go_end0
      obtain ⟨hM9, hno9, hU9, hq9, hs9⟩ := HR9.out
      exact ⟨rfl, hU9, hq9, _, MSt.wide (MSt.cast hM9 rfl) hs9, hno9.cast rfl⟩
    · have hyX := hy
      rw [identsB_cons] at hyX
      have hdne : d ≠ [] := HNE.out (d, k) (by rw [HT.out]; simp)
      have hdl : d.length < 65536 := by
        have h1 : (identsB l).length = (identsB (l1 ++ (d, k) :: l3)).length := by rw [← HT.out]
        have h2 := HX.out
        have h3 : (identsB (l1 ++ (d, k) :: l3)).length = (identsB l1).length + (2 + (d.length + (4 + (identsB l3).length))) := by
          rw [show identsB (l1 ++ (d, k) :: l3) = identsB l1 ++ identsB ((d, k) :: l3) by simp [identsB], identsB_cons, List.length_append, List.length_append, be_len, List.length_append, List.length_append, be_len]
        omega
      have hd1 : 1 ≤ d.length := List.length_pos_iff.2 hdne
      obtain ⟨X, hX⟩ : ∃ X, identsB ((d, k) :: l3) = X := ⟨_, rfl⟩
      have hXp : decide (0 < X.length) = true := decide_eq_true (by rw [← hX, identsB_cons, List.length_append, be_len]; omega)
      rw [hX] at hy
      obtain ⟨Ay, cy, q0, q1, qf0, qf1, -, -⟩ := hy.open_
      have c1 : ((cs.setIfInBounds 24 v1).setIfInBounds 25 v2)[24]? = some v1 := by
        rw [Array.getElem?_setIfInBounds_ne (by decide), Array.getElem?_setIfInBounds_self_of_lt (by rw [HCL.out]; decide)]
      have hlp2 := lp_b2 d (be 4 k.toNat ++ identsB l3) hdl
      have HR := hid (And.intro hbr (And.intro ho1 (And.intro ho2 (And.intro hall (And.intro hur (And.intro hyX (And.intro c1 (And.intro hul hlp2))))))))
      clear hbr ho1 ho2 hall hur hyX c1 hul hX hy hdne hlp2
      go_upto_region 2 with fail
      obtain ⟨hbr, ho1, ho2, hall, hur, hyX, c1, hul, hlp2⟩ := HR.out
      refine wp_region_cast (ops' := kr3L.toArray) (by kernel_rfl) (kr3_wp hlp2 hd1 (by omega) (by kernel_rfl) rfl rfl hbr c1 ho1 ho2 (by omega) hsz hyX hym (by omega) hNm ?_)
      clear hbr ho1 ho2 hall hur hyX c1 hul hlp2 q0 q1 qf0 qf1
      intro y0 y1 y2 y3 y4 y5 y6 y7 y8 y9 y10 wY v1' hbY A9 c9 hyr9 hoY1 hoY2 hyY hUP hBY
      rw [set2a (by decide)] at hbY
      have c2 : ((cs.setIfInBounds 24 v1').setIfInBounds 25 v2)[25]? = some v2 := by
        rw [Array.getElem?_setIfInBounds_self_of_lt (by rw [Array.size_setIfInBounds, HCL.out]; decide)]
      have HY := hid (And.intro hbY (And.intro hyr9 (And.intro hoY1 (And.intro hoY2 (And.intro hyY (And.intro hUP (And.intro hBY c2)))))))
      have hszY := (hUP _ HR.out.2.2.2.2.1 (Nat.le_refl _)).size
      clear hbY hyr9 hoY1 hoY2 hyY hUP hBY c2
      simp only [List.take_succ_cons, List.take_zero, List.drop_succ_cons, List.drop_zero, List.cons_append, List.nil_append]
      rename_i K8 hK8
      refine hK8 _ _ ?_
      clear hK8
      go_upto_region 3 with fail
      obtain ⟨hbY, hyr9, hoY1, hoY2, hyY, hUP, hBY, c2⟩ := HY.out
      refine wp_region_cast (ops' := kr4L.toArray) (by kernel_rfl) (kr4_wp (by kernel_rfl) rfl rfl hbY c2 hoY2 hoY1 (by simp; omega) hszY hyY hym (by omega) hNm ?_)
      clear hbY hyr9 hoY1 hoY2 hyY hUP hBY c2
      intro z0 z1 z2 z3 z4 z5 z6 z7 z8 z9 z10 z11 wZ v2' hbZ hoZ2 hoZ1 hyZ hUPZ hBYZ
      rw [show ((cs.setIfInBounds 24 v1').setIfInBounds 25 v2).setIfInBounds 25 v2' = (cs.setIfInBounds 24 v1').setIfInBounds 25 v2' by rw [Array.setIfInBounds_setIfInBounds]] at hbZ
      have HZ := hid (And.intro hbZ (And.intro hoZ2 (And.intro hoZ1 (And.intro hyZ (And.intro hUPZ hBYZ)))))
      clear hbZ hoZ2 hoZ1 hyZ hUPZ hBYZ
      simp only [List.take_succ_cons, List.take_zero, List.drop_succ_cons, List.drop_zero, List.cons_append, List.nil_append]
      rename_i K9 hK9
      refine hK9 _ _ ?_
      clear hK9
      go_wp2
      go_roundg l3.length
      case measure => simp
      case rel =>
        obtain ⟨hbr, ho1, ho2, hall, hur, hyX, c1, hul, hlp2⟩ := HR.out
        obtain ⟨hbY, hyr9, hoY1, hoY2, hyY, hUP, hBY, c2⟩ := HY.out
        obtain ⟨hbZ, hoZ2, hoZ1, hyZ, hUPZ, hBYZ⟩ := HZ.out
        refine ⟨l1 ++ [(d, k)], l3, v1', v2', us ++ [.slice A9 d.length c9], by rw [HT.out]; simp, rfl, hyZ, hbZ, hoZ1, ?_, ?_, hUPZ _ (hUP _ hur (Nat.le_refl _)) (Nat.le_refl _)⟩
        · rw [List.map_append, List.map_append]; exact hoZ2
        · rw [List.map_append]
          exact (hall.imp fun u z hz => hBYZ u z (hBY u z hz)).append ⟨hBYZ _ _ hyr9, trivial⟩
set_option maxHeartbeats 8000000 in
theorem x_psk {l : List (List UInt8 × UInt32)} {b : List (List UInt8)} (hq : Rd w N q ⟨be 2 (identsB l).length ++ (identsB l ++ (be 2 (vecsB 1 b).length ++ vecsB 1 b)), 0⟩) (hM : MSt w N lo hi mb 29 cs (chFR M)) (hml : mb < lo) (hNm : N ≤ mb) (hlo : lo ≤ hi) (hiq : hi ≤ q) (hhi : hi ≤ w.heap.size) (hg : M.pl = []) (hd : M.pa = []) (h0 : l ≠ []) (hne : ∀ e ∈ l, e.1 ≠ []) (hbl : b.length = l.length) (hball : ∀ x ∈ b, 32 ≤ x.length ∧ x.length < 256) (hx : (identsB l).length < 65536) (hxb : (vecsB 1 b).length < 65536) :
    Calls Tryz.prog 63 #[.pointer (some ⟨q, 0, none⟩), .int .u16 41, .pointer (some ⟨mb, 0, none⟩)] w (ChXP w N lo q mb { M with pl := l.map (·.1), pa := l.map (·.2), pb := b }) := by
  have H := hid (rk_Ch hq hM hml hNm hlo hiq hhi hg hd h0 hne hbl hball hx hxb)
  clear hq hM hbl hball hne
  go_enter Tryz.func63, Tryz.ntmps63
  go_wp2_with fail
  refine H.out.mono ?_
  rintro e w1 hp
  have HP := hid hp
  obtain ⟨rfl, -⟩ := hp
  go_wp2
  go_end0
  exact HP.out
set_option maxHeartbeats 8000000 in
theorem x_pass {k : UInt16} {P : Ending → World → Prop} (k0 : k ≠ 0) (k5 : k ≠ 5) (k10 : k ≠ 10) (k11 : k ≠ 11) (k35 : k ≠ 35) (k13 : k ≠ 13) (k50 : k ≠ 50) (k65281 : k ≠ 65281) (k23 : k ≠ 23) (k16 : k ≠ 16) (k18 : k ≠ 18) (h : Calls Tryz.prog 63 #[.pointer (some ⟨q, 0, none⟩), wv k, .pointer (some ⟨mb, 0, none⟩)] w P) (hP : ∀ e w', P e w' → e = .returned (.tuple #[])) :
    Calls Tryz.prog 53 #[.pointer (some ⟨q, 0, none⟩), wv k, .pointer (some ⟨mb, 0, none⟩)] w P := by
  have d0 := u16_eq k 0
  rw [show ((0 : UInt16).toNat : Int) = 0 from rfl, decide_eq_false k0] at d0
  have d5 := u16_eq k 5
  rw [show ((5 : UInt16).toNat : Int) = 5 from rfl, decide_eq_false k5] at d5
  have d10 := u16_eq k 10
  rw [show ((10 : UInt16).toNat : Int) = 10 from rfl, decide_eq_false k10] at d10
  have d11 := u16_eq k 11
  rw [show ((11 : UInt16).toNat : Int) = 11 from rfl, decide_eq_false k11] at d11
  have d35 := u16_eq k 35
  rw [show ((35 : UInt16).toNat : Int) = 35 from rfl, decide_eq_false k35] at d35
  have d13 := u16_eq k 13
  rw [show ((13 : UInt16).toNat : Int) = 13 from rfl, decide_eq_false k13] at d13
  have d50 := u16_eq k 50
  rw [show ((50 : UInt16).toNat : Int) = 50 from rfl, decide_eq_false k50] at d50
  have d65281 := u16_eq k 65281
  rw [show ((65281 : UInt16).toNat : Int) = 65281 from rfl, decide_eq_false k65281] at d65281
  have d23 := u16_eq k 23
  rw [show ((23 : UInt16).toNat : Int) = 23 from rfl, decide_eq_false k23] at d23
  have d16 := u16_eq k 16
  rw [show ((16 : UInt16).toNat : Int) = 16 from rfl, decide_eq_false k16] at d16
  have d18 := u16_eq k 18
  rw [show ((18 : UInt16).toNat : Int) = 18 from rfl, decide_eq_false k18] at d18
  have H := hid h
  clear h k0 k5 k10 k11 k35 k13 k50 k65281 k23 k16 k18
  go_enter Tryz.func53, Tryz.ntmps53
  go_wp2_with fail
  refine H.out.mono ?_
  rintro e w1 hp
  have HP := hid hp
  obtain rfl := hP _ _ hp
  clear hp
  go_wp2
  go_end0
  exact HP.out
end
end Go.Proofs.YtaajmfgplhfncaaGreat
namespace Go.Proofs.YtaajmfgplhfncaaGreat
open Go.RowKit
set_option maxRecDepth 100000
section
variable {w w' : World} {N B lo hi q mb m : Nat} {v : Value} {M M' t t' : Ch} {cs : Array Value} {d data : List UInt8} {k : UInt16} {L : List Ex} {e : TypeId} {us : List Value} {ls : List (List UInt8)}
theorem rowN_row (h : FOk w B lo v (rowN e us)) : Row w w.heap.size v us := by
  unfold rowN at h
  split at h
  · rename_i h0
    have h : v = .slice none 0 0 := h
    rw [h, h0]; exact Row.nil_ _ _
  · exact Own.row (show Own _ _ _ _ _ from h)
theorem vecN_lst (h : FOk w B lo v (vecN ls)) : Lst w w.heap.size v ls := by
  unfold vecN at h
  split at h
  · rename_i h0
    have h : v = .slice none 0 0 := h
    rw [h, h0]; exact Lst.nil_ _ _
  · exact Vecs.lst (show Vecs _ _ _ _ _ from h)
theorem ChR.val (h : MSt w B lo hi m 29 cs (chFR t)) (hB : B ≤ w.heap.size) : ChV w w.heap.size (.agg cs) t := by
  refine ⟨cs, rfl, h.len, fun i v f h1 h2 => ?_⟩
  exact match i, h1, h2 with
  | 0, h1, h2 => by
    cases h2
    obtain ⟨v', hc, hk⟩ := h.get (i := 0) rfl
    rw [hc] at h1
    cases h1
    exact ⟨hk, rfl⟩
  | 1, h1, h2 => by
    cases h2
    obtain ⟨v', hc, hk⟩ := h.get (i := 1) rfl
    rw [hc] at h1
    cases h1
    exact Row.more (show Byt _ _ _ _ from hk) hB
  | 2, h1, h2 => by
    cases h2
    obtain ⟨v', hc, hk⟩ := h.get (i := 2) rfl
    rw [hc] at h1
    cases h1
    exact Row.more (show Byt _ _ _ _ from hk) hB
  | 3, h1, h2 => by
    cases h2
    obtain ⟨v', hc, hk⟩ := h.get (i := 3) rfl
    rw [hc] at h1
    cases h1
    exact Own.row (show Own _ _ _ _ _ from hk)
  | 4, h1, h2 => by
    cases h2
    obtain ⟨v', hc, hk⟩ := h.get (i := 4) rfl
    rw [hc] at h1
    cases h1
    exact Row.more (show Byt _ _ _ _ from hk) hB
  | 5, h1, h2 => by
    cases h2
    obtain ⟨v', hc, hk⟩ := h.get (i := 5) rfl
    rw [hc] at h1
    cases h1
    exact ⟨hk, rfl⟩
  | 6, h1, h2 => by
    cases h2
    obtain ⟨v', hc, hk⟩ := h.get (i := 6) rfl
    rw [hc] at h1
    cases h1
    exact ⟨hk, rfl⟩
  | 7, h1, h2 => by
    cases h2
    obtain ⟨v', hc, hk⟩ := h.get (i := 7) rfl
    rw [hc] at h1
    cases h1
    exact Own.row (show Own _ _ _ _ _ from hk)
  | 8, h1, h2 => by
    cases h2
    obtain ⟨v', hc, hk⟩ := h.get (i := 8) rfl
    rw [hc] at h1
    cases h1
    exact Row.more (show Byt _ _ _ _ from hk) hB
  | 9, h1, h2 => by
    cases h2
    obtain ⟨v', hc, hk⟩ := h.get (i := 9) rfl
    rw [hc] at h1
    cases h1
    exact ⟨hk, rfl⟩
  | 10, h1, h2 => by
    cases h2
    obtain ⟨v', hc, hk⟩ := h.get (i := 10) rfl
    rw [hc] at h1
    cases h1
    exact Row.more (show Byt _ _ _ _ from hk) hB
  | 11, h1, h2 => by
    cases h2
    obtain ⟨v', hc, hk⟩ := h.get (i := 11) rfl
    rw [hc] at h1
    cases h1
    exact Own.row (show Own _ _ _ _ _ from hk)
  | 12, h1, h2 => by
    cases h2
    obtain ⟨v', hc, hk⟩ := h.get (i := 12) rfl
    rw [hc] at h1
    cases h1
    exact Own.row (show Own _ _ _ _ _ from hk)
  | 13, h1, h2 => by
    cases h2
    obtain ⟨v', hc, hk⟩ := h.get (i := 13) rfl
    rw [hc] at h1
    cases h1
    exact ⟨hk, rfl⟩
  | 14, h1, h2 => by
    cases h2
    obtain ⟨v', hc, hk⟩ := h.get (i := 14) rfl
    rw [hc] at h1
    cases h1
    exact Row.more (show Byt _ _ _ _ from hk) hB
  | 15, h1, h2 => by
    cases h2
    obtain ⟨v', hc, hk⟩ := h.get (i := 15) rfl
    rw [hc] at h1
    cases h1
    exact ⟨hk, rfl⟩
  | 16, h1, h2 => by
    cases h2
    obtain ⟨v', hc, hk⟩ := h.get (i := 16) rfl
    rw [hc] at h1
    cases h1
    exact Own.row (show Own _ _ _ _ _ from hk)
  | 17, h1, h2 => by
    cases h2
    obtain ⟨v', hc, hk⟩ := h.get (i := 17) rfl
    rw [hc] at h1
    cases h1
    exact ⟨hk, rfl⟩
  | 18, h1, h2 => by
    cases h2
    obtain ⟨v', hc, hk⟩ := h.get (i := 18) rfl
    rw [hc] at h1
    cases h1
    exact Own.row (show Own _ _ _ _ _ from hk)
  | 19, h1, h2 => by
    cases h2
    obtain ⟨v', hc, hk⟩ := h.get (i := 19) rfl
    rw [hc] at h1
    cases h1
    exact Row.more (show Byt _ _ _ _ from hk) hB
  | 20, h1, h2 => by
    cases h2
    obtain ⟨v', hc, hk⟩ := h.get (i := 20) rfl
    rw [hc] at h1
    cases h1
    exact rowN_row hk
  | 21, h1, h2 => by
    cases h2
    obtain ⟨v', hc, hk⟩ := h.get (i := 21) rfl
    rw [hc] at h1
    cases h1
    exact vecN_lst hk
  | 22, h1, h2 => by
    cases h2
    obtain ⟨v', hc, hk⟩ := h.get (i := 22) rfl
    rw [hc] at h1
    cases h1
    exact ⟨hk, rfl⟩
  | 23, h1, h2 => by
    cases h2
    obtain ⟨v', hc, hk⟩ := h.get (i := 23) rfl
    rw [hc] at h1
    cases h1
    exact Row.more (show Byt _ _ _ _ from hk) hB
  | 24, h1, h2 => by
    cases h2
    obtain ⟨v', hc, hk⟩ := h.get (i := 24) rfl
    rw [hc] at h1
    cases h1
    exact vecN_lst hk
  | 25, h1, h2 => by
    cases h2
    obtain ⟨v', hc, hk⟩ := h.get (i := 25) rfl
    rw [hc] at h1
    cases h1
    exact rowN_row hk
  | 26, h1, h2 => by
    cases h2
    obtain ⟨v', hc, hk⟩ := h.get (i := 26) rfl
    rw [hc] at h1
    cases h1
    exact Vecs.lst (show Vecs _ _ _ _ _ from hk)
  | 27, h1, h2 => by
    cases h2
    obtain ⟨v', hc, hk⟩ := h.get (i := 27) rfl
    rw [hc] at h1
    cases h1
    exact ⟨hk, rfl⟩
  | 28, h1, h2 => by
    cases h2
    obtain ⟨v', hc, hk⟩ := h.get (i := 28) rfl
    rw [hc] at h1
    cases h1
    exact Row.more (show Byt _ _ _ _ from hk) hB
  | 29, h1, h2 => by
    cases h2
    obtain ⟨v', hc, hk⟩ := h.get (i := 29) rfl
    rw [hc] at h1
    cases h1
    exact Row.more (show Byt _ _ _ _ from hk) hB
  | 30, h1, h2 => by
    cases h2
    obtain ⟨v', hc, hk⟩ := h.get (i := 30) rfl
    rw [hc] at h1
    cases h1
    exact Own.row (show Own _ _ _ _ _ from hk)
  | k + 31, _, h2 => by simp [chFd] at h2
theorem ne_of_ge {k c : UInt16} (h : 43520 ≤ k.toNat) (h2 : k.toNat < 44520) (hc : c.toNat < 43520 ∨ 44520 ≤ c.toNat) : k ≠ c := by
  rintro rfl
  omega
theorem ext_Ch (h : ChStep M k d M') (hq : Rd w N q ⟨d, 0⟩) (hM : MSt w N lo hi mb 29 cs (chFR M)) (hml : mb < lo) (hNm : N ≤ mb) (hlo : lo ≤ hi) (hiq : hi ≤ q) (hhi : hi ≤ w.heap.size) (hdl : d.length < 65536) :
    Calls Tryz.prog 53 #[.pointer (some ⟨q, 0, none⟩), wv k, .pointer (some ⟨mb, 0, none⟩)] w (ChXP w N lo q mb M') := by
  cases h with
  | host d h h1 h2 h3 h4 => subst h4; exact x_host hq hM hml hNm hlo hiq hhi hdl h2 h3
  | ocsp d h1 => subst h1; exact x_ocsp hq hM hml hNm hlo hiq hhi hdl
  | curves d l h1 h2 h3 => subst h3; exact x_curves hq hM hml hNm hlo hiq hhi hdl h2 (by rw [List.length_append, be_len] at hdl; omega)
  | pts d x h1 h2 h3 => subst h3; exact x_pts hq hM hml hNm hlo hiq hhi hdl h1 h2
  | ticket d => exact x_ticket hq hM hml hNm hlo hiq hhi hdl
  | sig d l h1 h2 h3 => subst h3; exact x_sig hq hM hml hNm hlo hiq hhi hdl h2 (by rw [List.length_append, be_len] at hdl; omega)
  | sigc d l h1 h2 h3 => subst h3; exact x_sigc hq hM hml hNm hlo hiq hhi hdl h2 (by rw [List.length_append, be_len] at hdl; omega)
  | rn d x h1 h2 => subst h2; exact x_rn hq hM hml hNm hlo hiq hhi hdl h1
  | ems d h1 => subst h1; exact x_ems hq hM hml hNm hlo hiq hhi hdl
  | alpn d l h1 h2 h3 h4 => subst h4; exact x_alpn hq hM hml hNm hlo hiq hhi hdl h2 h3 (by rw [List.length_append, be_len] at hdl; omega)
  | scts d h1 => subst h1; exact x_scts hq hM hml hNm hlo hiq hhi hdl
  | sv d l h1 h2 h3 h4 => subst h4; exact x_pass (by decide) (by decide) (by decide) (by decide) (by decide) (by decide) (by decide) (by decide) (by decide) (by decide) (by decide) (x_sv hq hM hml hNm hlo hiq hhi hdl h2 h3) (fun e w' h => h.1)
  | cookie d x h1 h2 => subst h2; exact x_pass (by decide) (by decide) (by decide) (by decide) (by decide) (by decide) (by decide) (by decide) (by decide) (by decide) (by decide) (x_cookie hq hM hml hNm hlo hiq hhi hdl h1 (by rw [List.length_append, be_len] at hdl; omega)) (fun e w' h => h.1)
  | ks d l h1 h2 h3 h4 h5 => subst h5; exact x_pass (by decide) (by decide) (by decide) (by decide) (by decide) (by decide) (by decide) (by decide) (by decide) (by decide) (by decide) (x_ks hq hM hml hNm hlo hiq hhi h1 h2 h3 h4 (by rw [List.length_append, be_len] at hdl; omega)) (fun e w' h => h.1)
  | early d h1 => subst h1; exact x_pass (by decide) (by decide) (by decide) (by decide) (by decide) (by decide) (by decide) (by decide) (by decide) (by decide) (by decide) (x_early hq hM hml hNm hlo hiq hhi hdl) (fun e w' h => h.1)
  | modes d x h1 h2 h3 => subst h3; exact x_pass (by decide) (by decide) (by decide) (by decide) (by decide) (by decide) (by decide) (by decide) (by decide) (by decide) (by decide) (x_modes hq hM hml hNm hlo hiq hhi hdl h1 h2) (fun e w' h => h.1)
  | quic d => exact x_pass (by decide) (by decide) (by decide) (by decide) (by decide) (by decide) (by decide) (by decide) (by decide) (by decide) (by decide) (x_quic hq hM hml hNm hlo hiq hhi hdl) (fun e w' h => h.1)
  | ech d h1 => exact x_pass (by decide) (by decide) (by decide) (by decide) (by decide) (by decide) (by decide) (by decide) (by decide) (by decide) (by decide) (x_ech hq hM hml hNm hlo hiq hhi hdl h1) (fun e w' h => h.1)
  | psk d l b h1 h2 h3 h4 h5 h6 h7 h8 =>
    subst h8
    exact x_pass (by decide) (by decide) (by decide) (by decide) (by decide) (by decide) (by decide) (by decide) (by decide) (by decide) (by decide) (x_psk hq hM hml hNm hlo hiq hhi h1 h2 h4 h5 h6 h7 (by rw [List.length_append, be_len, List.length_append] at hdl; omega) (by rw [List.length_append, be_len, List.length_append, List.length_append, be_len] at hdl; omega)) (fun e w' h => h.1)
  | other k d h1 h2 => exact x_pass (ne_of_ge h1 h2 (by decide)) (ne_of_ge h1 h2 (by decide)) (ne_of_ge h1 h2 (by decide)) (ne_of_ge h1 h2 (by decide)) (ne_of_ge h1 h2 (by decide)) (ne_of_ge h1 h2 (by decide)) (ne_of_ge h1 h2 (by decide)) (ne_of_ge h1 h2 (by decide)) (ne_of_ge h1 h2 (by decide)) (ne_of_ge h1 h2 (by decide)) (ne_of_ge h1 h2 (by decide)) (x_other hq hM hml hNm hlo hiq hhi hdl (ne_of_ge h1 h2 (by decide)) (ne_of_ge h1 h2 (by decide)) (ne_of_ge h1 h2 (by decide)) (ne_of_ge h1 h2 (by decide)) (ne_of_ge h1 h2 (by decide)) (ne_of_ge h1 h2 (by decide)) (ne_of_ge h1 h2 (by decide)) (ne_of_ge h1 h2 (by decide))) (fun e w' h => h.1)
theorem extsR {L : List Ex} (hn : (L.map (·.1)).Nodup) (hl : (exsB L).length < 65536) : (R.mk (be 2 (exsB L).length ++ exsB L) 0).exts = (L, ⟨[], 0⟩) := by
  have hv : (R.mk (be 2 (exsB L).length ++ exsB L) 0).vec 2 0 65535 = (exsB L, ⟨[], 0⟩) := by
    refine vecR ?_ (by omega) (by omega)
    have := lp_b2 (exsB L) [] hl
    rwa [List.append_nil] at this
  have hb : (R.mk (be 2 (exsB L).length ++ exsB L) 0).block = ⟨exsB L, 0⟩ := by
    unfold R.block
    rw [hv]; rfl
  obtain ⟨h1, h2⟩ := R.extsGo_law (exsB L).length (exsB L) [] (Nat.le_refl _) (by simp)
  have hE : exts (exsB L) = some L := exts_exsB L (exsB_short _ hl)
  unfold R.exts
  rw [hb, hv]
  rcases h2 with ⟨c0, l, h3, h4, -⟩ | ⟨-, h3⟩ | ⟨-, h3⟩
  · rw [hE] at h3
    cases h3
    have e1 : R.extsGo (exsB L).length ⟨exsB L, 0⟩ [] = (L, ⟨[], 0⟩) := by
      generalize R.extsGo (exsB L).length ⟨exsB L, 0⟩ [] = z at h1 c0 h4 ⊢
      obtain ⟨z1, ⟨z2, z3⟩⟩ := z
      have h4 : z1 = L := h4
      have h1 : z2 = [] := h1
      have c0 : z3 = 0 := c0
      subst h4 h1 c0
      rfl
    show ((R.extsGo (exsB L).length ⟨exsB L, 0⟩ []).1, (R.mk [] 0).done (R.extsGo (exsB L).length ⟨exsB L, 0⟩ []).2) = _
    rw [e1]; rfl
  · rw [hE] at h3; cases h3
  · exact absurd (by simpa using hn) (h3 L hE)
theorem ChRun.inv {x : Ex} (h : ChRun M (x :: L) M') : ∃ M1, ChStep { M with exs := M.exs ++ [x.1] } x.1 x.2 M1 ∧ (x.1 = 41 → L = []) ∧ ChRun M1 L M' := by
  obtain ⟨k, d⟩ := x
  cases h with
  | cons _ M1 _ _ _ _ h1 h2 h3 h4 => exact ⟨M1, h2, h3, h4⟩
theorem ChRun.nodup (h : ChRun M L M') : (L.map (·.1)).Nodup ∧ ∀ k ∈ M.exs, k ∉ L.map (·.1) := by
  induction h with
  | nil M => simp
  | cons M M1 M2 k d L h1 h2 h3 h4 ih =>
    have he := h2.exs
    obtain ⟨i1, i2⟩ := ih
    rw [he] at i2
    have hk : k ∉ L.map (·.1) := i2 k (by simp)
    refine ⟨by rw [List.map_cons, List.nodup_cons]; exact ⟨hk, i1⟩, fun z hz => ?_⟩
    rw [List.map_cons, List.mem_cons, not_or]
    exact ⟨fun e => h1 (by have e : z = k := e; rw [← e]; exact hz), i2 z (by simp [hz])⟩
set_option maxHeartbeats 16000000 in
theorem rf_Ch (hv0 : Byt w w.heap.size v data) (hF : ChForm data t L t') : Calls Tryz.prog 13 #[v] w (fun e w' => ∃ u, e = .returned (.tuple #[u, .int .i64 0]) ∧ ChV w' w'.heap.size u t' ∧ Upd [] w w') := by
  obtain ⟨B, hBe⟩ : ∃ B, w.heap.size = B := ⟨_, rfl⟩
  have hv : Byt w B v data := by rw [← hBe]; exact hv0
  have hB : B ≤ w.heap.size := by omega
  clear hBe hv0
  obtain ⟨A, c, rfl, hv, hl, hc⟩ := Byt.form hv rfl
  obtain ⟨w1, hw1⟩ : ∃ w1, (w.alloc (.cells #[.int .u16 0, .slice none 0 0, .slice none 0 0, .slice none 0 0, .slice none 0 0, strv [], .bool false, .slice none 0 0, .slice none 0 0, .bool false, .slice none 0 0, .slice none 0 0, .slice none 0 0, .bool false, .slice none 0 0, .bool false, .slice none 0 0, .bool false, .slice none 0 0, .slice none 0 0, .slice none 0 0, .slice none 0 0, .bool false, .slice none 0 0, .slice none 0 0, .slice none 0 0, .slice none 0 0, .bool false, .slice none 0 0, .slice none 0 0, .slice none 0 0] 29)).alloc (.cells #[.int .u16 0, .slice none 0 0, .slice none 0 0, .slice none 0 0, .slice none 0 0, strv [], .bool false, .slice none 0 0, .slice none 0 0, .bool false, .slice none 0 0, .slice none 0 0, .slice none 0 0, .bool false, .slice none 0 0, .bool false, .slice none 0 0, .bool false, .slice none 0 0, .slice none 0 0, .slice none 0 0, .slice none 0 0, .bool false, .slice none 0 0, .slice none 0 0, .slice none 0 0, .slice none 0 0, .bool false, .slice none 0 0, .slice none 0 0, .slice none 0 0] 29) = w1 := ⟨_, rfl⟩
  obtain ⟨s, hs⟩ : ∃ s, w.heap.size = s := ⟨_, rfl⟩
  have hu1 : Upd [] w w1 := by rw [← hw1]; exact ((Upd.refl _ _).alloc _).alloc _
  have hb1 : Blk w1 s 29 #[.int .u16 0, .slice none 0 0, .slice none 0 0, .slice none 0 0, .slice none 0 0, strv [], .bool false, .slice none 0 0, .slice none 0 0, .bool false, .slice none 0 0, .slice none 0 0, .slice none 0 0, .bool false, .slice none 0 0, .bool false, .slice none 0 0, .bool false, .slice none 0 0, .slice none 0 0, .slice none 0 0, .slice none 0 0, .bool false, .slice none 0 0, .slice none 0 0, .slice none 0 0, .slice none 0 0, .bool false, .slice none 0 0, .slice none 0 0, .slice none 0 0] := by rw [← hw1, ← hs]; exact (Blk.new _ _ _).alloc _
  have hm1 : Blk w1 (s + 1) 29 #[.int .u16 0, .slice none 0 0, .slice none 0 0, .slice none 0 0, .slice none 0 0, strv [], .bool false, .slice none 0 0, .slice none 0 0, .bool false, .slice none 0 0, .slice none 0 0, .slice none 0 0, .bool false, .slice none 0 0, .bool false, .slice none 0 0, .bool false, .slice none 0 0, .slice none 0 0, .slice none 0 0, .slice none 0 0, .bool false, .slice none 0 0, .slice none 0 0, .slice none 0 0, .slice none 0 0, .bool false, .slice none 0 0, .slice none 0 0, .slice none 0 0] := by
    rw [← hw1, ← hs]
    have := Blk.new (w.alloc (.cells #[.int .u16 0, .slice none 0 0, .slice none 0 0, .slice none 0 0, .slice none 0 0, strv [], .bool false, .slice none 0 0, .slice none 0 0, .bool false, .slice none 0 0, .slice none 0 0, .slice none 0 0, .bool false, .slice none 0 0, .bool false, .slice none 0 0, .bool false, .slice none 0 0, .slice none 0 0, .slice none 0 0, .slice none 0 0, .bool false, .slice none 0 0, .slice none 0 0, .slice none 0 0, .slice none 0 0, .bool false, .slice none 0 0, .slice none 0 0, .slice none 0 0] 29)) 29 #[.int .u16 0, .slice none 0 0, .slice none 0 0, .slice none 0 0, .slice none 0 0, strv [], .bool false, .slice none 0 0, .slice none 0 0, .bool false, .slice none 0 0, .slice none 0 0, .slice none 0 0, .bool false, .slice none 0 0, .bool false, .slice none 0 0, .bool false, .slice none 0 0, .slice none 0 0, .slice none 0 0, .slice none 0 0, .bool false, .slice none 0 0, .slice none 0 0, .slice none 0 0, .slice none 0 0, .bool false, .slice none 0 0, .slice none 0 0, .slice none 0 0]
    rwa [show (w.alloc (.cells #[.int .u16 0, .slice none 0 0, .slice none 0 0, .slice none 0 0, .slice none 0 0, strv [], .bool false, .slice none 0 0, .slice none 0 0, .bool false, .slice none 0 0, .slice none 0 0, .slice none 0 0, .bool false, .slice none 0 0, .bool false, .slice none 0 0, .bool false, .slice none 0 0, .slice none 0 0, .slice none 0 0, .slice none 0 0, .bool false, .slice none 0 0, .slice none 0 0, .slice none 0 0, .slice none 0 0, .bool false, .slice none 0 0, .slice none 0 0, .slice none 0 0] 29)).heap.size = w.heap.size + 1 by simp] at this
  have hs1 : w1.heap.size = s + 2 := by rw [← hw1, ← hs]; simp
  have hM1 : MSt w1 B (s + 3) (s + 3) (s + 1) 29 #[.int .u16 0, .slice none 0 0, .slice none 0 0, .slice none 0 0, .slice none 0 0, strv [], .bool false, .slice none 0 0, .slice none 0 0, .bool false, .slice none 0 0, .slice none 0 0, .slice none 0 0, .bool false, .slice none 0 0, .bool false, .slice none 0 0, .bool false, .slice none 0 0, .slice none 0 0, .slice none 0 0, .slice none 0 0, .bool false, .slice none 0 0, .slice none 0 0, .slice none 0 0, .slice none 0 0, .bool false, .slice none 0 0, .slice none 0 0, .slice none 0 0] (chFR Ch.zero) := by
    refine MSt.start (vs := [.int .u16 0, .slice none 0 0, .slice none 0 0, .slice none 0 0, .slice none 0 0, strv [], .bool false, .slice none 0 0, .slice none 0 0, .bool false, .slice none 0 0, .slice none 0 0, .slice none 0 0, .bool false, .slice none 0 0, .bool false, .slice none 0 0, .bool false, .slice none 0 0, .slice none 0 0, .slice none 0 0, .slice none 0 0, .bool false, .slice none 0 0, .slice none 0 0, .slice none 0 0, .slice none 0 0, .bool false, .slice none 0 0, .slice none 0 0, .slice none 0 0]) hm1 ?_
    exact ⟨⟨rfl, fun e => (by cases e)⟩, ⟨Row.nil_ _ _, fun e => (by cases e)⟩, ⟨Row.nil_ _ _, fun e => (by cases e)⟩, ⟨Own.nil_ _ _ _, fun _ => rfl⟩, ⟨Row.nil_ _ _, fun e => (by cases e)⟩, ⟨rfl, fun e => (by cases e)⟩, ⟨rfl, fun e => (by cases e)⟩, ⟨Own.nil_ _ _ _, fun _ => rfl⟩, ⟨Row.nil_ _ _, fun e => (by cases e)⟩, ⟨rfl, fun e => (by cases e)⟩, ⟨Row.nil_ _ _, fun e => (by cases e)⟩, ⟨Own.nil_ _ _ _, fun _ => rfl⟩, ⟨Own.nil_ _ _ _, fun _ => rfl⟩, ⟨rfl, fun e => (by cases e)⟩, ⟨Row.nil_ _ _, fun e => (by cases e)⟩, ⟨rfl, fun e => (by cases e)⟩, ⟨Own.nil_ _ _ _, fun _ => rfl⟩, ⟨rfl, fun e => (by cases e)⟩, ⟨Own.nil_ _ _ _, fun _ => rfl⟩, ⟨Row.nil_ _ _, fun e => (by cases e)⟩, ⟨rfl, fun e => (by cases e)⟩, ⟨rfl, fun e => (by cases e)⟩, ⟨rfl, fun e => (by cases e)⟩, ⟨Row.nil_ _ _, fun e => (by cases e)⟩, ⟨rfl, fun e => (by cases e)⟩, ⟨rfl, fun e => (by cases e)⟩, ⟨⟨[], Own.nil_ _ _ _, trivial⟩, fun _ => rfl⟩, ⟨rfl, fun e => (by cases e)⟩, ⟨Row.nil_ _ _, fun e => (by cases e)⟩, ⟨Row.nil_ _ _, fun e => (by cases e)⟩, ⟨Own.nil_ _ _ _, fun _ => rfl⟩, trivial⟩
  have hz31 : (#[.int .u16 0, .slice none 0 0, .slice none 0 0, .slice none 0 0, .slice none 0 0, strv [], .bool false, .slice none 0 0, .slice none 0 0, .bool false, .slice none 0 0, .slice none 0 0, .slice none 0 0, .bool false, .slice none 0 0, .bool false, .slice none 0 0, .bool false, .slice none 0 0, .slice none 0 0, .slice none 0 0, .slice none 0 0, .bool false, .slice none 0 0, .slice none 0 0, .slice none 0 0, .slice none 0 0, .bool false, .slice none 0 0, .slice none 0 0, .slice none 0 0] : Array Value).size = 31 := rfl
  generalize (#[.int .u16 0, .slice none 0 0, .slice none 0 0, .slice none 0 0, .slice none 0 0, strv [], .bool false, .slice none 0 0, .slice none 0 0, .bool false, .slice none 0 0, .slice none 0 0, .slice none 0 0, .bool false, .slice none 0 0, .bool false, .slice none 0 0, .bool false, .slice none 0 0, .slice none 0 0, .slice none 0 0, .slice none 0 0, .bool false, .slice none 0 0, .slice none 0 0, .slice none 0 0, .slice none 0 0, .bool false, .slice none 0 0, .slice none 0 0, .slice none 0 0] : Array Value) = cs0 at hM1 hb1 hz31
  have HZ31 := hid hz31
  have HBS := hid hb1
  have hlb := chBodyB_len t L
  have hbody : bodyR 1 data = ⟨be 2 t.vers.toNat ++ (t.random ++ (be 1 t.sid.length ++ (t.sid ++ (be 2 (wordsB t.suites).length ++ (wordsB t.suites ++ (be 1 t.comps.length ++ (t.comps ++ chTail L))))))), 0⟩ := by
    have e0 : data.drop 4 = _ := (congrArg (List.drop 4) hF.eq).trans (ch_body t L)
    rw [hF.eq] at e0 ⊢
    have hb : bodyR 1 (chMsg t L) = ⟨chBodyB t L, 0⟩ := msgB_body 1 (by omega) _ (by have := hF.hd.s; have := hF.hd.ul; have := hF.hd.cl; have := hF.hd.r; have := hF.ln; omega)
    rw [hb, ← e0]
    unfold chMsg
    rw [msgB_drop]
  have H1 := body_any (w := w1) (N := B) (by have := hu1.size; omega) (Row.upd hv hu1 (by simp)) 1
  rw [hbody] at H1
  replace H1 := hid H1
  have HH := hid hF.hd
  have HLN := hid hF.ln
  have HRUN := hid hF.run
  have HW := hid hw1
  have HS1 := hid hs1
  have hBs : B ≤ s := by omega
  have HI := hid (show (Tryz.prog.info? 29).map (·.size) = some 31 by kernel_rfl)
  obtain ⟨dd, hd1, hd2⟩ := ChV.ok.str
  have HD1 := hid hd1
  clear hw1 hs1 hm1 hb1 hd1 hF hlb hbody hz31
  go_enter Tryz.func13, Tryz.ntmps13
  go_wp2_with fail
  rw [HW.out]
  refine (H1.out).mono ?_
  rintro e w2 ⟨rfl, hu2, hr2⟩
  rw [HS1.out] at hr2
  rw [HS1.out]
  have hU2 := hu1.trans hu2 (by simp)
  have hM2 := hM1.upd hu2 (by simp)
  have HB2 := hid (HBS.out.upd hu2 (by simp))
  have hsz2 : s + 2 < w2.heap.size := hr2.lt
  have hws : w.heap.size ≤ s := by omega
  have HU2 := hid hU2
  clear hu2 H1 hM1 HBS hU2
  have hU2 : Upd [s + 2, s + 1] w2 w2 := Upd.refl _ _
  have H := hid (numS (n := 2) (k := t.vers.toNat) hr2 (by omega) (beNat_be2 _ (by have := t.vers.toNat_lt; omega)))
  go_wp2_with fail
  refine H.out.mono ?_
  rintro e w11 ⟨rfl, hu11, hr11⟩
  have hM11 := hM2.upd hu11 (by simp <;> omega)
  have hU11 := hU2.trans hu11 (by simp <;> omega)
  clear H
  have hmodv : ((t.vers.toNat : Int) % 65536) = (t.vers.toNat : Int) := by have := t.vers.toNat_lt; omega
  obtain ⟨vc0, hcv0, -⟩ := hM11.get (i := 0) rfl
  have cc0 := hM11.cell hcv0
  have ff0 := hM11.blk.frozen 0
  clear hcv0
  obtain ⟨wA, hwA⟩ : ∃ z9, w11.setCell ⟨s + 1, 0, none⟩ (wv t.vers) = z9 := ⟨_, rfl⟩
  have hus12 : Upd [s + 1] w11 wA := by rw [← hwA]; exact (Upd.refl _ _).setCell (by simp) _
  have hbs12 := hM11.blk.set_ 0 (wv t.vers)
  rw [hwA] at hbs12
  have hM12 := hM11.putV (i := 0) (f := .val (wv t.vers)) (by omega) hus12 (by simp <;> omega) hbs12 rfl rfl
  have hr12 := hr11.upd hus12 (by simp <;> omega) (by simp)
  have hU12 := hU11.trans hus12 (by simp <;> omega)
  have HwA := hid hwA
  clear hwA
  have H := hid (takeS32 hr12 HH.out.r)
  go_wp2_with fail
  try rw [HwA.out]
  refine H.out.mono ?_
  rintro e w13 ⟨A1, c1, rfl, hu13, hr13, hyr⟩
  have hM13 := hM12.upd hu13 (by simp <;> omega)
  have hU13 := hU12.trans hu13 (by simp <;> omega)
  clear H
  obtain ⟨vc1, hcv1, -⟩ := hM13.get (i := 1) rfl
  have cc1 := hM13.cell hcv1
  have ff1 := hM13.blk.frozen 1
  clear hcv1
  obtain ⟨wB, hwB⟩ : ∃ z9, w13.setCell ⟨s + 1, 1, none⟩ (.slice A1 t.random.length c1) = z9 := ⟨_, rfl⟩
  have hus14 : Upd [s + 1] w13 wB := by rw [← hwB]; exact (Upd.refl _ _).setCell (by simp) _
  have hbs14 := hM13.blk.set_ 1 (.slice A1 t.random.length c1)
  rw [hwB] at hbs14
  have hM14 := hM13.putV (i := 1) (f := .byt t.random) (by omega) hus14 (by simp <;> omega) hbs14 (Row.upd hyr hus14 (by simp <;> omega)) rfl
  have hr14 := hr13.upd hus14 (by simp <;> omega) (by simp)
  have hU14 := hU13.trans hus14 (by simp <;> omega)
  have HwB := hid hwB
  clear hwB
  have H := hid (vecS hr14 1 0 255 (lp_b1 t.sid _ (by have := HH.out.s; omega)) (by omega) (by omega) (by have := HH.out.s; omega))
  go_wp2_with fail
  try rw [HwB.out]
  refine H.out.mono ?_
  rintro e w15 ⟨A2, c2, rfl, hu15, hr15, hyr⟩
  have hM15 := hM14.upd hu15 (by simp <;> omega)
  have hU15 := hU14.trans hu15 (by simp <;> omega)
  clear H
  obtain ⟨vc2, hcv2, -⟩ := hM15.get (i := 2) rfl
  have cc2 := hM15.cell hcv2
  have ff2 := hM15.blk.frozen 2
  clear hcv2
  obtain ⟨wC, hwC⟩ : ∃ z9, w15.setCell ⟨s + 1, 2, none⟩ (.slice A2 t.sid.length c2) = z9 := ⟨_, rfl⟩
  have hus16 : Upd [s + 1] w15 wC := by rw [← hwC]; exact (Upd.refl _ _).setCell (by simp) _
  have hbs16 := hM15.blk.set_ 2 (.slice A2 t.sid.length c2)
  rw [hwC] at hbs16
  have hM16 := hM15.putV (i := 2) (f := .byt t.sid) (by omega) hus16 (by simp <;> omega) hbs16 (Row.upd hyr hus16 (by simp <;> omega)) rfl
  have hr16 := hr15.upd hus16 (by simp <;> omega) (by simp)
  have hU16 := hU15.trans hus16 (by simp <;> omega)
  have HwC := hid hwC
  clear hwC
  have H := hid (vecS hr16 2 0 65535 (lp_b2 (wordsB t.suites) _ HH.out.ul) (by omega) (by omega) (by have := HH.out.ul; omega))
  go_wp2_with fail
  try rw [HwC.out]
  refine H.out.mono ?_
  rintro e w17 ⟨A3, c3, rfl, hu17, hr17, hyr⟩
  have hM17 := hM16.upd hu17 (by simp <;> omega)
  have hU17 := hU16.trans hu17 (by simp <;> omega)
  clear H
  have hszW := hU17.size
  have H := hid (wordsS hr17 hyr (by have := HH.out.ul; omega))
  go_wp2_with fail
  refine H.out.mono ?_
  rintro e w18 ⟨A4, c4, rfl, ho4, hu18, hr18⟩
  have hM18 := hM17.upd hu18 (by simp <;> omega)
  have hU18 := hU17.trans hu18 (by simp <;> omega)
  clear H
  have hszV := hu18.size
  obtain ⟨vc3, hcv3, -⟩ := hM18.get (i := 3) rfl
  have cc3 := hM18.cell hcv3
  have ff3 := hM18.blk.frozen 3
  clear hcv3
  have hge := fun g hg => ho4.ge (g := g) hg
  obtain ⟨wD, hwD⟩ : ∃ z9, w18.setCell ⟨s + 1, 3, none⟩ (.slice A4 t.suites.length c4) = z9 := ⟨_, rfl⟩
  have hus19 : Upd [s + 1] w18 wD := by rw [← hwD]; exact (Upd.refl _ _).setCell (by simp) _
  have hM19 := hM18.putO (i := 3) (x := .slice A4 t.suites.length c4) (f := .row 22 (t.suites.map wv)) (by omega) (by omega) (fun g hg => by have := hge g hg; omega) (show FOk _ B (s + 3) _ (.row 22 (t.suites.map wv)) from ho4.less8 (by omega)) (by omega)
  rw [hwD] at hM19
  have hr19 := hr18.upd hus19 (by simp <;> omega) (by simp)
  have hU19 := hU18.trans hus19 (by simp <;> omega)
  have HwD := hid hwD
  clear hwD hge
  have hszD := hus19.size
  have ho5 := ho4.upd hus19 (fun g hg hm => by have := ho4.ge hg; simp at hm; omega)
  have H := hid (vecS hr19 1 0 255 (lp_b1 t.comps _ HH.out.cl) (by omega) (by omega) (by have := HH.out.cl; omega))
  go_wp2_with fail
  try rw [HwD.out]
  refine H.out.mono ?_
  rintro e w20 ⟨A5, c5, rfl, hu20, hr20, hyr⟩
  have hM20 := hM19.upd hu20 (by simp <;> omega)
  have hU20 := hU19.trans hu20 (by simp <;> omega)
  clear H
  have hszE := hu20.size
  have ho6 := ho5.upd hu20 (fun g hg hm => by have := ho5.ge hg; simp at hm; omega)
  obtain ⟨vc4, hcv4, -⟩ := hM20.get (i := 4) rfl
  have cc4 := hM20.cell hcv4
  have ff4 := hM20.blk.frozen 4
  clear hcv4
  obtain ⟨wF, hwF⟩ : ∃ z9, w20.setCell ⟨s + 1, 4, none⟩ (.slice A5 t.comps.length c5) = z9 := ⟨_, rfl⟩
  have hus21 : Upd [s + 1] w20 wF := by rw [← hwF]; exact (Upd.refl _ _).setCell (by simp) _
  have hbs21 := hM20.blk.set_ 4 (.slice A5 t.comps.length c5)
  rw [hwF] at hbs21
  have hM21 := hM20.putV (i := 4) (f := .byt t.comps) (by omega) hus21 (by simp <;> omega) hbs21 (Row.upd hyr hus21 (by simp <;> omega)) rfl
  have hr21 := hr20.upd hus21 (by simp <;> omega) (by simp)
  have hU21 := hU20.trans hus21 (by simp <;> omega)
  have HwF := hid hwF
  clear hwF
  have ho7 := ho6.upd hus21 (fun g hg hm => by have := ho6.ge hg; simp at hm; omega)
  have HSG : Hid (sigB t.suites = false) := hid ((sigB_iff _).2 HH.out.sg)
  have hcell3 := hM21.cell (i := 3) (v := .slice A4 t.suites.length c4) (by rw [Array.getElem?_setIfInBounds_ne (by decide), Array.getElem?_setIfInBounds_self_of_lt (by simp only [Array.size_setIfInBounds, HZ31.out]; decide)])
  have H := signals_any (Own.row ho7)
  rw [HSG.out] at H
  replace H := hid H
  clear ho4 ho5 ho6 ho7 hyr
  go_upto_region 8 with fail
  rw [HwF.out]
  go_wp2_with fail
  refine H.out.mono ?_
  rintro e w30 ⟨rfl, rfl⟩
  clear H
  obtain ⟨vc13, hcv13, -⟩ := hM21.get (i := 13) rfl
  have cc13 := hM21.cell hcv13
  have ff13 := hM21.blk.frozen 13
  clear hcv13
  obtain ⟨wG, hwG⟩ : ∃ z9, wF.setCell ⟨s + 1, 13, none⟩ (.bool false) = z9 := ⟨_, rfl⟩
  have hus22 : Upd [s + 1] wF wG := by rw [← hwG]; exact (Upd.refl _ _).setCell (by simp) _
  have hbs22 := hM21.blk.set_ 13 (.bool false)
  rw [hwG] at hbs22
  have hM22 := hM21.putV (i := 13) (f := .val (.bool false)) (by omega) hus22 (by simp <;> omega) hbs22 rfl rfl
  have hr22 := hr21.upd hus22 (by simp <;> omega) (by simp)
  have hU22 := hU21.trans hus22 (by simp <;> omega)
  have HwG := hid hwG
  clear hwG
  have hcell3 := hM22.cell (i := 3) (v := .slice A4 t.suites.length c4) (by rw [Array.getElem?_setIfInBounds_ne (by decide), Array.getElem?_setIfInBounds_ne (by decide), Array.getElem?_setIfInBounds_self_of_lt (by simp only [Array.size_setIfInBounds, HZ31.out]; decide)])
  have hcell2 := hM22.cell (i := 2) (v := .slice A2 t.sid.length c2) (by rw [Array.getElem?_setIfInBounds_ne (by decide), Array.getElem?_setIfInBounds_ne (by decide), Array.getElem?_setIfInBounds_ne (by decide), Array.getElem?_setIfInBounds_self_of_lt (by simp only [Array.size_setIfInBounds, HZ31.out]; decide)])
  have hcell4 := hM22.cell (i := 4) (v := .slice A5 t.comps.length c5) (by rw [Array.getElem?_setIfInBounds_ne (by decide), Array.getElem?_setIfInBounds_self_of_lt (by simp only [Array.size_setIfInBounds, HZ31.out]; decide)])
  have hMG := MSt.cast hM22 (show _ = chFR (chHd t) from rfl)
  have hUG := hU22
  have hrG := hr22
  obtain ⟨csG, hcsG⟩ : ∃ z9, (((((((cs0.setIfInBounds 0 (wv t.vers)).setIfInBounds 1 (.slice A1 t.random.length c1)).setIfInBounds 2 (.slice A2 t.sid.length c2)).setIfInBounds 3 (.slice A4 t.suites.length c4)).setIfInBounds 4 (.slice A5 t.comps.length c5)).setIfInBounds 13 (.bool false))) = z9 := ⟨_, rfl⟩
  rw [hcsG] at hMG
  have hzF := hus21.size
  have hzG := hus22.size
  replace hMG := hMG.wide (hi' := wG.heap.size) (by omega)
  have d1 : decide ((32 : Int) < (t.sid.length : Int)) = false := decide_eq_false (by have := HH.out.s; omega)
  have d2 : ((t.suites.length : Int) == 0) = false := by
    rw [beq_eq_false_iff_ne]
    have := List.length_pos_iff.2 HH.out.u
    omega
  have d3 : ((t.comps.length : Int) == 0) = false := by
    rw [beq_eq_false_iff_ne]
    have := List.length_pos_iff.2 HH.out.c
    omega
  obtain ⟨Ar, cr, q0, q1, qf0, qf1, -, -⟩ := hrG.open_
  have q1 : wG.cell? ⟨s + 2, 1, none⟩ = some (.int .i64 0) := q1
  have hszG := hUG.size
  go_upto_region 9 with fail
  rw [HwG.out]
  go_upto_region 11 with fail
  clear hcell2 hcell3 hcell4 d1 d2 d3
  by_cases hL : L = []
  · have ht : t' = chHd t := by
      have h := HRUN.out
      rw [hL] at h
      cases h; rfl
    subst ht
    have hT : chTail L = [] := by rw [chTail, if_pos hL]
    rw [hT] at q0 hrG
    obtain ⟨wR, hwR⟩ : ∃ z9, wG = z9 := ⟨_, rfl⟩
    obtain ⟨csR, hcsR⟩ : ∃ z9, csG = z9 := ⟨_, rfl⟩
    have HwG := HwG
    rw [hwR, hcsR] at hMG
    rw [hwR] at hrG hUG q0 q1 qf0 qf1 hszG ⊢
    clear HwG hcsG
    have hzz := hUG.size
    have hvb : VB 29 ChV wR (s + 1) (chHd t) csR := ⟨hMG.blk, ChR.val hMG (by omega)⟩
    have HCZ := hid hMG.len
    have HCA := hid (show csR.all (·.oneCell') = true by obtain ⟨_, e, _, h⟩ := ChV.ok.agg hvb.2; injection e with e; subst e; exact h)
    have hbz := HB2.out.upd hUG (by simp)
    have HCI := hid (show (Tryz.prog.info? 29).map (·.size) = some csR.size by rw [show csR.size = 31 from HCZ.out]; exact HI.out)
    have HZZ := hid (show cs0.size = csR.size by rw [show csR.size = 31 from HCZ.out]; exact HZ31.out)
    have HFZ := hid (fun (wF : World) (huF : Upd [s] wR wF) => (show ChV wF wF.heap.size (.agg csR) (chHd t) ∧ Upd [] w wF from
      ⟨ChR.val (hMG.upd huF (by simp <;> omega)) (by have := huF.size; omega), (HU2.out.trans hUG (by simp <;> omega)).trans huF (by simp <;> omega)⟩))
    obtain ⟨Ar, cr, q0, q1, qf0, qf1, -, -⟩ := hrG.open_
    have q1 : wR.cell? ⟨s + 2, 1, none⟩ = some (.int .i64 0) := q1
    have HM9 := hid hMG
    clear hMG q0 qf0 qf1 hrG
    go_wp2_with fail
    have hld := blk_loadVar (Blk.drew hvb.1) HD1.out hd2 HCI.out
    have hcd : (World.drew wR).cell? ⟨s + 2, 1, none⟩ = some (.int .i64 0) := q1
    refine wp_region_held (S := fun u => (loadVar 29 ⟨s + 1, 0, none⟩).run Tryz.prog u = .ok (.agg csR) u ∧ u.cell? ⟨s + 2, 1, none⟩ = some (.int .i64 0)) (by kernel_rfl) ?_
    change wpAnyH _ _ _ _ _ _ _ _ (World.drew _)
    have HS := And.intro hld hcd
    try simp only [Act.put, List.getElem_toArray, List.getElem_cons_zero, List.getElem_cons_succ, List.setIfInBounds_toArray, List.set_cons_zero, List.set_cons_succ]
    refine wpAnyH_take (i := 0) (v := .agg csR) rfl (by kernel_rfl) (by kernel_rfl) (by kernel_rfl) (fun _ _ _ h => h) (yieldsIf_loadvar _ rfl rfl rfl (fun _ h => h.1)) HS ?_
    try simp only [Act.put, List.getElem_toArray, List.getElem_cons_zero, List.getElem_cons_succ, List.setIfInBounds_toArray, List.set_cons_zero, List.set_cons_succ]
    refine wpAnyH_take (i := 1) (v := ?vQ1_a) rfl (by kernel_rfl) (by kernel_rfl) (by kernel_rfl) (fun _ _ _ h => h) (Or.inl ⟨by rfl, ?hy1_a⟩) HS ?rest1_a
    case hy1_a =>
      rintro u ⟨-, hu⟩
      go_simp
      try with_reducible rfl
    try simp only [Act.put, List.getElem_toArray, List.getElem_cons_zero, List.getElem_cons_succ, List.setIfInBounds_toArray, List.set_cons_zero, List.set_cons_succ]
    refine wpAnyH_take (i := 2) (v := ?vQ2_a) rfl (by kernel_rfl) (by kernel_rfl) (by kernel_rfl) (fun _ _ _ h => h) (Or.inl ⟨by rfl, ?hy2_a⟩) HS ?rest2_a
    case hy2_a =>
      rintro u ⟨-, hu⟩
      go_simp
      try with_reducible rfl
    try simp only [Act.put, List.getElem_toArray, List.getElem_cons_zero, List.getElem_cons_succ, List.setIfInBounds_toArray, List.set_cons_zero, List.set_cons_succ]
    refine wpAnyH_take (i := 3) (v := ?vQ3_a) rfl (by kernel_rfl) (by kernel_rfl) (by kernel_rfl) (fun _ _ _ h => h) (Or.inl ⟨by rfl, ?hy3_a⟩) HS ?rest3_a
    case hy3_a =>
      rintro u ⟨-, hu⟩
      go_simp
      try with_reducible rfl
    try simp only [Act.put, List.getElem_toArray, List.getElem_cons_zero, List.getElem_cons_succ, List.setIfInBounds_toArray, List.set_cons_zero, List.set_cons_succ]
    refine wpAnyH_take (i := 4) (v := ?vQ4_a) rfl (by kernel_rfl) (by kernel_rfl) (by kernel_rfl) (fun _ _ _ h => h) (Or.inl ⟨by rfl, ?hy4_a⟩) HS ?rest4_a
    case hy4_a =>
      rintro u ⟨-, hu⟩
      go_simp
      try with_reducible rfl
    try simp only [Act.put, List.getElem_toArray, List.getElem_cons_zero, List.getElem_cons_succ, List.setIfInBounds_toArray, List.set_cons_zero, List.set_cons_succ]
    refine wpAnyH_all (rs := [5]) (by kernel_rfl) (by simp) (fun i hi => ?_)
    obtain rfl : i = 5 := by simpa using hi
    clear hi
    refine wpOp_store_any (cs := csR) rfl (Blk.drew hbz) HCI.out HCA.out HZZ.out rfl _ _ rfl rfl rfl ?_
    intro wf hbf huf hsf
    try simp only [Act.put, List.getElem_toArray, List.getElem_cons_zero, List.getElem_cons_succ, List.setIfInBounds_toArray, List.set_cons_zero, List.set_cons_succ]
    refine ⟨⟨blk_loadVar ((Blk.drew hvb.1).upd huf (by simp)) HD1.out hd2 HCI.out, huf.cell hcd (by simp)⟩, ?_⟩
    have HS := And.intro (blk_loadVar ((Blk.drew hvb.1).upd huf (by simp)) HD1.out hd2 HCI.out) (huf.cell hcd (by simp))
    refine wpAnyH_take (i := 6) (v := ?vQ6_a) rfl (by kernel_rfl) (by kernel_rfl) (by kernel_rfl) (fun _ _ _ h => h) (Or.inl ⟨by rfl, ?hy6_a⟩) HS ?rest6_a
    case hy6_a =>
      rintro u ⟨-, hu⟩
      go_simp
      try with_reducible rfl
    try simp only [Act.put, List.getElem_toArray, List.getElem_cons_zero, List.getElem_cons_succ, List.setIfInBounds_toArray, List.set_cons_zero, List.set_cons_succ]
    refine wpAnyH_done (by kernel_rfl) ?_ _
    go_wp2_with fail
    refine bodyPost_ret (v := .tuple #[.agg csR, .int .i64 0]) (results_cell2 (T := 29) (p := 2) (q := 3) (g := s) rfl _ _ rfl rfl (blk_loadVar hbf HD1.out hd2 HCI.out)) rfl ?_
    have hug : Upd [s] wR wf := ((Upd.refl [s] _).drew).trans huf (by simp)
    exact ⟨_, rfl, (HFZ.out _ hug).1, (HFZ.out _ hug).2⟩
  have hT : chTail L = be 2 (exsB L).length ++ exsB L := by rw [chTail, if_neg hL]; rfl
  rw [hT] at q0 hrG
  have hX := extsR HRUN.out.nodup.1 HLN.out
  have hE := HRUN.out.keys
  have hpos : decide (0 < (be 2 (exsB L).length ++ exsB L).length) = true := decide_eq_true (by rw [List.length_append, be_len]; omega)
  have hne0 : (((be 2 (exsB L).length ++ exsB L).length : Int) == 0) = false := by
    rw [beq_eq_false_iff_ne, List.length_append, be_len]; omega
  have hLl : L.length ≤ 65536 := by
    have key : ∀ z : List Ex, z.length ≤ (exsB z).length := by
      intro z
      induction z with
      | nil => simp
      | cons x z ih => obtain ⟨xk, xd⟩ := x; rw [exsB_cons2, List.length_append, be_len, List.length_append, be_len, List.length_append, List.length_cons]; omega
    have := key L; have := HLN.out; omega
  have hLd : ∀ e ∈ L, e.2.length < 65536 := by
    intro e he
    have key : ∀ z : List Ex, e ∈ z → e.2.length ≤ (exsB z).length := by
      intro z
      induction z with
      | nil => intro h; cases h
      | cons x z ih =>
        intro h
        obtain ⟨xk, xd⟩ := x
        rw [exsB_cons2, List.length_append, be_len, List.length_append, be_len, List.length_append]
        rcases List.mem_cons.1 h with rfl | h
        · simp only; omega
        · have := ih h; omega
    have := key L he; have := HLN.out; omega
  have HLL := hid hLl
  have HLD := hid hLd
  have HEK := hid hE
  have HXE := hid hX
  generalize be 2 (exsB L).length ++ exsB L = XB at q0 hrG hX hpos hne0 HXE
  clear hT hL hLl hLd hE hX hcsG hpos
  have H := hid (extensions_any hrG)
  go_wp2_with fail
  refine H.out.mono ?_
  rintro e w71 ⟨v71, rfl, ho71, hu71, hr71⟩
  rw [HXE.out] at ho71 hr71
  obtain ⟨A6, c6, rfl, hl6, hc6⟩ := ho71.form
  have hsE : s + 2 < wG.heap.size := by omega
  have hM71 := hMG.upd hu71 (by simp <;> omega)
  have hU71 := hUG.trans hu71 (by simp <;> omega)
  have hs71 := hu71.size
  generalize wG.heap.size = base at ho71 hsE hs71 hM71
  clear q0 q1 qf0 qf1 H hne0 hMG hUG hrG hu71 HXE
  have H := hid (end_any hr71)
  go_wp2_with fail
  refine H.out.mono ?_
  rintro e w72 ⟨rfl, hu72, hr72⟩
  have hr72 : Rd w72 B (s + 2) ⟨[], 0⟩ := hr72
  have hU72 := hU71.trans hu72 (by simp <;> omega)
  have hM72 := hM71.upd hu72 (by simp <;> omega)
  have hneq : ∀ g, (Value.slice A6 L.length c6).ownBlock = some g → s + 2 < g := fun g hg => by have := (ho71.ge hg).1; omega
  have ho72 := ho71.upd hu72 (fun g hg hm => by have := hneq g hg; simp at hm; omega) (by simp <;> omega)
  have hs72 := hu72.size
  clear H hM71 hU71 hu72 hr71 ho71
  have H := hid (Types_any ho72.exr (by have := HLL.out; omega))
  go_wp2_with fail
  refine H.out.mono ?_
  rintro e w73 ⟨vT, rfl, hoT, huT⟩
  obtain ⟨A7, c7, rfl⟩ := hoT.formN (n := L.length) (by simp)
  have hM73 := hM72.upd huT (by simp)
  have hU73 := hU72.trans huT (by simp)
  have hr73 := hr72.upd huT (by simp) (by simp)
  have ho73 := ho72.upd huT (by simp) (by simp)
  have hsT := huT.size
  have hs2T := hU73.size
  clear H hM72 hU72 hr72 ho72 huT
  obtain ⟨vc30, hcv30, -⟩ := hM73.get (i := 30) rfl
  have cc30 := hM73.cell hcv30
  have ff30 := hM73.blk.frozen 30
  clear hcv30
  have hge := fun g hg => hoT.ge (g := g) hg
  obtain ⟨wK, hwK⟩ : ∃ z9, w73.setCell ⟨s + 1, 30, none⟩ (.slice A7 L.length c7) = z9 := ⟨_, rfl⟩
  have hus81 : Upd [s + 1] w73 wK := by rw [← hwK]; exact (Upd.refl _ _).setCell (by simp) _
  have hM81 := hM73.putO (i := 30) (x := .slice A7 L.length c7) (f := .row 22 ((L.map (·.1)).map wv)) (by omega) (by omega) (fun g hg => by have := hge g hg; omega) (show FOk _ B (s + 3) _ (.row 22 ((L.map (·.1)).map wv)) from hoT.less8 (by omega)) (by omega)
  rw [hwK] at hM81
  have hr81 := hr73.upd hus81 (by simp <;> omega) (by simp)
  have hU81 := hU73.trans hus81 (by simp <;> omega)
  have HwK := hid hwK
  clear hwK hge
  have hcast : (chFR (chHd t)).set 30 (.row 22 ((L.map (·.1)).map wv)) = chFR { chHd t with exs := L.map (·.1) } := rfl
  have hMK := MSt.cast hM81 hcast
  have hUK := hU81
  have hrK := hr81
  have hszK := hus81.size
  have hoK := ho73.upd hus81 (fun g hg hm => by have := hneq g hg; simp at hm; omega) (by simp <;> omega)
  have hMK' := hMK.wide (hi' := wK.heap.size) (by omega)
  have hwK2 := hUK.size
  have hRU := HRUN.out
  clear hcast hMK hM73 hM81 hr81 hU81 hU73 hr73 ho73 hoT
  go_upto_region 16 with fail
  rw [HwK.out]
  clear HwK cc30 ff30
  generalize hE0 : L.map (fun x : Ex => x.1) = E at hMK'
  have HE0 := hid hE0
  clear hE0
  go_wp2_with fail
  go_loopg [86] L.length (fun gk i wr => ∃ (j : Nat) (M : Ch) (cs : Array Value), j + gk = L.length ∧ i = .int .i64 (j : Int) ∧ MSt wr B (s + 3) wr.heap.size (s + 1) 29 cs (chFR { M with exs := E }) ∧ Rd wr B (s + 2) ⟨[], 0⟩ ∧ EOwn wr base B (.slice A6 L.length c6) L ∧ Upd [s + 2, s + 1] w2 wr ∧ ChRun M (L.drop j) t')
  case atStart => exact ⟨0, chHd t, _, by omega, rfl, hMK', hrK, hoK, hUK, hRU⟩
  case round =>
    obtain ⟨j, M, csj, hj0, rfl, hMr, hrr, how, hur, hrn⟩ := hrel
    have HJ := hid hj0
    have hus := hur.size
    clear hMK' hrK hoK hUK hj0 hRU
    by_cases hlt : j < L.length
    · obtain ⟨b, o, rfl, hb', hj', A', c', e0, e1, hy, hy1, hy2⟩ := how.exr.at_ hlt
      have hxm := HLD.out _ (List.getElem_mem hlt)
      have hdrop := List.drop_eq_getElem_cons hlt
      rw [hdrop] at hrn
      have hlast : (L[j]).1 = 41 → L.length = j + 1 := by
        intro h41
        obtain ⟨M1, -, h3, -⟩ := hrn.inv
        have hd := congrArg List.length (h3 h41)
        rw [List.length_drop, List.length_nil] at hd
        omega
      generalize L[j] = x at e0 e1 hy hy1 hy2 hxm hdrop hrn hlast
      obtain ⟨xk, xd⟩ := x
      obtain ⟨M1, hst, hrn2⟩ : ∃ M1, ChStep { M with exs := E } xk xd { M1 with exs := E } ∧ ChRun M1 (L.drop (j + 1)) t' := by
        obtain ⟨M1, h2, -, h4⟩ := hrn.inv
        exact ⟨M1, h2.setExs E, h4⟩
      have HST := hid hst
      have HRN := hid hrn2
      have HLAST := hid hlast
      have hxm : xd.length < 65536 := hxm
      clear hdrop hrn hst hrn2 hlast
      obtain ⟨wX, hwX⟩ : ∃ wX, wr.alloc (.cells #[wv xk, .slice A' xd.length c'] 89) = wX := ⟨_, rfl⟩
      obtain ⟨g, hg⟩ : ∃ g, wr.heap.size = g := ⟨_, rfl⟩
      have huX : Upd [] wr wX := by rw [← hwX]; exact (Upd.refl _ _).alloc _
      have hbg : Blk wX g 89 #[wv xk, .slice A' xd.length c'] := by rw [← hwX, ← hg]; exact Blk.new _ _ _
      have hsg : s + 2 < g := by have := hrr.lt; omega
      have hwg : w2.heap.size ≤ g := by omega
      have hob : ∀ g', (Value.slice (some ⟨b, o, none⟩) L.length c6).ownBlock = some g' → g' < g := fun g' hg' => by have := (how.ge hg').2; omega
      rw [hg] at hMr
      have hMA := hMr.upd huX (by simp)
      have hrA := hrr.upd huX (by simp) (by simp)
      have hoA := how.upd huX (by simp) (by simp)
      have hurA := hur.trans huX (by simp)
      have hyA : Byt wX B (.slice A' xd.length c') xd := Row.upd hy huX (by simp)
      have hgl := hbg.lt
      have HH2 := hid (withinS (N' := B) hrA (by omega) hyA)
      have d0 := hbg.cell 0
      have d1 := hbg.cell 1
      simp at d0 d1
      have HWX := hid hwX
      have Hg := hid hg
      clear hwX hg hMr hrr how hur huX hy
      go_wp2_with fail
      rw [HWX.out, Hg.out]
      go_wp2_with fail
      refine HH2.out.mono ?_
      rintro e w83 ⟨rfl, hu83, hq83⟩
      have hgq : g < wX.heap.size := hgl
      generalize wX.heap.size = q at hq83 hgq
      have hM83 := hMA.upd hu83 (by simp)
      have hr83 := hrA.upd hu83 (by simp) (by simp)
      have ho83 := hoA.upd hu83 (by simp) (by simp)
      have hur83 := hurA.trans hu83 (by simp)
      have hbg83 := hbg.upd hu83 (by simp)
      have d0 := hbg83.cell 0
      simp at d0
      have hql := hq83.lt
      have hoq : ∀ g', (Value.slice (some ⟨b, o, none⟩) L.length c6).ownBlock = some g' → g' < g ∧ s + 2 < g' := fun g' hg' => ⟨hob g' hg', hneq g' hg'⟩
      have HX := hid (ext_Ch HST.out hq83 hM83 (by omega) (by omega) (by omega) (by omega) (by omega) hxm)
      clear hMA hrA hoA hurA hyA hu83 hbg HH2 d1 hob HWX Hg
      go_wp2_with fail
      refine HX.out.mono ?_
      rintro e w84 ⟨rfl, hu84, hq84, cs84, hM84, hno84⟩
      have hr84 := hr83.upd hu84 (by simp <;> omega) (by simp <;> omega)
      have ho84 := ho83.upd hu84 (fun g' hg' hm => by have := hoq g' hg'; simp at hm; omega) (by simp <;> omega)
      have hur84 := hur83.trans hu84 (by simp <;> omega)
      have hbg84 := hbg83.upd hu84 (by simp <;> omega)
      have HD := hid (doneS hr84 hq84 (by omega) (by omega))
      clear HX hM83 hr83 ho83 hur83 hu84 hq83 hbg83 d0
      go_wp2_with fail
      refine HD.out.mono ?_
      rintro e w85 ⟨rfl, hu85, hr85⟩
      have hql2 := hq84.lt
      have hM85 := hM84.updx hu85 (by omega) hno84
      have ho85 := ho84.upd hu85 (fun g' hg' hm => by have := hoq g' hg'; simp at hm; omega) (by simp <;> omega)
      have hur85 := hur84.trans hu85 (by simp <;> omega)
      have hM85' := hM85.wide (hi' := w85.heap.size) (by have := hu85.size; omega)
      have hbg85 := hbg84.upd hu85 (by simp <;> omega)
      have d0 := hbg85.cell 0
      simp at d0
      have HN := hid (And.intro hM85' (And.intro hr85 (And.intro ho85 hur85)))
      clear hM84 hr84 ho84 hur84 hu85 hq84 HD hM85 hbg84 hbg85 hM85' hr85 ho85 hur85 e0 e1
      have d41 := u16_eq xk 41
      rw [show ((41 : UInt16).toNat : Int) = 41 from rfl] at d41
      by_cases h41 : xk = 41
      · have hll := HLAST.out h41
        rw [decide_eq_true h41] at d41
        have hll2 : (L.length : Int) - 1 = (j : Int) := by omega
        have dj : decide ((j : Int) < (L.length : Int) - 1) = false := decide_eq_false (by omega)
        clear hll
        go_wp2
        go_roundg (L.length - (j + 1))
        case measure => have := HJ.out; omega
        case rel =>
          obtain ⟨hM85', hr85, ho85, hur85⟩ := HN.out
          exact ⟨j + 1, M1, _, by have := HJ.out; omega, by go_num, hM85', hr85, ho85, hur85, HRN.out⟩
      · rw [decide_eq_false h41] at d41
        go_wp2
        go_roundg (L.length - (j + 1))
        case measure => have := HJ.out; omega
        case rel =>
          obtain ⟨hM85', hr85, ho85, hur85⟩ := HN.out
          exact ⟨j + 1, M1, _, by have := HJ.out; omega, by go_num, hM85', hr85, ho85, hur85, HRN.out⟩
    · have hj0 := HJ.out
      obtain rfl : j = L.length := by omega
      rw [List.drop_length] at hrn
      cases hrn
      have hE2 : { t' with exs := E } = t' := by
        have h1 : t'.exs = E := by rw [HEK.out, ← HE0.out]; rfl
        rw [← h1]
      rw [hE2] at hMr
      obtain ⟨wR, hwR⟩ : ∃ z9, wr = z9 := ⟨_, rfl⟩
      obtain ⟨csR, hcsR⟩ : ∃ z9, csj = z9 := ⟨_, rfl⟩
      rw [hwR, hcsR] at hMr
      rw [hwR] at hrr hur hus ⊢
      clear how hlt HJ hwR hcsR hE2
      have hzz := hur.size
      have hvb : VB 29 ChV wR (s + 1) t' csR := ⟨hMr.blk, ChR.val hMr (by omega)⟩
      have HCZ := hid hMr.len
      have HCA := hid (show csR.all (·.oneCell') = true by obtain ⟨_, e, _, h⟩ := ChV.ok.agg hvb.2; injection e with e; subst e; exact h)
      have hbz := HB2.out.upd hur (by simp)
      have HCI := hid (show (Tryz.prog.info? 29).map (·.size) = some csR.size by rw [show csR.size = 31 from HCZ.out]; exact HI.out)
      have HZZ := hid (show cs0.size = csR.size by rw [show csR.size = 31 from HCZ.out]; exact HZ31.out)
      have HFZ := hid (fun (wF : World) (huF : Upd [s] wR wF) => (show ChV wF wF.heap.size (.agg csR) t' ∧ Upd [] w wF from
        ⟨ChR.val (hMr.upd huF (by simp <;> omega)) (by have := huF.size; omega), (HU2.out.trans hur (by simp <;> omega)).trans huF (by simp <;> omega)⟩))
      obtain ⟨Ar, cr, q0, q1, qf0, qf1, -, -⟩ := hrr.open_
      have q1 : wR.cell? ⟨s + 2, 1, none⟩ = some (.int .i64 0) := q1
      have HM9 := hid hMr
      clear hMr q0 qf0 qf1 hrr
      go_wp2_with fail
      have hld := blk_loadVar (Blk.drew hvb.1) HD1.out hd2 HCI.out
      have hcd : (World.drew wR).cell? ⟨s + 2, 1, none⟩ = some (.int .i64 0) := q1
      refine wp_region_held (S := fun u => (loadVar 29 ⟨s + 1, 0, none⟩).run Tryz.prog u = .ok (.agg csR) u ∧ u.cell? ⟨s + 2, 1, none⟩ = some (.int .i64 0)) (by kernel_rfl) ?_
      change wpAnyH _ _ _ _ _ _ _ _ (World.drew _)
      have HS := And.intro hld hcd
      try simp only [Act.put, List.getElem_toArray, List.getElem_cons_zero, List.getElem_cons_succ, List.setIfInBounds_toArray, List.set_cons_zero, List.set_cons_succ]
      refine wpAnyH_take (i := 0) (v := .agg csR) rfl (by kernel_rfl) (by kernel_rfl) (by kernel_rfl) (fun _ _ _ h => h) (yieldsIf_loadvar _ rfl rfl rfl (fun _ h => h.1)) HS ?_
      try simp only [Act.put, List.getElem_toArray, List.getElem_cons_zero, List.getElem_cons_succ, List.setIfInBounds_toArray, List.set_cons_zero, List.set_cons_succ]
      refine wpAnyH_take (i := 1) (v := ?vQ1_b) rfl (by kernel_rfl) (by kernel_rfl) (by kernel_rfl) (fun _ _ _ h => h) (Or.inl ⟨by rfl, ?hy1_b⟩) HS ?rest1_b
      case hy1_b =>
        rintro u ⟨-, hu⟩
        go_simp
        try with_reducible rfl
      try simp only [Act.put, List.getElem_toArray, List.getElem_cons_zero, List.getElem_cons_succ, List.setIfInBounds_toArray, List.set_cons_zero, List.set_cons_succ]
      refine wpAnyH_take (i := 2) (v := ?vQ2_b) rfl (by kernel_rfl) (by kernel_rfl) (by kernel_rfl) (fun _ _ _ h => h) (Or.inl ⟨by rfl, ?hy2_b⟩) HS ?rest2_b
      case hy2_b =>
        rintro u ⟨-, hu⟩
        go_simp
        try with_reducible rfl
      try simp only [Act.put, List.getElem_toArray, List.getElem_cons_zero, List.getElem_cons_succ, List.setIfInBounds_toArray, List.set_cons_zero, List.set_cons_succ]
      refine wpAnyH_take (i := 3) (v := ?vQ3_b) rfl (by kernel_rfl) (by kernel_rfl) (by kernel_rfl) (fun _ _ _ h => h) (Or.inl ⟨by rfl, ?hy3_b⟩) HS ?rest3_b
      case hy3_b =>
        rintro u ⟨-, hu⟩
        go_simp
        try with_reducible rfl
      try simp only [Act.put, List.getElem_toArray, List.getElem_cons_zero, List.getElem_cons_succ, List.setIfInBounds_toArray, List.set_cons_zero, List.set_cons_succ]
      refine wpAnyH_take (i := 4) (v := ?vQ4_b) rfl (by kernel_rfl) (by kernel_rfl) (by kernel_rfl) (fun _ _ _ h => h) (Or.inl ⟨by rfl, ?hy4_b⟩) HS ?rest4_b
      case hy4_b =>
        rintro u ⟨-, hu⟩
        go_simp
        try with_reducible rfl
      try simp only [Act.put, List.getElem_toArray, List.getElem_cons_zero, List.getElem_cons_succ, List.setIfInBounds_toArray, List.set_cons_zero, List.set_cons_succ]
      refine wpAnyH_all (rs := [5]) (by kernel_rfl) (by simp) (fun i hi => ?_)
      obtain rfl : i = 5 := by simpa using hi
      clear hi
      refine wpOp_store_any (cs := csR) rfl (Blk.drew hbz) HCI.out HCA.out HZZ.out rfl _ _ rfl rfl rfl ?_
      intro wf hbf huf hsf
      try simp only [Act.put, List.getElem_toArray, List.getElem_cons_zero, List.getElem_cons_succ, List.setIfInBounds_toArray, List.set_cons_zero, List.set_cons_succ]
      refine ⟨⟨blk_loadVar ((Blk.drew hvb.1).upd huf (by simp)) HD1.out hd2 HCI.out, huf.cell hcd (by simp)⟩, ?_⟩
      have HS := And.intro (blk_loadVar ((Blk.drew hvb.1).upd huf (by simp)) HD1.out hd2 HCI.out) (huf.cell hcd (by simp))
      refine wpAnyH_take (i := 6) (v := ?vQ6_b) rfl (by kernel_rfl) (by kernel_rfl) (by kernel_rfl) (fun _ _ _ h => h) (Or.inl ⟨by rfl, ?hy6_b⟩) HS ?rest6_b
      case hy6_b =>
        rintro u ⟨-, hu⟩
        go_simp
        try with_reducible rfl
      try simp only [Act.put, List.getElem_toArray, List.getElem_cons_zero, List.getElem_cons_succ, List.setIfInBounds_toArray, List.set_cons_zero, List.set_cons_succ]
      refine wpAnyH_done (by kernel_rfl) ?_ _
      go_wp2_with fail
      refine bodyPost_ret (v := .tuple #[.agg csR, .int .i64 0]) (results_cell2 (T := 29) (p := 2) (q := 3) (g := s) rfl _ _ rfl rfl (blk_loadVar hbf HD1.out hd2 HCI.out)) rfl ?_
      have hug : Upd [s] wR wf := ((Upd.refl [s] _).drew).trans huf (by simp)
      exact ⟨_, rfl, (HFZ.out _ hug).1, (HFZ.out _ hug).2⟩
end
end Go.Proofs.YtaajmfgplhfncaaGreat

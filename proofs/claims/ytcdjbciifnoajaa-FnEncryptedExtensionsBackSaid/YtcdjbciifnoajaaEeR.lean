/- EncryptedExtensions: read by the reference. -/
import Derived.Test.YtcdjbciifnoajaaEeP
import Derived.Test.YtcdjbciifnoajaaReader
import Derived.Deep.LoopGhost
namespace Go.Proofs.Ytcdjbciifnoajaa
open Go.RowKit
set_option maxRecDepth 100000

theorem ee_vec2_len (s : R) (lo hi : Nat) : (s.vec 2 lo hi).1.length < 65536 := by
  unfold R.vec
  simp only
  split
  · rw [take_len]; exact num2_lt s
  · simp
theorem ee_extsGo_data (f : Nat) (x : R) (out : List Ex) (h : ∀ e ∈ out, e.2.length < 65536) : ∀ e ∈ (R.extsGo f x out).1, e.2.length < 65536 := by
  induction f generalizing x out with
  | zero => exact h
  | succ f ih =>
    rw [R.extsGo_succ]
    by_cases h0 : x.bs = []
    · rw [if_pos h0]; exact h
    · rw [if_neg h0]
      refine ih _ _ fun e he => ?_
      rcases List.mem_append.1 he with he | he
      · exact h e he
      · simp at he
        rw [he]
        exact ee_vec2_len _ _ _
theorem ee_exts_data (s : R) : ∀ e ∈ s.exts.1, e.2.length < 65536 := ee_extsGo_data _ _ _ (by simp)
theorem ee_within_len (s : R) (b : List UInt8) : (s.within b).bs.length ≤ b.length := by
  unfold R.within
  simp only
  split <;> simp
section
variable {w w' : World} {B m : Nat} {v content : Value} {xs data : List UInt8} {e : Ending}
/-- what ReadEncryptedExtensions hands back -/
def RefE (w : World) (B : Nat) (x : Ee) (code : Nat) (e : Ending) (w' : World) : Prop :=
  ∃ v, e = .returned (.tuple #[v, .int .i64 (code : Int)]) ∧ EeV w' B v x ∧ Upd [] w w'
/-- the loop over extensions -/
def EeSRel (w : World) (N q mb rb base : Nat) (v : Value) (L : List Ex) (r0 : R) (gk : Nat) (i : Value) (wr : World) : Prop :=
  ∃ (j : Nat) (M : Ee) (r : R) (A1 A2 : Option Addr) (c1 c2 : Nat), j + gk = L.length ∧ i = .int .i64 (j : Int) ∧ Blk wr mb 44 #[strv M.alpn, .bool M.has, .slice A1 M.quic.length c1, .bool M.early, .slice A2 M.ech.length c2, .bool M.ack] ∧ Blk wr rb 44 #[strv [], .bool false, .slice none 0 0, .bool false, .slice none 0 0, .bool false] ∧ Rd wr N q r ∧ EOwn wr base N v L ∧
    Byt wr N (.slice A1 M.quic.length c1) M.quic ∧ Byt wr N (.slice A2 M.ech.length c2) M.ech ∧ Upd [] w wr ∧ specE eeRd L (Ee.zero, r0) = specE eeRd (L.drop j) (M, r)

set_option maxHeartbeats 8000000 in
theorem ReadEe_any (hv : Byt w B v data) (hB : B ≤ w.heap.size) : Calls Try.prog 32 #[v] w (RefE w B (eeSpec data).1 (eeSpec data).2.code) := by
  obtain ⟨A, c, rfl, hv, hl, hc⟩ := Byt.form hv rfl
  obtain ⟨w1, hw1⟩ : ∃ w1, (w.alloc (.cells #[strv [], .bool false, .slice none 0 0, .bool false, .slice none 0 0, .bool false] 44)).alloc (.cells #[strv [], .bool false, .slice none 0 0, .bool false, .slice none 0 0, .bool false] 44) = w1 := ⟨_, rfl⟩
  obtain ⟨s, hs⟩ : ∃ s, w.heap.size = s := ⟨_, rfl⟩
  have hu1 : Upd [] w w1 := by rw [← hw1]; exact ((Upd.refl _ _).alloc _).alloc _
  have hb1 : Blk w1 s 44 #[strv [], .bool false, .slice none 0 0, .bool false, .slice none 0 0, .bool false] := by rw [← hw1, ← hs]; exact (Blk.new _ _ _).alloc _
  have hm1 : Blk w1 (s + 1) 44 #[strv [], .bool false, .slice none 0 0, .bool false, .slice none 0 0, .bool false] := by
    rw [← hw1, ← hs]
    have := Blk.new (w.alloc (.cells #[strv [], .bool false, .slice none 0 0, .bool false, .slice none 0 0, .bool false] 44)) 44 #[strv [], .bool false, .slice none 0 0, .bool false, .slice none 0 0, .bool false]
    rwa [show (w.alloc (.cells #[strv [], .bool false, .slice none 0 0, .bool false, .slice none 0 0, .bool false] 44)).heap.size = w.heap.size + 1 by simp] at this
  have hs1 : w1.heap.size = s + 2 := by rw [← hw1, ← hs]; simp
  have H1 := hid (body_any (w := w1) (N := B) (by have := hu1.size; omega) (Row.upd hv hu1 (by simp)) 8)
  have HW := hid hw1
  have HS1 := hid hs1
  clear hw1 hs1
  go_enter Try.func32, Try.ntmps32
  go_wp2_with fail
  rw [HW.out]
  refine (H1.out).mono ?_
  rintro e w2 ⟨rfl, hu2, hr2⟩
  rw [HS1.out] at hr2
  rw [HS1.out]
  have hU2 := hu1.trans hu2 (by simp)
  have hb2 := hb1.upd hu2 (by simp)
  have hm2 := hm1.upd hu2 (by simp)
  clear hb1 hm1 hu1 hu2 H1
  -- the extensions
  have H := hid (extensions_any hr2)
  go_wp2_with fail
  refine H.out.mono ?_
  rintro e w11 ⟨v11, rfl, ho11, hu11, hr11⟩
  obtain ⟨A5, c5, rfl, hl5, hc5⟩ := ho11.form
  obtain ⟨L, hL⟩ : ∃ L, (bodyR 8 data).exts.1 = L := ⟨_, rfl⟩
  obtain ⟨r5, hr5⟩ : ∃ r, (bodyR 8 data).exts.2 = r := ⟨_, rfl⟩
  have hLd : ∀ e ∈ L, e.2.length < 65536 := by rw [← hL]; exact ee_exts_data _
  have hS : eeSpec data = specE eeRd L (Ee.zero, r5.fin) := by unfold eeSpec; rw [hL, hr5]
  rw [hr5] at hr11
  rw [hL] at ho11 hl5
  rw [hL]
  have HLD := hid hLd
  have HSP := hid hS
  clear hL hr5 hLd hS
  have hU11 := hU2.trans hu11 (by simp; omega)
  have hb11 := hb2.upd hu11 (by simp)
  have hm11 := hm2.upd hu11 (by simp)
  have hsz10 : s + 2 < w2.heap.size := by have := hr2.lt; omega
  generalize w2.heap.size = base at ho11 hsz10
  clear hb2 hm2 hU2 hu11 H hr2
  have hne : ∀ g, (Value.slice A5 L.length c5).ownBlock = some g → s + 2 < g := fun g hg => by have := (ho11.ge hg).1; omega
  have H := hid (end_any hr11)
  go_wp2_with fail
  refine H.out.mono ?_
  rintro e w12 ⟨rfl, hu12, hr12⟩
  have hU12 := hU11.trans hu12 (by simp; omega)
  have hb12 := hb11.upd hu12 (by simp)
  have hm12 := hm11.upd hu12 (by simp)
  have ho12 := ho11.upd hu12 (fun g hg hm => by have := hne g hg; simp at hm; omega) (by simp; omega)
  clear hb11 hm11 hU11 hu12 H hr11 ho11
  go_wp2_with fail
  go_loopg [18] L.length (fun gk i wr => EeSRel w B (s + 2) (s + 1) s base (.slice A5 L.length c5) L r5.fin gk i wr)
  case atStart => exact ⟨0, Ee.zero, r5.fin, none, none, 0, 0, by omega, rfl, hm12, hb12, hr12, ho12, Row.nil_ _ _, Row.nil_ _ _, hU12, rfl⟩
  case round =>
    obtain ⟨j, M, r, A1, A2, c1, c2, hj0, rfl, hmr, hbr, hrr, how, hyn, hyl, hur, hE⟩ := hrel
    have HJ := hid hj0
    have HE := hid hE
    have hus := hur.size
    clear hm12 hb12 hr12 ho12 hU12 hj0 hE
    by_cases hlt : j < L.length
    · obtain ⟨b, o, rfl, hb', hj', A', c', e0, e1, hy, hy1, hy2⟩ := how.exr.at_ hlt
      have hxm := HLD.out _ (List.getElem_mem hlt)
      have hdrop := List.drop_eq_getElem_cons hlt
      generalize L[j] = x at e0 e1 hy hy1 hy2 hxm hdrop
      obtain ⟨xk, xd⟩ := x
      have hstep : specE eeRd (L.drop j) (M, r) = specE eeRd (L.drop (j + 1)) ((eeRd M xk (r.within xd)).1, r.done (eeRd M xk (r.within xd)).2) := by
        rw [hdrop]; rfl
      have HST := hid hstep
      have hxm : xd.length < 65536 := hxm
      clear hstep hdrop
      obtain ⟨wA, hwA⟩ : ∃ wA, wr.alloc (.cells #[wv xk, .slice A' xd.length c'] 66) = wA := ⟨_, rfl⟩
      obtain ⟨g, hg⟩ : ∃ g, wr.heap.size = g := ⟨_, rfl⟩
      have huA : Upd [] wr wA := by rw [← hwA]; exact (Upd.refl _ _).alloc _
      have hbg : Blk wA g 66 #[wv xk, .slice A' xd.length c'] := by rw [← hwA, ← hg]; exact Blk.new _ _ _
      have hsg : s + 2 < g := by have := hrr.lt; omega
      have hob : ∀ g', (Value.slice (some ⟨b, o, none⟩) L.length c5).ownBlock = some g' → g' < g := fun g' hg' => by have := (how.ge hg').2; omega
      have hgb : base ≤ g := by have := hrr.lt; have := (how.ge (g := b) rfl); omega
      have hmA := hmr.upd huA (by simp)
      have hbA := hbr.upd huA (by simp)
      have hrA := hrr.upd huA (by simp) (by simp)
      have hoA := how.upd huA (by simp) (by simp)
      have hynA := Row.upd hyn huA (by simp)
      have hylA := Row.upd hyl huA (by simp)
      have hurA := hur.trans huA (by simp)
      have hyA : Byt wA B (.slice A' xd.length c') xd := Row.upd hy huA (by simp)
      have hgl := hbg.lt
      have HH := hid (within_any hrA (N' := B) (by omega) hyA)
      have d0 := hbg.cell 0
      have d1 := hbg.cell 1
      simp at d0 d1
      have HWA := hid hwA
      have Hg := hid hg
      clear hwA hg hmr hrr how hyn hyl hur huA hy
      go_wp2_with fail
      rw [HWA.out, Hg.out]
      go_wp2_with fail
      refine HH.out.mono ?_
      rintro e w13 ⟨rfl, hu13, hq13⟩
      have hgq : g < wA.heap.size := hgl
      generalize wA.heap.size = q at hq13 hgq
      have hm13 := hmA.upd hu13 (by simp)
      have hb13 := hbA.upd hu13 (by simp)
      have hr13 := hrA.upd hu13 (by simp) (by simp)
      have ho13 := hoA.upd hu13 (by simp) (by simp)
      have hyn13 := Row.upd hynA hu13 (by simp)
      have hyl13 := Row.upd hylA hu13 (by simp)
      have hur13 := hurA.trans hu13 (by simp)
      have hbg13 := hbg.upd hu13 (by simp)
      have d0 := hbg13.cell 0
      simp at d0
      have hwl := ee_within_len r xd
      have hoq : ∀ g', (Value.slice (some ⟨b, o, none⟩) L.length c5).ownBlock = some g' → g' < g ∧ s + 2 < g' := fun g' hg' => ⟨hob g' hg', hne g' hg'⟩
      clear hmA hrA hoA hynA hylA hurA hyA hu13 hbg HH d1 hob
      obtain ⟨p0, p1, p2, p3, p4, p5, g0, g1, g2, g3, g4, g5⟩ := six_cells hm13
      obtain ⟨Aq, cq, q0, q1, qf0, qf1, hql, hqc⟩ := hq13.open_
      have d16 := u16_lit xk 16
      have d57 := u16_lit xk 57
      have d42 := u16_lit xk 42
      have dech := u16_lit xk 65037
      have dack := u16_lit xk 0
      rw [show ((16 : UInt16).toNat : Int) = 16 from rfl] at d16
      rw [show ((57 : UInt16).toNat : Int) = 57 from rfl] at d57
      rw [show ((42 : UInt16).toNat : Int) = 42 from rfl] at d42
      rw [show ((65037 : UInt16).toNat : Int) = 65037 from rfl] at dech
      rw [show ((0 : UInt16).toNat : Int) = 0 from rfl] at dack
      generalize hxx : r.within xd = xx at hq13 hwl hql q0 HST
      clear hxx
      by_cases h42 : xk = 42
      · rw [decide_eq_true h42] at d42
        rw [decide_eq_false (by rw [h42]; decide)] at d16 d57
        have HRD := hid (show eeRd M xk xx = (M.setEarly, xx) by rw [h42]; rfl)
        clear h42
        obtain ⟨wX, hwX⟩ : ∃ wX, w13.setCell ⟨s + 1, 3, none⟩ (.bool true) = wX := ⟨_, rfl⟩
        have hu3X : Upd [q, s + 1] w13 wX := by rw [← hwX]; exact (Upd.refl _ _).setCell (by simp) _
        have hmX : Blk wX (s + 1) 44 #[strv M.alpn, .bool M.has, .slice A1 M.quic.length c1, .bool true, .slice A2 M.ech.length c2, .bool M.ack] := by rw [← hwX]; exact hm13.set_ 3 _
        have hqX := hq13.upd (by rw [← hwX]; exact (Upd.refl [s + 1] _).setCell (by simp) _ : Upd [s + 1] w13 wX) (by simp; omega) (by simp; omega)
        have HWX := hid hwX
        clear hwX
        have hbX := hb13.upd hu3X (by simp; omega)
        have hrX := hr13.upd hu3X (by simp; omega) (by simp; omega)
        have hoX := ho13.upd hu3X (fun g' hg' hm => by have := hoq g' hg'; simp at hm; omega) (by simp; omega)
        have hynX := Row.upd hyn13 hu3X (by simp; omega)
        have hylX := Row.upd hyl13 hu3X (by simp; omega)
        have hurX := hur13.trans hu3X (by simp; omega)
        have HD := hid (done_any hrX hqX (by omega) (by omega))
        clear hm13 hb13 hr13 hq13 ho13 hyn13 hyl13 hur13 hu3X
        go_wp2_with fail
        rw [HWX.out]
        clear p0 p1 p2 p3 p4 p5 g0 g1 g2 g3 g4 g5 q0 q1 qf0 qf1
        refine HD.out.mono ?_
        rintro e w16 ⟨rfl, hu16, hr16⟩
        have hm16 := hmX.upd hu16 (by simp; omega)
        have hb16 := hbX.upd hu16 (by simp; omega)
        have ho16 := hoX.upd hu16 (fun g' hg' hm => by have := hoq g' hg'; simp at hm; omega) (by simp; omega)
        have hyn16 := Row.upd hynX hu16 (by simp; omega)
        have hyl16 := Row.upd hylX hu16 (by simp; omega)
        have hur16 := hurX.trans hu16 (by simp; omega)
        clear hmX hoX hynX hylX hurX hu16 hrX hqX HD HWX
        go_wp2
        go_roundg (L.length - (j + 1))
        case measure => have := HJ.out; omega
        case rel => exact ⟨j + 1, M.setEarly, _, A1, A2, c1, c2, by have := HJ.out; omega, by go_num, hm16, hb16, hr16, ho16, hyn16, hyl16, hur16, by rw [HE.out, HST.out, HRD.out]⟩
      rw [decide_eq_false h42] at d42
      by_cases hack : xk = 0
      · rw [decide_eq_true hack] at dack
        rw [decide_eq_false (by rw [hack]; decide)] at d16 d57 dech
        have HRD := hid (show eeRd M xk xx = (M.setAck, xx) by rw [hack]; rfl)
        clear hack
        obtain ⟨wX, hwX⟩ : ∃ wX, w13.setCell ⟨s + 1, 5, none⟩ (.bool true) = wX := ⟨_, rfl⟩
        have hu3X : Upd [q, s + 1] w13 wX := by rw [← hwX]; exact (Upd.refl _ _).setCell (by simp) _
        have hmX : Blk wX (s + 1) 44 #[strv M.alpn, .bool M.has, .slice A1 M.quic.length c1, .bool M.early, .slice A2 M.ech.length c2, .bool true] := by rw [← hwX]; exact hm13.set_ 5 _
        have hqX := hq13.upd (by rw [← hwX]; exact (Upd.refl [s + 1] _).setCell (by simp) _ : Upd [s + 1] w13 wX) (by simp; omega) (by simp; omega)
        have HWX := hid hwX
        clear hwX
        have hbX := hb13.upd hu3X (by simp; omega)
        have hrX := hr13.upd hu3X (by simp; omega) (by simp; omega)
        have hoX := ho13.upd hu3X (fun g' hg' hm => by have := hoq g' hg'; simp at hm; omega) (by simp; omega)
        have hynX := Row.upd hyn13 hu3X (by simp; omega)
        have hylX := Row.upd hyl13 hu3X (by simp; omega)
        have hurX := hur13.trans hu3X (by simp; omega)
        have HD := hid (done_any hrX hqX (by omega) (by omega))
        clear hm13 hb13 hr13 hq13 ho13 hyn13 hyl13 hur13 hu3X
        go_wp2_with fail
        rw [HWX.out]
        clear p0 p1 p2 p3 p4 p5 g0 g1 g2 g3 g4 g5 q0 q1 qf0 qf1
        refine HD.out.mono ?_
        rintro e w16 ⟨rfl, hu16, hr16⟩
        have hm16 := hmX.upd hu16 (by simp; omega)
        have hb16 := hbX.upd hu16 (by simp; omega)
        have ho16 := hoX.upd hu16 (fun g' hg' hm => by have := hoq g' hg'; simp at hm; omega) (by simp; omega)
        have hyn16 := Row.upd hynX hu16 (by simp; omega)
        have hyl16 := Row.upd hylX hu16 (by simp; omega)
        have hur16 := hurX.trans hu16 (by simp; omega)
        clear hmX hoX hynX hylX hurX hu16 hrX hqX HD HWX
        go_wp2
        go_roundg (L.length - (j + 1))
        case measure => have := HJ.out; omega
        case rel => exact ⟨j + 1, M.setAck, _, A1, A2, c1, c2, by have := HJ.out; omega, by go_num, hm16, hb16, hr16, ho16, hyn16, hyl16, hur16, by rw [HE.out, HST.out, HRD.out]⟩
      rw [decide_eq_false hack] at dack
      by_cases h57 : xk = 57
      · rw [decide_eq_true h57] at d57
        rw [decide_eq_false (by rw [h57]; decide)] at d16
        have HRD := hid (show eeRd M xk xx = (M.setQuic xx.bs, ⟨[], xx.code⟩) by rw [h57]; show (M.setQuic (xx.take xx.bs.length).1, (xx.take xx.bs.length).2) = _; rw [rest_take])
        clear h57
        have H := hid (take_any hq13 xx.bs.length (by omega))
        go_wp2_with fail
        refine H.out.mono ?_
        rintro e w14 ⟨u14, rfl, hu14, hq14, -, hy14⟩
        have hy14 := hy14.resolve_left (by omega)
        rw [rest_take] at hy14 hq14
        obtain ⟨A3, c3, rfl, hy14, -, -⟩ := Byt.form hy14 rfl
        have hm14 := hm13.upd hu14 (by simp; omega)
        clear p0 p1 p2 p3 p4 p5 g0 g1 g2 g3 g4 g5 q0 q1 qf0 qf1
        obtain ⟨p0, p1, p2, p3, p4, p5, g0, g1, g2, g3, g4, g5⟩ := six_cells hm14
        have q0 := True.intro
        have q1 := True.intro
        have qf0 := True.intro
        have qf1 := True.intro
        obtain ⟨wX, hwX⟩ : ∃ wX, (w14.setCell ⟨s + 1, 1, none⟩ (.bool true)).setCell ⟨s + 1, 2, none⟩ (.slice A3 xx.bs.length c3) = wX := ⟨_, rfl⟩
        have hu4X : Upd [s + 1] w14 wX := by rw [← hwX]; exact ((Upd.refl _ _).setCell (by simp) _).setCell (by simp) _
        have hu3X : Upd [q, s + 1] w13 wX := (hu14.mono (by simp)).trans hu4X (by simp)
        have hmX : Blk wX (s + 1) 44 #[strv M.alpn, .bool true, .slice A3 xx.bs.length c3, .bool M.early, .slice A2 M.ech.length c2, .bool M.ack] := by rw [← hwX]; exact (hm14.set_ 1 _).set_ 2 _
        have hqX := hq14.upd hu4X (by simp; omega) (by simp; omega)
        have hynX := Row.upd hy14 hu4X (by simp; omega)
        have HWX := hid hwX
        clear hwX hm14 hq14 hy14 hu4X H hu14
        have hbX := hb13.upd hu3X (by simp; omega)
        have hrX := hr13.upd hu3X (by simp; omega) (by simp; omega)
        have hoX := ho13.upd hu3X (fun g' hg' hm => by have := hoq g' hg'; simp at hm; omega) (by simp; omega)
        have HYN := True.intro
        have hylX := Row.upd hyl13 hu3X (by simp; omega)
        have hurX := hur13.trans hu3X (by simp; omega)
        have HD := hid (done_any hrX hqX (by omega) (by omega))
        clear hm13 hb13 hr13 hq13 ho13 hyn13 hyl13 hur13 hu3X
        go_wp2_with fail
        rw [HWX.out]
        clear p0 p1 p2 p3 p4 p5 g0 g1 g2 g3 g4 g5 q0 q1 qf0 qf1
        refine HD.out.mono ?_
        rintro e w16 ⟨rfl, hu16, hr16⟩
        have hm16 := hmX.upd hu16 (by simp; omega)
        have hb16 := hbX.upd hu16 (by simp; omega)
        have ho16 := hoX.upd hu16 (fun g' hg' hm => by have := hoq g' hg'; simp at hm; omega) (by simp; omega)
        have hyn16 := Row.upd hynX hu16 (by simp; omega)
        have hyl16 := Row.upd hylX hu16 (by simp; omega)
        have hur16 := hurX.trans hu16 (by simp; omega)
        clear hmX hoX hynX hylX hurX hu16 hrX hqX HD HWX
        go_wp2
        go_roundg (L.length - (j + 1))
        case measure => have := HJ.out; omega
        case rel => exact ⟨j + 1, M.setQuic xx.bs, _, A3, A2, c3, c2, by have := HJ.out; omega, by go_num, hm16, hb16, hr16, ho16, hyn16, hyl16, hur16, by rw [HE.out, HST.out, HRD.out]⟩
      rw [decide_eq_false h57] at d57
      by_cases hech : xk = 65037
      · rw [decide_eq_true hech] at dech
        rw [decide_eq_false (by rw [hech]; decide)] at d16
        have HRD := hid (show eeRd M xk xx = (M.setEch xx.rest.1, xx.rest.2) by rw [hech]; rfl)
        clear hech
        have H := hid (rest_any hq13 (by omega))
        go_wp2_with fail
        refine H.out.mono ?_
        rintro e w14 ⟨A3, c3, rfl, hy14, hu14, hq14⟩
        have hm14 := hm13.upd hu14 (by simp; omega)
        clear p0 p1 p2 p3 p4 p5 g0 g1 g2 g3 g4 g5 q0 q1 qf0 qf1
        obtain ⟨p0, p1, p2, p3, p4, p5, g0, g1, g2, g3, g4, g5⟩ := six_cells hm14
        have q0 := True.intro
        have q1 := True.intro
        have qf0 := True.intro
        have qf1 := True.intro
        obtain ⟨wX, hwX⟩ : ∃ wX, w14.setCell ⟨s + 1, 4, none⟩ (.slice A3 xx.rest.1.length c3) = wX := ⟨_, rfl⟩
        have hu4X : Upd [s + 1] w14 wX := by rw [← hwX]; exact (Upd.refl _ _).setCell (by simp) _
        have hu3X : Upd [q, s + 1] w13 wX := (hu14.mono (by simp)).trans hu4X (by simp)
        have hmX : Blk wX (s + 1) 44 #[strv M.alpn, .bool M.has, .slice A1 M.quic.length c1, .bool M.early, .slice A3 xx.rest.1.length c3, .bool M.ack] := by rw [← hwX]; exact hm14.set_ 4 _
        have hqX := hq14.upd hu4X (by simp; omega) (by simp; omega)
        have hylX := Row.upd hy14 hu4X (by simp; omega)
        have HWX := hid hwX
        clear hwX hm14 hq14 hy14 hu4X H hu14
        have hbX := hb13.upd hu3X (by simp; omega)
        have hrX := hr13.upd hu3X (by simp; omega) (by simp; omega)
        have hoX := ho13.upd hu3X (fun g' hg' hm => by have := hoq g' hg'; simp at hm; omega) (by simp; omega)
        have hynX := Row.upd hyn13 hu3X (by simp; omega)
        have HYL := True.intro
        have hurX := hur13.trans hu3X (by simp; omega)
        have HD := hid (done_any hrX hqX (by omega) (by omega))
        clear hm13 hb13 hr13 hq13 ho13 hyn13 hyl13 hur13 hu3X
        go_wp2_with fail
        rw [HWX.out]
        clear p0 p1 p2 p3 p4 p5 g0 g1 g2 g3 g4 g5 q0 q1 qf0 qf1
        refine HD.out.mono ?_
        rintro e w16 ⟨rfl, hu16, hr16⟩
        have hm16 := hmX.upd hu16 (by simp; omega)
        have hb16 := hbX.upd hu16 (by simp; omega)
        have ho16 := hoX.upd hu16 (fun g' hg' hm => by have := hoq g' hg'; simp at hm; omega) (by simp; omega)
        have hyn16 := Row.upd hynX hu16 (by simp; omega)
        have hyl16 := Row.upd hylX hu16 (by simp; omega)
        have hur16 := hurX.trans hu16 (by simp; omega)
        clear hmX hoX hynX hylX hurX hu16 hrX hqX HD HWX
        go_wp2
        go_roundg (L.length - (j + 1))
        case measure => have := HJ.out; omega
        case rel => exact ⟨j + 1, M.setEch xx.rest.1, _, A1, A3, c1, c3, by have := HJ.out; omega, by go_num, hm16, hb16, hr16, ho16, hyn16, hyl16, hur16, by rw [HE.out, HST.out, HRD.out]⟩
      rw [decide_eq_false hech] at dech
      by_cases h16 : xk = 16
      · rw [decide_eq_true h16] at d16
        have HRD := hid (show eeRd M xk xx = (M.setAlpn xx.protocol.1, xx.protocol.2) by rw [h16]; rfl)
        clear h16
        have H := hid (protocol_any hq13)
        go_wp2_with fail
        refine H.out.mono ?_
        rintro e w14 ⟨rfl, hu14, hq14⟩
        generalize xx.protocol = pp at HRD hq14 ⊢
        have hm14 := hm13.upd hu14 (by simp; omega)
        clear p0 p1 p2 p3 p4 p5 g0 g1 g2 g3 g4 g5 q0 q1 qf0 qf1
        obtain ⟨p0, p1, p2, p3, p4, p5, g0, g1, g2, g3, g4, g5⟩ := six_cells hm14
        have q0 := True.intro
        have q1 := True.intro
        have qf0 := True.intro
        have qf1 := True.intro
        obtain ⟨wX, hwX⟩ : ∃ wX, w14.setCell ⟨s + 1, 0, none⟩ (strv pp.1) = wX := ⟨_, rfl⟩
        have hu4X : Upd [s + 1] w14 wX := by rw [← hwX]; exact (Upd.refl _ _).setCell (by simp) _
        have hu3X : Upd [q, s + 1] w13 wX := (hu14.mono (by simp)).trans hu4X (by simp)
        have hmX : Blk wX (s + 1) 44 #[strv pp.1, .bool M.has, .slice A1 M.quic.length c1, .bool M.early, .slice A2 M.ech.length c2, .bool M.ack] := by rw [← hwX]; exact hm14.set_ 0 _
        have hqX := hq14.upd hu4X (by simp; omega) (by simp; omega)
        have HWX := hid hwX
        clear hwX hm14 hq14 hu4X H hu14
        have hbX := hb13.upd hu3X (by simp; omega)
        have hrX := hr13.upd hu3X (by simp; omega) (by simp; omega)
        have hoX := ho13.upd hu3X (fun g' hg' hm => by have := hoq g' hg'; simp at hm; omega) (by simp; omega)
        have hynX := Row.upd hyn13 hu3X (by simp; omega)
        have hylX := Row.upd hyl13 hu3X (by simp; omega)
        have hurX := hur13.trans hu3X (by simp; omega)
        have HD := hid (done_any hrX hqX (by omega) (by omega))
        clear hm13 hb13 hr13 hq13 ho13 hyn13 hyl13 hur13 hu3X
        go_wp2_with fail
        rw [HWX.out]
        clear p0 p1 p2 p3 p4 p5 g0 g1 g2 g3 g4 g5 q0 q1 qf0 qf1
        refine HD.out.mono ?_
        rintro e w16 ⟨rfl, hu16, hr16⟩
        have hm16 := hmX.upd hu16 (by simp; omega)
        have hb16 := hbX.upd hu16 (by simp; omega)
        have ho16 := hoX.upd hu16 (fun g' hg' hm => by have := hoq g' hg'; simp at hm; omega) (by simp; omega)
        have hyn16 := Row.upd hynX hu16 (by simp; omega)
        have hyl16 := Row.upd hylX hu16 (by simp; omega)
        have hur16 := hurX.trans hu16 (by simp; omega)
        clear hmX hoX hynX hylX hurX hu16 hrX hqX HD HWX
        go_wp2
        go_roundg (L.length - (j + 1))
        case measure => have := HJ.out; omega
        case rel => exact ⟨j + 1, M.setAlpn pp.1, _, A1, A2, c1, c2, by have := HJ.out; omega, by go_num, hm16, hb16, hr16, ho16, hyn16, hyl16, hur16, by rw [HE.out, HST.out, HRD.out]⟩
      rw [decide_eq_false h16] at d16
      have HRD := hid (show eeRd M xk xx = (M, ⟨[], xx.code⟩) by unfold eeRd; rw [if_neg h16, if_neg h57, if_neg h42, if_neg hech, if_neg hack, rest_take])
      clear h16 h57 h42 hech hack
      have H := hid (take_any hq13 xx.bs.length (by omega))
      go_wp2_with fail
      refine H.out.mono ?_
      rintro e w14 ⟨u14, rfl, hu14, hqX, -, -⟩
      rw [rest_take] at hqX
      have hmX := hm13.upd hu14 (by simp; omega)
      have hu3X : Upd [q, s + 1] w13 w14 := hu14.mono (by simp)
      have HWX := hid (rfl : w14 = w14)
      clear H hu14
      have hbX := hb13.upd hu3X (by simp; omega)
      have hrX := hr13.upd hu3X (by simp; omega) (by simp; omega)
      have hoX := ho13.upd hu3X (fun g' hg' hm => by have := hoq g' hg'; simp at hm; omega) (by simp; omega)
      have hynX := Row.upd hyn13 hu3X (by simp; omega)
      have hylX := Row.upd hyl13 hu3X (by simp; omega)
      have hurX := hur13.trans hu3X (by simp; omega)
      have HD := hid (done_any hrX hqX (by omega) (by omega))
      clear hm13 hb13 hr13 hq13 ho13 hyn13 hyl13 hur13 hu3X
      go_wp2_with fail
      clear p0 p1 p2 p3 p4 p5 g0 g1 g2 g3 g4 g5 q0 q1 qf0 qf1
      refine HD.out.mono ?_
      rintro e w16 ⟨rfl, hu16, hr16⟩
      have hm16 := hmX.upd hu16 (by simp; omega)
      have hb16 := hbX.upd hu16 (by simp; omega)
      have ho16 := hoX.upd hu16 (fun g' hg' hm => by have := hoq g' hg'; simp at hm; omega) (by simp; omega)
      have hyn16 := Row.upd hynX hu16 (by simp; omega)
      have hyl16 := Row.upd hylX hu16 (by simp; omega)
      have hur16 := hurX.trans hu16 (by simp; omega)
      clear hmX hoX hynX hylX hurX hu16 hrX hqX HD HWX
      go_wp2
      go_roundg (L.length - (j + 1))
      case measure => have := HJ.out; omega
      case rel => exact ⟨j + 1, M, _, A1, A2, c1, c2, by have := HJ.out; omega, by go_num, hm16, hb16, hr16, ho16, hyn16, hyl16, hur16, by rw [HE.out, HST.out, HRD.out]⟩
    · have hj0 := HJ.out
      obtain rfl : j = L.length := by omega
      have hfin : eeSpec data = (M, r) := by rw [HSP.out, HE.out, List.drop_length]; rfl
      have HFIN := hid hfin
      obtain ⟨Ar, cr, q0, q1, qf0, qf1, -, -⟩ := hrr.open_
      obtain ⟨k0, k1, k2, k3, k4, k5, -⟩ := six_cells hmr
      obtain ⟨p0, p1, p2, p3, p4, p5, pf0, pf1, pf2, pf3, pf4, pf5⟩ := six_cells hbr
      have hz : Blk ((((((wr.setCell ⟨s, 0, none⟩ (strv M.alpn)).setCell ⟨s, 1, none⟩ (.bool M.has)).setCell ⟨s, 2, none⟩ (.slice A1 M.quic.length c1)).setCell ⟨s, 3, none⟩ (.bool M.early)).setCell ⟨s, 4, none⟩ (.slice A2 M.ech.length c2)).setCell ⟨s, 5, none⟩ (.bool M.ack)) s 44 #[strv M.alpn, .bool M.has, .slice A1 M.quic.length c1, .bool M.early, .slice A2 M.ech.length c2, .bool M.ack] := six_set hbr
      have huf : Upd [s] wr ((((((wr.setCell ⟨s, 0, none⟩ (strv M.alpn)).setCell ⟨s, 1, none⟩ (.bool M.has)).setCell ⟨s, 2, none⟩ (.slice A1 M.quic.length c1)).setCell ⟨s, 3, none⟩ (.bool M.early)).setCell ⟨s, 4, none⟩ (.slice A2 M.ech.length c2)).setCell ⟨s, 5, none⟩ (.bool M.ack)).drew := (six_upd (Upd.refl [s] wr) (.inl (by simp))).drew
      have HZ := hid hz
      have HF := hid huf
      have HY1 := hid hyn
      have HY2 := hid hyl
      clear hz huf hyn hyl hfin how
      go_wp2_with fail
      go_region_law (fail)
      all_goals go_wp2
      all_goals obtain ⟨z0, z1, z2, z3, z4, z5, -⟩ := six_cells HZ.out
      all_goals
        refine bodyPost_ret (v := .tuple #[.agg #[strv M.alpn, .bool M.has, .slice A1 M.quic.length c1, .bool M.early, .slice A2 M.ech.length c2, .bool M.ack], .int .i64 (r.code : Int)]) (by simp [results, Try.results32, go_sem, z0, z1, z2, z3, z4, z5]) rfl ?_
        rw [HFIN.out]
        exact ⟨_, rfl, ⟨A1, c1, A2, c2, rfl, Row.upd HY1.out HF.out (by simp; omega), Row.upd HY2.out HF.out (by simp; omega)⟩, hur.trans HF.out (by simp; omega)⟩
end
end Go.Proofs.Ytcdjbciifnoajaa

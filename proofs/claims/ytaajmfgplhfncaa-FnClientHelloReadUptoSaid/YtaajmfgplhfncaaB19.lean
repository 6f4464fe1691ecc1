/- Texts joined: ChA3. -/
import Derived.StillTailTactics
import Derived.Test.YtaajmfgplhfncaaB15
import Derived.Test.YtaajmfgplhfncaaB18
namespace Go.Proofs.Ytaajmfgplhfncaa
open Go.RowKit Go.Maps
set_option maxRecDepth 100000
section
variable {w0 w w' wr : World} {B m s sx mb g n gk : Nat} {v0 v4 : Value} {us : List Value} {t' M M1 : Ch} {L : List Ex} {xl : Nat} {a : Act} {k : UInt16} {ed x0 : List UInt8} {cs : Array Value} {K : Act → World → Prop} {Q : Exit → Act → World → Prop}
set_option maxHeartbeats 16000000 in
theorem arm_alpn (hF : FrA m sx mb g k a) (U : DSt w0 B m s sx mb (g + 1) w.heap.size 90 cs (chF0 v0 v4 M) (exsB L) M.exs.length M.exs.reverse v4 us w) (hsd : Sv w B (g + 1) ed True)
    (hst : ChStep M 16 ed M1) (hedl : ed.length < 65536) (hB : B ≤ m) (hK : ∀ a' w', ChArm w0 B m s sx mb g v0 v4 us M1 L a' w' → K a' w') :
    Code.wp Try.prog (chC [true, true, true, true, true, true, true, true, true, true, true, true, true, true, false, false, false, true, false, true, true, true, true, true, true, false, true, false, true, true, true, true, true, true, true, true, true, true, true, true, true, true, true, true, true, true, true, false]) (Exit.then K fun _ _ _ => False) a w := by
  obtain ⟨f, rfl⟩ := hF.lit
  obtain ⟨l, h1, h2, h3, rfl, rfl⟩ := hst.i_alpn rfl
  have HK := hid hK
  obtain ⟨l1, l2, l3, l4, l5, l6⟩ := U.lt
  have hl := U.hl
  have hls := U.ls
  have hg1 : g + 1 < w.heap.size := hl.2
  clear hF hK hst
  conv => arg 2; whnf
  rw [show be 2 (vecsB 1 l).length ++ vecsB 1 l = be 2 (vecsB 1 l).length ++ (vecsB 1 l ++ []) by simp] at hsd
  have hlw : (vecsB 1 l).length < 65536 := by simp [be_len] at hedl; omega
  have HLW := hid hlw
  have HNE := hid h3
  obtain ⟨wB, hwB⟩ : ∃ x, w.alloc (.cells #[.slice none 0 0] 100) = x := ⟨_, rfl⟩
  obtain ⟨p, hp0⟩ : ∃ x, w.heap.size = x := ⟨_, rfl⟩
  have huB : Upd [] w wB := by rw [← hwB]; exact (Upd.refl _ _).alloc _
  have hbp : Blk wB p 100 #[.slice none 0 0] := by rw [← hwB, ← hp0]; exact Blk.new _ _ _
  have hgp : g + 1 < p := by omega
  have hwp : w.heap.size ≤ p := by omega
  have hsdB := hsd.upd huB (by simp) (by simp)
  replace U := U.upd huB (by simp)
  have HWB := hid hwB
  have HP0 := hid hp0
  clear hwB hp0 hsd huB
  have H := hid (ReadLP16_any hsdB (k := 0) hbp (by simp) (by omega) (by omega))
  go_wp2_with fail
  rw [HWB.out, HP0.out]
  refine H.out.mono ?_
  intro e w13 hp
  obtain ⟨u1, rfl, hu13, hsd13, hbp13, hyp, hnp⟩ := hp.yes (lp_b2 (vecsB 1 l) _ hlw)
  have hsp13 : Sv w13 B p (vecsB 1 l) True := ⟨by omega, u1, hbp13, hyp, fun _ => hnp⟩
  replace U := U.upd hu13 (by simp; omega)
  have hw13 : p < w13.heap.size := hbp13.lt
  clear hp hsdB hbp hu13 hbp13 hyp hnp H HWB HP0
  obtain ⟨A9, c9, e9, -, hy9, -⟩ := hsp13.open_
  have HE3 := hid (Empty_any hy9)
  clear hy9
  go_wp2_with fail
  refine HE3.out.mono ?_
  rintro e w14 ⟨rfl, rfl⟩
  have hx0 : vecsB 1 l ≠ [] := by
    cases l with
    | nil => exact absurd rfl h2
    | cons y t => rw [vecsB1_cons]; simp [be]
  rw [decide_eq_false hx0]
  obtain ⟨v8, hcv, hown0⟩ := U.ms.get (i := 17) rfl
  have hown0 : Own w13 (mb + 1) 9 v8 (([] : List (List UInt8)).map strv) := by have h : Own w13 (mb + 1) 9 v8 (M.alpn.map strv) := hown0; rwa [h1] at h
  have hset : cs.setIfInBounds 17 v8 = cs := set_self hcv
  have HCV := hid hcv
  have AL0 : ALoop 9 B p m 90 (fun z => cs.setIfInBounds 17 z) (mb + 1) w13 v8 (vecsB 1 l) v8 (([] : List (List UInt8)).map strv) w13 := ⟨hsp13, by show Blk w13 m 90 (cs.setIfInBounds 17 v8); rw [hset]; exact U.ms.blk, hown0, nextV.refl _ _, Upd.refl _ _⟩
  have h429 : 17 < cs.size := by have := U.ms.len; simp [chF0] at this; omega
  have HU := hid U
  clear hset hcv hown0 hsp13 e9 HE3 hx0 U h3 hlw
  go_wp2_with fail
  go_loopg [24] l.length (fun gk _ wr => SRelC B p m 90 (fun z => cs.setIfInBounds 17 z) (mb + 1) w13 v8 l gk wr)
  case atStart => exact ⟨[], l, v8, rfl, AL0, rfl⟩
  case round =>
    obtain ⟨l1, r, vv, rfl, AL, htot⟩ := hrel
    obtain ⟨wi, rfl⟩ : ∃ wi : World, wi = wr := ⟨_, rfl⟩
    have HT := hid htot
    clear htot AL0
    obtain ⟨A9, c9, e9, -, hy9, -⟩ := AL.sv.open_
    have HE9 := hid (Empty_any hy9)
    clear hy9
    go_wp2_with fail
    refine HE9.out.mono ?_
    rintro e w14 ⟨rfl, rfl⟩
    rcases r with _ | ⟨x, r⟩
    · have hl9 : l1 = l := by have := HT.out; rwa [List.append_nil] at this
      subst hl9
      have U2 := HU.out.loop (f := .row 9 (l1.map strv)) HCV.out rfl rfl AL.up hwp AL.hm AL.own AL.nx (fun g' hg' => (AL.lt g' hg').2)
      have hsd2 := HU.out.loopSv HCV.out rfl rfl AL.up hwp hsd13 (.inr rfl) (by omega)
      clear AL HU hsd13 HE9
      have UF := (U2.cast (show _ = chF0 v0 v4 { M with alpn := l1 } from rfl)).full
      clear U2
      go_wp2
      exact HK.out _ _ ⟨⟨rfl, by kernel_rfl, by kernel_rfl, by kernel_rfl, by kernel_rfl, by kernel_rfl, by kernel_rfl⟩, _, UF, hsd2⟩
    · rw [decide_eq_false (by rw [vecsB1_cons]; simp [be])]
      have hxl : x ∈ l := by rw [← HT.out]; simp
      have hxx := HNE.out x hxl
      have hx0 : x ≠ [] := hxx.1
      have hx256 : x.length < 256 := hxx.2
      clear hxl hxx
      obtain ⟨wq, hwq⟩ : ∃ wq, wi.alloc (.cells #[.slice none 0 0] 100) = wq := ⟨_, rfl⟩
      obtain ⟨q, hq0⟩ : ∃ q, wi.heap.size = q := ⟨_, rfl⟩
      have huq : Upd [] wi wq := by rw [← hwq]; exact (Upd.refl _ _).alloc _
      have hbq : Blk wq q 100 #[.slice none 0 0] := by rw [← hwq, ← hq0]; exact Blk.new _ _ _
      have hpq : p < q := by have := AL.up.size; omega
      have hqw : wi.heap.size ≤ q := by omega
      have hspq := AL.sv.upd huq (by simp) (by simp)
      have hmq := AL.hm.upd huq (by simp)
      rw [vecsB1_cons] at hspq
      have HWQ := hid hwq
      have HQ0 := hid hq0
      have HX0 := hid hx0
      clear hwq hq0 HE9 hx0
      have H := hid (ReadLP8_any hspq (k := 0) hbq (by simp) (by omega) (by omega))
      go_wp2_with fail
      rw [HWQ.out, HQ0.out]
      refine H.out.mono ?_
      intro e w15 hp
      obtain ⟨u5, rfl, hu15, hs15, hb15, hyu, hnu⟩ := hp.yes (lp_b1 x _ hx256)
      have hs15 : Sv w15 B p (vecsB 1 r) True := hs15
      obtain ⟨A5, c5, rfl, hyu, -, -⟩ := Byt.form hyu rfl
      have hb15 : Blk w15 q 100 #[.slice A5 x.length c5] := hb15
      have hm15 := hmq.upd hu15 (by simp; omega)
      have hu25 : Upd [p] wi w15 := (huq.mono (by simp)).trans hu15 (by simp; omega)
      have hown15 : Own w15 (mb + 1) 9 vv (l1.map strv) := AL.own.upd hu25 (fun h hh hk => by
        obtain ⟨_, pv, hpb, _⟩ := AL.sv
        have := AL.own.ne hpb (by decide) h hh
        simp at hk; exact this hk)
      have hsz15 : mb + 1 ≤ w15.heap.size := by have := hb15.lt; omega
      have hnm : m ∉ vv.ownBlock.toList := fun hm' => by have := AL.own.ne AL.hm (by decide) m (Option.mem_toList.1 hm'); exact this rfl
      obtain ⟨Av, cv, rfl⟩ := AL.own.formN (n := l1.length) (by simp)
      have hconv := conv_bytes 100 Try.underlying100 (Row.drew hyu)
      have HE5 := hid (Empty_any hyu)
      have c0 := hm15.at_ (i := 17) (Array.getElem?_setIfInBounds_self_of_lt h429)
      have c0f := hm15.frozen 17
      have c1 := hb15.cell 0
      have a0 := (hm15.alloc (.cells #[strv x] 9)).at_ (i := 17) (Array.getElem?_setIfInBounds_self_of_lt h429)
      have a0f := (hm15.alloc (.cells #[strv x] 9)).frozen 17
      have a1 := (hb15.alloc (.cells #[strv x] 9)).cell 0
      simp at c1 a1
      have hl2 : l1.length + 1 ≤ 65536 := by
        have h1 := HLW.out
        rw [← HT.out] at h1
        have h2 : ∀ l : List (List UInt8), l.length ≤ (vecsB 1 l).length := by
          intro l
          induction l with
          | nil => simp
          | cons y t ih => rw [vecsB1_cons]; simp [be_len]; omega
        have h3 := h2 (l1 ++ x :: r)
        simp at h3
        omega
      have HAL := hid AL
      clear AL hspq hmq hbq huq H hsd13 hp hyu
      go_wp2_with fail
      refine HE5.out.mono ?_
      rintro e w16 ⟨rfl, rfl⟩
      rw [decide_eq_false HX0.out]
      go_wp2_with fail
      go_region_law (first | (refine step_append_row (v := .slice Av l1.length cv) _ rfl _ _ 25 rfl (mb + 1) 9 (strv []) 16 Try.underlying25 (by kernel_rfl) rfl rfl (hown15.upd (((Upd.refl [] _).alloc _).drew) (by simp)) rfl (Row.drew (Row.one w15 9 (strv x))) (by intro u hu; simp at hu; subst hu; rfl) (by simp; omega) (by simp; omega) (by simp; omega) ?_; intro v3 w3 hap; obtain ⟨A3, c3, hv3⟩ := Own.formN (n := l1.length + 1) hap.1 (by simp); subst hv3; have hm3 := ((hm15.alloc (.cells #[strv x] 9)).drew).upd hap.2.1 hnm; have e0 := hm3.at_ (i := 17) (Array.getElem?_setIfInBounds_self_of_lt h429); have g0 := hm3.frozen 17))
      all_goals
        go_wp2
        go_roundg r.length
        case measure => simp only [List.length_cons]; omega
        case rel =>
          have hup : Upd [m] w3 (w3.setCell ⟨m, 17, none⟩ (.slice A3 (l1.length + 1) c3)) := (Upd.refl _ _).setCell (by simp) _
          have hAL := HAL.out.step (by omega) (by omega) hB (by decide) (by decide) hu25 hs15 (((Upd.refl [] _).alloc _).drew) hap hup (by have := hm3.set_ 17 (.slice A3 (l1.length + 1) c3); rwa [Array.setIfInBounds_setIfInBounds] at this)
          exact ⟨l1 ++ [x], r, _, rfl, by rw [List.map_append]; exact hAL, by rw [← HT.out]; simp⟩
set_option maxHeartbeats 16000000 in
theorem arm_host (hF : FrA m sx mb g k a) (U : DSt w0 B m s sx mb (g + 1) w.heap.size 90 cs (chF0 v0 v4 M) (exsB L) M.exs.length M.exs.reverse v4 us w) (hsd : Sv w B (g + 1) ed True)
    (hst : ChStep M 0 ed M1) (hedl : ed.length < 65536) (hB : B ≤ m) (hK : ∀ a' w', ChArm w0 B m s sx mb g v0 v4 us M1 L a' w' → K a' w') :
    Code.wp Try.prog (chC [true, true, true, true, true, true, true, true, true, true, true, true, true, true, false, false, false, true, false, true, true, true, true, true, true, false, true, false, true, false]) (Exit.then K fun _ _ _ => False) a w := by
  obtain ⟨f, rfl⟩ := hF.lit
  obtain ⟨h, h1, h2, h3, rfl, rfl⟩ := hst.i_host rfl
  have HK := hid hK
  obtain ⟨l1, l2, l3, l4, l5, l6⟩ := U.lt
  have hl := U.hl
  have hls := U.ls
  have hg1 : g + 1 < w.heap.size := hl.2
  clear hF hK hst
  conv => arg 2; whnf
  have hle : 3 + h.length = (0 :: (be 2 h.length ++ (h ++ [])) : List UInt8).length := by simp [be_len]; omega
  rw [show be 2 (3 + h.length) ++ (0 :: (be 2 h.length ++ h)) = be 2 (3 + h.length) ++ ((0 :: (be 2 h.length ++ (h ++ []))) ++ []) by simp, hle] at hsd
  have hlen : (0 :: (be 2 h.length ++ (h ++ [])) : List UInt8).length < 65536 := by simp [be_len] at hedl ⊢; omega
  have hh : h.length < 65536 := by rw [← hle] at hlen; omega
  clear hle
  generalize hxx : (0 :: (be 2 h.length ++ (h ++ [])) : List UInt8) = xx at hsd hlen
  have HXX := hid hxx
  clear hxx
  obtain ⟨wB, hwB⟩ : ∃ x, w.alloc (.cells #[.slice none 0 0] 100) = x := ⟨_, rfl⟩
  obtain ⟨p, hp0⟩ : ∃ x, w.heap.size = x := ⟨_, rfl⟩
  have huB : Upd [] w wB := by rw [← hwB]; exact (Upd.refl _ _).alloc _
  have hbp : Blk wB p 100 #[.slice none 0 0] := by rw [← hwB, ← hp0]; exact Blk.new _ _ _
  have hgp : g + 1 < p := by omega
  have hwp : w.heap.size ≤ p := by omega
  have hsdB := hsd.upd huB (by simp) (by simp)
  replace U := U.upd huB (by simp)
  have HWB := hid hwB
  have HP0 := hid hp0
  clear hwB hp0 hsd huB
  have H := hid (ReadLP16_any hsdB (k := 0) hbp (by simp) (by omega) (by omega))
  go_wp2_with fail
  rw [HWB.out, HP0.out]
  refine H.out.mono ?_
  intro e w13 hp
  obtain ⟨u1, rfl, hu13, hsd13, hbp13, hyp, hnp⟩ := hp.yes (lp_b2 xx _ hlen)
  have hsp13 : Sv w13 B p (xx) True := ⟨by omega, u1, hbp13, hyp, fun _ => hnp⟩
  replace U := U.upd hu13 (by simp; omega)
  have hw13 : p < w13.heap.size := hbp13.lt
  clear hp hsdB hbp hu13 hbp13 hyp hnp H HWB HP0
  obtain ⟨A9, c9, e9, -, hy9, -⟩ := hsp13.open_
  have HE3 := hid (Empty_any hy9)
  clear hy9
  have hxn : xx ≠ [] := by rw [← HXX.out]; simp
  have HSUF := fun w => hid (suffix_dot (w := w) h2 hh h3)
  go_wp2_with fail
  refine HE3.out.mono ?_
  rintro e w14 ⟨rfl, rfl⟩
  rw [decide_eq_false hxn]
  have HX0 := hid hxn
  have HU := hid U
  have HHN := hid h2
  clear hxn HE3 e9 U h2 h3 hlen
  go_wp2_with fail
  go_loopg [13] 1 (fun gk _ wr => (gk = 1 ∧ wr = w13) ∨ (gk = 0 ∧ ∃ cs2, DSt w0 B m s sx mb (g + 1) wr.heap.size 90 cs2 (chF0 v0 v4 { M with host := h }) (exsB L) M.exs.length M.exs.reverse v4 us wr ∧ Sv wr B p [] True ∧ Sv wr B (g + 1) [] True))
  case atStart => exact .inl ⟨rfl, rfl⟩
  case round =>
    rcases hrel with ⟨rfl, rfl⟩ | ⟨rfl, cs2, U2, hsp2, hsd2⟩
    · obtain ⟨A9, c9, e9, -, hy9, -⟩ := hsp13.open_
      have HE9 := hid (Empty_any hy9)
      clear hy9
      go_wp2_with fail
      refine HE9.out.mono ?_
      rintro e w14 ⟨rfl, rfl⟩
      rw [decide_eq_false HX0.out]
      obtain ⟨wq, hwq⟩ : ∃ wq, (wr.alloc (.cells #[.int .u8 0] 5)).alloc (.cells #[.slice none 0 0] 100) = wq := ⟨_, rfl⟩
      obtain ⟨q, hq0⟩ : ∃ q, wr.heap.size = q := ⟨_, rfl⟩
      have huq : Upd [] wr wq := by rw [← hwq]; exact ((Upd.refl _ _).alloc _).alloc _
      have hb1 : Blk wq q 5 #[.int .u8 0] := by rw [← hwq, ← hq0]; exact (Blk.new _ _ _).alloc _
      have hb2 : Blk wq (q + 1) 100 #[.slice none 0 0] := by
        rw [← hwq, ← hq0]
        have := Blk.new (wr.alloc (.cells #[.int .u8 0] 5)) 100 #[.slice none 0 0]
        rwa [show (wr.alloc (.cells #[.int .u8 0] 5)).heap.size = wr.heap.size + 1 by simp] at this
      have hpq : p < q := by omega
      have hqw : wr.heap.size ≤ q := by omega
      have hspq := hsp13.upd huq (by simp) (by simp)
      rw [← HXX.out] at hspq
      have hsdq := hsd13.upd huq (by simp) (by simp)
      have U3 := HU.out.upd huq (by simp)
      have HWQ := hid hwq
      have HQ0 := hid hq0
      clear hwq hq0 HE9 huq e9 hsp13 hsd13
      have H := hid (ReadUint8_ok (k := 0) hspq hb1 (by simp) (by omega) (by omega))
      go_wp2_with fail
      rw [HWQ.out, HQ0.out]
      refine H.out.mono ?_
      rintro e w3 ⟨rfl, hu3, hs3, hb13⟩
      have hb13 : Blk w3 q 5 #[bv 0] := hb13
      have hb23 := hb2.upd hu3 (by simp; omega)
      have hsd3 := hsdq.upd hu3 (by simp; omega) (by simp; omega)
      replace U3 := U3.upd hu3 (by simp; omega)
      clear hb1 hb2 hspq hsdq hu3 H
      have H := hid (ReadLP16_any hs3 (k := 0) hb23 (by simp) (by omega) (by omega))
      go_wp2_with fail
      refine H.out.mono ?_
      intro e w4 hp
      obtain ⟨u4, rfl, hu4, hs4, hb24, hy4, -⟩ := hp.yes (lp_b2 h _ hh)
      have hb14 := hb13.upd hu4 (by simp; omega)
      have hsd4 := hsd3.upd hu4 (by simp; omega) (by simp; omega)
      replace U3 := U3.upd hu4 (by simp; omega)
      obtain ⟨A5, c5, rfl, hy4, -, -⟩ := Byt.form hy4 rfl
      have hb24 : Blk w4 (q + 1) 100 #[.slice A5 h.length c5] := hb24
      have hconv := conv_bytes 100 Try.underlying100 hy4
      have HE5 := hid (Empty_any hy4)
      have r0 := hb14.cell 0
      have r1 := hb24.cell 0
      simp at r0 r1
      clear hb13 hb23 hs3 hu4 H hp hb14 hb24 hy4 hsd3
      go_wp2_with fail
      refine HE5.out.mono ?_
      rintro e w5 ⟨rfl, rfl⟩
      rw [decide_eq_false HHN.out]
      obtain ⟨vc6, hcv6, hv6⟩ := U3.ms.get (i := 6) rfl
      have hv6 : vc6 = strv M.host := hv6
      rw [hv6, h1] at hcv6
      have cc6 := U3.ms.cell hcv6
      have ff6 := U3.ms.blk.frozen 6
      have huS : Upd [m] w4 (w4.setCell ⟨m, 6, none⟩ (strv h)) := (Upd.refl _ _).setCell (by simp) _
      have U4 := U3.putV (f := .val (strv h)) huS (by simp) (U3.ms.blk.set_ 6 (strv h)) rfl rfl
      have hsp4 := hs4.upd huS (by simp; omega) (by simp; omega)
      have hsd5 := hsd4.upd huS (by simp; omega) (by simp; omega)
      have HSU := HSUF (w4.setCell ⟨m, 6, none⟩ (strv h))
      have U5 := U4.cast (show _ = chF0 v0 v4 { M with host := h } from rfl)
      clear hcv6 hv6 HE5 huS U4 U3 hs4 hsd4 HWQ HQ0
      go_wp2_with fail
      refine HSU.out.mono ?_
      rintro e w6 ⟨rfl, rfl⟩
      go_wp2
      go_roundg 0
      case measure => omega
      case rel => exact .inr ⟨rfl, _, { U5.full with hole := U5.hole, hl := by have h1 := U5.hl; have h2 := U5.lt; omega }, hsp4, hsd5⟩
    · obtain ⟨A9, c9, e9, -, hy9, -⟩ := hsp2.open_
      have HE9 := hid (Empty_any hy9)
      clear hy9
      go_wp2_with fail
      refine HE9.out.mono ?_
      rintro e w14 ⟨rfl, rfl⟩
      have UF := U2.full
      clear U2 HE9
      go_wp2
      exact HK.out _ _ ⟨⟨rfl, by kernel_rfl, by kernel_rfl, by kernel_rfl, by kernel_rfl, by kernel_rfl, by kernel_rfl⟩, _, UF, hsd2⟩
end
end Go.Proofs.Ytaajmfgplhfncaa

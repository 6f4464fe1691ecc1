/- Texts joined: ChA2. -/
import Derived.StillTailTactics
import Derived.Test.YtaajmfgplhfncaaGreatB16
namespace Go.Proofs.YtaajmfgplhfncaaGreat
open Go.RowKit Go.Maps
set_option maxRecDepth 100000
section
variable {w0 w w' wr : World} {B m s sx mb g n gk : Nat} {v0 v4 : Value} {us : List Value} {t' M M1 : Ch} {L : List Ex} {xl : Nat} {a : Act} {k : UInt16} {ed x0 : List UInt8} {cs : Array Value} {K : Act → World → Prop} {Q : Exit → Act → World → Prop}
set_option maxHeartbeats 16000000 in
theorem arm_curves (hF : FrA m sx mb g k a) (U : DSt w0 B m s sx mb (g + 1) w.heap.size 105 cs (chF0 v0 v4 M) (exsB L) M.exs.length M.exs.reverse v4 us w) (hsd : Sv w B (g + 1) ed True)
    (hst : ChStep M 10 ed M1) (hedl : ed.length < 65536) (hB : B ≤ m) (hK : ∀ a' w', ChArm w0 B m s sx mb g v0 v4 us M1 L a' w' → K a' w') :
    Code.wp Tryz.prog (chC [true, true, true, true, true, true, true, true, true, true, true, true, true, true, false, false, false, true, false, true, true, true, true, true, true, false, true, false, true, true, true, true, true, false]) (Exit.then K fun _ _ _ => False) a w := by
  obtain ⟨f, rfl⟩ := hF.lit
  obtain ⟨l, h1, h2, rfl, rfl⟩ := hst.i_curves rfl
  have HK := hid hK
  obtain ⟨l1, l2, l3, l4, l5, l6⟩ := U.lt
  have hl := U.hl
  have hls := U.ls
  have hg1 : g + 1 < w.heap.size := hl.2
  clear hF hK hst
  conv => arg 2; whnf
  rw [show be 2 (wordsB l).length ++ wordsB l = be 2 (wordsB l).length ++ (wordsB l ++ []) by simp] at hsd
  have hlw : (wordsB l).length < 65536 := by simp [be_len] at hedl; omega
  have HLL := hid (show 2 * l.length < 65536 by have : (wordsB l).length = 2 * l.length := by simp [wordsB_len]
                                                omega)
  obtain ⟨wB, hwB⟩ : ∃ x, w.alloc (.cells #[.slice none 0 0] 116) = x := ⟨_, rfl⟩
  obtain ⟨p, hp0⟩ : ∃ x, w.heap.size = x := ⟨_, rfl⟩
  have huB : Upd [] w wB := by rw [← hwB]; exact (Upd.refl _ _).alloc _
  have hbp : Blk wB p 116 #[.slice none 0 0] := by rw [← hwB, ← hp0]; exact Blk.new _ _ _
  have hgp : g + 1 < p := by omega
  have hwp : w.heap.size ≤ p := by omega
  have hsdB := hsd.upd huB (by simp) (by simp)
  replace U := U.upd huB (by simp)
  have HWB := hid hwB
  have HP0 := hid hp0
  clear hwB hp0 hsd huB
  have H := hid (ReadLP16_any hsdB (k := 0) hbp (by simp) (by omega) (by omega))
  go_wp2_with fail
  rw [HWB.out, HP0.out]
  refine H.out.mono ?_
  intro e w13 hp
  obtain ⟨u1, rfl, hu13, hsd13, hbp13, hyp, hnp⟩ := hp.yes (lp_b2 (wordsB l) _ hlw)
  have hsp13 : Sv w13 B p (wordsB l) True := ⟨by omega, u1, hbp13, hyp, fun _ => hnp⟩
  replace U := U.upd hu13 (by simp; omega)
  have hw13 : p < w13.heap.size := hbp13.lt
  clear hp hsdB hbp hu13 hbp13 hyp hnp H HWB HP0
  obtain ⟨A9, c9, e9, -, hy9, -⟩ := hsp13.open_
  have HE3 := hid (Empty_any hy9)
  clear hy9
  go_wp2_with fail
  refine HE3.out.mono ?_
  rintro e w14 ⟨rfl, rfl⟩
  have hx0 : wordsB l ≠ [] := by
    cases l with
    | nil => exact absurd rfl h2
    | cons y t => rw [wordsB_cons]; simp [be]
  rw [decide_eq_false hx0]
  obtain ⟨v8, hcv, hown0⟩ := U.ms.get (i := 8) rfl
  have hown0 : Own w13 (mb + 1) 22 v8 (([] : List UInt16).map wv) := by have h : Own w13 (mb + 1) 22 v8 (M.curves.map wv) := hown0; rwa [h1] at h
  have hset : cs.setIfInBounds 8 v8 = cs := set_self hcv
  have hv8 : ∀ g', v8.ownBlock = some g' → mb + 1 ≤ g' ∧ g' < p ∧ g' ≠ g + 1 := fun g' hg' => by
    have h8 := U.ms.own 8 v8 _ g' hcv rfl rfl hg'
    exact ⟨h8.1, by omega, fun e => by subst e; exact U.hole 8 v8 _ hcv rfl rfl hg'⟩
  have HCV := hid hcv
  have AL0 : ALoop 22 B p m 105 (fun z => cs.setIfInBounds 8 z) (mb + 1) w13 v8 (wordsB l) v8 (([] : List UInt16).map wv) w13 := ⟨hsp13, by show Blk w13 m 105 (cs.setIfInBounds 8 v8); rw [hset]; exact U.ms.blk, hown0, nextV.refl _ _, Upd.refl _ _⟩
  have h429 : 8 < cs.size := by have := U.ms.len; simp [chF0] at this; omega
  have HU := hid U
  have HX := hid hx0
  clear hset hcv hown0 hsp13 e9 HE3 hx0 U
  go_wp2_with fail
  go_loopg [18] l.length (fun gk _ wr => WRelC B p m 105 (fun z => cs.setIfInBounds 8 z) (mb + 1) w13 v8 l gk wr)
  case atStart => exact ⟨[], l, v8, rfl, AL0, rfl⟩
  case round =>
    obtain ⟨l1, r, vv, rfl, AL, htot⟩ := hrel
    obtain ⟨wi, rfl⟩ : ∃ wi : World, wi = wr := ⟨_, rfl⟩
    have HT := hid htot
    clear htot AL0
    obtain ⟨A9, c9, e9, -, hy9, -⟩ := AL.sv.open_
    have HE9 := hid (Empty_any hy9)
    clear hy9
    go_wp2_with fail
    refine HE9.out.mono ?_
    rintro e w14 ⟨rfl, rfl⟩
    rcases r with _ | ⟨x, r⟩
    · have hl9 : l1 = l := by have := HT.out; rwa [List.append_nil] at this
      subst hl9
      have U2 := HU.out.loop (f := .row 22 (l1.map wv)) HCV.out rfl rfl AL.up hwp AL.hm AL.own AL.nx (fun g' hg' => (AL.lt g' hg').2)
      have hsd2 := HU.out.loopSv HCV.out rfl rfl AL.up hwp hsd13 (.inr rfl) (by omega)
      clear AL HU hsd13 HE9 HX
      have UF := (U2.cast (show _ = chF0 v0 v4 { M with curves := l1 } from rfl)).full
      clear U2
      go_wp2
      exact HK.out _ _ ⟨⟨rfl, by kernel_rfl, by kernel_rfl, by kernel_rfl, by kernel_rfl, by kernel_rfl, by kernel_rfl⟩, _, UF, hsd2⟩
    · rw [decide_eq_false (by rw [wordsB_cons]; simp [be])]
      obtain ⟨wq, hwq⟩ : ∃ wq, wi.alloc (.cells #[.int .u16 0] 22) = wq := ⟨_, rfl⟩
      obtain ⟨q, hq0⟩ : ∃ q, wi.heap.size = q := ⟨_, rfl⟩
      have huq : Upd [] wi wq := by rw [← hwq]; exact (Upd.refl _ _).alloc _
      have hbq : Blk wq q 22 #[.int .u16 0] := by rw [← hwq, ← hq0]; exact Blk.new _ _ _
      have hpq : p < q := by have := AL.up.size; omega
      have hqw : wi.heap.size ≤ q := by omega
      have hspq := AL.sv.upd huq (by simp) (by simp)
      have hmq := AL.hm.upd huq (by simp)
      rw [wordsB_cons] at hspq
      have HWQ := hid hwq
      have HQ0 := hid hq0
      clear hwq hq0 HE9
      have H := hid (ReadUint16_be (k := 0) hspq hbq (by simp) (by omega) (by omega))
      go_wp2_with fail
      rw [HWQ.out, HQ0.out]
      refine H.out.mono ?_
      rintro e w15 ⟨rfl, hu15, hs15, hb15⟩
      have hb15 : Blk w15 q 22 #[wv x] := hb15
      have hm15 := hmq.upd hu15 (by simp; omega)
      have hu25 : Upd [p] wi w15 := (huq.mono (by simp)).trans hu15 (by simp; omega)
      have hown15 : Own w15 (mb + 1) 22 vv (l1.map wv) := AL.own.upd hu25 (fun h hh hk => by
        obtain ⟨_, pv, hpb, _⟩ := AL.sv
        have := AL.own.ne hpb (by decide) h hh
        simp at hk; exact this hk)
      have hsz15 : mb + 1 ≤ w15.heap.size := by have := hb15.lt; omega
      have hnm : m ∉ vv.ownBlock.toList := fun hm' => by have := AL.own.ne AL.hm (by decide) m (Option.mem_toList.1 hm'); exact this rfl
      obtain ⟨Av, cv, rfl⟩ := AL.own.formN (n := l1.length) (by simp)
      have c0 := hm15.at_ (i := 8) (Array.getElem?_setIfInBounds_self_of_lt h429)
      have c0f := hm15.frozen 8
      have c1 := hb15.cell 0
      have a0 := (hm15.alloc (.cells #[wv x] 22)).at_ (i := 8) (Array.getElem?_setIfInBounds_self_of_lt h429)
      have a0f := (hm15.alloc (.cells #[wv x] 22)).frozen 8
      have a1 := (hb15.alloc (.cells #[wv x] 22)).cell 0
      simp at c1 a1
      have hl2 : l1.length + 1 ≤ 65536 := by have h1 := congrArg List.length HT.out; have h2 := HLL.out; simp at h1; omega
      have HAL := hid AL
      clear AL hspq hmq hbq huq H hsd13
      go_wp2_with fail
      go_region_law (first | (refine step_append_row (v := .slice Av l1.length cv) _ rfl _ _ 24 rfl (mb + 1) 22 (.int .u16 0) 2 Tryz.underlying24 info_u16 rfl rfl (hown15.upd (((Upd.refl [] _).alloc _).drew) (by simp)) rfl (Row.drew (Row.one w15 22 (wv x))) (by intro u hu; simp at hu; subst hu; rfl) (by simp; omega) (by simp; omega) (by simp; omega) ?_; intro v3 w3 hap; obtain ⟨A3, c3, hv3⟩ := Own.formN (n := l1.length + 1) hap.1 (by simp); subst hv3; have hm3 := ((hm15.alloc (.cells #[wv x] 22)).drew).upd hap.2.1 hnm; have e0 := hm3.at_ (i := 8) (Array.getElem?_setIfInBounds_self_of_lt h429); have g0 := hm3.frozen 8))
      all_goals
        go_wp2
        go_roundg r.length
        case measure => simp only [List.length_cons]; omega
        case rel =>
          have hup : Upd [m] w3 (w3.setCell ⟨m, 8, none⟩ (.slice A3 (l1.length + 1) c3)) := (Upd.refl _ _).setCell (by simp) _
          have hAL := HAL.out.step (by omega) (by omega) hB (by decide) (by decide) hu25 hs15 (((Upd.refl [] _).alloc _).drew) hap hup (by have := hm3.set_ 8 (.slice A3 (l1.length + 1) c3); rwa [Array.setIfInBounds_setIfInBounds] at this)
          exact ⟨l1 ++ [x], r, _, rfl, by rw [List.map_append]; exact hAL, by rw [← HT.out]; simp⟩
set_option maxHeartbeats 16000000 in
theorem arm_sig (hF : FrA m sx mb g k a) (U : DSt w0 B m s sx mb (g + 1) w.heap.size 105 cs (chF0 v0 v4 M) (exsB L) M.exs.length M.exs.reverse v4 us w) (hsd : Sv w B (g + 1) ed True)
    (hst : ChStep M 13 ed M1) (hedl : ed.length < 65536) (hB : B ≤ m) (hK : ∀ a' w', ChArm w0 B m s sx mb g v0 v4 us M1 L a' w' → K a' w') :
    Code.wp Tryz.prog (chC [true, true, true, true, true, true, true, true, true, true, true, true, true, true, false, false, false, true, false, true, true, true, true, true, true, false, true, false, true, true, true, true, true, true, true, true, true, true, true, false]) (Exit.then K fun _ _ _ => False) a w := by
  obtain ⟨f, rfl⟩ := hF.lit
  obtain ⟨l, h1, h2, rfl, rfl⟩ := hst.i_sig rfl
  have HK := hid hK
  obtain ⟨l1, l2, l3, l4, l5, l6⟩ := U.lt
  have hl := U.hl
  have hls := U.ls
  have hg1 : g + 1 < w.heap.size := hl.2
  clear hF hK hst
  conv => arg 2; whnf
  rw [show be 2 (wordsB l).length ++ wordsB l = be 2 (wordsB l).length ++ (wordsB l ++ []) by simp] at hsd
  have hlw : (wordsB l).length < 65536 := by simp [be_len] at hedl; omega
  have HLL := hid (show 2 * l.length < 65536 by have : (wordsB l).length = 2 * l.length := by simp [wordsB_len]
                                                omega)
  obtain ⟨wB, hwB⟩ : ∃ x, w.alloc (.cells #[.slice none 0 0] 116) = x := ⟨_, rfl⟩
  obtain ⟨p, hp0⟩ : ∃ x, w.heap.size = x := ⟨_, rfl⟩
  have huB : Upd [] w wB := by rw [← hwB]; exact (Upd.refl _ _).alloc _
  have hbp : Blk wB p 116 #[.slice none 0 0] := by rw [← hwB, ← hp0]; exact Blk.new _ _ _
  have hgp : g + 1 < p := by omega
  have hwp : w.heap.size ≤ p := by omega
  have hsdB := hsd.upd huB (by simp) (by simp)
  replace U := U.upd huB (by simp)
  have HWB := hid hwB
  have HP0 := hid hp0
  clear hwB hp0 hsd huB
  have H := hid (ReadLP16_any hsdB (k := 0) hbp (by simp) (by omega) (by omega))
  go_wp2_with fail
  rw [HWB.out, HP0.out]
  refine H.out.mono ?_
  intro e w13 hp
  obtain ⟨u1, rfl, hu13, hsd13, hbp13, hyp, hnp⟩ := hp.yes (lp_b2 (wordsB l) _ hlw)
  have hsp13 : Sv w13 B p (wordsB l) True := ⟨by omega, u1, hbp13, hyp, fun _ => hnp⟩
  replace U := U.upd hu13 (by simp; omega)
  have hw13 : p < w13.heap.size := hbp13.lt
  clear hp hsdB hbp hu13 hbp13 hyp hnp H HWB HP0
  obtain ⟨A9, c9, e9, -, hy9, -⟩ := hsp13.open_
  have HE3 := hid (Empty_any hy9)
  clear hy9
  go_wp2_with fail
  refine HE3.out.mono ?_
  rintro e w14 ⟨rfl, rfl⟩
  have hx0 : wordsB l ≠ [] := by
    cases l with
    | nil => exact absurd rfl h2
    | cons y t => rw [wordsB_cons]; simp [be]
  rw [decide_eq_false hx0]
  obtain ⟨v8, hcv, hown0⟩ := U.ms.get (i := 12) rfl
  have hown0 : Own w13 (mb + 1) 22 v8 (([] : List UInt16).map wv) := by have h : Own w13 (mb + 1) 22 v8 (M.sig.map wv) := hown0; rwa [h1] at h
  have hset : cs.setIfInBounds 12 v8 = cs := set_self hcv
  have hv8 : ∀ g', v8.ownBlock = some g' → mb + 1 ≤ g' ∧ g' < p ∧ g' ≠ g + 1 := fun g' hg' => by
    have h8 := U.ms.own 12 v8 _ g' hcv rfl rfl hg'
    exact ⟨h8.1, by omega, fun e => by subst e; exact U.hole 12 v8 _ hcv rfl rfl hg'⟩
  have HCV := hid hcv
  have AL0 : ALoop 22 B p m 105 (fun z => cs.setIfInBounds 12 z) (mb + 1) w13 v8 (wordsB l) v8 (([] : List UInt16).map wv) w13 := ⟨hsp13, by show Blk w13 m 105 (cs.setIfInBounds 12 v8); rw [hset]; exact U.ms.blk, hown0, nextV.refl _ _, Upd.refl _ _⟩
  have h429 : 12 < cs.size := by have := U.ms.len; simp [chF0] at this; omega
  have HU := hid U
  have HX := hid hx0
  clear hset hcv hown0 hsp13 e9 HE3 hx0 U
  go_wp2_with fail
  go_loopg [20] l.length (fun gk _ wr => WRelC B p m 105 (fun z => cs.setIfInBounds 12 z) (mb + 1) w13 v8 l gk wr)
  case atStart => exact ⟨[], l, v8, rfl, AL0, rfl⟩
  case round =>
    obtain ⟨l1, r, vv, rfl, AL, htot⟩ := hrel
    obtain ⟨wi, rfl⟩ : ∃ wi : World, wi = wr := ⟨_, rfl⟩
    have HT := hid htot
    clear htot AL0
    obtain ⟨A9, c9, e9, -, hy9, -⟩ := AL.sv.open_
    have HE9 := hid (Empty_any hy9)
    clear hy9
    go_wp2_with fail
    refine HE9.out.mono ?_
    rintro e w14 ⟨rfl, rfl⟩
    rcases r with _ | ⟨x, r⟩
    · have hl9 : l1 = l := by have := HT.out; rwa [List.append_nil] at this
      subst hl9
      have U2 := HU.out.loop (f := .row 22 (l1.map wv)) HCV.out rfl rfl AL.up hwp AL.hm AL.own AL.nx (fun g' hg' => (AL.lt g' hg').2)
      have hsd2 := HU.out.loopSv HCV.out rfl rfl AL.up hwp hsd13 (.inr rfl) (by omega)
      clear AL HU hsd13 HE9 HX
      have UF := (U2.cast (show _ = chF0 v0 v4 { M with sig := l1 } from rfl)).full
      clear U2
      go_wp2
      exact HK.out _ _ ⟨⟨rfl, by kernel_rfl, by kernel_rfl, by kernel_rfl, by kernel_rfl, by kernel_rfl, by kernel_rfl⟩, _, UF, hsd2⟩
    · rw [decide_eq_false (by rw [wordsB_cons]; simp [be])]
      obtain ⟨wq, hwq⟩ : ∃ wq, wi.alloc (.cells #[.int .u16 0] 22) = wq := ⟨_, rfl⟩
      obtain ⟨q, hq0⟩ : ∃ q, wi.heap.size = q := ⟨_, rfl⟩
      have huq : Upd [] wi wq := by rw [← hwq]; exact (Upd.refl _ _).alloc _
      have hbq : Blk wq q 22 #[.int .u16 0] := by rw [← hwq, ← hq0]; exact Blk.new _ _ _
      have hpq : p < q := by have := AL.up.size; omega
      have hqw : wi.heap.size ≤ q := by omega
      have hspq := AL.sv.upd huq (by simp) (by simp)
      have hmq := AL.hm.upd huq (by simp)
      rw [wordsB_cons] at hspq
      have HWQ := hid hwq
      have HQ0 := hid hq0
      clear hwq hq0 HE9
      have H := hid (ReadUint16_be (k := 0) hspq hbq (by simp) (by omega) (by omega))
      go_wp2_with fail
      rw [HWQ.out, HQ0.out]
      refine H.out.mono ?_
      rintro e w15 ⟨rfl, hu15, hs15, hb15⟩
      have hb15 : Blk w15 q 22 #[wv x] := hb15
      have hm15 := hmq.upd hu15 (by simp; omega)
      have hu25 : Upd [p] wi w15 := (huq.mono (by simp)).trans hu15 (by simp; omega)
      have hown15 : Own w15 (mb + 1) 22 vv (l1.map wv) := AL.own.upd hu25 (fun h hh hk => by
        obtain ⟨_, pv, hpb, _⟩ := AL.sv
        have := AL.own.ne hpb (by decide) h hh
        simp at hk; exact this hk)
      have hsz15 : mb + 1 ≤ w15.heap.size := by have := hb15.lt; omega
      have hnm : m ∉ vv.ownBlock.toList := fun hm' => by have := AL.own.ne AL.hm (by decide) m (Option.mem_toList.1 hm'); exact this rfl
      obtain ⟨Av, cv, rfl⟩ := AL.own.formN (n := l1.length) (by simp)
      have c0 := hm15.at_ (i := 12) (Array.getElem?_setIfInBounds_self_of_lt h429)
      have c0f := hm15.frozen 12
      have c1 := hb15.cell 0
      have a0 := (hm15.alloc (.cells #[wv x] 22)).at_ (i := 12) (Array.getElem?_setIfInBounds_self_of_lt h429)
      have a0f := (hm15.alloc (.cells #[wv x] 22)).frozen 12
      have a1 := (hb15.alloc (.cells #[wv x] 22)).cell 0
      simp at c1 a1
      have hl2 : l1.length + 1 ≤ 65536 := by have h1 := congrArg List.length HT.out; have h2 := HLL.out; simp at h1; omega
      have HAL := hid AL
      clear AL hspq hmq hbq huq H hsd13
      go_wp2_with fail
      go_region_law (first | (refine step_append_row (v := .slice Av l1.length cv) _ rfl _ _ 24 rfl (mb + 1) 22 (.int .u16 0) 2 Tryz.underlying24 info_u16 rfl rfl (hown15.upd (((Upd.refl [] _).alloc _).drew) (by simp)) rfl (Row.drew (Row.one w15 22 (wv x))) (by intro u hu; simp at hu; subst hu; rfl) (by simp; omega) (by simp; omega) (by simp; omega) ?_; intro v3 w3 hap; obtain ⟨A3, c3, hv3⟩ := Own.formN (n := l1.length + 1) hap.1 (by simp); subst hv3; have hm3 := ((hm15.alloc (.cells #[wv x] 22)).drew).upd hap.2.1 hnm; have e0 := hm3.at_ (i := 12) (Array.getElem?_setIfInBounds_self_of_lt h429); have g0 := hm3.frozen 12))
      all_goals
        go_wp2
        go_roundg r.length
        case measure => simp only [List.length_cons]; omega
        case rel =>
          have hup : Upd [m] w3 (w3.setCell ⟨m, 12, none⟩ (.slice A3 (l1.length + 1) c3)) := (Upd.refl _ _).setCell (by simp) _
          have hAL := HAL.out.step (by omega) (by omega) hB (by decide) (by decide) hu25 hs15 (((Upd.refl [] _).alloc _).drew) hap hup (by have := hm3.set_ 12 (.slice A3 (l1.length + 1) c3); rwa [Array.setIfInBounds_setIfInBounds] at this)
          exact ⟨l1 ++ [x], r, _, rfl, by rw [List.map_append]; exact hAL, by rw [← HT.out]; simp⟩
set_option maxHeartbeats 16000000 in
theorem arm_sigc (hF : FrA m sx mb g k a) (U : DSt w0 B m s sx mb (g + 1) w.heap.size 105 cs (chF0 v0 v4 M) (exsB L) M.exs.length M.exs.reverse v4 us w) (hsd : Sv w B (g + 1) ed True)
    (hst : ChStep M 50 ed M1) (hedl : ed.length < 65536) (hB : B ≤ m) (hK : ∀ a' w', ChArm w0 B m s sx mb g v0 v4 us M1 L a' w' → K a' w') :
    Code.wp Tryz.prog (chC [true, true, true, true, true, true, true, true, true, true, true, true, true, true, false, false, false, true, false, true, true, true, true, true, true, false, true, false, true, true, true, true, true, true, true, true, true, true, true, true, true, false]) (Exit.then K fun _ _ _ => False) a w := by
  obtain ⟨f, rfl⟩ := hF.lit
  obtain ⟨l, h1, h2, rfl, rfl⟩ := hst.i_sigc rfl
  have HK := hid hK
  obtain ⟨l1, l2, l3, l4, l5, l6⟩ := U.lt
  have hl := U.hl
  have hls := U.ls
  have hg1 : g + 1 < w.heap.size := hl.2
  clear hF hK hst
  conv => arg 2; whnf
  rw [show be 2 (wordsB l).length ++ wordsB l = be 2 (wordsB l).length ++ (wordsB l ++ []) by simp] at hsd
  have hlw : (wordsB l).length < 65536 := by simp [be_len] at hedl; omega
  have HLL := hid (show 2 * l.length < 65536 by have : (wordsB l).length = 2 * l.length := by simp [wordsB_len]
                                                omega)
  obtain ⟨wB, hwB⟩ : ∃ x, w.alloc (.cells #[.slice none 0 0] 116) = x := ⟨_, rfl⟩
  obtain ⟨p, hp0⟩ : ∃ x, w.heap.size = x := ⟨_, rfl⟩
  have huB : Upd [] w wB := by rw [← hwB]; exact (Upd.refl _ _).alloc _
  have hbp : Blk wB p 116 #[.slice none 0 0] := by rw [← hwB, ← hp0]; exact Blk.new _ _ _
  have hgp : g + 1 < p := by omega
  have hwp : w.heap.size ≤ p := by omega
  have hsdB := hsd.upd huB (by simp) (by simp)
  replace U := U.upd huB (by simp)
  have HWB := hid hwB
  have HP0 := hid hp0
  clear hwB hp0 hsd huB
  have H := hid (ReadLP16_any hsdB (k := 0) hbp (by simp) (by omega) (by omega))
  go_wp2_with fail
  rw [HWB.out, HP0.out]
  refine H.out.mono ?_
  intro e w13 hp
  obtain ⟨u1, rfl, hu13, hsd13, hbp13, hyp, hnp⟩ := hp.yes (lp_b2 (wordsB l) _ hlw)
  have hsp13 : Sv w13 B p (wordsB l) True := ⟨by omega, u1, hbp13, hyp, fun _ => hnp⟩
  replace U := U.upd hu13 (by simp; omega)
  have hw13 : p < w13.heap.size := hbp13.lt
  clear hp hsdB hbp hu13 hbp13 hyp hnp H HWB HP0
  obtain ⟨A9, c9, e9, -, hy9, -⟩ := hsp13.open_
  have HE3 := hid (Empty_any hy9)
  clear hy9
  go_wp2_with fail
  refine HE3.out.mono ?_
  rintro e w14 ⟨rfl, rfl⟩
  have hx0 : wordsB l ≠ [] := by
    cases l with
    | nil => exact absurd rfl h2
    | cons y t => rw [wordsB_cons]; simp [be]
  rw [decide_eq_false hx0]
  obtain ⟨v8, hcv, hown0⟩ := U.ms.get (i := 13) rfl
  have hown0 : Own w13 (mb + 1) 22 v8 (([] : List UInt16).map wv) := by have h : Own w13 (mb + 1) 22 v8 (M.sigc.map wv) := hown0; rwa [h1] at h
  have hset : cs.setIfInBounds 13 v8 = cs := set_self hcv
  have hv8 : ∀ g', v8.ownBlock = some g' → mb + 1 ≤ g' ∧ g' < p ∧ g' ≠ g + 1 := fun g' hg' => by
    have h8 := U.ms.own 13 v8 _ g' hcv rfl rfl hg'
    exact ⟨h8.1, by omega, fun e => by subst e; exact U.hole 13 v8 _ hcv rfl rfl hg'⟩
  have HCV := hid hcv
  have AL0 : ALoop 22 B p m 105 (fun z => cs.setIfInBounds 13 z) (mb + 1) w13 v8 (wordsB l) v8 (([] : List UInt16).map wv) w13 := ⟨hsp13, by show Blk w13 m 105 (cs.setIfInBounds 13 v8); rw [hset]; exact U.ms.blk, hown0, nextV.refl _ _, Upd.refl _ _⟩
  have h429 : 13 < cs.size := by have := U.ms.len; simp [chF0] at this; omega
  have HU := hid U
  have HX := hid hx0
  clear hset hcv hown0 hsp13 e9 HE3 hx0 U
  go_wp2_with fail
  go_loopg [22] l.length (fun gk _ wr => WRelC B p m 105 (fun z => cs.setIfInBounds 13 z) (mb + 1) w13 v8 l gk wr)
  case atStart => exact ⟨[], l, v8, rfl, AL0, rfl⟩
  case round =>
    obtain ⟨l1, r, vv, rfl, AL, htot⟩ := hrel
    obtain ⟨wi, rfl⟩ : ∃ wi : World, wi = wr := ⟨_, rfl⟩
    have HT := hid htot
    clear htot AL0
    obtain ⟨A9, c9, e9, -, hy9, -⟩ := AL.sv.open_
    have HE9 := hid (Empty_any hy9)
    clear hy9
    go_wp2_with fail
    refine HE9.out.mono ?_
    rintro e w14 ⟨rfl, rfl⟩
    rcases r with _ | ⟨x, r⟩
    · have hl9 : l1 = l := by have := HT.out; rwa [List.append_nil] at this
      subst hl9
      have U2 := HU.out.loop (f := .row 22 (l1.map wv)) HCV.out rfl rfl AL.up hwp AL.hm AL.own AL.nx (fun g' hg' => (AL.lt g' hg').2)
      have hsd2 := HU.out.loopSv HCV.out rfl rfl AL.up hwp hsd13 (.inr rfl) (by omega)
      clear AL HU hsd13 HE9 HX
      have UF := (U2.cast (show _ = chF0 v0 v4 { M with sigc := l1 } from rfl)).full
      clear U2
      go_wp2
      exact HK.out _ _ ⟨⟨rfl, by kernel_rfl, by kernel_rfl, by kernel_rfl, by kernel_rfl, by kernel_rfl, by kernel_rfl⟩, _, UF, hsd2⟩
    · rw [decide_eq_false (by rw [wordsB_cons]; simp [be])]
      obtain ⟨wq, hwq⟩ : ∃ wq, wi.alloc (.cells #[.int .u16 0] 22) = wq := ⟨_, rfl⟩
      obtain ⟨q, hq0⟩ : ∃ q, wi.heap.size = q := ⟨_, rfl⟩
      have huq : Upd [] wi wq := by rw [← hwq]; exact (Upd.refl _ _).alloc _
      have hbq : Blk wq q 22 #[.int .u16 0] := by rw [← hwq, ← hq0]; exact Blk.new _ _ _
      have hpq : p < q := by have := AL.up.size; omega
      have hqw : wi.heap.size ≤ q := by omega
      have hspq := AL.sv.upd huq (by simp) (by simp)
      have hmq := AL.hm.upd huq (by simp)
      rw [wordsB_cons] at hspq
      have HWQ := hid hwq
      have HQ0 := hid hq0
      clear hwq hq0 HE9
      have H := hid (ReadUint16_be (k := 0) hspq hbq (by simp) (by omega) (by omega))
      go_wp2_with fail
      rw [HWQ.out, HQ0.out]
      refine H.out.mono ?_
      rintro e w15 ⟨rfl, hu15, hs15, hb15⟩
      have hb15 : Blk w15 q 22 #[wv x] := hb15
      have hm15 := hmq.upd hu15 (by simp; omega)
      have hu25 : Upd [p] wi w15 := (huq.mono (by simp)).trans hu15 (by simp; omega)
      have hown15 : Own w15 (mb + 1) 22 vv (l1.map wv) := AL.own.upd hu25 (fun h hh hk => by
        obtain ⟨_, pv, hpb, _⟩ := AL.sv
        have := AL.own.ne hpb (by decide) h hh
        simp at hk; exact this hk)
      have hsz15 : mb + 1 ≤ w15.heap.size := by have := hb15.lt; omega
      have hnm : m ∉ vv.ownBlock.toList := fun hm' => by have := AL.own.ne AL.hm (by decide) m (Option.mem_toList.1 hm'); exact this rfl
      obtain ⟨Av, cv, rfl⟩ := AL.own.formN (n := l1.length) (by simp)
      have c0 := hm15.at_ (i := 13) (Array.getElem?_setIfInBounds_self_of_lt h429)
      have c0f := hm15.frozen 13
      have c1 := hb15.cell 0
      have a0 := (hm15.alloc (.cells #[wv x] 22)).at_ (i := 13) (Array.getElem?_setIfInBounds_self_of_lt h429)
      have a0f := (hm15.alloc (.cells #[wv x] 22)).frozen 13
      have a1 := (hb15.alloc (.cells #[wv x] 22)).cell 0
      simp at c1 a1
      have hl2 : l1.length + 1 ≤ 65536 := by have h1 := congrArg List.length HT.out; have h2 := HLL.out; simp at h1; omega
      have HAL := hid AL
      clear AL hspq hmq hbq huq H hsd13
      go_wp2_with fail
      go_region_law (first | (refine step_append_row (v := .slice Av l1.length cv) _ rfl _ _ 24 rfl (mb + 1) 22 (.int .u16 0) 2 Tryz.underlying24 info_u16 rfl rfl (hown15.upd (((Upd.refl [] _).alloc _).drew) (by simp)) rfl (Row.drew (Row.one w15 22 (wv x))) (by intro u hu; simp at hu; subst hu; rfl) (by simp; omega) (by simp; omega) (by simp; omega) ?_; intro v3 w3 hap; obtain ⟨A3, c3, hv3⟩ := Own.formN (n := l1.length + 1) hap.1 (by simp); subst hv3; have hm3 := ((hm15.alloc (.cells #[wv x] 22)).drew).upd hap.2.1 hnm; have e0 := hm3.at_ (i := 13) (Array.getElem?_setIfInBounds_self_of_lt h429); have g0 := hm3.frozen 13))
      all_goals
        go_wp2
        go_roundg r.length
        case measure => simp only [List.length_cons]; omega
        case rel =>
          have hup : Upd [m] w3 (w3.setCell ⟨m, 13, none⟩ (.slice A3 (l1.length + 1) c3)) := (Upd.refl _ _).setCell (by simp) _
          have hAL := HAL.out.step (by omega) (by omega) hB (by decide) (by decide) hu25 hs15 (((Upd.refl [] _).alloc _).drew) hap hup (by have := hm3.set_ 13 (.slice A3 (l1.length + 1) c3); rwa [Array.setIfInBounds_setIfInBounds] at this)
          exact ⟨l1 ++ [x], r, _, rfl, by rw [List.map_append]; exact hAL, by rw [← HT.out]; simp⟩
set_option maxHeartbeats 16000000 in
theorem arm_sv (hF : FrA m sx mb g k a) (U : DSt w0 B m s sx mb (g + 1) w.heap.size 105 cs (chF0 v0 v4 M) (exsB L) M.exs.length M.exs.reverse v4 us w) (hsd : Sv w B (g + 1) ed True)
    (hst : ChStep M 43 ed M1) (hedl : ed.length < 65536) (hB : B ≤ m) (hK : ∀ a' w', ChArm w0 B m s sx mb g v0 v4 us M1 L a' w' → K a' w') :
    Code.wp Tryz.prog (chC [true, true, true, true, true, true, true, true, true, true, true, true, true, true, false, false, false, true, false, true, true, true, true, true, true, false, true, false, true, true, true, true, true, true, true, true, true, true, true, true, true, true, true, true, true, true, true, true, true, true, true, false]) (Exit.then K fun _ _ _ => False) a w := by
  obtain ⟨f, rfl⟩ := hF.lit
  obtain ⟨l, h1, h2, h3, rfl, rfl⟩ := hst.i_sv rfl
  have HK := hid hK
  obtain ⟨l1, l2, l3, l4, l5, l6⟩ := U.lt
  have hl := U.hl
  have hls := U.ls
  have hg1 : g + 1 < w.heap.size := hl.2
  clear hF hK hst
  conv => arg 2; whnf
  rw [show be 1 (wordsB l).length ++ wordsB l = be 1 (wordsB l).length ++ (wordsB l ++ []) by simp] at hsd
  have hlw : (wordsB l).length < 65536 := by omega
  have HLL := hid (show 2 * l.length < 65536 by have : (wordsB l).length = 2 * l.length := by simp [wordsB_len]
                                                omega)
  obtain ⟨wB, hwB⟩ : ∃ x, w.alloc (.cells #[.slice none 0 0] 116) = x := ⟨_, rfl⟩
  obtain ⟨p, hp0⟩ : ∃ x, w.heap.size = x := ⟨_, rfl⟩
  have huB : Upd [] w wB := by rw [← hwB]; exact (Upd.refl _ _).alloc _
  have hbp : Blk wB p 116 #[.slice none 0 0] := by rw [← hwB, ← hp0]; exact Blk.new _ _ _
  have hgp : g + 1 < p := by omega
  have hwp : w.heap.size ≤ p := by omega
  have hsdB := hsd.upd huB (by simp) (by simp)
  replace U := U.upd huB (by simp)
  have HWB := hid hwB
  have HP0 := hid hp0
  clear hwB hp0 hsd huB
  have H := hid (ReadLP8_any hsdB (k := 0) hbp (by simp) (by omega) (by omega))
  go_wp2_with fail
  rw [HWB.out, HP0.out]
  refine H.out.mono ?_
  intro e w13 hp
  obtain ⟨u1, rfl, hu13, hsd13, hbp13, hyp, hnp⟩ := hp.yes (lp_b1 (wordsB l) _ h3)
  have hsp13 : Sv w13 B p (wordsB l) True := ⟨by omega, u1, hbp13, hyp, fun _ => hnp⟩
  replace U := U.upd hu13 (by simp; omega)
  have hw13 : p < w13.heap.size := hbp13.lt
  clear hp hsdB hbp hu13 hbp13 hyp hnp H HWB HP0
  obtain ⟨A9, c9, e9, -, hy9, -⟩ := hsp13.open_
  have HE3 := hid (Empty_any hy9)
  clear hy9
  go_wp2_with fail
  refine HE3.out.mono ?_
  rintro e w14 ⟨rfl, rfl⟩
  have hx0 : wordsB l ≠ [] := by
    cases l with
    | nil => exact absurd rfl h2
    | cons y t => rw [wordsB_cons]; simp [be]
  rw [decide_eq_false hx0]
  obtain ⟨v8, hcv, hown0⟩ := U.ms.get (i := 19) rfl
  have hown0 : Own w13 (mb + 1) 22 v8 (([] : List UInt16).map wv) := by have h : Own w13 (mb + 1) 22 v8 (M.sv.map wv) := hown0; rwa [h1] at h
  have hset : cs.setIfInBounds 19 v8 = cs := set_self hcv
  have hv8 : ∀ g', v8.ownBlock = some g' → mb + 1 ≤ g' ∧ g' < p ∧ g' ≠ g + 1 := fun g' hg' => by
    have h8 := U.ms.own 19 v8 _ g' hcv rfl rfl hg'
    exact ⟨h8.1, by omega, fun e => by subst e; exact U.hole 19 v8 _ hcv rfl rfl hg'⟩
  have HCV := hid hcv
  have AL0 : ALoop 22 B p m 105 (fun z => cs.setIfInBounds 19 z) (mb + 1) w13 v8 (wordsB l) v8 (([] : List UInt16).map wv) w13 := ⟨hsp13, by show Blk w13 m 105 (cs.setIfInBounds 19 v8); rw [hset]; exact U.ms.blk, hown0, nextV.refl _ _, Upd.refl _ _⟩
  have h429 : 19 < cs.size := by have := U.ms.len; simp [chF0] at this; omega
  have HU := hid U
  have HX := hid hx0
  clear hset hcv hown0 hsp13 e9 HE3 hx0 U
  go_wp2_with fail
  go_loopg [26] l.length (fun gk _ wr => WRelC B p m 105 (fun z => cs.setIfInBounds 19 z) (mb + 1) w13 v8 l gk wr)
  case atStart => exact ⟨[], l, v8, rfl, AL0, rfl⟩
  case round =>
    obtain ⟨l1, r, vv, rfl, AL, htot⟩ := hrel
    obtain ⟨wi, rfl⟩ : ∃ wi : World, wi = wr := ⟨_, rfl⟩
    have HT := hid htot
    clear htot AL0
    obtain ⟨A9, c9, e9, -, hy9, -⟩ := AL.sv.open_
    have HE9 := hid (Empty_any hy9)
    clear hy9
    go_wp2_with fail
    refine HE9.out.mono ?_
    rintro e w14 ⟨rfl, rfl⟩
    rcases r with _ | ⟨x, r⟩
    · have hl9 : l1 = l := by have := HT.out; rwa [List.append_nil] at this
      subst hl9
      have U2 := HU.out.loop (f := .row 22 (l1.map wv)) HCV.out rfl rfl AL.up hwp AL.hm AL.own AL.nx (fun g' hg' => (AL.lt g' hg').2)
      have hsd2 := HU.out.loopSv HCV.out rfl rfl AL.up hwp hsd13 (.inr rfl) (by omega)
      clear AL HU hsd13 HE9 HX
      have UF := (U2.cast (show _ = chF0 v0 v4 { M with sv := l1 } from rfl)).full
      clear U2
      go_wp2
      exact HK.out _ _ ⟨⟨rfl, by kernel_rfl, by kernel_rfl, by kernel_rfl, by kernel_rfl, by kernel_rfl, by kernel_rfl⟩, _, UF, hsd2⟩
    · rw [decide_eq_false (by rw [wordsB_cons]; simp [be])]
      obtain ⟨wq, hwq⟩ : ∃ wq, wi.alloc (.cells #[.int .u16 0] 22) = wq := ⟨_, rfl⟩
      obtain ⟨q, hq0⟩ : ∃ q, wi.heap.size = q := ⟨_, rfl⟩
      have huq : Upd [] wi wq := by rw [← hwq]; exact (Upd.refl _ _).alloc _
      have hbq : Blk wq q 22 #[.int .u16 0] := by rw [← hwq, ← hq0]; exact Blk.new _ _ _
      have hpq : p < q := by have := AL.up.size; omega
      have hqw : wi.heap.size ≤ q := by omega
      have hspq := AL.sv.upd huq (by simp) (by simp)
      have hmq := AL.hm.upd huq (by simp)
      rw [wordsB_cons] at hspq
      have HWQ := hid hwq
      have HQ0 := hid hq0
      clear hwq hq0 HE9
      have H := hid (ReadUint16_be (k := 0) hspq hbq (by simp) (by omega) (by omega))
      go_wp2_with fail
      rw [HWQ.out, HQ0.out]
      refine H.out.mono ?_
      rintro e w15 ⟨rfl, hu15, hs15, hb15⟩
      have hb15 : Blk w15 q 22 #[wv x] := hb15
      have hm15 := hmq.upd hu15 (by simp; omega)
      have hu25 : Upd [p] wi w15 := (huq.mono (by simp)).trans hu15 (by simp; omega)
      have hown15 : Own w15 (mb + 1) 22 vv (l1.map wv) := AL.own.upd hu25 (fun h hh hk => by
        obtain ⟨_, pv, hpb, _⟩ := AL.sv
        have := AL.own.ne hpb (by decide) h hh
        simp at hk; exact this hk)
      have hsz15 : mb + 1 ≤ w15.heap.size := by have := hb15.lt; omega
      have hnm : m ∉ vv.ownBlock.toList := fun hm' => by have := AL.own.ne AL.hm (by decide) m (Option.mem_toList.1 hm'); exact this rfl
      obtain ⟨Av, cv, rfl⟩ := AL.own.formN (n := l1.length) (by simp)
      have c0 := hm15.at_ (i := 19) (Array.getElem?_setIfInBounds_self_of_lt h429)
      have c0f := hm15.frozen 19
      have c1 := hb15.cell 0
      have a0 := (hm15.alloc (.cells #[wv x] 22)).at_ (i := 19) (Array.getElem?_setIfInBounds_self_of_lt h429)
      have a0f := (hm15.alloc (.cells #[wv x] 22)).frozen 19
      have a1 := (hb15.alloc (.cells #[wv x] 22)).cell 0
      simp at c1 a1
      have hl2 : l1.length + 1 ≤ 65536 := by have h1 := congrArg List.length HT.out; have h2 := HLL.out; simp at h1; omega
      have HAL := hid AL
      clear AL hspq hmq hbq huq H hsd13
      go_wp2_with fail
      go_region_law (first | (refine step_append_row (v := .slice Av l1.length cv) _ rfl _ _ 24 rfl (mb + 1) 22 (.int .u16 0) 2 Tryz.underlying24 info_u16 rfl rfl (hown15.upd (((Upd.refl [] _).alloc _).drew) (by simp)) rfl (Row.drew (Row.one w15 22 (wv x))) (by intro u hu; simp at hu; subst hu; rfl) (by simp; omega) (by simp; omega) (by simp; omega) ?_; intro v3 w3 hap; obtain ⟨A3, c3, hv3⟩ := Own.formN (n := l1.length + 1) hap.1 (by simp); subst hv3; have hm3 := ((hm15.alloc (.cells #[wv x] 22)).drew).upd hap.2.1 hnm; have e0 := hm3.at_ (i := 19) (Array.getElem?_setIfInBounds_self_of_lt h429); have g0 := hm3.frozen 19))
      all_goals
        go_wp2
        go_roundg r.length
        case measure => simp only [List.length_cons]; omega
        case rel =>
          have hup : Upd [m] w3 (w3.setCell ⟨m, 19, none⟩ (.slice A3 (l1.length + 1) c3)) := (Upd.refl _ _).setCell (by simp) _
          have hAL := HAL.out.step (by omega) (by omega) hB (by decide) (by decide) hu25 hs15 (((Upd.refl [] _).alloc _).drew) hap hup (by have := hm3.set_ 19 (.slice A3 (l1.length + 1) c3); rwa [Array.setIfInBounds_setIfInBounds] at this)
          exact ⟨l1 ++ [x], r, _, rfl, by rw [List.map_append]; exact hAL, by rw [← HT.out]; simp⟩
end
end Go.Proofs.YtaajmfgplhfncaaGreat

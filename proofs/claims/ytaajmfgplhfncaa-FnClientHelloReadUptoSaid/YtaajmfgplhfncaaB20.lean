/- Texts joined: ChA4. -/
import Derived.StillTailTactics
import Derived.Test.YtaajmfgplhfncaaB15
namespace Go.Proofs.Ytaajmfgplhfncaa
open Go.RowKit Go.Maps
set_option maxRecDepth 100000
section
variable {w0 w w' wr : World} {B m s sx mb g n gk : Nat} {v0 v4 : Value} {us : List Value} {t' M M1 : Ch} {L : List Ex} {xl : Nat} {a : Act} {k : UInt16} {ed x0 : List UInt8} {cs : Array Value} {K : Act → World → Prop} {Q : Exit → Act → World → Prop}
set_option maxHeartbeats 16000000 in
theorem arm_ks (hF : FrA m sx mb g k a) (U : DSt w0 B m s sx mb (g + 1) w.heap.size 90 cs (chF0 v0 v4 M) (exsB L) M.exs.length M.exs.reverse v4 us w) (hsd : Sv w B (g + 1) ed True)
    (hst : ChStep M 51 ed M1) (hedl : ed.length < 65536) (hB : B ≤ m) (hK : ∀ a' w', ChArm w0 B m s sx mb g v0 v4 us M1 L a' w' → K a' w') :
    Code.wp Try.prog (chC [true, true, true, true, true, true, true, true, true, true, true, true, true, true, false, false, false, true, false, true, true, true, true, true, true, false, true, false, true, true, true, true, true, true, true, true, true, true, true, true, true, true, true, true, true, true, true, true, true, true, true, true, true, true, true, false]) (Exit.then K fun _ _ _ => False) a w := by
  obtain ⟨f, rfl⟩ := hF.lit
  obtain ⟨l, h1, h1b, h2, h3, rfl, rfl⟩ := hst.i_ks rfl
  have HK := hid hK
  obtain ⟨l1, l2, l3, l4, l5, l6⟩ := U.lt
  have hl := U.hl
  have hls := U.ls
  have hg1 : g + 1 < w.heap.size := hl.2
  clear hF hK hst
  conv => arg 2; whnf
  rw [show be 2 (kshB l).length ++ kshB l = be 2 (kshB l).length ++ (kshB l ++ []) by simp] at hsd
  have hlw : (kshB l).length < 65536 := by simp [be_len] at hedl; omega
  have HLW := hid hlw
  have HNE := hid h3
  clear h3 h2
  obtain ⟨wB, hwB⟩ : ∃ x, w.alloc (.cells #[.slice none 0 0] 100) = x := ⟨_, rfl⟩
  obtain ⟨p, hp0⟩ : ∃ x, w.heap.size = x := ⟨_, rfl⟩
  have huB : Upd [] w wB := by rw [← hwB]; exact (Upd.refl _ _).alloc _
  have hbp : Blk wB p 100 #[.slice none 0 0] := by rw [← hwB, ← hp0]; exact Blk.new _ _ _
  have hgp : g + 1 < p := by omega
  have hwp : w.heap.size ≤ p := by omega
  have hsdB := hsd.upd huB (by simp) (by simp)
  replace U := U.upd huB (by simp)
  have HWB := hid hwB
  have HP0 := hid hp0
  clear hwB hp0 hsd huB
  have H := hid (ReadLP16_any hsdB (k := 0) hbp (by simp) (by omega) (by omega))
  go_wp2_with fail
  rw [HWB.out, HP0.out]
  refine H.out.mono ?_
  intro e w13 hp
  obtain ⟨u1, rfl, hu13, hsd13, hbp13, hyp, hnp⟩ := hp.yes (lp_b2 (kshB l) _ hlw)
  have hsp13 : Sv w13 B p (kshB l) True := ⟨by omega, u1, hbp13, hyp, fun _ => hnp⟩
  replace U := U.upd hu13 (by simp; omega)
  have hw13 : p < w13.heap.size := hbp13.lt
  clear hp hsdB hbp hu13 hbp13 hyp hnp H HWB HP0
  obtain ⟨A9, c9, e9, -, hy9, -⟩ := hsp13.open_
  have HE3 := hid (Empty_any hy9)
  clear hy9
  clear HE3 e9 hlw
  obtain ⟨v8, hcv, hown0⟩ := U.ms.get (i := 21) rfl
  have hown0 : Prs w13 (mb + 1) B 93 v8 [] := by
    have h : Prs w13 (mb + 1) B 93 v8 (ksC M) := hown0
    rwa [show ksC M = [] by simp [ksC, h1]] at h
  have hset : cs.setIfInBounds 21 v8 = cs := set_self hcv
  have HCV := hid hcv
  have AL0 : PLoop 93 B p m 90 (fun z => cs.setIfInBounds 21 z) (mb + 1) w13 v8 (kshB l) v8 [] w13 := ⟨hsp13, by show Blk w13 m 90 (cs.setIfInBounds 21 v8); rw [hset]; exact U.ms.blk, hown0, nextV.refl _ _, Upd.refl _ _⟩
  have h429 : 21 < cs.size := by have := U.ms.len; simp [chF0] at this; omega
  have HU := hid U
  clear hset hcv hown0 hsp13 U
  go_wp2_with fail
  go_loopg [28] l.length (fun gk _ wr => KRelC B p m 90 (fun z => cs.setIfInBounds 21 z) (mb + 1) w13 v8 l gk wr)
  case atStart => exact ⟨[], l, v8, rfl, AL0, rfl⟩
  case round =>
    obtain ⟨l1, r, vv, rfl, AL, htot⟩ := hrel
    obtain ⟨wi, rfl⟩ : ∃ wi : World, wi = wr := ⟨_, rfl⟩
    have HT := hid htot
    clear htot AL0
    obtain ⟨A9, c9, e9, -, hy9, -⟩ := AL.sv.open_
    have HE9 := hid (Empty_any hy9)
    clear hy9
    go_wp2_with fail
    refine HE9.out.mono ?_
    rintro e w14 ⟨rfl, rfl⟩
    rcases r with _ | ⟨⟨xa, xb⟩, r⟩
    · have hl9 : l1 = l := by have := HT.out; rwa [List.append_nil] at this
      subst hl9
      have U2 := HU.out.loop (f := .prs 93 (l1.map fun x : UInt16 × List UInt8 => ((Cel.val (wv x.1), Cel.byt x.2) : Cel × Cel))) HCV.out rfl rfl AL.up hwp AL.hm AL.own AL.nx (fun g' hg' => (AL.lt g' hg').2)
      have hsd2 := HU.out.loopSv HCV.out rfl rfl AL.up hwp hsd13 (.inr rfl) (by omega)
      clear AL HU HE9
      rw [show (l1.map fun x : UInt16 × List UInt8 => ((Cel.val (wv x.1), Cel.byt x.2) : Cel × Cel)) = ksC { M with kg := l1.map (·.1), kd := l1.map (·.2) } by simp [ksC, List.zip_map']] at U2
      have U3 := U2.cast (show _ = chF0 v0 v4 { M with kg := l1.map (·.1), kd := l1.map (·.2) } from rfl)
      clear U2
      have UF := U3.full
      clear U3 hsd13
      go_wp2
      exact HK.out _ _ ⟨⟨rfl, by kernel_rfl, by kernel_rfl, by kernel_rfl, by kernel_rfl, by kernel_rfl, by kernel_rfl⟩, _, UF, hsd2⟩
    · rw [decide_eq_false (by rw [kshB_cons]; simp [be])]
      have hxl : (xa, xb) ∈ l := by rw [← HT.out]; simp
      have hxx := HNE.out _ hxl
      clear hxl
      obtain ⟨wq, hwq⟩ : ∃ wq, wi.alloc (.cells #[.int .u16 0, .slice none 0 0] 93) = wq := ⟨_, rfl⟩
      obtain ⟨q, hq0⟩ : ∃ q, wi.heap.size = q := ⟨_, rfl⟩
      have huq : Upd [] wi wq := by rw [← hwq]; exact (Upd.refl _ _).alloc _
      have hbq : Blk wq q 93 #[.int .u16 0, .slice none 0 0] := by rw [← hwq, ← hq0]; exact Blk.new _ _ _
      have hpq : p < q := by have := AL.up.size; omega
      have hqw : wi.heap.size ≤ q := by omega
      have hspq := AL.sv.upd huq (by simp) (by simp)
      have hmq := AL.hm.upd huq (by simp)
      rw [kshB_cons] at hspq
      have HWQ := hid hwq
      have HQ0 := hid hq0
      clear hwq hq0 HE9
      have hyl : xb.length < 65536 := by
        have h1 := HLW.out
        rw [← HT.out] at h1
        simp [kshB] at h1
        omega
      have H := hid (ReadUint16_be (k := 0) hspq hbq (by simp) (by omega) (by omega))
      go_wp2_with fail
      rw [HWQ.out, HQ0.out]
      refine H.out.mono ?_
      rintro e w15 ⟨rfl, hu15, hs15, hb15⟩
      have hb15 : Blk w15 q 93 #[wv xa, .slice none 0 0] := hb15
      have hm15 := hmq.upd hu15 (by simp; omega)
      clear H
      have H := hid (tlsLP16_any hs15 (k := 1) hb15 (by simp) (by omega) (by omega))
      go_wp2_with fail
      refine H.out.mono ?_
      intro e w16 hp
      obtain ⟨u5, rfl, hu16, hs16, hb16, hyu, -⟩ := hp.yes (lp_b2 xb _ hyl)
      obtain ⟨A5, c5, rfl, hyu, -, -⟩ := Byt.form hyu rfl
      have hb16 : Blk w16 q 93 #[wv xa, .slice A5 xb.length c5] := hb16
      have hm16 := hm15.upd hu16 (by simp; omega)
      have hu25 : Upd [p] wi w16 := ((huq.mono (by simp)).trans hu15 (by simp; omega)).trans hu16 (by simp; omega)
      have hz : ((xb.length : Int) == 0) = false := by have := List.length_pos_iff.2 hxx; rw [beq_eq_false_iff_ne]; omega
      have hown16 : Prs w16 (mb + 1) B 93 vv (l1.map fun x : UInt16 × List UInt8 => ((Cel.val (wv x.1), Cel.byt x.2) : Cel × Cel)) := AL.own.upd hu25 (fun h hh hk => by
        obtain ⟨_, pv, hpb, _⟩ := AL.sv
        have := AL.own.ne hpb (by decide) h hh
        simp at hk; exact this hk) (by simp; omega)
      have hsz16 : mb + 1 ≤ w16.heap.size := by have := hb16.lt; omega
      have hnm : m ∉ vv.ownBlock.toList := fun hm' => by have := AL.own.ne AL.hm (by decide) m (Option.mem_toList.1 hm'); exact this rfl
      obtain ⟨Av, cv, hvv, -, -⟩ := AL.own.form
      rw [List.length_map] at hvv
      subst hvv
      have c0 := hm16.at_ (i := 21) (Array.getElem?_setIfInBounds_self_of_lt h429)
      have c0f := hm16.frozen 21
      have c1 := hb16.cell 0
      have c2 := hb16.cell 1
      have hmA := hm16.alloc (.cells #[wv xa, .slice A5 xb.length c5] 93)
      have a0 := hmA.at_ (i := 21) (Array.getElem?_setIfInBounds_self_of_lt h429)
      have a0f := hmA.frozen 21
      simp at c1 c2
      have hu1 : Upd [] w16 (w16.alloc (.cells #[wv xa, .slice A5 xb.length c5] 93)).drew := ((Upd.refl [] _).alloc _).drew
      have HPR := hid (hown16.upd hu1 (by simp) (by simp))
      have HYY := hid (Row.upd hyu hu1 (by simp))
      have HMR := hid hmA.drew
      have HNM := hid hnm
      have hk0 : (w16.alloc (.cells #[wv xa, .slice A5 xb.length c5] 93)).drew.cell? ⟨w16.heap.size, 0, none⟩ = some (wv xa) := (Blk.new w16 93 #[wv xa, .slice A5 xb.length c5]).drew.cell 0
      have hk1 : (w16.alloc (.cells #[wv xa, .slice A5 xb.length c5] 93)).drew.cell? ⟨w16.heap.size, 1, none⟩ = some (.slice A5 xb.length c5) := (Blk.new w16 93 #[wv xa, .slice A5 xb.length c5]).drew.cell 1
      have HK0 := hid hk0
      have HK1 := hid hk1
      have hl2 : l1.length + 1 ≤ 65536 := by
        have h1 := HLW.out
        rw [← HT.out] at h1
        have h2 : ∀ l : List (UInt16 × List UInt8), l.length ≤ (kshB l).length := by
          intro l
          induction l with
          | nil => simp
          | cons y t ih => obtain ⟨ya, yb⟩ := y; rw [kshB_cons]; simp [be_len]; omega
        have h3 := h2 (l1 ++ (xa, xb) :: r)
        simp at h3
        omega
      have HAL := hid AL
      have HSD := hid hsd13
      have HU1 := hid hu1
      clear AL hspq hmq hbq huq H hsd13 hp hyu hown16 hmA hk0 hk1 hu1 hnm
      go_wp2_with fail
      go_region_law (first | (refine step_append_prs (v := .slice Av l1.length cv) rfl _ _ 87 rfl 93 (.agg #[.int .u16 0, .slice none 0 0]) 32 Try.underlying87 (by kernel_rfl) rfl rfl HPR.out (b := w16.heap.size) rfl (x0 := wv xa) (y0 := .slice A5 xb.length c5) (c := (Cel.val (wv xa), Cel.byt xb)) HK0.out HK1.out ⟨rfl, rfl⟩ HYY.out (by simp; omega) (by simp; omega) (by simp; omega) (by omega) ?_; intro v3 w3 hap; obtain ⟨A3, c3, hv3, -, -⟩ := hap.1.form; rw [List.length_append, List.length_map, List.length_singleton] at hv3; subst hv3; have hm3 := HMR.out.upd hap.2.1 HNM.out; have e0 := hm3.at_ (i := 21) (Array.getElem?_setIfInBounds_self_of_lt h429); have g0 := hm3.frozen 21))
      all_goals
        go_wp2
        go_roundg r.length
        case measure => simp only [List.length_cons]; omega
        case rel =>
          have hup : Upd [m] w3 (w3.setCell ⟨m, 21, none⟩ (.slice A3 (l1.length + 1) c3)) := (Upd.refl _ _).setCell (by simp) _
          have hAL := HAL.out.step (by omega) (by omega) (by omega) hB (by decide) (by decide) hu25 hs16 HU1.out hap hup (by have := hm3.set_ 21 (.slice A3 (l1.length + 1) c3); rwa [Array.setIfInBounds_setIfInBounds] at this)
          exact ⟨l1 ++ [(xa, xb)], r, _, rfl, by rw [List.map_append]; exact hAL, by rw [← HT.out]; simp⟩
set_option maxHeartbeats 16000000 in
theorem arm_quic (hF : FrA m sx mb g k a) (U : DSt w0 B m s sx mb (g + 1) w.heap.size 90 cs (chF0 v0 v4 M) (exsB L) M.exs.length M.exs.reverse v4 us w) (hsd : Sv w B (g + 1) ed True)
    (hst : ChStep M 57 ed M1) (hedl : ed.length < 65536) (hB : B ≤ m) (hK : ∀ a' w', ChArm w0 B m s sx mb g v0 v4 us M1 L a' w' → K a' w') :
    Code.wp Try.prog (chC [true, true, true, true, true, true, true, true, true, true, true, true, true, true, false, false, false, true, false, true, true, true, true, true, true, false, true, false, true, true, true, true, true, true, true, true, true, true, true, true, true, true, true, true, true, true, true, true, true, true, true, true, true, true, true, true, true, true, true, true, true, false]) (Exit.then K fun _ _ _ => False) a w := by
  obtain ⟨f, rfl⟩ := hF.lit
  obtain rfl := hst.i_quic rfl
  have HK := hid hK
  obtain ⟨l1, l2, l3, l4, l5, l6⟩ := U.lt
  have hl := U.hl
  have hls := U.ls
  have hg1 : g + 1 < w.heap.size := hl.2
  clear hF hK hst
  conv => arg 2; whnf
  obtain ⟨A8, c8, e8, e8f, hy8, -⟩ := hsd.open_
  obtain ⟨vc, hcv, -⟩ := U.ms.get (i := 26) rfl
  have hcell : ∀ wN, Upd [] w wN → wN.cell? ⟨m, 26, none⟩ = some vc ∧ wN.frozen? ⟨m, 26, none⟩ = false := fun wN hu => ⟨(U.upd hu (by simp)).ms.cell hcv, (U.upd hu (by simp)).ms.blk.frozen 26⟩
  have HCELL := hid hcell
  clear hcell hcv
  go_wp2_with (at_make; refine wpList_newBytes rfl _ _ rfl ed.length rfl rfl (by omega) ?_; intro wN zs hzs hzN huN; obtain ⟨r0, z0⟩ := HCELL.out wN huN)
  obtain ⟨g', hg'⟩ : ∃ g', w.heap.size = g' := ⟨_, rfl⟩
  have hgg : g + 1 < g' := by omega
  rw [hg'] at hzN ⊢
  have huS : Upd [m] wN (wN.setCell ⟨m, 26, none⟩ (.slice (some ⟨g', 0, none⟩) ed.length ed.length)) := (Upd.refl _ _).setCell (by simp) _
  have hsdS := (hsd.upd huN (by simp) (by simp)).upd huS (by simp; omega) (by simp; omega)
  have hzS := (huS.block g' (Array.getElem?_eq_some_iff.1 hzN).1 (by simp; omega)).trans hzN
  have hUN := U.upd huN (by simp)
  have hmS := hUN.ms.blk.set_ 26 (.slice (some ⟨g', 0, none⟩) ed.length ed.length)
  have hWS : ∃ wS, wN.setCell ⟨m, 26, none⟩ (.slice (some ⟨g', 0, none⟩) ed.length ed.length) = wS := ⟨_, rfl⟩
  obtain ⟨wS, hWS⟩ := hWS
  rw [hWS] at huS hsdS hzS hmS ⊢
  clear hWS r0 z0 hzN huN e8 e8f hy8 U hsd
  refine (CopyBytes_any hsdS hzS hzs (by omega) (by omega)).mono ?_
  rintro e w13 ⟨rfl, hu13, hs13, hh13⟩
  have hm13 := hmS.upd hu13 (by simp; omega)
  have hg13 : g' < w13.heap.size := (Array.getElem?_eq_some_iff.1 hh13).1
  have hcp : Cpy w13 (mb + 1) (.slice (some ⟨g', 0, none⟩) ed.length ed.length) ed := ⟨g', ed.length, rfl, by omega, Nat.le_refl _, by unfold maxLen; omega, hh13⟩
  have U2 := hUN.put (i := 26) (f := .cpy true ed) ((huS.mono (S' := [m, g + 1, g']) (by simp)).trans hu13 (by simp)) (by simp; omega) hm13 (.inl ⟨rfl, hcp⟩) (fun _ h hh => .inl (by have h9 : g' = h := (by simpa [Value.ownBlock] using hh); exact ⟨by omega, by omega⟩)) (by have := hUN.lt; have := huS.size; have := hu13.size; omega) (Nat.le_refl _)
  clear hmS hu13 hsdS hzS hh13 huS hm13 hUN hcp
  have UF := (U2.cast (show _ = chF0 v0 v4 { M with quic := true, qtp := ed } from rfl)).full
  clear U2
  go_wp2
  exact HK.out _ _ ⟨⟨rfl, by kernel_rfl, by kernel_rfl, by kernel_rfl, by kernel_rfl, by kernel_rfl, by kernel_rfl⟩, _, UF, hs13⟩
end
end Go.Proofs.Ytaajmfgplhfncaa

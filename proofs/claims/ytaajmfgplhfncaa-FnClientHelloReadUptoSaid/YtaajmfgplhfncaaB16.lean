/- Texts joined: ChA1. -/
import Derived.StillTailTactics
import Derived.Test.YtaajmfgplhfncaaB15
namespace Go.Proofs.Ytaajmfgplhfncaa
open Go.RowKit Go.Maps
set_option maxRecDepth 100000
section
variable {w0 w w' wr : World} {B m s sx mb g n gk : Nat} {v0 v4 : Value} {us : List Value} {t' M M1 : Ch} {L : List Ex} {xl : Nat} {a : Act} {k : UInt16} {ed x0 : List UInt8} {cs : Array Value} {K : Act → World → Prop} {Q : Exit → Act → World → Prop}
set_option maxHeartbeats 16000000 in
theorem arm_ocsp (hF : FrA m sx mb g k a) (U : DSt w0 B m s sx mb (g + 1) w.heap.size 90 cs (chF0 v0 v4 M) (exsB L) M.exs.length M.exs.reverse v4 us w) (hsd : Sv w B (g + 1) ed True)
    (hst : ChStep M 5 ed M1) (hedl : ed.length < 65536) (hB : B ≤ m) (hK : ∀ a' w', ChArm w0 B m s sx mb g v0 v4 us M1 L a' w' → K a' w') :
    Code.wp Try.prog (chC [true, true, true, true, true, true, true, true, true, true, true, true, true, true, false, false, false, true, false, true, true, true, true, true, true, false, true, false, true, true, true, false]) (Exit.then K fun _ _ _ => False) a w := by
  obtain ⟨f, rfl⟩ := hF.lit
  obtain ⟨rfl, rfl⟩ := hst.i_ocsp rfl
  have HK := hid hK
  obtain ⟨l1, l2, l3, l4, l5, l6⟩ := U.lt
  have hl := U.hl
  have hls := U.ls
  have hg1 : g + 1 < w.heap.size := hl.2
  clear hF hK hst
  conv => arg 2; whnf
  obtain ⟨wB, hwB⟩ : ∃ x, (w.alloc (.cells #[.int .u8 0] 5)).alloc (.cells #[.slice none 0 0] 100) = x := ⟨_, rfl⟩
  obtain ⟨p, hp0⟩ : ∃ x, w.heap.size = x := ⟨_, rfl⟩
  have huB : Upd [] w wB := by rw [← hwB]; exact ((Upd.refl _ _).alloc _).alloc _
  have hb1 : Blk wB p 5 #[.int .u8 0] := by rw [← hwB, ← hp0]; exact (Blk.new _ _ _).alloc _
  have hb2 : Blk wB (p + 1) 100 #[.slice none 0 0] := by
    rw [← hwB, ← hp0]
    have := Blk.new (w.alloc (.cells #[.int .u8 0] 5)) 100 #[.slice none 0 0]
    rwa [show (w.alloc (.cells #[.int .u8 0] 5)).heap.size = w.heap.size + 1 by simp] at this
  have U1 := U.upd huB (by simp)
  have hsdB := hsd.upd huB (by simp) (by simp)
  have HWB := hid hwB
  have HP0 := hid hp0
  have hgp : g + 1 < p := by omega
  have hpw : w.heap.size ≤ p := by omega
  have hwp : p ≤ w.heap.size := by omega
  clear hwB hp0 hsd U huB
  have H := hid (ReadUint8_ok (k := 0) hsdB hb1 (by simp) (by omega) (by omega))
  go_wp2_with fail
  rw [HWB.out, HP0.out]
  refine H.out.mono ?_
  rintro e w3 ⟨rfl, hu3, hs3, hb13⟩
  have hb13 : Blk w3 p 5 #[bv 1] := hb13
  have hb23 := hb2.upd hu3 (by simp; omega)
  replace U1 := U1.upd hu3 (by simp; omega)
  clear hb1 hb2 hsdB hu3 H
  have H := hid (ReadLP16_any hs3 (k := 0) hb23 (by simp) (by omega) (by omega))
  go_wp2_with fail
  refine H.out.mono ?_
  intro e w4 hp
  obtain ⟨u4, rfl, hu4, hs4, hb24, hy4, -⟩ := hp.yes (show lp 2 [0, 0, 0, 0] = some ([], [0, 0]) by decide)
  have hb14 := hb13.upd hu4 (by simp; omega)
  replace U1 := U1.upd hu4 (by simp; omega)
  clear hb13 hb23 hs3 hu4 H hp
  have H := hid (ReadLP16_any hs4 (k := 0) hb24 (by simp) (by omega) (by omega))
  go_wp2_with fail
  refine H.out.mono ?_
  intro e w5 hp
  obtain ⟨u5, rfl, hu5, hs5, hb25, hy5, -⟩ := hp.yes (show lp 2 [0, 0] = some ([], []) by decide)
  have hb15 := hb14.upd hu5 (by simp; omega)
  replace U1 := U1.upd hu5 (by simp; omega)
  have r0 := hb15.cell 0
  simp at r0
  clear hb14 hb24 hs4 hu5 H hp hb25
  obtain ⟨vc7, hcv7, -⟩ := U1.ms.get (i := 7) rfl
  have cc7 := U1.ms.cell hcv7
  have ff7 := U1.ms.blk.frozen 7
  have huS7 : Upd [m] w5 (w5.setCell ⟨m, 7, none⟩ (.bool true)) := (Upd.refl _ _).setCell (by simp) _
  have U2 := U1.putV (f := .val (.bool true)) huS7 (by simp) (U1.ms.blk.set_ 7 (.bool true)) rfl rfl
  have hsd2 := hs5.upd huS7 (by simp; omega) (by simp; omega)
  clear hcv7
  clear U1 hs5 hb15
  have UF := (U2.cast (show _ = chF0 v0 v4 { M with ocsp := true } from rfl)).full
  clear U2
  go_wp2
  exact HK.out _ _ ⟨⟨rfl, by kernel_rfl, by kernel_rfl, by kernel_rfl, by kernel_rfl, by kernel_rfl, by kernel_rfl⟩, _, UF, hsd2⟩
set_option maxHeartbeats 16000000 in
theorem arm_pts (hF : FrA m sx mb g k a) (U : DSt w0 B m s sx mb (g + 1) w.heap.size 90 cs (chF0 v0 v4 M) (exsB L) M.exs.length M.exs.reverse v4 us w) (hsd : Sv w B (g + 1) ed True)
    (hst : ChStep M 11 ed M1) (hedl : ed.length < 65536) (hB : B ≤ m) (hK : ∀ a' w', ChArm w0 B m s sx mb g v0 v4 us M1 L a' w' → K a' w') :
    Code.wp Try.prog (chC [true, true, true, true, true, true, true, true, true, true, true, true, true, true, false, false, false, true, false, true, true, true, true, true, true, false, true, false, true, true, true, true, true, true, true, false]) (Exit.then K fun _ _ _ => False) a w := by
  obtain ⟨f, rfl⟩ := hF.lit
  obtain ⟨x, h1, h2, rfl, rfl⟩ := hst.i_pts rfl
  have HK := hid hK
  obtain ⟨l1, l2, l3, l4, l5, l6⟩ := U.lt
  have hl := U.hl
  have hls := U.ls
  have hg1 : g + 1 < w.heap.size := hl.2
  clear hF hK hst
  conv => arg 2; whnf
  rw [show be 1 x.length ++ x = be 1 x.length ++ (x ++ []) by simp] at hsd
  have H := hid (tlsLP8_any hsd (k := 9) U.ms.blk (by rw [U.ms.len]; exact (by decide : 9 < 29)) (by omega) (by omega))
  go_wp2_with fail
  refine H.out.mono ?_
  intro e w13 hp
  obtain ⟨u1, rfl, hu13, hsd2, hm13, hy13, -⟩ := hp.yes (lp_b1 x _ h2)
  have U2 := U.putV (f := .byt x) hu13 (by simp) hm13 hy13 rfl
  obtain ⟨A9, c9, rfl, hy13, -, -⟩ := Byt.form hy13 rfl
  clear hp hm13 H
  have cc := U2.ms.cell (Array.getElem?_setIfInBounds_self_of_lt (by rw [U.ms.len]; exact (by decide : 9 < 29)))
  have hz : ((x.length : Int) == 0) = false := by have := List.length_pos_iff.2 h1; rw [beq_eq_false_iff_ne]; omega
  clear U hu13 hy13 hsd
  have UF := (U2.cast (show _ = chF0 v0 v4 { M with pts := x } from rfl)).full
  clear U2
  go_wp2
  exact HK.out _ _ ⟨⟨rfl, by kernel_rfl, by kernel_rfl, by kernel_rfl, by kernel_rfl, by kernel_rfl, by kernel_rfl⟩, _, UF, hsd2⟩
set_option maxHeartbeats 16000000 in
theorem arm_ticket (hF : FrA m sx mb g k a) (U : DSt w0 B m s sx mb (g + 1) w.heap.size 90 cs (chF0 v0 v4 M) (exsB L) M.exs.length M.exs.reverse v4 us w) (hsd : Sv w B (g + 1) ed True)
    (hst : ChStep M 35 ed M1) (hedl : ed.length < 65536) (hB : B ≤ m) (hK : ∀ a' w', ChArm w0 B m s sx mb g v0 v4 us M1 L a' w' → K a' w') :
    Code.wp Try.prog (chC [true, true, true, true, true, true, true, true, true, true, true, true, true, true, false, false, false, true, false, true, true, true, true, true, true, false, true, false, true, true, true, true, true, true, true, true, true, false]) (Exit.then K fun _ _ _ => False) a w := by
  obtain ⟨f, rfl⟩ := hF.lit
  obtain rfl := hst.i_ticket rfl
  have HK := hid hK
  obtain ⟨l1, l2, l3, l4, l5, l6⟩ := U.lt
  have hl := U.hl
  have hls := U.ls
  have hg1 : g + 1 < w.heap.size := hl.2
  clear hF hK hst
  conv => arg 2; whnf
  obtain ⟨vc10, hcv10, -⟩ := U.ms.get (i := 10) rfl
  have cc10 := U.ms.cell hcv10
  have ff10 := U.ms.blk.frozen 10
  have huS10 : Upd [m] w (w.setCell ⟨m, 10, none⟩ (.bool true)) := (Upd.refl _ _).setCell (by simp) _
  have U1 := U.putV (f := .val (.bool true)) huS10 (by simp) (U.ms.blk.set_ 10 (.bool true)) rfl rfl
  have hsd1 := hsd.upd huS10 (by simp; omega) (by simp; omega)
  clear hcv10
  obtain ⟨wS, hwS⟩ : ∃ x, w.setCell ⟨m, 10, none⟩ (.bool true) = x := ⟨_, rfl⟩
  rw [hwS] at U1 hsd1
  clear U hsd huS10
  go_upto_region 70 with fail
  clear hwS
  obtain ⟨A8, c8, e8, e8f, hy8, -⟩ := hsd1.open_
  have UD := U1.upd ((Upd.refl [] wS).drew) (by simp)
  have hsdD := hsd1.upd ((Upd.refl [] wS).drew) (by simp) (by simp)
  have H := hid (ReadBytes_ok hsdD ed.length (Nat.le_refl _) (.inr trivial) (k := 11) UD.ms.blk (by rw [UD.ms.len]; exact (by decide : 11 < 29)) (by omega) (by omega))
  rw [List.take_length, List.drop_length] at H
  have hu8 := (Upd.refl [] wS).drew
  clear hy8 e8f hsd1
  go_still_tail 5, (by kernel_rfl)
  change wpList _ _ _ _ _ (wS).drew
  generalize (wS).drew = wD at H UD hsdD hu8 ⊢
  go_wp2_with fail
  refine H.out.mono ?_
  rintro e w13 ⟨v2, rfl, hu13, hsd2, hm13, hy13, -⟩
  have U2 := UD.putV (f := .byt ed) hu13 (by simp) hm13 hy13 rfl
  clear U1 UD hu13 hy13 hsdD hm13 H e8
  have UF := (U2.cast (show _ = chF0 v0 v4 { M with ticket := true, tick := ed } from rfl)).full
  clear U2
  go_wp2
  exact HK.out _ _ ⟨⟨rfl, by kernel_rfl, by kernel_rfl, by kernel_rfl, by kernel_rfl, by kernel_rfl, by kernel_rfl⟩, _, UF, hsd2⟩
set_option maxHeartbeats 16000000 in
theorem arm_rn (hF : FrA m sx mb g k a) (U : DSt w0 B m s sx mb (g + 1) w.heap.size 90 cs (chF0 v0 v4 M) (exsB L) M.exs.length M.exs.reverse v4 us w) (hsd : Sv w B (g + 1) ed True)
    (hst : ChStep M 65281 ed M1) (hedl : ed.length < 65536) (hB : B ≤ m) (hK : ∀ a' w', ChArm w0 B m s sx mb g v0 v4 us M1 L a' w' → K a' w') :
    Code.wp Try.prog (chC [true, true, true, true, true, true, true, true, true, true, true, true, true, true, false, false, false, true, false, true, true, true, true, true, true, false, true, false, true, true, true, true, true, true, true, true, true, true, true, true, true, true, true, false]) (Exit.then K fun _ _ _ => False) a w := by
  obtain ⟨f, rfl⟩ := hF.lit
  obtain ⟨x, h2, rfl, rfl⟩ := hst.i_rn rfl
  have HK := hid hK
  obtain ⟨l1, l2, l3, l4, l5, l6⟩ := U.lt
  have hl := U.hl
  have hls := U.ls
  have hg1 : g + 1 < w.heap.size := hl.2
  clear hF hK hst
  conv => arg 2; whnf
  rw [show be 1 x.length ++ x = be 1 x.length ++ (x ++ []) by simp] at hsd
  have H := hid (tlsLP8_any hsd (k := 15) U.ms.blk (by rw [U.ms.len]; exact (by decide : 15 < 29)) (by omega) (by omega))
  go_wp2_with fail
  refine H.out.mono ?_
  intro e w13 hp
  obtain ⟨u1, rfl, hu13, hsd2, hm13, hy13, -⟩ := hp.yes (lp_b1 x _ h2)
  have U2 := U.putV (f := .byt x) hu13 (by simp) hm13 hy13 rfl
  obtain ⟨A9, c9, rfl, hy13, -, -⟩ := Byt.form hy13 rfl
  clear hp hm13 H
  obtain ⟨vc14, hcv14, -⟩ := U2.ms.get (i := 14) rfl
  have cc14 := U2.ms.cell hcv14
  have ff14 := U2.ms.blk.frozen 14
  have huS14 : Upd [m] w13 (w13.setCell ⟨m, 14, none⟩ (.bool true)) := (Upd.refl _ _).setCell (by simp) _
  have U3 := U2.putV (f := .val (.bool true)) huS14 (by simp) (U2.ms.blk.set_ 14 (.bool true)) rfl rfl
  have hsd3 := hsd2.upd huS14 (by simp; omega) (by simp; omega)
  clear hcv14
  clear U U2 hu13 hy13 hsd hsd2
  have UF := (U3.cast (show _ = chF0 v0 v4 { M with rns := true, rn := x } from rfl)).full
  clear U3
  go_wp2
  exact HK.out _ _ ⟨⟨rfl, by kernel_rfl, by kernel_rfl, by kernel_rfl, by kernel_rfl, by kernel_rfl, by kernel_rfl⟩, _, UF, hsd3⟩
set_option maxHeartbeats 16000000 in
theorem arm_ems (hF : FrA m sx mb g k a) (U : DSt w0 B m s sx mb (g + 1) w.heap.size 90 cs (chF0 v0 v4 M) (exsB L) M.exs.length M.exs.reverse v4 us w) (hsd : Sv w B (g + 1) ed True)
    (hst : ChStep M 23 ed M1) (hedl : ed.length < 65536) (hB : B ≤ m) (hK : ∀ a' w', ChArm w0 B m s sx mb g v0 v4 us M1 L a' w' → K a' w') :
    Code.wp Try.prog (chC [true, true, true, true, true, true, true, true, true, true, true, true, true, true, false, false, false, true, false, true, true, true, true, true, true, false, true, false, true, true, true, true, true, true, true, true, true, true, true, true, true, true, true, true, true, false]) (Exit.then K fun _ _ _ => False) a w := by
  obtain ⟨f, rfl⟩ := hF.lit
  obtain ⟨rfl, rfl⟩ := hst.i_ems rfl
  have HK := hid hK
  obtain ⟨l1, l2, l3, l4, l5, l6⟩ := U.lt
  have hl := U.hl
  have hls := U.ls
  have hg1 : g + 1 < w.heap.size := hl.2
  clear hF hK hst
  conv => arg 2; whnf
  obtain ⟨vc16, hcv16, -⟩ := U.ms.get (i := 16) rfl
  have cc16 := U.ms.cell hcv16
  have ff16 := U.ms.blk.frozen 16
  have huS16 : Upd [m] w (w.setCell ⟨m, 16, none⟩ (.bool true)) := (Upd.refl _ _).setCell (by simp) _
  have U2 := U.putV (f := .val (.bool true)) huS16 (by simp) (U.ms.blk.set_ 16 (.bool true)) rfl rfl
  have hsd2 := hsd.upd huS16 (by simp; omega) (by simp; omega)
  clear hcv16
  clear U hsd
  have UF := (U2.cast (show _ = chF0 v0 v4 { M with ems := true } from rfl)).full
  clear U2
  go_wp2
  exact HK.out _ _ ⟨⟨rfl, by kernel_rfl, by kernel_rfl, by kernel_rfl, by kernel_rfl, by kernel_rfl, by kernel_rfl⟩, _, UF, hsd2⟩
set_option maxHeartbeats 16000000 in
theorem arm_scts (hF : FrA m sx mb g k a) (U : DSt w0 B m s sx mb (g + 1) w.heap.size 90 cs (chF0 v0 v4 M) (exsB L) M.exs.length M.exs.reverse v4 us w) (hsd : Sv w B (g + 1) ed True)
    (hst : ChStep M 18 ed M1) (hedl : ed.length < 65536) (hB : B ≤ m) (hK : ∀ a' w', ChArm w0 B m s sx mb g v0 v4 us M1 L a' w' → K a' w') :
    Code.wp Try.prog (chC [true, true, true, true, true, true, true, true, true, true, true, true, true, true, false, false, false, true, false, true, true, true, true, true, true, false, true, false, true, true, true, true, true, true, true, true, true, true, true, true, true, true, true, true, true, true, true, true, true, false]) (Exit.then K fun _ _ _ => False) a w := by
  obtain ⟨f, rfl⟩ := hF.lit
  obtain ⟨rfl, rfl⟩ := hst.i_scts rfl
  have HK := hid hK
  obtain ⟨l1, l2, l3, l4, l5, l6⟩ := U.lt
  have hl := U.hl
  have hls := U.ls
  have hg1 : g + 1 < w.heap.size := hl.2
  clear hF hK hst
  conv => arg 2; whnf
  obtain ⟨vc18, hcv18, -⟩ := U.ms.get (i := 18) rfl
  have cc18 := U.ms.cell hcv18
  have ff18 := U.ms.blk.frozen 18
  have huS18 : Upd [m] w (w.setCell ⟨m, 18, none⟩ (.bool true)) := (Upd.refl _ _).setCell (by simp) _
  have U2 := U.putV (f := .val (.bool true)) huS18 (by simp) (U.ms.blk.set_ 18 (.bool true)) rfl rfl
  have hsd2 := hsd.upd huS18 (by simp; omega) (by simp; omega)
  clear hcv18
  clear U hsd
  have UF := (U2.cast (show _ = chF0 v0 v4 { M with scts := true } from rfl)).full
  clear U2
  go_wp2
  exact HK.out _ _ ⟨⟨rfl, by kernel_rfl, by kernel_rfl, by kernel_rfl, by kernel_rfl, by kernel_rfl, by kernel_rfl⟩, _, UF, hsd2⟩
set_option maxHeartbeats 16000000 in
theorem arm_cookie (hF : FrA m sx mb g k a) (U : DSt w0 B m s sx mb (g + 1) w.heap.size 90 cs (chF0 v0 v4 M) (exsB L) M.exs.length M.exs.reverse v4 us w) (hsd : Sv w B (g + 1) ed True)
    (hst : ChStep M 44 ed M1) (hedl : ed.length < 65536) (hB : B ≤ m) (hK : ∀ a' w', ChArm w0 B m s sx mb g v0 v4 us M1 L a' w' → K a' w') :
    Code.wp Try.prog (chC [true, true, true, true, true, true, true, true, true, true, true, true, true, true, false, false, false, true, false, true, true, true, true, true, true, false, true, false, true, true, true, true, true, true, true, true, true, true, true, true, true, true, true, true, true, true, true, true, true, true, true, true, true, false]) (Exit.then K fun _ _ _ => False) a w := by
  obtain ⟨f, rfl⟩ := hF.lit
  obtain ⟨x, h1, rfl, rfl⟩ := hst.i_cookie rfl
  have HK := hid hK
  obtain ⟨l1, l2, l3, l4, l5, l6⟩ := U.lt
  have hl := U.hl
  have hls := U.ls
  have hg1 : g + 1 < w.heap.size := hl.2
  clear hF hK hst
  conv => arg 2; whnf
  rw [show be 2 x.length ++ x = be 2 x.length ++ (x ++ []) by simp] at hsd
  simp [be_len] at hedl
  have H := hid (tlsLP16_any hsd (k := 20) U.ms.blk (by rw [U.ms.len]; exact (by decide : 20 < 29)) (by omega) (by omega))
  go_wp2_with fail
  refine H.out.mono ?_
  intro e w13 hp
  obtain ⟨u1, rfl, hu13, hsd2, hm13, hy13, -⟩ := hp.yes (lp_b2 x _ (by omega))
  have U2 := U.putV (f := .byt x) hu13 (by simp) hm13 hy13 rfl
  obtain ⟨A9, c9, rfl, hy13, -, -⟩ := Byt.form hy13 rfl
  clear hp hm13 H
  have cc := U2.ms.cell (Array.getElem?_setIfInBounds_self_of_lt (by rw [U.ms.len]; exact (by decide : 20 < 29)))
  have hz : ((x.length : Int) == 0) = false := by have := List.length_pos_iff.2 h1; rw [beq_eq_false_iff_ne]; omega
  clear U hu13 hy13 hsd
  have UF := (U2.cast (show _ = chF0 v0 v4 { M with cookie := x } from rfl)).full
  clear U2
  go_wp2
  exact HK.out _ _ ⟨⟨rfl, by kernel_rfl, by kernel_rfl, by kernel_rfl, by kernel_rfl, by kernel_rfl, by kernel_rfl⟩, _, UF, hsd2⟩
set_option maxHeartbeats 16000000 in
theorem arm_early (hF : FrA m sx mb g k a) (U : DSt w0 B m s sx mb (g + 1) w.heap.size 90 cs (chF0 v0 v4 M) (exsB L) M.exs.length M.exs.reverse v4 us w) (hsd : Sv w B (g + 1) ed True)
    (hst : ChStep M 42 ed M1) (hedl : ed.length < 65536) (hB : B ≤ m) (hK : ∀ a' w', ChArm w0 B m s sx mb g v0 v4 us M1 L a' w' → K a' w') :
    Code.wp Try.prog (chC [true, true, true, true, true, true, true, true, true, true, true, true, true, true, false, false, false, true, false, true, true, true, true, true, true, false, true, false, true, true, true, true, true, true, true, true, true, true, true, true, true, true, true, true, true, true, true, true, true, true, true, true, true, true, true, true, true, false]) (Exit.then K fun _ _ _ => False) a w := by
  obtain ⟨f, rfl⟩ := hF.lit
  obtain ⟨rfl, rfl⟩ := hst.i_early rfl
  have HK := hid hK
  obtain ⟨l1, l2, l3, l4, l5, l6⟩ := U.lt
  have hl := U.hl
  have hls := U.ls
  have hg1 : g + 1 < w.heap.size := hl.2
  clear hF hK hst
  conv => arg 2; whnf
  obtain ⟨vc22, hcv22, -⟩ := U.ms.get (i := 22) rfl
  have cc22 := U.ms.cell hcv22
  have ff22 := U.ms.blk.frozen 22
  have huS22 : Upd [m] w (w.setCell ⟨m, 22, none⟩ (.bool true)) := (Upd.refl _ _).setCell (by simp) _
  have U2 := U.putV (f := .val (.bool true)) huS22 (by simp) (U.ms.blk.set_ 22 (.bool true)) rfl rfl
  have hsd2 := hsd.upd huS22 (by simp; omega) (by simp; omega)
  clear hcv22
  clear U hsd
  have UF := (U2.cast (show _ = chF0 v0 v4 { M with early := true } from rfl)).full
  clear U2
  go_wp2
  exact HK.out _ _ ⟨⟨rfl, by kernel_rfl, by kernel_rfl, by kernel_rfl, by kernel_rfl, by kernel_rfl, by kernel_rfl⟩, _, UF, hsd2⟩
set_option maxHeartbeats 16000000 in
theorem arm_modes (hF : FrA m sx mb g k a) (U : DSt w0 B m s sx mb (g + 1) w.heap.size 90 cs (chF0 v0 v4 M) (exsB L) M.exs.length M.exs.reverse v4 us w) (hsd : Sv w B (g + 1) ed True)
    (hst : ChStep M 45 ed M1) (hedl : ed.length < 65536) (hB : B ≤ m) (hK : ∀ a' w', ChArm w0 B m s sx mb g v0 v4 us M1 L a' w' → K a' w') :
    Code.wp Try.prog (chC [true, true, true, true, true, true, true, true, true, true, true, true, true, true, false, false, false, true, false, true, true, true, true, true, true, false, true, false, true, true, true, true, true, true, true, true, true, true, true, true, true, true, true, true, true, true, true, true, true, true, true, true, true, true, true, true, true, true, true, false]) (Exit.then K fun _ _ _ => False) a w := by
  obtain ⟨f, rfl⟩ := hF.lit
  obtain ⟨x, h1, h2, rfl, rfl⟩ := hst.i_modes rfl
  have HK := hid hK
  obtain ⟨l1, l2, l3, l4, l5, l6⟩ := U.lt
  have hl := U.hl
  have hls := U.ls
  have hg1 : g + 1 < w.heap.size := hl.2
  clear hF hK hst
  conv => arg 2; whnf
  rw [show be 1 x.length ++ x = be 1 x.length ++ (x ++ []) by simp] at hsd
  have H := hid (tlsLP8_any hsd (k := 23) U.ms.blk (by rw [U.ms.len]; exact (by decide : 23 < 29)) (by omega) (by omega))
  go_wp2_with fail
  refine H.out.mono ?_
  intro e w13 hp
  obtain ⟨u1, rfl, hu13, hsd2, hm13, hy13, -⟩ := hp.yes (lp_b1 x _ h2)
  have U2 := U.putV (f := .byt x) hu13 (by simp) hm13 hy13 rfl
  obtain ⟨A9, c9, rfl, hy13, -, -⟩ := Byt.form hy13 rfl
  clear hp hm13 H
  clear U hu13 hy13 hsd
  have UF := (U2.cast (show _ = chF0 v0 v4 { M with modes := x } from rfl)).full
  clear U2
  go_wp2
  exact HK.out _ _ ⟨⟨rfl, by kernel_rfl, by kernel_rfl, by kernel_rfl, by kernel_rfl, by kernel_rfl, by kernel_rfl⟩, _, UF, hsd2⟩
set_option maxHeartbeats 16000000 in
theorem arm_ech (hF : FrA m sx mb g k a) (U : DSt w0 B m s sx mb (g + 1) w.heap.size 90 cs (chF0 v0 v4 M) (exsB L) M.exs.length M.exs.reverse v4 us w) (hsd : Sv w B (g + 1) ed True)
    (hst : ChStep M 65037 ed M1) (hedl : ed.length < 65536) (hB : B ≤ m) (hK : ∀ a' w', ChArm w0 B m s sx mb g v0 v4 us M1 L a' w' → K a' w') :
    Code.wp Try.prog (chC [true, true, true, true, true, true, true, true, true, true, true, true, true, true, false, false, false, true, false, true, true, true, true, true, true, false, true, false, true, true, true, true, true, true, true, true, true, true, true, true, true, true, true, true, true, true, true, true, true, true, true, true, true, true, true, true, true, true, true, true, true, true, true, true, true, false]) (Exit.then K fun _ _ _ => False) a w := by
  obtain ⟨f, rfl⟩ := hF.lit
  obtain ⟨h1, rfl⟩ := hst.i_ech rfl
  have HK := hid hK
  obtain ⟨l1, l2, l3, l4, l5, l6⟩ := U.lt
  have hl := U.hl
  have hls := U.ls
  have hg1 : g + 1 < w.heap.size := hl.2
  clear hF hK hst
  conv => arg 2; whnf
  go_upto_region 156 with fail
  obtain ⟨A8, c8, e8, e8f, hy8, -⟩ := hsd.open_
  have UD := U.upd ((Upd.refl [] w).drew) (by simp)
  have hsdD := hsd.upd ((Upd.refl [] w).drew) (by simp) (by simp)
  have H := hid (ReadBytes_ok hsdD ed.length (Nat.le_refl _) (.inr trivial) (k := 27) UD.ms.blk (by rw [UD.ms.len]; exact (by decide : 27 < 29)) (by omega) (by omega))
  rw [List.take_length, List.drop_length] at H
  have hu8 := (Upd.refl [] w).drew
  clear hy8 e8f hsd
  go_still_tail 5, (by kernel_rfl)
  change wpList _ _ _ _ _ (w).drew
  generalize (w).drew = wD at H UD hsdD hu8 ⊢
  go_wp2_with fail
  refine H.out.mono ?_
  rintro e w13 ⟨v2, rfl, hu13, hsd2, hm13, hy13, -⟩
  have U2 := UD.putV (f := .byt ed) hu13 (by simp) hm13 hy13 rfl
  clear U UD hu13 hy13 hsdD hm13 H e8
  have UF := (U2.cast (show _ = chF0 v0 v4 { M with ech := ed } from rfl)).full
  clear U2
  go_wp2
  exact HK.out _ _ ⟨⟨rfl, by kernel_rfl, by kernel_rfl, by kernel_rfl, by kernel_rfl, by kernel_rfl, by kernel_rfl⟩, _, UF, hsd2⟩
end
end Go.Proofs.Ytaajmfgplhfncaa

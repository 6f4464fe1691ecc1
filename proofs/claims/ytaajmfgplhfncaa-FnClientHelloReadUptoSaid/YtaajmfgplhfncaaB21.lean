/- Texts joined: ChA5. -/
import Derived.StillTailTactics
import Derived.Test.YtaajmfgplhfncaaB15
namespace Go.Proofs.Ytaajmfgplhfncaa
open Go.RowKit Go.Maps
set_option maxRecDepth 100000
section
variable {w0 w w' wr : World} {B m s sx mb g n gk : Nat} {v0 v4 : Value} {us : List Value} {t' M M1 : Ch} {L : List Ex} {xl : Nat} {a : Act} {k : UInt16} {ed x0 : List UInt8} {cs : Array Value} {K : Act → World → Prop} {Q : Exit → Act → World → Prop}
set_option maxHeartbeats 16000000 in
theorem arm_psk (hF : FrA m sx mb g k a) (U : DSt w0 B m s sx mb (g + 1) w.heap.size 90 cs (chF0 v0 v4 M) (exsB L) M.exs.length M.exs.reverse v4 us w) (hsd : Sv w B (g + 1) ed True)
    (hst : ChStep M 41 ed M1) (hedl : ed.length < 65536) (hB : B ≤ m) (hL : L = []) (hK : ∀ a' w', ChArm w0 B m s sx mb g v0 v4 us M1 L a' w' → K a' w') :
    Code.wp Try.prog (chC [true, true, true, true, true, true, true, true, true, true, true, true, true, true, false, false, false, true, false, true, true, true, true, true, true, false, true, false, true, true, true, true, true, true, true, true, true, true, true, true, true, true, true, true, true, true, true, true, true, true, true, true, true, true, true, true, true, true, true, true, true, true, true, false]) (Exit.then K fun _ _ _ => False) a w := by
  obtain ⟨f, rfl⟩ := hF.lit
  obtain ⟨l, b, h1, h1b, h1c, h2, h3, h4, h5, rfl, rfl⟩ := hst.i_psk rfl
  have HK := hid hK
  obtain ⟨l1, l2, l3, l4, l5, l6⟩ := U.lt
  have hl := U.hl
  have hls := U.ls
  have hg1 : g + 1 < w.heap.size := hl.2
  clear hF hK hst
  subst hL
  obtain ⟨A7, c7, e7, -, hy7, -⟩ := U.sv.open_
  have H7 := hid (Empty_any hy7)
  clear hy7
  conv => arg 2; whnf
  go_wp2_with fail
  refine H7.out.mono ?_
  rintro e w20 ⟨rfl, rfl⟩
  rw [show be 2 (vecsB 1 b).length ++ vecsB 1 b = be 2 (vecsB 1 b).length ++ (vecsB 1 b ++ []) by simp] at hsd
  have hlw : (identsB l).length < 65536 := by simp [be_len] at hedl; omega
  have hbw : (vecsB 1 b).length < 65536 := by simp [be_len] at hedl; omega
  have HLW := hid hlw
  have HBW := hid hbw
  have HNE := hid h3
  have HB0 := hid (show b ≠ [] from fun e => by rw [e] at h4; exact h2 (List.eq_nil_of_length_eq_zero h4.symm))
  have HBX := hid h5
  have hx0 : identsB l ≠ [] := by
    cases l with
    | nil => exact absurd rfl h2
    | cons y t => obtain ⟨ya, yb⟩ := y; rw [identsB_cons]; simp [be]
  have HX0 := hid hx0
  clear h3 h4 h5 h2 H7 e7 hbw hx0
  obtain ⟨wB, hwB⟩ : ∃ x, w.alloc (.cells #[.slice none 0 0] 100) = x := ⟨_, rfl⟩
  obtain ⟨p, hp0⟩ : ∃ x, w.heap.size = x := ⟨_, rfl⟩
  have huB : Upd [] w wB := by rw [← hwB]; exact (Upd.refl _ _).alloc _
  have hbp : Blk wB p 100 #[.slice none 0 0] := by rw [← hwB, ← hp0]; exact Blk.new _ _ _
  have hgp : g + 1 < p := by omega
  have hwp : w.heap.size ≤ p := by omega
  have hsdB := hsd.upd huB (by simp) (by simp)
  replace U := U.upd huB (by simp)
  have HWB := hid hwB
  have HP0 := hid hp0
  clear hwB hp0 hsd huB
  have H := hid (ReadLP16_any hsdB (k := 0) hbp (by simp) (by omega) (by omega))
  go_wp2_with fail
  rw [HWB.out, HP0.out]
  refine H.out.mono ?_
  intro e w13 hp
  obtain ⟨u1, rfl, hu13, hsd13, hbp13, hyp, hnp⟩ := hp.yes (lp_b2 (identsB l) _ hlw)
  have hsp13 : Sv w13 B p (identsB l) True := ⟨by omega, u1, hbp13, hyp, fun _ => hnp⟩
  replace U := U.upd hu13 (by simp; omega)
  have hw13 : p < w13.heap.size := hbp13.lt
  clear hp hsdB hbp hu13 hbp13 hyp hnp H HWB HP0
  obtain ⟨A9, c9, e9, -, hy9, -⟩ := hsp13.open_
  have HE3 := hid (Empty_any hy9)
  clear hy9
  go_wp2_with fail
  refine HE3.out.mono ?_
  rintro e w14 ⟨rfl, rfl⟩
  rw [decide_eq_false HX0.out]
  clear HE3 e9 hlw
  obtain ⟨v8, hcv, hown0⟩ := U.ms.get (i := 24) rfl
  have hown0 : Prs w13 (mb + 1) B 95 v8 [] := by
    have h : Prs w13 (mb + 1) B 95 v8 (piC M) := hown0
    rwa [show piC M = [] by simp [piC, h1]] at h
  have hset : cs.setIfInBounds 24 v8 = cs := set_self hcv
  have HCV := hid hcv
  have AL0 : PLoop 95 B p m 90 (fun z => cs.setIfInBounds 24 z) (mb + 1) w13 v8 (identsB l) v8 [] w13 := ⟨hsp13, by show Blk w13 m 90 (cs.setIfInBounds 24 v8); rw [hset]; exact U.ms.blk, hown0, nextV.refl _ _, Upd.refl _ _⟩
  have h429 : 24 < cs.size := by have := U.ms.len; simp [chF0] at this; omega
  have HU := hid U
  clear hset hcv hown0 hsp13 U
  go_wp2_with fail
  go_loopg [30] l.length (fun gk _ wr => IRelC B p m 90 (fun z => cs.setIfInBounds 24 z) (mb + 1) w13 v8 l gk wr)
  case atStart => exact ⟨[], l, v8, rfl, AL0, rfl⟩
  case round =>
    obtain ⟨l1, r, vv, rfl, AL, htot⟩ := hrel
    obtain ⟨wi, rfl⟩ : ∃ wi : World, wi = wr := ⟨_, rfl⟩
    have HT := hid htot
    clear htot AL0
    obtain ⟨A9, c9, e9, -, hy9, -⟩ := AL.sv.open_
    have HE9 := hid (Empty_any hy9)
    clear hy9
    go_wp2_with fail
    refine HE9.out.mono ?_
    rintro e w14 ⟨rfl, rfl⟩
    rcases r with _ | ⟨⟨xa, xb⟩, r⟩
    · have hl9 : l1 = l := by have := HT.out; rwa [List.append_nil] at this
      subst hl9
      have U2 := HU.out.loop (f := .prs 95 (l1.map fun x : List UInt8 × UInt32 => ((Cel.byt x.1, Cel.val (uv x.2)) : Cel × Cel))) HCV.out rfl rfl AL.up hwp AL.hm AL.own AL.nx (fun g' hg' => (AL.lt g' hg').2)
      have hsd2 := HU.out.loopSv HCV.out rfl rfl AL.up hwp hsd13 (.inr rfl) (by omega)
      clear AL HU HE9
      rw [show (l1.map fun x : List UInt8 × UInt32 => ((Cel.byt x.1, Cel.val (uv x.2)) : Cel × Cel)) = piC { M with pl := l1.map (·.1), pa := l1.map (·.2) } by simp [piC, List.zip_map']] at U2
      have U3 := U2.cast (show _ = chF0 v0 v4 { M with pl := l1.map (·.1), pa := l1.map (·.2) } from rfl)
      clear U2
      have U := U3
      clear U3 HLW HNE HT HCV h429 e9
      obtain ⟨wB, hwB⟩ : ∃ x, wi.alloc (.cells #[.slice none 0 0] 100) = x := ⟨_, rfl⟩
      obtain ⟨p2, hp0⟩ : ∃ x, wi.heap.size = x := ⟨_, rfl⟩
      have huB : Upd [] wi wB := by rw [← hwB]; exact (Upd.refl _ _).alloc _
      have hbp : Blk wB p2 100 #[.slice none 0 0] := by rw [← hwB, ← hp0]; exact Blk.new _ _ _
      have hgp2 : g + 1 < p2 := by have := U.hl; omega
      have hwp2 : wi.heap.size ≤ p2 := by omega
      have hm2 : m < p2 := by omega
      have hsdB := hsd2.upd huB (by simp) (by simp)
      replace U := U.upd huB (by simp)
      have HWB := hid hwB
      have HP0 := hid hp0
      clear hwB hp0 hsd2 huB
      have H := hid (ReadLP16_any hsdB (k := 0) hbp (by simp) (by omega) (by omega))
      go_wp2_with fail
      rw [HWB.out, HP0.out]
      refine H.out.mono ?_
      intro e w23 hp
      obtain ⟨u1, rfl, hu13, hsd23, hbp13, hyp, hnp⟩ := hp.yes (lp_b2 (vecsB 1 b) _ HBW.out)
      have hsp23 : Sv w23 B p2 (vecsB 1 b) True := ⟨by omega, u1, hbp13, hyp, fun _ => hnp⟩
      replace U := U.upd hu13 (by simp; omega)
      have hw23 : p2 < w23.heap.size := hbp13.lt
      clear hp hsdB hbp hu13 hbp13 hyp hnp H HWB HP0
      obtain ⟨A9, c9, e9, -, hy9, -⟩ := hsp23.open_
      have HE3 := hid (Empty_any hy9)
      clear hy9
      go_wp2_with fail
      refine HE3.out.mono ?_
      rintro e w14 ⟨rfl, rfl⟩
      have hx0 : vecsB 1 b ≠ [] := by
        cases b with
        | nil => exact absurd rfl HB0.out
        | cons y t => rw [vecsB1_cons]; simp [be]
      rw [decide_eq_false hx0]
      obtain ⟨v9, hcv9, us0, hown0, hall0⟩ := U.ms.get (i := 25) rfl
      have hus0 : us0 = [] := by
        have hl0 := hall0.length
        have hp0 : M.pb = [] := h1c
        have hl1 : us0.length = M.pb.length := hl0
        rw [hp0] at hl1
        exact List.eq_nil_of_length_eq_zero hl1
      subst hus0
      clear hall0
      obtain ⟨cs9, hcs9⟩ : ∃ x, cs.setIfInBounds 24 vv = x := ⟨_, rfl⟩
      rw [hcs9] at U hcv9
      clear hcs9
      have hset9 : cs9.setIfInBounds 25 v9 = cs9 := set_self hcv9
      have HCV9 := hid hcv9
      have AL0 : ALoop 23 B p2 m 90 (fun z => cs9.setIfInBounds 25 z) (mb + 1) w23 v9 (vecsB 1 b) v9 [] w23 := ⟨hsp23, by show Blk w23 m 90 (cs9.setIfInBounds 25 v9); rw [hset9]; exact U.ms.blk, hown0, nextV.refl _ _, Upd.refl _ _⟩
      have h429 : 25 < cs9.size := by have := U.ms.len; simp [chF0] at this; omega
      have HU9 := hid U
      clear hset9 hcv9 hown0 hsp23 e9 HE3 hx0 U
      go_wp2_with fail
      go_loopg [32] b.length (fun gk _ wr => BRelC B p2 m 90 (fun z => cs9.setIfInBounds 25 z) (mb + 1) w23 v9 b gk wr)
      case atStart => exact ⟨[], b, [], v9, rfl, AL0, trivial, rfl⟩
      case round =>
        obtain ⟨b1, r, us9, v5, rfl, AL, hall, htot⟩ := hrel
        obtain ⟨wj, rfl⟩ : ∃ wj : World, wj = wr := ⟨_, rfl⟩
        have HT := hid htot
        have HALL := hid hall
        have HUL := hid hall.length
        clear htot AL0 hall
        obtain ⟨A9, c9, e9, -, hy9, -⟩ := AL.sv.open_
        have HE9 := hid (Empty_any hy9)
        clear hy9
        go_wp2_with fail
        refine HE9.out.mono ?_
        rintro e w14 ⟨rfl, rfl⟩
        rcases r with _ | ⟨x, r⟩
        · have hl9 : b1 = b := by have := HT.out; rwa [List.append_nil] at this
          subst hl9
          have U2 := HU9.out.loop (f := .vec b1) HCV9.out rfl rfl AL.up hwp2 AL.hm ⟨us9, AL.own, HALL.out⟩ AL.nx (fun g' hg' => (AL.lt g' hg').2)
          have hsd3 := HU9.out.loopSv HCV9.out rfl rfl AL.up hwp2 hsd23 (.inr rfl) (by omega)
          clear AL HU9 hsd23 HE9
          have UF := (U2.cast (show _ = chF0 v0 v4 { M with pl := l1.map (·.1), pa := l1.map (·.2), pb := b1 } from rfl)).full
          clear U2
          go_wp2
          exact HK.out _ _ ⟨⟨rfl, by kernel_rfl, by kernel_rfl, by kernel_rfl, by kernel_rfl, by kernel_rfl, by kernel_rfl⟩, _, UF, hsd3⟩
        · rw [decide_eq_false (by rw [vecsB1_cons]; simp [be])]
          have hxl : x ∈ b := by rw [← HT.out]; simp
          have hxx := HBX.out _ hxl
          have hx32 : 32 ≤ x.length := hxx.1
          have hx256 : x.length < 256 := hxx.2
          clear hxl hxx
          obtain ⟨wq, hwq⟩ : ∃ wq, wj.alloc (.cells #[.slice none 0 0] 23) = wq := ⟨_, rfl⟩
          obtain ⟨q, hq0⟩ : ∃ q, wj.heap.size = q := ⟨_, rfl⟩
          have huq : Upd [] wj wq := by rw [← hwq]; exact (Upd.refl _ _).alloc _
          have hbq : Blk wq q 23 #[.slice none 0 0] := by rw [← hwq, ← hq0]; exact Blk.new _ _ _
          have hpq : p2 < q := by have := AL.up.size; omega
          have hqw : wj.heap.size ≤ q := by omega
          have hspq := AL.sv.upd huq (by simp) (by simp)
          have hmq := AL.hm.upd huq (by simp)
          rw [vecsB1_cons] at hspq
          have HWQ := hid hwq
          have HQ0 := hid hq0
          clear hwq hq0 HE9
          have H := hid (tlsLP8_any hspq (k := 0) hbq (by simp) (by omega) (by omega))
          go_wp2_with fail
          rw [HWQ.out, HQ0.out]
          refine H.out.mono ?_
          intro e w15 hp
          obtain ⟨u5, rfl, hu15, hs15, hb15, hyu, -⟩ := hp.yes (lp_b1 x _ hx256)
          have hs15 : Sv w15 B p2 (vecsB 1 r) True := hs15
          obtain ⟨A5, c5, rfl, hyu, -, -⟩ := Byt.form hyu rfl
          have hb15 : Blk w15 q 23 #[.slice A5 x.length c5] := hb15
          have hz : ((x.length : Int) == 0) = false := by rw [beq_eq_false_iff_ne]; omega
          have hm15 := hmq.upd hu15 (by simp; omega)
          have hu25 : Upd [p2] wj w15 := (huq.mono (by simp)).trans hu15 (by simp; omega)
          have hown15 : Own w15 (mb + 1) 23 v5 us9 := AL.own.upd hu25 (fun h hh hk => by
            obtain ⟨_, pv, hpb, _⟩ := AL.sv
            have := AL.own.ne hpb (by decide) h hh
            simp at hk; exact this hk)
          have hsz15 : mb + 1 ≤ w15.heap.size := by have := hb15.lt; omega
          have hnm : m ∉ v5.ownBlock.toList := fun hm' => by have := AL.own.ne AL.hm (by decide) m (Option.mem_toList.1 hm'); exact this rfl
          obtain ⟨Av, cv, rfl⟩ := AL.own.formN (n := us9.length) rfl
          have c0 := hm15.at_ (i := 25) (Array.getElem?_setIfInBounds_self_of_lt h429)
          have c0f := hm15.frozen 25
          have c1 := hb15.cell 0
          have a0 := (hm15.alloc (.cells #[.slice A5 x.length c5] 23)).at_ (i := 25) (Array.getElem?_setIfInBounds_self_of_lt h429)
          have a0f := (hm15.alloc (.cells #[.slice A5 x.length c5] 23)).frozen 25
          have a1 := (hb15.alloc (.cells #[.slice A5 x.length c5] 23)).cell 0
          simp at c1 a1
          have hl2 : us9.length + 1 ≤ 65536 := by
            have h1 := HBW.out
            rw [← HT.out] at h1
            have h2 : ∀ l : List (List UInt8), l.length ≤ (vecsB 1 l).length := by
              intro l
              induction l with
              | nil => simp
              | cons y t ih => rw [vecsB1_cons]; simp [be_len]; omega
            have h3 := h2 (b1 ++ x :: r)
            have h4 := HUL.out
            simp at h3
            omega
          have HAL := hid AL
          have HYU := hid hyu
          clear AL hspq hmq hbq huq H hsd23 hp hyu
          go_wp2_with fail
          go_region_law (first | (refine step_append_row (v := .slice Av us9.length cv) _ rfl _ _ 26 rfl (mb + 1) 23 (.slice none 0 0) 24 Try.underlying26 info_bytes rfl rfl (hown15.upd (((Upd.refl [] _).alloc _).drew) (by simp)) rfl (Row.drew (Row.one w15 23 (.slice A5 x.length c5))) (by intro u hu; simp at hu; subst hu; rfl) (by simp; omega) (by simp; omega) (by simp; omega) ?_; intro v3' w3 hap; obtain ⟨A3, c3, hv3⟩ := Own.formN (n := us9.length + 1) hap.1 (by simp); subst hv3; have hm3 := ((hm15.alloc (.cells #[.slice A5 x.length c5] 23)).drew).upd hap.2.1 hnm; have e0 := hm3.at_ (i := 25) (Array.getElem?_setIfInBounds_self_of_lt h429); have g0 := hm3.frozen 25))
          all_goals
            go_wp2
            go_roundg r.length
            case measure => simp only [List.length_cons]; omega
            case rel =>
              have hup : Upd [m] w3 (w3.setCell ⟨m, 25, none⟩ (.slice A3 (us9.length + 1) c3)) := (Upd.refl _ _).setCell (by simp) _
              have hmS : Blk (w3.setCell ⟨m, 25, none⟩ (.slice A3 (us9.length + 1) c3)) m 90 (cs9.setIfInBounds 25 (.slice A3 (us9.length + 1) c3)) := by
                have := hm3.set_ 25 (.slice A3 (us9.length + 1) c3)
                rwa [Array.setIfInBounds_setIfInBounds] at this
              have hAL := HAL.out.step (by omega) (by omega) (by omega) (by decide) (by decide) hu25 hs15 (((Upd.refl [] _).alloc _).drew) hap hup hmS
              have hB4 : ∀ (u : Value) (l : List UInt8), Byt wj B u l → Byt (w3.setCell ⟨m, 25, none⟩ (.slice A3 (us9.length + 1) c3)) B u l := fun u l hb => by
                have h1 := Row.drew (Row.alloc (Row.upd hb hu25 (by simp; omega)) (.cells #[.slice A5 x.length c5] 23))
                exact Row.upd (Row.upd h1 hap.2.1 (fun k hk => by have := (hown15.ge (Option.mem_toList.1 hk)).1; omega)) hup (by simp; omega)
              have hB5 : Byt (w3.setCell ⟨m, 25, none⟩ (.slice A3 (us9.length + 1) c3)) B (.slice A5 x.length c5) x := by
                have h1 := Row.drew (Row.alloc HYU.out (.cells #[.slice A5 x.length c5] 23))
                exact Row.upd (Row.upd h1 hap.2.1 (fun k hk => by have := (hown15.ge (Option.mem_toList.1 hk)).1; omega)) hup (by simp; omega)
              exact ⟨b1 ++ [x], r, us9 ++ [.slice A5 x.length c5], _, rfl, hAL, All2.snoc (HALL.out.imp hB4) hB5, by rw [← HT.out]; simp⟩
    · rw [decide_eq_false (by rw [identsB_cons]; simp [be])]
      have hxl : (xa, xb) ∈ l := by rw [← HT.out]; simp
      have hxx := HNE.out _ hxl
      clear hxl
      obtain ⟨wq, hwq⟩ : ∃ wq, wi.alloc (.cells #[.slice none 0 0, .int .u32 0] 95) = wq := ⟨_, rfl⟩
      obtain ⟨q, hq0⟩ : ∃ q, wi.heap.size = q := ⟨_, rfl⟩
      have huq : Upd [] wi wq := by rw [← hwq]; exact (Upd.refl _ _).alloc _
      have hbq : Blk wq q 95 #[.slice none 0 0, .int .u32 0] := by rw [← hwq, ← hq0]; exact Blk.new _ _ _
      have hpq : p < q := by have := AL.up.size; omega
      have hqw : wi.heap.size ≤ q := by omega
      have hspq := AL.sv.upd huq (by simp) (by simp)
      have hmq := AL.hm.upd huq (by simp)
      rw [identsB_cons] at hspq
      have HWQ := hid hwq
      have HQ0 := hid hq0
      clear hwq hq0 HE9
      have hyl : xa.length < 65536 := by
        have h1 := HLW.out
        rw [← HT.out] at h1
        simp [identsB, identB] at h1
        omega
      have H := hid (tlsLP16_any hspq (k := 0) hbq (by simp) (by omega) (by omega))
      go_wp2_with fail
      rw [HWQ.out, HQ0.out]
      refine H.out.mono ?_
      intro e w15 hp
      obtain ⟨u5, rfl, hu15, hs15, hb15, hyu, -⟩ := hp.yes (lp_b2 xa _ hyl)
      obtain ⟨A5, c5, rfl, hyu, -, -⟩ := Byt.form hyu rfl
      have hb15 : Blk w15 q 95 #[.slice A5 xa.length c5, .int .u32 0] := hb15
      have hm15 := hmq.upd hu15 (by simp; omega)
      clear H
      have H := hid (ReadUint32_be hs15 (k := 1) hb15 (by simp) (by omega) (by omega))
      go_wp2_with fail
      refine H.out.mono ?_
      rintro e w16 ⟨rfl, hu16, hs16, hb16⟩
      have hb16 : Blk w16 q 95 #[.slice A5 xa.length c5, uv xb] := hb16
      replace hyu := Row.upd hyu hu16 (by simp; omega)
      have hm16 := hm15.upd hu16 (by simp; omega)
      have hu25 : Upd [p] wi w16 := ((huq.mono (by simp)).trans hu15 (by simp; omega)).trans hu16 (by simp; omega)
      have hz : ((xa.length : Int) == 0) = false := by have := List.length_pos_iff.2 hxx; rw [beq_eq_false_iff_ne]; omega
      have hown16 : Prs w16 (mb + 1) B 95 vv (l1.map fun x : List UInt8 × UInt32 => ((Cel.byt x.1, Cel.val (uv x.2)) : Cel × Cel)) := AL.own.upd hu25 (fun h hh hk => by
        obtain ⟨_, pv, hpb, _⟩ := AL.sv
        have := AL.own.ne hpb (by decide) h hh
        simp at hk; exact this hk) (by simp; omega)
      have hsz16 : mb + 1 ≤ w16.heap.size := by have := hb16.lt; omega
      have hnm : m ∉ vv.ownBlock.toList := fun hm' => by have := AL.own.ne AL.hm (by decide) m (Option.mem_toList.1 hm'); exact this rfl
      obtain ⟨Av, cv, hvv, -, -⟩ := AL.own.form
      rw [List.length_map] at hvv
      subst hvv
      have c0 := hm16.at_ (i := 24) (Array.getElem?_setIfInBounds_self_of_lt h429)
      have c0f := hm16.frozen 24
      have c1 := hb16.cell 0
      have c2 := hb16.cell 1
      have hmA := hm16.alloc (.cells #[.slice A5 xa.length c5, uv xb] 95)
      have a0 := hmA.at_ (i := 24) (Array.getElem?_setIfInBounds_self_of_lt h429)
      have a0f := hmA.frozen 24
      simp at c1 c2
      have hu1 : Upd [] w16 (w16.alloc (.cells #[.slice A5 xa.length c5, uv xb] 95)).drew := ((Upd.refl [] _).alloc _).drew
      have HPR := hid (hown16.upd hu1 (by simp) (by simp))
      have HYY := hid (Row.upd hyu hu1 (by simp))
      have HMR := hid hmA.drew
      have HNM := hid hnm
      have hk0 : (w16.alloc (.cells #[.slice A5 xa.length c5, uv xb] 95)).drew.cell? ⟨w16.heap.size, 0, none⟩ = some (.slice A5 xa.length c5) := (Blk.new w16 95 #[.slice A5 xa.length c5, uv xb]).drew.cell 0
      have hk1 : (w16.alloc (.cells #[.slice A5 xa.length c5, uv xb] 95)).drew.cell? ⟨w16.heap.size, 1, none⟩ = some (uv xb) := (Blk.new w16 95 #[.slice A5 xa.length c5, uv xb]).drew.cell 1
      have HK0 := hid hk0
      have HK1 := hid hk1
      have hl2 : l1.length + 1 ≤ 65536 := by
        have h1 := HLW.out
        rw [← HT.out] at h1
        have h2 : ∀ l : List (List UInt8 × UInt32), l.length ≤ (identsB l).length := by
          intro l
          induction l with
          | nil => simp
          | cons y t ih => obtain ⟨ya, yb⟩ := y; rw [identsB_cons]; simp [be_len]; omega
        have h3 := h2 (l1 ++ (xa, xb) :: r)
        simp at h3
        omega
      have HAL := hid AL
      have HSD := hid hsd13
      have HU1 := hid hu1
      clear AL hspq hmq hbq huq H hsd13 hp hyu hown16 hmA hk0 hk1 hu1 hnm
      go_wp2_with fail
      go_region_law (first | (refine step_append_prs (v := .slice Av l1.length cv) rfl _ _ 88 rfl 95 (.agg #[.slice none 0 0, .int .u32 0]) 32 Try.underlying88 (by kernel_rfl) rfl rfl HPR.out (b := w16.heap.size) rfl (x0 := .slice A5 xa.length c5) (y0 := uv xb) (c := (Cel.byt xa, Cel.val (uv xb))) HK0.out HK1.out HYY.out ⟨rfl, rfl⟩ (by simp; omega) (by simp; omega) (by simp; omega) (by omega) ?_; intro v3 w3 hap; obtain ⟨A3, c3, hv3, -, -⟩ := hap.1.form; rw [List.length_append, List.length_map, List.length_singleton] at hv3; subst hv3; have hm3 := HMR.out.upd hap.2.1 HNM.out; have e0 := hm3.at_ (i := 24) (Array.getElem?_setIfInBounds_self_of_lt h429); have g0 := hm3.frozen 24))
      all_goals
        go_wp2
        go_roundg r.length
        case measure => simp only [List.length_cons]; omega
        case rel =>
          have hup : Upd [m] w3 (w3.setCell ⟨m, 24, none⟩ (.slice A3 (l1.length + 1) c3)) := (Upd.refl _ _).setCell (by simp) _
          have hAL := HAL.out.step (by omega) (by omega) (by omega) hB (by decide) (by decide) hu25 hs16 HU1.out hap hup (by have := hm3.set_ 24 (.slice A3 (l1.length + 1) c3); rwa [Array.setIfInBounds_setIfInBounds] at this)
          exact ⟨l1 ++ [(xa, xb)], r, _, rfl, by rw [List.map_append]; exact hAL, by rw [← HT.out]; simp⟩
end
end Go.Proofs.Ytaajmfgplhfncaa

/- Texts joined: ChU. -/
import Derived.Test.YtaajmfgplhfncaaB22
namespace Go.Proofs.Ytaajmfgplhfncaa
open Go.RowKit Go.Maps
set_option maxRecDepth 100000
theorem nn_of {w : World} {B : Nat} {A : Option Addr} {n c : Nat} {xs : List UInt8} (h : Byt w B (.slice A n c) xs) (hx : xs ≠ []) : NN (.slice A n c) := by
  obtain ⟨A', c', e, -, -, -, h⟩ := h
  injection e with e1 e2 e3
  subst e1 e2 e3
  obtain ⟨b, o', rfl, -⟩ := h (by simpa using hx)
  exact ⟨_, _, _, rfl⟩
section
variable {w w' : World} {B m : Nat} {v : Value} {data : List UInt8} {t t' : Ch} {L : List Ex}
set_option maxHeartbeats 16000000 in
theorem unmarshal_Ch (hm : Blk w m 90 (chZ (.slice none 0 0)).toArray) (hv : Byt w B v data) (hB : B ≤ m) (hF : ChForm data t L t') :
    Calls Try.prog 46 #[.pointer (some ⟨m, 0, none⟩), v] w (ChUP w B m t') := by
  obtain ⟨A, c, rfl, hv, hl, hc⟩ := Byt.form hv rfl
  have hml := hm.lt
  obtain ⟨s, hs⟩ : ∃ s, w.heap.size = s := ⟨_, rfl⟩
  have hms : m < s := by omega
  have hBs : B ≤ s := by omega
  have HS := hid hs
  have hmm := @run_makeMap Try.prog
  have HD0 := hid (show data.drop 4 = _ from (congrArg (List.drop 4) hF.eq).trans (ch_body t L))
  have hd4 : 4 ≤ data.length := by
    have h := congrArg List.length (hF.eq)
    rw [h]; unfold chMsg; rw [msgB_len]; omega
  have HH := hid hF.hd
  have HLN := hid hF.ln
  have HRUN := hid hF.run
  have HC0 := hid (show (Try.prog.info? 90).map (·.size) = some (chZ (.slice A data.length c)).toArray.size by kernel_rfl)
  have HC1 := hid (show (chZ (.slice A data.length c)).toArray.all (·.oneCell') = true by simp [Value.oneCell'])
  have hdn : data ≠ [] := fun e => by rw [e] at hd4; simp at hd4
  have HNN := hid (show NN (.slice A data.length c) from nn_of hv hdn)
  clear hs hF hdn
  go_enter Try.func46, Try.ntmps46
  go_wp2_with (refine wpList_store_any hm HC0.out HC1.out rfl rfl _ _ rfl rfl rfl ?_; intro wS hmS huS hsS)
  replace hsS : wS.heap.size = s := hsS.trans HS.out
  have hMS := ch_start (B := B) (lo := m + 1) (hi := m + 1) hmS
  generalize hz0 : (chZ (.slice A data.length c)).toArray = cs0 at hmS hMS
  clear hz0
  -- the String
  obtain ⟨w0, hw0⟩ : ∃ x, wS.alloc (.cells #[.slice A data.length c] 100) = x := ⟨_, rfl⟩
  have huS0 : Upd [] wS w0 := by rw [← hw0]; exact (Upd.refl _ _).alloc _
  have hx0 : Blk w0 s 100 #[.slice A data.length c] := by rw [← hw0, ← hsS]; exact Blk.new _ _ _
  have hs0 : Sv w0 B s data True := ⟨by omega, _, hx0, Row.upd hv (huS.trans huS0 (by simp)) (by simpa using hB), fun _ => HNN.out⟩
  have hw00 : w.heap.size ≤ s := Nat.le_of_eq HS.out
  have H0 : HSt w B m s 90 cs0 (chF0 (.slice A data.length c) (.slice none 0 0) Ch.zero) data w0 := ⟨hs0, hMS.upd huS0 (by simp), huS.trans huS0 (by simp), ⟨hB, hms, hx0.lt, hw00⟩⟩
  rw [hw0, HS.out]
  clear hw0 huS0 hx0 hs0 hMS hmS huS hsS HC0 HC1 HNN hm hv hml
  have H := hid (Skip_ok H0.sv 4 hd4 (by omega))
  refine H.out.mono ?_
  rintro e w1 ⟨rfl, hu1, hs1⟩
  rw [HD0.out] at hs1
  replace H0 := H0.next hu1 (by simp) hs1
  clear hu1 hs1 H HD0 hd4
  -- the version
  have H := hid (ReadUint16_be H0.sv (k := 1) H0.ms.blk (by rw [H0.ms.len]; exact (by decide : 1 < 29)) (by omega) hB)
  go_wp2_with fail
  refine H.out.mono ?_
  rintro e w2 ⟨rfl, hu2, hs2, hm2⟩
  replace H0 := H0.put (i := 1) (f := .val (wv t.vers)) hu2 (by simp) hs2 hm2 rfl rfl
  clear hu2 hs2 hm2 H
  -- the random
  have H := hid (ReadBytes_ok H0.sv 32 (by rw [List.length_append, HH.out.r]; omega) (.inl (by omega)) (k := 2) H0.ms.blk (by rw [H0.ms.len]; exact (by decide : 2 < 29)) (by omega) hB)
  rw [show ∀ r : List UInt8, (t.random ++ r).take 32 = t.random from fun r => by rw [← HH.out.r, List.take_left], show ∀ r : List UInt8, (t.random ++ r).drop 32 = r from fun r => by rw [← HH.out.r, List.drop_left]] at H
  go_wp2_with fail
  refine H.out.mono ?_
  rintro e w3 ⟨v2, rfl, hu3, hs3, hm3, hy2, -⟩
  replace H0 := H0.put (i := 2) (f := .byt t.random) hu3 (by simp) hs3 hm3 hy2 rfl
  clear hu3 hs3 hm3 hy2 H
  -- the session
  have H := hid (tlsLP8_any H0.sv (k := 3) H0.ms.blk (by rw [H0.ms.len]; exact (by decide : 3 < 29)) (by omega) hB)
  go_wp2_with fail
  refine H.out.mono ?_
  intro e w4 hp
  obtain ⟨v3, rfl, hu4, hs4, hm4, hy3, -⟩ := hp.yes (lp_b1 t.sid _ (by have := HH.out.s; omega))
  replace H0 := H0.put (i := 3) (f := .byt t.sid) hu4 (by simp) hs4 hm4 hy3 rfl
  clear hu4 hs4 hm4 hy3 H hp
  -- the cipher suites
  obtain ⟨w5, hw5⟩ : ∃ x, w4.alloc (.cells #[.slice none 0 0] 100) = x := ⟨_, rfl⟩
  obtain ⟨p, hp5⟩ : ∃ x, w4.heap.size = x := ⟨_, rfl⟩
  have hu5 : Upd [] w4 w5 := by rw [← hw5]; exact (Upd.refl _ _).alloc _
  have hx5 : Blk w5 p 100 #[.slice none 0 0] := by rw [← hw5, ← hp5]; exact Blk.new _ _ _
  have hsp : s < p := by rw [← hp5]; exact H0.lt.2.2.1
  replace H0 := H0.upd hu5 (by simp)
  have HW5 := hid hw5
  have HP5 := hid hp5
  clear hw5 hp5 hu5
  have H := hid (ReadLP16_any H0.sv (k := 0) hx5 (by simp) (by omega) (by omega))
  go_wp2_with fail
  rw [HW5.out, HP5.out]
  refine H.out.mono ?_
  intro e w6 hp
  obtain ⟨u6, rfl, hu6, hs6, hx6, hy6, hn6⟩ := hp.yes (lp_b2 (wordsB t.suites) _ HH.out.ul)
  have hsq : Sv w6 B p (wordsB t.suites) True := ⟨by omega, u6, hx6, hy6, fun _ => hn6⟩
  replace H0 := H0.next hu6 (by simp; omega) hs6
  clear hu6 hs6 hx6 hy6 hn6 H hp HW5 HP5 hx5
  have HH0 := H0
  replace H0 := H0.upd (((Upd.refl [] w6).alloc (.cells #[] 22))) (by simp)
  have hsq0 := hsq.upd (((Upd.refl [] w6).alloc (.cells #[] 22))) (by simp) (by simp)
  obtain ⟨g4, hg4⟩ : ∃ x, w6.heap.size = x := ⟨_, rfl⟩
  have ho0 : Own (w6.alloc (.cells #[] 22)) (s + 1) 22 (.slice (some ⟨g4, 0, none⟩) 0 0) [] := by rw [← hg4]; exact own_none w6 (s + 1) 22 (by have := HH0.lt; omega)
  have hgp : p < g4 := by obtain ⟨-, pv, hpb, -⟩ := hsq; have := hpb.lt; omega
  clear HH0 hsq
  obtain ⟨v4c, hcv4, -⟩ := H0.ms.get (i := 4) rfl
  have c4 := H0.ms.cell hcv4
  have c4f := H0.ms.blk.frozen 4
  have hu4 : Upd [m] (w6.alloc (.cells #[] 22)) ((w6.alloc (.cells #[] 22)).setCell ⟨m, 4, none⟩ (.slice (some ⟨g4, 0, none⟩) 0 0)) := (Upd.refl _ _).setCell (by simp) _
  have H1 := H0.put (i := 4) (f := .val (.slice (some ⟨g4, 0, none⟩) 0 0)) hu4 (by simp) (H0.sv.upd hu4 (by simp; omega) (by simp; omega)) (H0.ms.blk.set_ 4 _) rfl rfl
  have ho1 := ho0.upd hu4 (by simp [Value.ownBlock]; omega)
  have hsq1 := hsq0.upd hu4 (by simp; omega) (by simp; omega)
  obtain ⟨v14c, hcv14, -⟩ := H0.ms.get (i := 14) rfl
  have c14 := H0.ms.cell hcv14
  have c14f := H0.ms.blk.frozen 14
  have hu14 : Upd [m] _ (((w6.alloc (.cells #[] 22)).setCell ⟨m, 4, none⟩ (.slice (some ⟨g4, 0, none⟩) 0 0)).setCell ⟨m, 14, none⟩ (.bool false)) := (Upd.refl _ _).setCell (by simp) _
  have H2 := H1.put (i := 14) (f := .val (.bool false)) hu14 (by simp) (H1.sv.upd hu14 (by simp; omega) (by simp; omega)) (H1.ms.blk.set_ 14 _) rfl rfl
  have ho2 := ho1.upd hu14 (by simp [Value.ownBlock]; omega)
  have hsq2 := hsq1.upd hu14 (by simp; omega) (by simp; omega)
  obtain ⟨wE, hwE⟩ : ∃ x, ((w6.alloc (.cells #[] 22)).setCell ⟨m, 4, none⟩ (.slice (some ⟨g4, 0, none⟩) 0 0)).setCell ⟨m, 14, none⟩ (.bool false) = x := ⟨_, rfl⟩
  rw [hwE] at H2 ho2 hsq2
  have HG4 := hid hg4
  have HWE := hid hwE
  have hgE : g4 < wE.heap.size := (ho2.ge (g := g4) rfl).2
  clear hu4 hu14 ho0 ho1 hsq0 hsq1 H0 H1 hwE hcv4 hcv14
  generalize hcsE : ((((cs0.setIfInBounds 1 _).setIfInBounds 2 _).setIfInBounds 3 _).setIfInBounds 4 _).setIfInBounds 14 _ = csE at H2
  clear hcsE
  clear hg4
  obtain ⟨v40, hv40⟩ : ∃ x, (Value.slice (some ⟨g4, 0, none⟩) 0 0) = x := ⟨_, rfl⟩
  have HV40 := hid hv40
  have hcv4 : csE[4]? = some v40 := by
    obtain ⟨v, h1, h2⟩ := H2.ms.get (i := 4) rfl
    have h2 : v = _ := h2
    rw [h1, h2, hv40]
  have hset : csE.setIfInBounds 4 v40 = csE := set_self hcv4
  rw [hv40] at H2 ho2
  have hown4 : ∀ g, v40.ownBlock = some g → s + 1 ≤ g ∧ p ≠ g := fun g hg => by
    rw [← hv40] at hg
    have : g4 = g := by simpa [Value.ownBlock] using hg
    omega
  have AL0 : ALoop 22 B p m 90 (fun z => csE.setIfInBounds 4 z) (s + 1) wE v40 (wordsB t.suites) v40 (([] : List UInt16).map wv) wE := ⟨hsq2, by show Blk wE m 90 (csE.setIfInBounds 4 v40); rw [hset]; exact H2.ms.blk, ho2, nextV.refl _ _, Upd.refl _ _⟩
  have hwl : (wordsB t.suites).length = 2 * t.suites.length := by simp [wordsB_len]
  have HUL := hid (show 2 * t.suites.length < 65536 by have := HH.out.ul; omega)
  clear hset hsq2 ho2 hcv4 hv40 hwl
  go_wp2_with fail
  rw [HG4.out, HWE.out, HV40.out]
  go_loopg [7] t.suites.length (fun gk _ wr => WRelC B p m 90 (fun z => csE.setIfInBounds 4 z) (s + 1) wE v40 t.suites gk wr)
  case atStart => exact ⟨[], t.suites, v40, rfl, AL0, rfl⟩
  case round =>
    obtain ⟨l, r, vv, rfl, AL, htot⟩ := hrel
    obtain ⟨wi, rfl⟩ : ∃ wi : World, wi = wr := ⟨_, rfl⟩
    have HT := hid htot
    clear htot AL0
    obtain ⟨A9, c9, e9, -, hy9, -⟩ := AL.sv.open_
    have HE9 := hid (Empty_any hy9)
    clear hy9
    have hB2 : ∀ k ∈ p :: m :: v40.ownBlock.toList, k = m ∨ s + 1 ≤ k := by
      intro k hk
      rcases List.mem_cons.1 hk with hk | hk
      · omega
      · rcases List.mem_cons.1 hk with hk | hk
        · exact .inl hk
        · exact .inr (hown4 k (Option.mem_toList.1 hk)).1
    go_wp2_with fail
    refine HE9.out.mono ?_
    rintro e w14 ⟨rfl, rfl⟩
    rcases r with _ | ⟨x, r⟩
    · have hl : l = t.suites := by have := HT.out; rwa [List.append_nil] at this
      subst hl
      replace H2 := H2.put (i := 4) (f := .val vv) AL.up (fun k hk => (hB2 k hk).imp id (by omega)) (H2.sv.upd AL.up (fun k hk => by have := hB2 k hk; omega) (fun hk => by have := hB2 _ hk; omega)) AL.hm rfl rfl
      have ho := AL.own
      clear AL HE9 hB2 hown4 HG4 HWE HV40 c4 c4f c14 c14f
      have H := hid (tlsLP8_any H2.sv (k := 5) H2.ms.blk (by rw [H2.ms.len]; exact (by decide : 5 < 29)) (by omega) hB)
      go_wp2_with fail
      refine H.out.mono ?_
      intro e w15 hp
      obtain ⟨v5, rfl, hu5, hs5, hm5, hy5, -⟩ := hp.yes (lp_b1 t.comps _ HH.out.cl)
      replace ho := ho.upd hu5 (fun g hg hk => by
        have h1 := (ho.ge hg).1
        simp at hk
        omega)
      replace H2 := H2.put (i := 5) (f := .byt t.comps) hu5 (by simp) hs5 hm5 hy5 rfl
      clear hu5 hs5 hm5 hy5 H hp
      replace H2 := H2.cast (show _ = chF0 (.slice A data.length c) vv (chHd t) from rfl)
      rw [show csE.setIfInBounds 4 vv = csE.setIfInBounds 4 vv from rfl] at H2
      generalize (csE.setIfInBounds 4 vv).setIfInBounds 5 v5 = cs5 at H2
      have hsle : w.heap.size ≤ s := by have := HS.out; omega
      -- is there more?
      obtain ⟨A8, c8, e8, -, hy8, -⟩ := H2.sv.open_
      have H8 := hid (Empty_any hy8)
      clear hy8
      go_wp2_with fail
      refine H8.out.mono ?_
      rintro e w16 ⟨rfl, rfl⟩
      by_cases hL : L = []
      · subst hL
        have ht : t' = chHd t := by have h := HRUN.out; cases h; rfl
        go_wp2
        go_ret
        rw [ht]
        exact H2.fin ho ⟨by omega, by omega⟩
      have hct : chTail L = be 2 (exsB L).length ++ (exsB L ++ []) := by rw [chTail, if_neg hL]; simp [blkB]
      rw [hct] at H2 e8
      rw [decide_eq_false (by rw [hct]; simp [be])]
      have HNL := hid hL
      clear hct hL H8
      -- the extensions
      obtain ⟨w17, hw17⟩ : ∃ x, w15.alloc (.cells #[.slice none 0 0] 100) = x := ⟨_, rfl⟩
      obtain ⟨sx, hsx0⟩ : ∃ x, w15.heap.size = x := ⟨_, rfl⟩
      have hu17 : Upd [] w15 w17 := by rw [← hw17]; exact (Upd.refl _ _).alloc _
      have hx17 : Blk w17 sx 100 #[.slice none 0 0] := by rw [← hw17, ← hsx0]; exact Blk.new _ _ _
      have hssx : s < sx := by rw [← hsx0]; exact H2.lt.2.2.1
      have horx : ∀ g, vv.ownBlock = some g → s + 1 ≤ g ∧ g < sx := fun g hg => by rw [← hsx0]; exact ho.ge hg
      replace ho := ho.upd hu17 (by simp)
      replace H2 := H2.upd hu17 (by simp)
      have HW17 := hid hw17
      have HSX := hid hsx0
      clear hw17 hsx0 hu17 e8
      have H := hid (ReadLP16_any H2.sv (k := 0) hx17 (by simp) (by omega) (by omega))
      go_wp2_with fail
      rw [HW17.out, HSX.out]
      refine H.out.mono ?_
      intro e w18 hp
      obtain ⟨u18, rfl, hu18, hs18, hx18, hy18, hn18⟩ := hp.yes (lp_b2 (exsB L) _ HLN.out)
      have hsx18 : Sv w18 B sx (exsB L) True := ⟨by omega, u18, hx18, hy18, fun _ => hn18⟩
      replace ho := ho.upd hu18 (fun g hg hk => by have h1 := horx g hg; simp at hk; omega)
      replace H2 := H2.next hu18 (by simp; omega) hs18
      clear hu18 hs18 hx18 hy18 hn18 H hp HW17 HSX hx17
      obtain ⟨A8, c8, e8, -, hy8, -⟩ := H2.sv.open_
      have H8 := hid (Empty_any hy8)
      clear hy8
      go_wp2_with fail
      refine H8.out.mono ?_
      rintro e w19 ⟨rfl, rfl⟩
      obtain ⟨wM, hwM⟩ : ∃ wM, w18.alloc (.map #[] 0) = wM := ⟨_, rfl⟩
      obtain ⟨mb, hmb⟩ : ∃ mb, w18.heap.size = mb := ⟨_, rfl⟩
      have hseen : Seen wM mb 0 [] := by rw [← hwM, ← hmb]; exact Seen.made w18
      have huM : Upd [] w18 wM := by rw [← hwM]; exact (Upd.refl _ _).alloc _
      have hsM := hsx18.upd huM (by simp) (by simp)
      have hsxm : sx < mb := by obtain ⟨-, pv, hpb, -⟩ := hsx18; have := hpb.lt; omega
      have hmbM : wM.heap.size = mb + 1 := by rw [← hwM, ← hmb]; simp
      have hUM := H2.up.trans huM (by simp)
      obtain ⟨v0, hv0⟩ : ∃ x, Value.slice A data.length c = x := ⟨_, rfl⟩
      have hMS : MSt wM B (mb + 1) wM.heap.size m 90 cs5 (chF0 v0 vv (chHd t)) := by rw [← hv0]; exact (H2.ms.upd huM (by simp)).free
      have C0 : CSt w B m (s + 1) sx mb wM.heap.size 90 cs5 (chF0 v0 vv (chHd t)) (exsB L) 0 [] vv (t.suites.map wv) wM :=
        { sv := hsM, ms := hMS, se := hseen, up := hUM, lt := ⟨hB, by omega, hsxm, by omega, Nat.le_refl _, by omega⟩, o := ho.upd huM (by simp), r := fun g hg => (horx g hg).2, ls := by omega }
      have HWM := hid hwM
      have HMB := hid hmb
      clear hwM hmb huM hsx18 hMS hUM hsM hseen hmbM ho horx H2 H8 e8 hv0
      go_wp2_with fail
      rw [HWM.out, HMB.out]
      clear hmm
      have hus : t'.suites.map wv = t.suites.map wv := by rw [HRUN.out.suites]; rfl
      refine wp_loop_ghost (fun n a w1 => FrR m sx mb a ∧ ChRel w B m (s + 1) sx mb v0 vv (t.suites.map wv) (exsB L) t' n w1) L.length ⟨⟨rfl, by kernel_rfl, by kernel_rfl, by kernel_rfl, by kernel_rfl⟩, L, chHd t, cs5, rfl, by show 0 + _ ≤ _; omega, C0, HRUN.out⟩ ?_
      rintro n a1 w1 ⟨hF, hR⟩
      refine wp_mono (round_Ch hF hR HLN.out hus (by omega) (fun a' w' n' h1 h2 h3 => (show (fun a' w' => ∃ n', n' < n ∧ FrR m sx mb a' ∧ ChRel w B m (s + 1) sx mb v0 vv (t.suites.map wv) (exsB L) t' n' w') a' w' from ⟨n', h1, h2, h3⟩))) ?_
      intro e a2 w2 he
      cases e with
      | normal => exact he
      | exit id =>
        obtain ⟨hid, hF2, hP⟩ := he
        injection hid with hid
        subst hid
        obtain ⟨f, rfl⟩ := hF2.lit
        have hP2 : Hid _ := hid hP
        clear hF hR hF2 hP
        simp only [Exit.then, Exit.inBlock, if_true]
        go_wp2
        go_ret
        exact hP2.out
      | goto l => exact absurd he.1 (by simp)
      | ret => exact absurd he.1 (by simp)
      | panic ch => exact absurd he.1 (by simp)
      | outgrown => exact absurd he.1 (by simp)
    · rw [decide_eq_false (by rw [wordsB_cons]; simp [be])]
      have hx255 : x ≠ 255 := fun e => HH.out.sg (by rw [← HT.out, e]; simp)
      have d255 := u16_eq x 255
      rw [show ((255 : UInt16).toNat : Int) = 255 from rfl, decide_eq_false hx255] at d255
      obtain ⟨wq, hwq⟩ : ∃ wq, wi.alloc (.cells #[.int .u16 0] 22) = wq := ⟨_, rfl⟩
      obtain ⟨q, hq0⟩ : ∃ q, wi.heap.size = q := ⟨_, rfl⟩
      have huq : Upd [] wi wq := by rw [← hwq]; exact (Upd.refl _ _).alloc _
      have hbq : Blk wq q 22 #[.int .u16 0] := by rw [← hwq, ← hq0]; exact Blk.new _ _ _
      have hpq : p < q := by have := AL.up.size; omega
      have hspq := AL.sv.upd huq (by simp) (by simp)
      have hmq := AL.hm.upd huq (by simp)
      rw [wordsB_cons] at hspq
      have HWQ := hid hwq
      have HQ0 := hid hq0
      have hqE : g4 + 1 ≤ q := by have := AL.up.size; omega
      have hqw : wi.heap.size ≤ q := by have := HQ0.out; omega
      clear hwq hq0 HE9 hB2 hx255
      have H := hid (ReadUint16_be (k := 0) hspq hbq (by simp) (by omega) (by omega))
      go_wp2_with fail
      rw [HWQ.out, HQ0.out]
      refine H.out.mono ?_
      rintro e w15 ⟨rfl, hu15, hs15, hb15⟩
      have hb15 : Blk w15 q 22 #[wv x] := hb15
      have hm15 := hmq.upd hu15 (by simp; omega)
      have hu25 : Upd [p] wi w15 := (huq.mono (by simp)).trans hu15 (by simp; omega)
      have hown15 : Own w15 (s + 1) 22 vv (l.map wv) := AL.own.upd hu25 (fun h hh hk => by
        obtain ⟨_, pv, hpb, _⟩ := AL.sv
        have := AL.own.ne hpb (by decide) h hh
        simp at hk; exact this hk)
      have hsz15 : s + 1 ≤ w15.heap.size := by have := hb15.lt; omega
      have hnm : m ∉ vv.ownBlock.toList := fun hm' => by have := AL.own.ne AL.hm (by decide) m (Option.mem_toList.1 hm'); exact this rfl
      obtain ⟨Av, cv, rfl⟩ := AL.own.formN (n := l.length) (by simp)
      have h429 : 4 < csE.size := by have := H2.ms.len; simp [chF0] at this; omega
      have c0 := hm15.at_ (i := 4) (Array.getElem?_setIfInBounds_self_of_lt h429)
      have c0f := hm15.frozen 4
      have c1 := hb15.cell 0
      have a0 := (hm15.alloc (.cells #[wv x] 22)).at_ (i := 4) (Array.getElem?_setIfInBounds_self_of_lt h429)
      have a0f := (hm15.alloc (.cells #[wv x] 22)).frozen 4
      have a1 := (hb15.alloc (.cells #[wv x] 22)).cell 0
      simp at c1 a1
      have hl2 : l.length + 1 ≤ 65536 := by have h1 := congrArg List.length HT.out; have h2 := HUL.out; simp at h1; omega
      have HAL := hid AL
      have H2' := hid H2
      clear AL H2 hspq hmq hbq huq H c4 c4f c14 c14f HWE HG4 HV40
      go_wp2_with fail
      go_region_law (first | (refine step_append_row (v := .slice Av l.length cv) _ rfl _ _ 24 rfl (s + 1) 22 (.int .u16 0) 2 Try.underlying24 info_u16 rfl rfl (hown15.upd (((Upd.refl [] _).alloc _).drew) (by simp)) rfl (Row.drew (Row.one w15 22 (wv x))) (by intro u hu; simp at hu; subst hu; rfl) (by simp; omega) (by simp; omega) (by simp; omega) ?_; intro v3 w3 hap; obtain ⟨A3, c3, hv3⟩ := Own.formN (n := l.length + 1) hap.1 (by simp); subst hv3; have hm3 := ((hm15.alloc (.cells #[wv x] 22)).drew).upd hap.2.1 hnm; have e0 := hm3.at_ (i := 4) (Array.getElem?_setIfInBounds_self_of_lt h429); have g0 := hm3.frozen 4))
      all_goals
        go_wp2
        go_roundg r.length
        case measure => simp only [List.length_cons]; omega
        case rel =>
          have hup : Upd [m] w3 (w3.setCell ⟨m, 4, none⟩ (.slice A3 (l.length + 1) c3)) := (Upd.refl _ _).setCell (by simp) _
          have hAL := HAL.out.step (by omega) (by omega) hB (by decide) (by decide) hu25 hs15 (((Upd.refl [] _).alloc _).drew) hap hup (by have := hm3.set_ 4 (.slice A3 (l.length + 1) c3); rwa [Array.setIfInBounds_setIfInBounds] at this)
          exact ⟨l ++ [x], r, _, rfl, by rw [List.map_append]; exact hAL, by rw [← HT.out]; simp⟩
end
end Go.Proofs.Ytaajmfgplhfncaa

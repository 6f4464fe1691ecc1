/- ServerHello: the small functions that the laws ask; the argument opened (printed by gen_shl.py). -/
import Derived.Test.YtcikeghdlolkaaaShM3
import Derived.Test.YtcikeghdlolkaaaShI
import Derived.Test.YtcikeghdlolkaaaWSt
import Derived.Test.YtcikeghdlolkaaaLift
import Derived.Test.YtcikeghdlolkaaaGen
import Derived.Test.YtcikeghdlolkaaaNone
import Derived.Test.YtcikeghdlolkaaaBulk
namespace Go.Proofs.Ytcikeghdlolkaaa
open Go.Joins Go.ChangeShapes Go.WideShapes Go.RowKit Go.Deep
set_option maxRecDepth 100000
/-- what the bound on the bulk says of it -/
def ShBulk (t : Sh) : Prop := (vecsB 2 t.scts).length ≤ 4194304
/-- what the law calls right -/
def shRight (t : Sh) : Bool := ((t.random.length : Int) == 32) && decide ((t.sid.length : Int) ≤ 32) && (t.rns || ((t.rn.length : Int) == 0)) && noneB t.scts 0 0 && (((t.sg.toNat : Int) == 0) || ((t.selg.toNat : Int) == 0)) && (((t.sg.toNat : Int) == 0) == ((t.sd.length : Int) == 0)) && (t.sip || ((t.si.toNat : Int) == 0))
theorem u16_zero (k : UInt16) : ((k.toNat : Int) == 0) = true ↔ k = 0 := by
  rw [beq_iff_eq]
  constructor
  · intro h
    have : k.toNat = (0 : UInt16).toNat := by show k.toNat = 0; omega
    exact UInt16.toNat_inj.1 this
  · intro h; subst h; rfl
theorem len_zero (l : List UInt8) : ((l.length : Int) == 0) = true ↔ l = [] := by
  rw [beq_iff_eq]
  constructor
  · intro h; exact List.eq_nil_of_length_eq_zero (by omega)
  · intro h; subst h; rfl
theorem shRight_iff {t : Sh} (h : shRight t = true) : ShOk t := by
  unfold shRight at h
  simp only [Bool.and_eq_true, Bool.or_eq_true, decide_eq_true_eq, u16_zero, len_zero] at h
  obtain ⟨⟨⟨⟨⟨⟨h1, h2⟩, h3⟩, h4⟩, h5⟩, h6⟩, h7⟩ := h
  rw [beq_iff_eq] at h1
  refine ⟨by omega, by omega, h3, fun x hx e => ?_, h5, ?_, h7⟩
  · have := List.all_eq_true.1 h4 x hx
    rw [e] at this
    simp at this
  · have := beq_iff_eq.1 h6
    constructor
    · intro e; exact (len_zero _).1 (by rw [← this]; exact (u16_zero _).2 e)
    · intro e; exact (u16_zero _).1 (by rw [this]; exact (len_zero _).2 e)
section
variable {w w' : World} {B C N : Nat} {v content : Value} {t : Sh} {L : List Ex}
theorem Mar_Sh (hv : ShV w B v t) (hr : shRight t = true) (hz : ShSz t) : Calls Try.prog 17 #[v] w (MadeP w (shMake t)) := by
  rw [← shMakeM_eq (shRight_iff hr)]
  exact impl_MarshalSh hv hz
theorem Exts_Sh (hv : ShV w B v t) (hz : ShSz t) : Calls Try.prog 12 #[v] w (ExL w (shExtL t)) := ServerExtensions_any hv hz
set_option maxHeartbeats 16000000 in
theorem Right_Sh (hv : ShV w B v t) : Calls Try.prog 11 #[v] w fun e w' => e = .returned (.bool (shRight t)) ∧ Upd [] w w' := by
  obtain ⟨A1, c1, A2, c2, A8, c8, A11, c11, A14, c14, A17, c17, A18, c18, A20, c20, rfl, y1, y2, y8, y11, y14, y17, y18, y20⟩ := hv
  obtain ⟨w1, hw1⟩ : ∃ w1, w.alloc (.cells #[wv t.vers, .slice A1 t.random.length c1, .slice A2 t.sid.length c2, wv t.suite, bv t.comp, .bool t.ocsp, .bool t.ticket, .bool t.rns, .slice A8 t.rn.length c8, .bool t.ems, strv t.alpn, .slice A11 t.scts.length c11, wv t.sv, wv t.sg, .slice A14 t.sd.length c14, .bool t.sip, wv t.si, .slice A17 t.pts.length c17, .slice A18 t.ech.length c18, .bool t.ack, .slice A20 t.cookie.length c20, wv t.selg] 26) = w1 := ⟨_, rfl⟩
  obtain ⟨s, hs⟩ : ∃ s, w.heap.size = s := ⟨_, rfl⟩
  have hu1 : Upd [] w w1 := by rw [← hw1]; exact (Upd.refl _ _).alloc _
  have hb1 : Blk w1 s 26 #[wv t.vers, .slice A1 t.random.length c1, .slice A2 t.sid.length c2, wv t.suite, bv t.comp, .bool t.ocsp, .bool t.ticket, .bool t.rns, .slice A8 t.rn.length c8, .bool t.ems, strv t.alpn, .slice A11 t.scts.length c11, wv t.sv, wv t.sg, .slice A14 t.sd.length c14, .bool t.sip, wv t.si, .slice A17 t.pts.length c17, .slice A18 t.ech.length c18, .bool t.ack, .slice A20 t.cookie.length c20, wv t.selg] := by rw [← hw1, ← hs]; exact Blk.new _ _ _
  have H := hid (none_any (y11.shrink.upd hu1 (by simp)) 0 0)
  have HW := hid hw1
  have HS := hid hs
  have HU := hid hu1
  have d1 := hb1.cell 1
  simp at d1
  have d2 := hb1.cell 2
  simp at d2
  have d7 := hb1.cell 7
  simp at d7
  have d8 := hb1.cell 8
  simp at d8
  have d11 := hb1.cell 11
  simp at d11
  have d13 := hb1.cell 13
  simp at d13
  have d14 := hb1.cell 14
  simp at d14
  have d15 := hb1.cell 15
  simp at d15
  have d16 := hb1.cell 16
  simp at d16
  have d21 := hb1.cell 21
  simp at d21
  clear hw1 hs hu1 hb1 y1 y2 y8 y11 y14 y17 y18 y20
  go_enter Try.func11, Try.ntmps11
  go_upto_region 1 with fail
  rw [HW.out, HS.out]
  clear HW HS
  rcases bcase (((t.random.length : Int) == 32)) with b1 | b1
  · rcases bcase (decide ((t.sid.length : Int) ≤ 32)) with b2 | b2
    · rcases bcase (t.rns) with b3 | b3
      · rcases bcase (noneB t.scts 0 0) with b5 | b5
        · rcases bcase (((t.sg.toNat : Int) == 0)) with b6 | b6
          · rcases bcase (((t.sd.length : Int) == 0)) with b8 | b8
            · rcases bcase (t.sip) with b9 | b9
              · have HR := hid (show shRight t = true by unfold shRight; rw [b1, b2, b3, b5, b6, b8, b9]; rfl)
                go_wp2_with fail
                refine H.out.mono ?_
                rintro e w2 ⟨rfl, rfl⟩
                rw [b5]
                go_wp2
                go_ret
                exact ⟨by rw [HR.out]; rfl, HU.out⟩
              · rcases bcase (((t.si.toNat : Int) == 0)) with b10 | b10
                · have HR := hid (show shRight t = true by unfold shRight; rw [b1, b2, b3, b5, b6, b8, b9, b10]; rfl)
                  go_wp2_with fail
                  refine H.out.mono ?_
                  rintro e w2 ⟨rfl, rfl⟩
                  rw [b5]
                  go_wp2
                  go_ret
                  exact ⟨by rw [HR.out]; rfl, HU.out⟩
                · have HR := hid (show shRight t = false by unfold shRight; rw [b1, b2, b3, b5, b6, b8, b9, b10]; rfl)
                  go_wp2_with fail
                  refine H.out.mono ?_
                  rintro e w2 ⟨rfl, rfl⟩
                  rw [b5]
                  go_wp2
                  go_ret
                  exact ⟨by rw [HR.out]; rfl, HU.out⟩
            · have HR := hid (show shRight t = false by unfold shRight; rw [b1, b2, b3, b5, b6, b8]; rfl)
              go_wp2_with fail
              refine H.out.mono ?_
              rintro e w2 ⟨rfl, rfl⟩
              rw [b5]
              go_wp2
              go_ret
              exact ⟨by rw [HR.out]; rfl, HU.out⟩
          · rcases bcase (((t.selg.toNat : Int) == 0)) with b7 | b7
            · rcases bcase (((t.sd.length : Int) == 0)) with b8 | b8
              · have HR := hid (show shRight t = false by unfold shRight; rw [b1, b2, b3, b5, b6, b7, b8]; rfl)
                go_wp2_with fail
                refine H.out.mono ?_
                rintro e w2 ⟨rfl, rfl⟩
                rw [b5]
                go_wp2
                go_ret
                exact ⟨by rw [HR.out]; rfl, HU.out⟩
              · rcases bcase (t.sip) with b9 | b9
                · have HR := hid (show shRight t = true by unfold shRight; rw [b1, b2, b3, b5, b6, b7, b8, b9]; rfl)
                  go_wp2_with fail
                  refine H.out.mono ?_
                  rintro e w2 ⟨rfl, rfl⟩
                  rw [b5]
                  go_wp2
                  go_ret
                  exact ⟨by rw [HR.out]; rfl, HU.out⟩
                · rcases bcase (((t.si.toNat : Int) == 0)) with b10 | b10
                  · have HR := hid (show shRight t = true by unfold shRight; rw [b1, b2, b3, b5, b6, b7, b8, b9, b10]; rfl)
                    go_wp2_with fail
                    refine H.out.mono ?_
                    rintro e w2 ⟨rfl, rfl⟩
                    rw [b5]
                    go_wp2
                    go_ret
                    exact ⟨by rw [HR.out]; rfl, HU.out⟩
                  · have HR := hid (show shRight t = false by unfold shRight; rw [b1, b2, b3, b5, b6, b7, b8, b9, b10]; rfl)
                    go_wp2_with fail
                    refine H.out.mono ?_
                    rintro e w2 ⟨rfl, rfl⟩
                    rw [b5]
                    go_wp2
                    go_ret
                    exact ⟨by rw [HR.out]; rfl, HU.out⟩
            · have HR := hid (show shRight t = false by unfold shRight; rw [b1, b2, b3, b5, b6, b7]; rfl)
              go_wp2_with fail
              refine H.out.mono ?_
              rintro e w2 ⟨rfl, rfl⟩
              rw [b5]
              go_wp2
              go_ret
              exact ⟨by rw [HR.out]; rfl, HU.out⟩
        · have HR := hid (show shRight t = false by unfold shRight; rw [b1, b2, b3, b5]; rfl)
          go_wp2_with fail
          refine H.out.mono ?_
          rintro e w2 ⟨rfl, rfl⟩
          rw [b5]
          go_wp2
          go_ret
          exact ⟨by rw [HR.out]; rfl, HU.out⟩
      · rcases bcase (((t.rn.length : Int) == 0)) with b4 | b4
        · rcases bcase (noneB t.scts 0 0) with b5 | b5
          · rcases bcase (((t.sg.toNat : Int) == 0)) with b6 | b6
            · rcases bcase (((t.sd.length : Int) == 0)) with b8 | b8
              · rcases bcase (t.sip) with b9 | b9
                · have HR := hid (show shRight t = true by unfold shRight; rw [b1, b2, b3, b4, b5, b6, b8, b9]; rfl)
                  go_wp2_with fail
                  refine H.out.mono ?_
                  rintro e w2 ⟨rfl, rfl⟩
                  rw [b5]
                  go_wp2
                  go_ret
                  exact ⟨by rw [HR.out]; rfl, HU.out⟩
                · rcases bcase (((t.si.toNat : Int) == 0)) with b10 | b10
                  · have HR := hid (show shRight t = true by unfold shRight; rw [b1, b2, b3, b4, b5, b6, b8, b9, b10]; rfl)
                    go_wp2_with fail
                    refine H.out.mono ?_
                    rintro e w2 ⟨rfl, rfl⟩
                    rw [b5]
                    go_wp2
                    go_ret
                    exact ⟨by rw [HR.out]; rfl, HU.out⟩
                  · have HR := hid (show shRight t = false by unfold shRight; rw [b1, b2, b3, b4, b5, b6, b8, b9, b10]; rfl)
                    go_wp2_with fail
                    refine H.out.mono ?_
                    rintro e w2 ⟨rfl, rfl⟩
                    rw [b5]
                    go_wp2
                    go_ret
                    exact ⟨by rw [HR.out]; rfl, HU.out⟩
              · have HR := hid (show shRight t = false by unfold shRight; rw [b1, b2, b3, b4, b5, b6, b8]; rfl)
                go_wp2_with fail
                refine H.out.mono ?_
                rintro e w2 ⟨rfl, rfl⟩
                rw [b5]
                go_wp2
                go_ret
                exact ⟨by rw [HR.out]; rfl, HU.out⟩
            · rcases bcase (((t.selg.toNat : Int) == 0)) with b7 | b7
              · rcases bcase (((t.sd.length : Int) == 0)) with b8 | b8
                · have HR := hid (show shRight t = false by unfold shRight; rw [b1, b2, b3, b4, b5, b6, b7, b8]; rfl)
                  go_wp2_with fail
                  refine H.out.mono ?_
                  rintro e w2 ⟨rfl, rfl⟩
                  rw [b5]
                  go_wp2
                  go_ret
                  exact ⟨by rw [HR.out]; rfl, HU.out⟩
                · rcases bcase (t.sip) with b9 | b9
                  · have HR := hid (show shRight t = true by unfold shRight; rw [b1, b2, b3, b4, b5, b6, b7, b8, b9]; rfl)
                    go_wp2_with fail
                    refine H.out.mono ?_
                    rintro e w2 ⟨rfl, rfl⟩
                    rw [b5]
                    go_wp2
                    go_ret
                    exact ⟨by rw [HR.out]; rfl, HU.out⟩
                  · rcases bcase (((t.si.toNat : Int) == 0)) with b10 | b10
                    · have HR := hid (show shRight t = true by unfold shRight; rw [b1, b2, b3, b4, b5, b6, b7, b8, b9, b10]; rfl)
                      go_wp2_with fail
                      refine H.out.mono ?_
                      rintro e w2 ⟨rfl, rfl⟩
                      rw [b5]
                      go_wp2
                      go_ret
                      exact ⟨by rw [HR.out]; rfl, HU.out⟩
                    · have HR := hid (show shRight t = false by unfold shRight; rw [b1, b2, b3, b4, b5, b6, b7, b8, b9, b10]; rfl)
                      go_wp2_with fail
                      refine H.out.mono ?_
                      rintro e w2 ⟨rfl, rfl⟩
                      rw [b5]
                      go_wp2
                      go_ret
                      exact ⟨by rw [HR.out]; rfl, HU.out⟩
              · have HR := hid (show shRight t = false by unfold shRight; rw [b1, b2, b3, b4, b5, b6, b7]; rfl)
                go_wp2_with fail
                refine H.out.mono ?_
                rintro e w2 ⟨rfl, rfl⟩
                rw [b5]
                go_wp2
                go_ret
                exact ⟨by rw [HR.out]; rfl, HU.out⟩
          · have HR := hid (show shRight t = false by unfold shRight; rw [b1, b2, b3, b4, b5]; rfl)
            go_wp2_with fail
            refine H.out.mono ?_
            rintro e w2 ⟨rfl, rfl⟩
            rw [b5]
            go_wp2
            go_ret
            exact ⟨by rw [HR.out]; rfl, HU.out⟩
        · have HR := hid (show shRight t = false by unfold shRight; rw [b1, b2, b3, b4]; rfl)
          go_wp2
          go_ret
          exact ⟨by rw [HR.out]; rfl, HU.out⟩
    · have HR := hid (show shRight t = false by unfold shRight; rw [b1, b2]; rfl)
      go_wp2
      go_ret
      exact ⟨by rw [HR.out]; rfl, HU.out⟩
  · have HR := hid (show shRight t = false by unfold shRight; rw [b1]; rfl)
    go_wp2
    go_ret
    exact ⟨by rw [HR.out]; rfl, HU.out⟩
set_option maxHeartbeats 4000000 in
theorem zzFits_Sh (hv : ShV w B v t) (hk : ShBulk t) : Calls Try.prog 9 #[v] w (FitsP w (ShSz t)) := by
  obtain ⟨A1, c1, A2, c2, A8, c8, A11, c11, A14, c14, A17, c17, A18, c18, A20, c20, rfl, y1, y2, y8, y11, y14, y17, y18, y20⟩ := hv
  obtain ⟨w1, hw1⟩ : ∃ w1, w.alloc (.cells #[wv t.vers, .slice A1 t.random.length c1, .slice A2 t.sid.length c2, wv t.suite, bv t.comp, .bool t.ocsp, .bool t.ticket, .bool t.rns, .slice A8 t.rn.length c8, .bool t.ems, strv t.alpn, .slice A11 t.scts.length c11, wv t.sv, wv t.sg, .slice A14 t.sd.length c14, .bool t.sip, wv t.si, .slice A17 t.pts.length c17, .slice A18 t.ech.length c18, .bool t.ack, .slice A20 t.cookie.length c20, wv t.selg] 26) = w1 := ⟨_, rfl⟩
  obtain ⟨s, hs⟩ : ∃ s, w.heap.size = s := ⟨_, rfl⟩
  have hu1 : Upd [] w w1 := by rw [← hw1]; exact (Upd.refl _ _).alloc _
  have hb1 : Blk w1 s 26 #[wv t.vers, .slice A1 t.random.length c1, .slice A2 t.sid.length c2, wv t.suite, bv t.comp, .bool t.ocsp, .bool t.ticket, .bool t.rns, .slice A8 t.rn.length c8, .bool t.ems, strv t.alpn, .slice A11 t.scts.length c11, wv t.sv, wv t.sg, .slice A14 t.sd.length c14, .bool t.sip, wv t.si, .slice A17 t.pts.length c17, .slice A18 t.ech.length c18, .bool t.ack, .slice A20 t.cookie.length c20, wv t.selg] := by rw [← hw1, ← hs]; exact Blk.new _ _ _
  have H := hid (zzFits2_any (y11.shrink.upd hu1 (by simp)))
  have HW := hid hw1
  have HS := hid hs
  have HU := hid hu1
  have HB := hid hb1
  have HK := hid hk
  have d1 := hb1.cell 1
  simp at d1
  have d2 := hb1.cell 2
  simp at d2
  have d8 := hb1.cell 8
  simp at d8
  have d10 := hb1.cell 10
  simp at d10
  have d11 := hb1.cell 11
  simp at d11
  have d14 := hb1.cell 14
  simp at d14
  have d17 := hb1.cell 17
  simp at d17
  have d18 := hb1.cell 18
  simp at d18
  have d20 := hb1.cell 20
  simp at d20
  clear hw1 hs hu1 hb1 hk y1 y2 y8 y11 y14 y17 y18 y20
  go_enter Try.func9, Try.ntmps9
  go_upto_region 1 with fail
  rw [HW.out, HS.out]
  clear HW HS
  rcases bcase (decide ((2147483647 : Int) < (t.random.length : Int))) with b1 | b1
  · go_wp2
    go_ret
    exact ⟨false, rfl, HU.out, fun h => (by cases h)⟩
  rcases bcase (decide ((2147483647 : Int) < (t.sid.length : Int))) with b2 | b2
  · go_wp2
    go_ret
    exact ⟨false, rfl, HU.out, fun h => (by cases h)⟩
  rcases bcase (decide ((2147483647 : Int) < (t.rn.length : Int))) with b8 | b8
  · go_wp2
    go_ret
    exact ⟨false, rfl, HU.out, fun h => (by cases h)⟩
  rcases bcase (decide ((2147483647 : Int) < (t.alpn.length : Int))) with b10 | b10
  · go_wp2
    go_ret
    exact ⟨false, rfl, HU.out, fun h => (by cases h)⟩
  rcases bcase (decide ((2147483647 : Int) < (t.sd.length : Int))) with b14 | b14
  · go_wp2_with fail
    refine H.out.mono ?_
    rintro e w2 ⟨b, rfl, hu2, -⟩
    have hb2 := HB.out.upd hu2 (by simp)
    have d14 := hb2.cell 14
    simp at d14
    have d17 := hb2.cell 17
    simp at d17
    have d18 := hb2.cell 18
    simp at d18
    have d20 := hb2.cell 20
    simp at d20
    clear hb2
    cases b
    all_goals
      go_wp2
      go_ret
      exact ⟨false, rfl, HU.out.trans hu2 (by simp), fun h => (by cases h)⟩
  rcases bcase (decide ((2147483647 : Int) < (t.pts.length : Int))) with b17 | b17
  · go_wp2_with fail
    refine H.out.mono ?_
    rintro e w2 ⟨b, rfl, hu2, -⟩
    have hb2 := HB.out.upd hu2 (by simp)
    have d14 := hb2.cell 14
    simp at d14
    have d17 := hb2.cell 17
    simp at d17
    have d18 := hb2.cell 18
    simp at d18
    have d20 := hb2.cell 20
    simp at d20
    clear hb2
    cases b
    all_goals
      go_wp2
      go_ret
      exact ⟨false, rfl, HU.out.trans hu2 (by simp), fun h => (by cases h)⟩
  rcases bcase (decide ((2147483647 : Int) < (t.ech.length : Int))) with b18 | b18
  · go_wp2_with fail
    refine H.out.mono ?_
    rintro e w2 ⟨b, rfl, hu2, -⟩
    have hb2 := HB.out.upd hu2 (by simp)
    have d14 := hb2.cell 14
    simp at d14
    have d17 := hb2.cell 17
    simp at d17
    have d18 := hb2.cell 18
    simp at d18
    have d20 := hb2.cell 20
    simp at d20
    clear hb2
    cases b
    all_goals
      go_wp2
      go_ret
      exact ⟨false, rfl, HU.out.trans hu2 (by simp), fun h => (by cases h)⟩
  rcases bcase (decide ((2147483647 : Int) < (t.cookie.length : Int))) with b20 | b20
  · go_wp2_with fail
    refine H.out.mono ?_
    rintro e w2 ⟨b, rfl, hu2, -⟩
    have hb2 := HB.out.upd hu2 (by simp)
    have d14 := hb2.cell 14
    simp at d14
    have d17 := hb2.cell 17
    simp at d17
    have d18 := hb2.cell 18
    simp at d18
    have d20 := hb2.cell 20
    simp at d20
    clear hb2
    cases b
    all_goals
      go_wp2
      go_ret
      exact ⟨false, rfl, HU.out.trans hu2 (by simp), fun h => (by cases h)⟩
  have HB1 := hid b1
  have HB2 := hid b2
  have HB8 := hid b8
  have HB10 := hid b10
  have HB14 := hid b14
  have HB17 := hid b17
  have HB18 := hid b18
  have HB20 := hid b20
  go_wp2_with fail
  refine H.out.mono ?_
  rintro e w2 ⟨b, rfl, hu2, hz⟩
  have hb2 := HB.out.upd hu2 (by simp)
  have d14 := hb2.cell 14
  simp at d14
  have d17 := hb2.cell 17
  simp at d17
  have d18 := hb2.cell 18
  simp at d18
  have d20 := hb2.cell 20
  simp at d20
  clear hb2
  cases b
  · go_wp2
    go_ret
    exact ⟨false, rfl, HU.out.trans hu2 (by simp), fun h => (by cases h)⟩
  · go_wp2
    go_ret
    refine ⟨true, rfl, HU.out.trans hu2 (by simp), fun _ => ?_⟩
    have k1 := of_decide_eq_false HB1.out
    have k2 := of_decide_eq_false HB2.out
    have k8 := of_decide_eq_false HB8.out
    have k10 := of_decide_eq_false HB10.out
    have k14 := of_decide_eq_false HB14.out
    have k17 := of_decide_eq_false HB17.out
    have k18 := of_decide_eq_false HB18.out
    have k20 := of_decide_eq_false HB20.out
    exact ⟨by omega, by omega, by omega, by omega, by omega, by omega, by omega, by omega, HK.out⟩
end
end Go.Proofs.Ytcikeghdlolkaaa

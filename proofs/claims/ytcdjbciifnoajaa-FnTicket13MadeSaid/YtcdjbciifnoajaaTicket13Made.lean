/- The law Ticket13Made. -/
import Derived.Test.YtcdjbciifnoajaaTkL
namespace Go.Proofs.Ytcdjbciifnoajaa
open Go.ChangeShapes Go.WideShapes Go.ChangeAt Go.RowKit
set_option maxRecDepth 100000

section
variable {w w' : World} {B C N : Nat} {v content : Value} {xs data : List UInt8} {e : Ending} {t : Tk} {L : List Ex}
theorem tk_made (t : Tk) (h1 : t.nonce.length < 256) (h2 : t.label.length < 65536) (h0 : 0 < t.label.length) : tkSpec (tkMsg t (tkE t)) = (t, ⟨[], 0⟩) := by
  rw [tkSpec_msg t _ h1 h2 h0 (by have := tkE_len t; omega) (tkE_nodup t)]
  exact specE_conv tkRd tkStep _ (tk_conv _) _ _ _ (tk_run t (ListsE.self (tkE_nodup t)))
set_option maxHeartbeats 4000000 in
theorem law_Ticket13Made (hv : TkV w B v t) : Calls Try.prog 4 #[v] w (LawP w) := by
  obtain ⟨A1, c1, A2, c2, rfl, x1, x2⟩ := hv
  obtain ⟨b0, y1, y2, hu0⟩ := TkB.box x1.shrink x2.shrink 25
  obtain ⟨w0, hw0⟩ : ∃ w0, w.alloc (.cells #[uv t.life, uv t.age, .slice A1 t.nonce.length c1, .slice A2 t.label.length c2, uv t.early] 25) = w0 := ⟨_, rfl⟩
  rw [hw0] at b0 y1 y2 hu0
  obtain ⟨s, hs⟩ : ∃ s, w.heap.size = s := ⟨_, rfl⟩
  rw [hs] at b0 y1 y2
  have HF := hid (zzFits8_any (w := w0) (t := t) ⟨A1, c1, A2, c2, rfl, y1, y2⟩)
  have HW := hid hw0
  have HS := hid hs
  clear hw0 hs x1 x2
  obtain ⟨p0, p1, p2, p3, p4, -⟩ := five_cells b0
  go_enter Try.func4, Try.ntmps4
  go_wp2_with fail
  rw [HW.out, HS.out]
  go_wp2_with fail
  refine HF.out.mono ?_
  rintro e w1 ⟨b, rfl, hu1, hb⟩
  cases b
  case false =>
    go_wp2
    go_ret
    exact ⟨rfl, hu0.trans hu1 (by simp)⟩
  obtain ⟨z1, z2⟩ := hb rfl
  have b1 := b0.upd hu1 (by simp)
  have y11 := Row.upd y1 hu1 (by simp)
  have y21 := Row.upd y2 hu1 (by simp)
  have hU1 := hu0.trans hu1 (by simp)
  clear p0 p1 p2 p3 p4 HF hb b0 y1 y2 hu0 hu1
  obtain ⟨p0, p1, p2, p3, p4, -⟩ := five_cells b1
  have hr := RightTicket13_any (w := w1) (t := t) ⟨A1, c1, A2, c2, rfl, y11, y21⟩
  by_cases h0 : 0 < t.label.length
  case neg =>
    rw [decide_eq_false (show ¬ (0 : Int) < (t.label.length : Int) by omega)] at hr
    have HR := hid hr
    clear hr h0 z1 z2
    go_wp2_with fail
    refine HR.out.mono ?_
    rintro e w2 ⟨rfl, hu2⟩
    go_wp2
    go_ret
    exact ⟨rfl, hU1.trans hu2 (by simp)⟩
  rw [decide_eq_true (show (0 : Int) < (t.label.length : Int) by omega)] at hr
  have HR := hid hr
  have Z0 := hid h0
  have Z1 := hid z1
  have Z2 := hid z2
  clear hr h0 z1 z2
  go_wp2_with fail
  refine HR.out.mono ?_
  rintro e w2 ⟨rfl, hu2⟩
  have b2 := b1.upd hu2 (by simp)
  have y12 := Row.upd y11 hu2 (by simp)
  have y22 := Row.upd y21 hu2 (by simp)
  have hU2 := hU1.trans hu2 (by simp)
  clear p0 p1 p2 p3 p4 HR b1 y11 y21 hU1 hu2
  obtain ⟨p0, p1, p2, p3, p4, -⟩ := five_cells b2
  obtain ⟨q, hq⟩ : ∃ q, (!(tkW t (tkExts t)).bad) = q := ⟨_, rfl⟩
  have HQ := hid hq
  clear hq
  go_wp2_with fail
  go_region_held3 (fun w' => w'.cell? ⟨s, 0, none⟩ = some (uv t.life) ∧ w'.cell? ⟨s, 1, none⟩ = some (uv t.age) ∧ w'.cell? ⟨s, 2, none⟩ = some (.slice A1 t.nonce.length c1) ∧ w'.cell? ⟨s, 3, none⟩ = some (.slice A2 t.label.length c2) ∧ w'.cell? ⟨s, 4, none⟩ = some (uv t.early)) (go_keep)
    (first
      | (go_at_call 19; refine (Ticket13Extensions_any (t := t) ⟨A1, c1, A2, c2, rfl, Row.drew y12, Row.drew y22⟩).mono ?_; rintro e w3 ⟨v3, rfl, hE3, hu3⟩; obtain ⟨A3, c3, rfl, hE3, -, -⟩ := hE3.form; have b3 := (b2.drew).upd hu3 (by simp); have y13 := Row.upd (Row.drew y12) hu3 (by simp); have y23 := Row.upd (Row.drew y22) hu3 (by simp); obtain ⟨s0, s1, s2, s3, s4, -⟩ := five_cells b3)
      | (go_at_call 17; refine (WriteTicket13_t (t := t) ⟨A1, c1, A2, c2, rfl, y13, y23⟩ hE3 Z1.out Z2.out (by rw [tkExts_eq]; have := tkE_len t; omega) HQ.out).mono ?_; rintro e w4 ⟨A4, n4, c4, rfl, hy4, hu4⟩; have b4 := b3.upd hu4 (by simp); have y14 := Row.upd y13 hu4 (by simp); have y24 := Row.upd y23 hu4 (by simp); obtain ⟨s0', s1', s2', s3', s4', -⟩ := five_cells b4))
  all_goals
    have hU4 := hid (((hU2.drew).trans hu3 (by simp)).trans hu4 (by simp))
    clear p0 p1 p2 p3 p4 b2 y12 y22 hu3 hE3 b3 y13 y23 s0 s1 s2 s3 s4 hU2 hu4 hy4 s0' s1' s2' s3' s4'
    obtain ⟨p0, p1, p2, p3, p4, -⟩ := five_cells b4
    have hm := impl_MarshalTicket13 (w := w4) (t := t) ⟨A1, c1, A2, c2, rfl, y14, y24⟩ Z1.out Z2.out
    have HQ := HQ.out
    rw [tkW_bad, tkExts_eq] at HQ
    rw [tkMake_eq] at hm
    have hl := tkE_len t
    by_cases hsz : t.nonce.length < 256 ∧ t.label.length < 65536
    case neg =>
      have eq1 : decide (¬ (t.nonce.length < 256 ∧ t.label.length < 65536 ∧ (exsB (tkE t)).length < 65536)) = true := decide_eq_true (fun h => hsz ⟨h.1, h.2.1⟩)
      rw [eq1] at HQ
      rw [if_neg hsz] at hm
      have hq : q = false := HQ.symm
      subst hq
      have HM := hid hm
      clear hm hsz HQ hl eq1
      go_wp2_with fail
      refine HM.out.mono ?_
      rintro e w5 ⟨hu5, rfl⟩
      go_wp2
      go_ret
      exact ⟨rfl, hU4.out.trans hu5 (by simp)⟩
    have eq1 : decide (¬ (t.nonce.length < 256 ∧ t.label.length < 65536 ∧ (exsB (tkE t)).length < 65536)) = false := decide_eq_false (fun h => h ⟨hsz.1, hsz.2, by omega⟩)
    rw [eq1] at HQ
    rw [if_pos hsz] at hm
    have hq : q = true := HQ.symm
    subst hq
    have m2 := tk_made t hsz.1 hsz.2 Z0.out
    have HM := hid hm
    have M2 := hid m2
    clear hm m2 hsz HQ hl eq1
    generalize tkMsg t (tkE t) = bb at HM M2
    go_wp2_with fail
    refine HM.out.mono ?_
    rintro e w5 ⟨hu5, u, rfl, hyb, -, A5, n5, c5, rfl⟩
    have hr := ReadTicket13_any hyb (Nat.le_refl _)
    rw [M2.out] at hr
    have HR := hid hr
    have b5 := b4.upd hu5 (by simp)
    have y15 := Row.upd y14 hu5 (by simp)
    have y25 := Row.upd y24 hu5 (by simp)
    have HYB := hid hyb
    have hU5 := hU4.out.trans hu5 (by simp)
    clear hr HM hyb b4 y14 y24 hu5 hU4 p0 p1 p2 p3 p4
    go_wp2_with fail
    refine HR.out.mono ?_
    rintro e w6 ⟨_, rfl, ⟨A6, c6, A7, c7, rfl, y3, y4⟩, hu6⟩
    have y3 : Byt w6 w5.heap.size (.slice A6 t.nonce.length c6) t.nonce := y3
    have y4 : Byt w6 w5.heap.size (.slice A7 t.label.length c7) t.label := y4
    have b7 := (b5.upd hu6 (by simp)).alloc (.cells #[uv t.life, uv t.age, .slice A6 t.nonce.length c6, .slice A7 t.label.length c7, uv t.early] 25)
    have y1 := Row.alloc (Row.upd y15 hu6 (by simp)) (.cells #[uv t.life, uv t.age, .slice A6 t.nonce.length c6, .slice A7 t.label.length c7, uv t.early] 25)
    have y2 := Row.alloc (Row.upd y25 hu6 (by simp)) (.cells #[uv t.life, uv t.age, .slice A6 t.nonce.length c6, .slice A7 t.label.length c7, uv t.early] 25)
    have y3 := Row.alloc y3 (.cells #[uv t.life, uv t.age, .slice A6 t.nonce.length c6, .slice A7 t.label.length c7, uv t.early] 25)
    have y4 := Row.alloc y4 (.cells #[uv t.life, uv t.age, .slice A6 t.nonce.length c6, .slice A7 t.label.length c7, uv t.early] 25)
    have hU7 := (hU5.trans hu6 (by simp)).alloc (.cells #[uv t.life, uv t.age, .slice A6 t.nonce.length c6, .slice A7 t.label.length c7, uv t.early] 25)
    obtain ⟨p0, p1, p2, p3, p4, -⟩ := five_cells b7
    have HT := hid (SameTicket13_eq (t := t) ⟨A6, c6, A7, c7, rfl, y3, y4⟩ ⟨A1, c1, A2, c2, rfl, y1, y2⟩)
    clear b5 b7 y15 y25 y1 y2 y3 y4 hU5 hu6 HR
    go_wp2_with fail
    refine HT.out.mono ?_
    rintro e w8 ⟨rfl, hu8⟩
    go_wp2
    go_ret
    exact ⟨rfl, hU7.trans hu8 (by simp)⟩
end
set_option maxRecDepth 100000 in
theorem lifted_Ticket13Made (os : Os) (started : os.Started) (H : Type) (enc : TypeId × Value → H) :
    ReturnsInHanded {} Try.checked os 4 .any (Rows.fnTicket13MadeSpec.pre6 enc Try.prog Try.f4 Rows.fnTicket13MadeRow.domain false) (Rows.fnTicket13MadeSpec.post enc Try.prog Try.f4 false true false false) := by
  refine returnsInHanded_of_change (C := Try.checked) own started (by kernel_rfl) Try.func4
    (ChangeSpec.witness6 (enc := enc) (C := Try.checked) false ⟨#[], #[.agg #[.int .u32 0, .int .u32 0, .slice none 0 0, .slice none 0 0, .int .u32 0]], []⟩ 8 (by kernel_rfl) (by kernel_rfl) (by kernel_rfl) (by kernel_rfl)) ?_
  intro W base args ds gs before hval0 hW hcnd _
  have hval : ∀ (j : Nat) t v, Try.f4.params[j]? = some t → args[j]? = some v → Value.okWide Try.prog W .any base t v := hval0
  have hW' := hW
  obtain ⟨p, q, hA0, hV, rfl, hfz, hnd⟩ := hW
  have hA : DataW.TrodAll enc Try.prog W 0 (fun _ => true) true Try.f4.params.toList args.toList ds p := hA0
  rw [Try.params4] at hA hval
  obtain ⟨v0, vs0, d0, ds0, p0, q0, hargs, rfl, rfl, h0, r0⟩ := trodAll_cons hA
  obtain ⟨rfl, rfl, rfl⟩ := trodAll_nil r0
  obtain rfl : args = #[v0] := by cases args; simp_all
  obtain ⟨m, y0⟩ := open_tk (hval 0 25 _ rfl rfl) h0
  exact (law_Ticket13Made y0).mono fun e W' h => law_post hW' rfl rfl (by kernel_rfl) (by kernel_rfl) h
theorem Ticket13Made_holds : Rows.FnTicket13MadeSaid :=
  OpenClaim.holds_of_wide 4 Try.f4 rfl rfl rfl rfl rfl rfl rfl ⟨rfl, rfl, rfl, rfl, rfl⟩ rfl rfl rfl rfl rfl (by kernel_rfl) Try.func4 (by kernel_rfl)
    (of_decide_eq_true (by kernel_rfl)) (by unfold Func.isWrapper; first | (rw [if_pos (by decide +kernel)]; kernel_rfl) | (rw [if_neg (by decide +kernel)]; exact ⟨rfl, rfl⟩))
    (fun os started H enc _ => lifted_Ticket13Made os started H enc)
end Go.Proofs.Ytcdjbciifnoajaa

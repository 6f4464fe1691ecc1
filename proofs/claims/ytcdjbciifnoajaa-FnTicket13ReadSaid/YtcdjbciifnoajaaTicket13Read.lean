/- The law Ticket13Read. -/
import Derived.Test.YtcdjbciifnoajaaTkL
namespace Go.Proofs.Ytcdjbciifnoajaa
open Go.ChangeShapes Go.WideShapes Go.ChangeAt Go.RowKit
set_option maxRecDepth 100000

section
variable {w w' : World} {B C N : Nat} {v content : Value} {xs data : List UInt8} {e : Ending} {t : Tk} {L : List Ex} {more : List (List UInt8)} {v2 : Value}
theorem exsB_size (l : List Ex) : (exsB l).length = (l.map fun e => 4 + e.2.length).sum := by
  induction l with
  | nil => rfl
  | cons e l ih => rw [exsB_cons, List.length_append, exB_len, ih]; rfl
theorem exsB_perm {l l' : List Ex} (h : l.Perm l') : (exsB l).length = (exsB l').length := by
  rw [exsB_size, exsB_size]
  exact (h.map _).sum_nat
theorem exsB_le (M : Nat) : ∀ (l : List Ex), (∀ e ∈ l, e.2.length ≤ M) → (exsB l).length ≤ l.length * (4 + M)
  | [], _ => by simp [exsB]
  | e :: l, h => by
    have h1 := h e (by simp)
    have h2 := exsB_le M l (fun x hx => h x (by simp [hx]))
    rw [exsB_cons, List.length_append, exB_len, List.length_cons, Nat.add_mul]
    omega
theorem unknownGo_data (M : Nat) : ∀ (i : Nat) (l : List (List UInt8)), (∀ x ∈ l, x.length ≤ M) → ∀ e ∈ unknownGo i l, e.2.length ≤ M
  | _, [], _, e, he => by cases he
  | i, x :: l, h, e, he => by
    rcases List.mem_cons.1 he with he | he
    · rw [he]; exact h x (by simp)
    · exact unknownGo_data M (i + 1) l (fun y hy => h y (by simp [hy])) e he
theorem ordered_size (E : List Ex) (f : Nat) {more : List (List UInt8)} (hm : more.length ≤ 8) (hx : ∀ x ∈ more, x.length ≤ 2147483647) : (exsB (ordered E f more)).length ≤ (exsB E).length + 17179869208 := by
  rw [exsB_perm (ordered_perm E f more), exsB_append, List.length_append]
  have h1 : ∀ e ∈ (unknown more).take E.length, e.2.length ≤ 2147483647 := fun e he => unknownGo_data _ 0 more hx e (List.mem_of_mem_take he)
  have h2 := exsB_le _ _ h1
  have h3 : ((unknown more).take E.length).length ≤ 8 := by
    rw [List.length_take, unknown, unknownGo_len]; omega
  have h4 := Nat.mul_le_mul_right (4 + 2147483647) h3
  omega
theorem tkE_low (t : Tk) : ∀ e ∈ tkE t, e.1.toNat < 43520 ∨ 44520 ≤ e.1.toNat := by
  unfold tkE
  split
  · intro e he; simp at he; subst he; left; show (42 : UInt16).toNat < 43520; decide
  · intro e he; cases he
theorem tkE_le (t : Tk) : (tkE t).length ≤ 1 := by unfold tkE; split <;> simp
set_option maxHeartbeats 4000000 in
theorem law_Ticket13Read (hv : TkV w B v t) (n : Int) (wn : (Lit.int .i64 n).wf = true) (hm : Lst w C v2 more) : Calls Try.prog 3 #[v, .int .i64 n, v2] w (LawP w) := by
  obtain ⟨A1, c1, A2, c2, rfl, x1, x2⟩ := hv
  obtain ⟨A9, c9, rfl, hm, -, -⟩ := hm.shrink.form
  obtain ⟨b0, y1, y2, hu0⟩ := TkB.box x1.shrink x2.shrink 25
  obtain ⟨w0, hw0⟩ : ∃ w0, w.alloc (.cells #[uv t.life, uv t.age, .slice A1 t.nonce.length c1, .slice A2 t.label.length c2, uv t.early] 25) = w0 := ⟨_, rfl⟩
  rw [hw0] at b0 y1 y2 hu0
  obtain ⟨s, hs⟩ : ∃ s, w.heap.size = s := ⟨_, rfl⟩
  rw [hs] at b0 y1 y2
  have hm0 := hm.upd hu0 (by simp)
  rw [hs] at hm0
  have HF := hid (zzFits8_any (w := w0) (t := t) ⟨A1, c1, A2, c2, rfl, y1, y2⟩)
  have HW := hid hw0
  have HS := hid hs
  clear hw0 hs x1 x2
  obtain ⟨p0, p1, p2, p3, p4, -⟩ := five_cells b0
  go_enter Try.func3, Try.ntmps3
  go_wp2_with fail
  rw [HW.out, HS.out]
  go_wp2_with fail
  refine HF.out.mono ?_
  rintro e w1 ⟨b, rfl, hu1, hb⟩
  cases b
  case false =>
    go_wp2
    go_ret
    exact ⟨rfl, hu0.trans hu1 (by simp)⟩
  obtain ⟨z1, z2⟩ := hb rfl
  have b1 := b0.upd hu1 (by simp)
  have y11 := Row.upd y1 hu1 (by simp)
  have y21 := Row.upd y2 hu1 (by simp)
  have hU1 := hu0.trans hu1 (by simp)
  have hm1 := hm0.upd hu1 (by simp)
  have HF2 := hid (zzFits2_any hm1)
  clear p0 p1 p2 p3 p4 HF hb b0 y1 y2 hu0 hu1 hm hm0
  obtain ⟨p0, p1, p2, p3, p4, -⟩ := five_cells b1
  go_wp2_with fail
  refine HF2.out.mono ?_
  rintro e w1' ⟨b, rfl, hu1, hb⟩
  cases b
  case false =>
    go_wp2
    go_ret
    exact ⟨rfl, hU1.trans hu1 (by simp)⟩
  obtain ⟨-, z3⟩ := hb rfl
  have Z3 := hid z3
  have b1 := b1.upd hu1 (by simp)
  have y11 := Row.upd y11 hu1 (by simp)
  have y21 := Row.upd y21 hu1 (by simp)
  have hU1 := hU1.trans hu1 (by simp)
  have hm1 := hm1.upd hu1 (by simp)
  clear p0 p1 p2 p3 p4 HF2 hb hu1 z3
  obtain ⟨p0, p1, p2, p3, p4, -⟩ := five_cells b1
  have hr := RightTicket13_any (w := w1') (t := t) ⟨A1, c1, A2, c2, rfl, y11, y21⟩
  by_cases h0 : 0 < t.label.length
  case neg =>
    rw [decide_eq_false (show ¬ (0 : Int) < (t.label.length : Int) by omega)] at hr
    have HR := hid hr
    clear hr h0 z1 z2
    go_wp2_with fail
    refine HR.out.mono ?_
    rintro e w2 ⟨rfl, hu2⟩
    go_wp2
    go_ret
    exact ⟨rfl, hU1.trans hu2 (by simp)⟩
  rw [decide_eq_true (show (0 : Int) < (t.label.length : Int) by omega)] at hr
  have HR := hid hr
  have Z0 := hid h0
  have Z1 := hid z1
  have Z2 := hid z2
  clear hr h0 z1 z2
  by_cases hn : n < 0
  · have dn : decide (n < 0) = true := decide_eq_true hn
    clear hn
    go_wp2_with fail
    refine HR.out.mono ?_
    rintro e w2 ⟨rfl, hu2⟩
    go_wp2
    go_ret
    exact ⟨rfl, hU1.trans hu2 (by simp)⟩
  have dn : decide (n < 0) = false := decide_eq_false hn
  obtain ⟨f, rfl⟩ : ∃ f : Nat, n = (f : Int) := ⟨n.toNat, by omega⟩
  have hf : f ≤ 9223372036854775807 := by have := bounds_i64 wn; omega
  have HFB := hid hf
  clear hn wn hf
  by_cases hml : 8 < more.length
  · have dm : decide ((8 : Int) < (more.length : Int)) = true := decide_eq_true (by omega)
    clear hml
    go_wp2_with fail
    refine HR.out.mono ?_
    rintro e w2 ⟨rfl, hu2⟩
    go_wp2
    go_ret
    exact ⟨rfl, hU1.trans hu2 (by simp)⟩
  have dm : decide ((8 : Int) < (more.length : Int)) = false := decide_eq_false (by omega)
  have HML := hid hml
  clear hml
  go_wp2_with fail
  refine HR.out.mono ?_
  rintro e w2 ⟨rfl, hu2⟩
  have hm2 := hm1.upd hu2 (by simp)
  have b2 := b1.upd hu2 (by simp)
  have y12 := Row.upd y11 hu2 (by simp)
  have y22 := Row.upd y21 hu2 (by simp)
  have hU2 := hU1.trans hu2 (by simp)
  clear p0 p1 p2 p3 p4 HR b1 y11 y21 hU1 hu2 hm1
  obtain ⟨p0, p1, p2, p3, p4, -⟩ := five_cells b2
  obtain ⟨q, hq⟩ : ∃ q, (!(tkW t (ordered (tkExts t) f more)).bad) = q := ⟨_, rfl⟩
  have HQ := hid hq
  clear hq
  go_wp2_with fail
  go_region_held3 (fun w' => w'.cell? ⟨s, 0, none⟩ = some (uv t.life) ∧ w'.cell? ⟨s, 1, none⟩ = some (uv t.age) ∧ w'.cell? ⟨s, 2, none⟩ = some (.slice A1 t.nonce.length c1) ∧ w'.cell? ⟨s, 3, none⟩ = some (.slice A2 t.label.length c2) ∧ w'.cell? ⟨s, 4, none⟩ = some (uv t.early)) (go_keep)
    (first
      | (go_at_call 19; refine (Ticket13Extensions_any (t := t) ⟨A1, c1, A2, c2, rfl, Row.drew y12, Row.drew y22⟩).mono ?_; rintro e w3 ⟨v3, rfl, hE3, hu3⟩; obtain ⟨A3, c3, rfl, hE3, -, -⟩ := hE3.form; have b3 := (b2.drew).upd hu3 (by simp); have y13 := Row.upd (Row.drew y12) hu3 (by simp); have y23 := Row.upd (Row.drew y22) hu3 (by simp); obtain ⟨s0, s1, s2, s3, s4, -⟩ := five_cells b3; have hm3 := (hm2.upd ((Upd.refl [] _).drew) (by simp)).upd hu3 (by simp))
      | (go_at_call 18; refine (Ordered_any hE3 f HFB.out hm3 (by rw [tkExts_eq]; have := tkE_le t; omega) (by have := HML.out; omega)).mono ?_; rintro e w3' ⟨v3', rfl, hE3', hu3'⟩; have hE3' := hE3'.exr; obtain ⟨A3', c3', rfl, hE3', -, -⟩ := hE3'.form; have b3' := b3.upd hu3' (by simp); have y13' := Row.upd y13 hu3' (by simp); have y23' := Row.upd y23 hu3' (by simp); obtain ⟨t0, t1, t2, t3, t4, -⟩ := five_cells b3')
      | (go_at_call 17; refine (WriteTicket13_t (t := t) ⟨A1, c1, A2, c2, rfl, y13', y23'⟩ hE3' Z1.out Z2.out (by have := ordered_size (tkExts t) f (more := more) (by have := HML.out; omega) Z3.out; rw [tkExts_eq] at this ⊢; have := tkE_len t; omega) HQ.out).mono ?_; rintro e w4 ⟨A4, n4, c4, rfl, hy4, hu4⟩; have b4 := b3'.upd hu4 (by simp); have y14 := Row.upd y13' hu4 (by simp); have y24 := Row.upd y23' hu4 (by simp); obtain ⟨s0', s1', s2', s3', s4', -⟩ := five_cells b4))
  all_goals
    have hU4 := hid ((((hU2.drew).trans hu3 (by simp)).trans hu3' (by simp)).trans hu4 (by simp))
    clear p0 p1 p2 p3 p4 b2 y12 y22 hu3 hE3 b3 y13 y23 s0 s1 s2 s3 s4 hU2 hu4 hm2 hm3 hE3' hu3' b3' y13' y23' t0 t1 t2 t3 t4
    cases q
    case false =>
      go_wp2
      go_ret
      exact ⟨rfl, hU4.out⟩
    have HQ := HQ.out
    rw [tkW_bad] at HQ
    have hsz : t.nonce.length < 256 ∧ t.label.length < 65536 ∧ (exsB (ordered (tkExts t) f more)).length < 65536 := by
      by_cases h : t.nonce.length < 256 ∧ t.label.length < 65536 ∧ (exsB (ordered (tkExts t) f more)).length < 65536
      · exact h
      · have eq1 : decide (¬ (t.nonce.length < 256 ∧ t.label.length < 65536 ∧ (exsB (ordered (tkExts t) f more)).length < 65536)) = true := decide_eq_true h
        rw [eq1] at HQ; cases HQ
    clear HQ
    have m2 : tkRead (tkMsg t (ordered (tkExts t) f more)) = some t := by
      rw [tkRead_msg t _ hsz.1 hsz.2.1 hsz.2.2, tkExts_eq]
      exact tk_run t (ordered_lists (tkE_nodup t) (tkE_low t) f more (by have := HML.out; omega))
    have hr := impl_UnmarshalTicket13 hy4 (Nat.le_refl _)
    rw [m2] at hr
    clear m2 hsz hy4
    have HR := hid hr
    have b5 := b4
    have y15 := y14
    have y25 := y24
    have hU5 := hU4.out
    clear hr b4 y14 y24 hU4 s0' s1' s2' s3' s4'
    go_wp2_with fail
    refine HR.out.mono ?_
    rintro e w6 ⟨_, rfl, ⟨A6, c6, A7, c7, rfl, y3, y4⟩, hu6⟩
    have y3 : Byt w6 w4.heap.size (.slice A6 t.nonce.length c6) t.nonce := y3
    have y4 : Byt w6 w4.heap.size (.slice A7 t.label.length c7) t.label := y4
    have b7 := (b5.upd hu6 (by simp)).alloc (.cells #[uv t.life, uv t.age, .slice A6 t.nonce.length c6, .slice A7 t.label.length c7, uv t.early] 25)
    have y1 := Row.alloc (Row.upd y15 hu6 (by simp)) (.cells #[uv t.life, uv t.age, .slice A6 t.nonce.length c6, .slice A7 t.label.length c7, uv t.early] 25)
    have y2 := Row.alloc (Row.upd y25 hu6 (by simp)) (.cells #[uv t.life, uv t.age, .slice A6 t.nonce.length c6, .slice A7 t.label.length c7, uv t.early] 25)
    have y3 := Row.alloc y3 (.cells #[uv t.life, uv t.age, .slice A6 t.nonce.length c6, .slice A7 t.label.length c7, uv t.early] 25)
    have y4 := Row.alloc y4 (.cells #[uv t.life, uv t.age, .slice A6 t.nonce.length c6, .slice A7 t.label.length c7, uv t.early] 25)
    have hU7 := (hU5.trans hu6 (by simp)).alloc (.cells #[uv t.life, uv t.age, .slice A6 t.nonce.length c6, .slice A7 t.label.length c7, uv t.early] 25)
    obtain ⟨p0, p1, p2, p3, p4, -⟩ := five_cells b7
    have HT := hid (SameTicket13_eq (t := t) ⟨A6, c6, A7, c7, rfl, y3, y4⟩ ⟨A1, c1, A2, c2, rfl, y1, y2⟩)
    clear b5 b7 y15 y25 y1 y2 y3 y4 hU5 hu6 HR
    go_wp2_with fail
    refine HT.out.mono ?_
    rintro e w8 ⟨rfl, hu8⟩
    go_wp2
    go_ret
    exact ⟨rfl, hU7.trans hu8 (by simp)⟩
end
set_option maxRecDepth 100000 in
theorem lifted_Ticket13Read (os : Os) (started : os.Started) (H : Type) (enc : TypeId × Value → H) :
    ReturnsInHanded {} Try.checked os 3 .any (Rows.fnTicket13ReadSpec.pre6 enc Try.prog Try.f3 Rows.fnTicket13ReadRow.domain false) (Rows.fnTicket13ReadSpec.post enc Try.prog Try.f3 false true false false) := by
  refine returnsInHanded_of_change (C := Try.checked) own started (by kernel_rfl) Try.func3
    (ChangeSpec.witness6 (enc := enc) (C := Try.checked) false ⟨#[], #[.agg #[.int .u32 0, .int .u32 0, .slice none 0 0, .slice none 0 0, .int .u32 0], .int .i64 0, .slice none 0 0], []⟩ 8 (by kernel_rfl) (by kernel_rfl) (by kernel_rfl) (by kernel_rfl)) ?_
  intro W base args ds gs before hval0 hW hcnd _
  have hval : ∀ (j : Nat) t v, Try.f3.params[j]? = some t → args[j]? = some v → Value.okWide Try.prog W .any base t v := hval0
  have hW' := hW
  obtain ⟨p, q, hA0, hV, rfl, hfz, hnd⟩ := hW
  have hA : DataW.TrodAll enc Try.prog W 0 (fun _ => true) true Try.f3.params.toList args.toList ds p := hA0
  rw [Try.params3] at hA hval
  obtain ⟨v0, vs0, d0, ds0, p0, q0, hargs, rfl, rfl, h0, r0⟩ := trodAll_cons hA
  obtain ⟨v1, vs1, d1, ds1, p1, q1, rfl, rfl, rfl, h1, r1⟩ := trodAll_cons r0
  obtain ⟨v2, vs2, d2, ds2, p2, q2, rfl, rfl, rfl, h2, r2⟩ := trodAll_cons r1
  obtain ⟨rfl, rfl, rfl⟩ := trodAll_nil r2
  obtain rfl : args = #[v0, v1, v2] := by cases args; simp_all
  obtain ⟨m, y0⟩ := open_tk (hval 0 25 _ rfl rfl) h0
  obtain ⟨first, rfl, rfl, rfl, w1⟩ := open_int Try.underlying3 (hval 1 3 _ rfl rfl) h1
  obtain ⟨more, y2⟩ := open_lists (hval 2 26 _ rfl rfl) h2
  exact (law_Ticket13Read y0 first w1 y2).mono fun e W' h => law_post hW' rfl rfl (by kernel_rfl) (by kernel_rfl) h
theorem Ticket13Read_holds : Rows.FnTicket13ReadSaid :=
  OpenClaim.holds_of_wide 3 Try.f3 rfl rfl rfl rfl rfl rfl rfl ⟨rfl, rfl, rfl, rfl, rfl⟩ rfl rfl rfl rfl rfl (by kernel_rfl) Try.func3 (by kernel_rfl)
    (of_decide_eq_true (by kernel_rfl)) (by unfold Func.isWrapper; first | (rw [if_pos (by decide +kernel)]; kernel_rfl) | (rw [if_neg (by decide +kernel)]; exact ⟨rfl, rfl⟩))
    (fun os started H enc _ => lifted_Ticket13Read os started H enc)
end Go.Proofs.Ytcdjbciifnoajaa

/- The law EmptyMade. -/
import Derived.Test.YtnghnifihnjfeaaEmpty
namespace Go.Proofs.Ytnghnifihnjfeaa
open Go.ChangeShapes Go.WideShapes Go.ChangeAt Go.RowKit
set_option maxRecDepth 100000

theorem empty_eq (i : Nat) (hi : i < 3) : (messageW (kindE i) ⟨[], false⟩).b = bytesE i ∧ (messageW (kindE i) ⟨[], false⟩).bad = false := by
  have h3 : i = 0 ∨ i = 1 ∨ i = 2 := by omega
  rcases h3 with rfl | rfl | rfl <;> exact ⟨rfl, rfl⟩
theorem empty_len (i : Nat) (xs : List UInt8) : (messageW (kindE i) ⟨xs, false⟩).b.length = 4 + xs.length := by
  rw [message_eq]
  simp [be_len]
  omega

section
variable {w w' : World} {B : Nat} {v content : Value} {xs data : List UInt8} {e : Ending}
theorem law_EmptyMadeN {B : Nat} (i : Nat) (hi : i < 3) (hc : Byt w B content xs) (hx : xs.length ≤ 2147483647) : Calls Try.prog 5 #[.int .i64 (i : Int), content] w (LawP w) := by
  obtain ⟨A, c, rfl, hc, hl, hcc⟩ := Byt.form hc rfl
  have hb : decide ((2147483647 : Int) < (xs.length : Int)) = false := decide_eq_false (by omega)
  have HE := hid (empty_eq i hi)
  have HL := hid (empty_len i xs)
  have HX := hid hx
  have hcell : ∀ w1 : World, Upd [] (w.alloc (.cells #[.int .i64 0, .int .i64 14, .int .i64 5] 3)) w1 → w1.cell? ⟨w.heap.size, i, none⟩ = some (.int .i64 (kindE i : Int)) := by
    intro w1 hu
    have hbk := (Blk.new w 3 #[.int .i64 0, .int .i64 14, .int .i64 5]).upd hu (by simp)
    have := hbk.cell i
    rw [this]
    have h3 : i = 0 ∨ i = 1 ∨ i = 2 := by omega
    rcases h3 with rfl | rfl | rfl <;> rfl
  have HC := hid hcell
  clear hcell hx
  go_enter Try.func5, Try.ntmps5
  go_wp2_with fail
  refine empties_any.mono ?_
  rintro e w0 ⟨rfl, rfl⟩
  have hu0 : Upd [] w (w.alloc (.cells #[.int .i64 0, .int .i64 14, .int .i64 5] 3)) := (Upd.refl _ _).alloc _
  have c0 := HC.out _ (Upd.refl _ _)
  have hg : ¬ ((i : Int) ≥ 3) := by omega
  go_wp2_with fail
  refine (WritePlain_any (B := 0) (xs := []) (kindE i) (Row.nil_ _ _) (by simp)).mono ?_
  rintro e w1 ⟨v1, rfl, hb1, -, ⟨A1, n1, c1, rfl⟩, hu1⟩
  rw [HE.out.1] at hb1
  rw [HE.out.2]
  have H2 := hid (impl_MarshalEmpty (w := w1) i hi)
  go_wp2_with fail
  refine H2.out.mono ?_
  rintro e w2 ⟨hu2, u, rfl, hb2, -, A2, n2, c2, rfl⟩
  have hu02 := hu0.trans (hu1.trans hu2 (by simp)) (by simp)
  have c2' := HC.out w2 (hu1.trans hu2 (by simp))
  have H3 := hid (WritePlain_any (kindE i) (Row.upd (Row.shrink hc) hu02 (by simp)) (by have := HX.out; omega))
  go_wp2_with fail
  refine H3.out.mono ?_
  rintro e w3 ⟨v3, rfl, hb3, -, ⟨A3, n3, c3, rfl⟩, hu3⟩
  have hb23 := Row.upd hb2 hu3 (by simp)
  have h4 := Same_any hb23 (Row.upd hb1 (hu2.trans hu3 (by simp)) (by simp))
  rw [beq_self_eq_true] at h4
  have H4 := hid h4
  clear h4
  go_wp2_with fail
  refine H4.out.mono ?_
  rintro e w4 ⟨rfl, rfl⟩
  have h5 := impl_UnmarshalEmpty i hi hb23
  have e5 : decide ((bytesE i).length = 4) = true := rfl
  unfold Is4P at h5
  rw [e5] at h5
  have H5 := hid h5
  clear h5
  go_wp2_with fail
  refine H5.out.mono ?_
  rintro e w5 ⟨rfl, hu5⟩
  have h6 := impl_UnmarshalEmpty i hi (Row.upd hb3 hu5 (by simp))
  have e6 : decide ((messageW (kindE i) ⟨xs, false⟩).b.length = 4) = ((xs.length : Int) == 0) := by
    rw [HL.out, Bool.eq_iff_iff]; simp
  unfold Is4P at h6
  rw [e6] at h6
  have H6 := hid h6
  clear h6
  go_wp2_with fail
  refine H6.out.mono ?_
  rintro e w6 ⟨rfl, hu6⟩
  go_wp2
  go_ret
  exact ⟨by simp, (hu02.trans (hu3.trans hu5 (by simp)) (by simp)).trans hu6 (by simp)⟩

theorem law_EmptyMade {B : Nat} (which : Int) (wa : (Lit.int .i64 which).wf = true) (hc : Byt w B content xs) : Calls Try.prog 5 #[.int .i64 which, content] w (LawP w) := by
  by_cases hbig : 2147483647 < xs.length
  · obtain ⟨A, c, rfl, hc, hl, hcc⟩ := Byt.form hc rfl
    have hb : decide ((2147483647 : Int) < (xs.length : Int)) = true := decide_eq_true (by omega)
    clear hbig
    go_enter Try.func5, Try.ntmps5
    go_wp2
    go_ret
    exact ⟨rfl, Upd.refl _ _⟩
  · by_cases h0 : which < 0
    · obtain ⟨A, c, rfl, hc, hl, hcc⟩ := Byt.form hc rfl
      have hb : decide ((2147483647 : Int) < (xs.length : Int)) = false := decide_eq_false (by omega)
      clear hbig
      go_enter Try.func5, Try.ntmps5
      go_wp2_with fail
      refine empties_any.mono ?_
      rintro e w0 ⟨rfl, rfl⟩
      go_wp2_with fail
      refine alive_any.mono ?_
      rintro e w1 ⟨rfl, hu⟩
      go_wp2
      go_ret
      exact ⟨rfl, ((Upd.refl [] w).alloc _).trans hu (by simp)⟩
    · by_cases h3 : which < 3
      · obtain ⟨n, rfl⟩ : ∃ n : Nat, which = (n : Int) := ⟨which.toNat, by omega⟩
        exact law_EmptyMadeN n (by omega) hc (by omega)
      · obtain ⟨A, c, rfl, hc, hl, hcc⟩ := Byt.form hc rfl
        have hb : decide ((2147483647 : Int) < (xs.length : Int)) = false := decide_eq_false (by omega)
        clear hbig
        have h3' : which ≥ 3 := by omega
        go_enter Try.func5, Try.ntmps5
        go_wp2_with fail
        refine empties_any.mono ?_
        rintro e w0 ⟨rfl, rfl⟩
        go_wp2_with fail
        refine alive_any.mono ?_
        rintro e w1 ⟨rfl, hu⟩
        go_wp2
        go_ret
        exact ⟨rfl, ((Upd.refl [] w).alloc _).trans hu (by simp)⟩
end
set_option maxRecDepth 100000 in
theorem lifted_EmptyMade (os : Os) (started : os.Started) (H : Type) (enc : TypeId × Value → H) :
    ReturnsInHanded {} Try.checked os 5 .any (Rows.fnEmptyMadeSpec.pre6 enc Try.prog Try.f5 Rows.fnEmptyMadeRow.domain false) (Rows.fnEmptyMadeSpec.post enc Try.prog Try.f5 false true false false) := by
  refine returnsInHanded_of_change (C := Try.checked) own started (by kernel_rfl) Try.func5
    (ChangeSpec.witness6 (enc := enc) (C := Try.checked) false ⟨#[], #[.int .i64 0, .slice none 0 0], []⟩ 8 (by kernel_rfl) (by kernel_rfl) (by kernel_rfl) (by kernel_rfl)) ?_
  intro W base args ds gs before hval0 hW hcnd _
  have hval : ∀ (j : Nat) t v, Try.f5.params[j]? = some t → args[j]? = some v → Value.okWide Try.prog W .any base t v := hval0
  have hW' := hW
  obtain ⟨p, q, hA0, hV, rfl, hfz, hnd⟩ := hW
  have hA : DataW.TrodAll enc Try.prog W 0 (fun _ => true) true Try.f5.params.toList args.toList ds p := hA0
  rw [Try.params5] at hA hval
  obtain ⟨v0, vs0, d0, ds0, p0, q0, hargs, rfl, rfl, h0, r0⟩ := trodAll_cons hA
  obtain ⟨v1, vs1, d1, ds1, p1, q1, rfl, rfl, rfl, h1, r1⟩ := trodAll_cons r0
  obtain ⟨rfl, rfl, rfl⟩ := trodAll_nil r1
  obtain rfl : args = #[v0, v1] := by cases args; simp_all
  obtain ⟨which, rfl, rfl, rfl, w0⟩ := open_int Try.underlying3 (hval 0 3 _ rfl rfl) h0
  obtain ⟨more, y1⟩ := open_bytes (hval 1 22 _ rfl rfl) h1
  exact (law_EmptyMade which w0 y1).mono fun e W' h => law_post hW' rfl rfl (by kernel_rfl) (by kernel_rfl) h
theorem EmptyMade_holds : Rows.FnEmptyMadeSaid :=
  OpenClaim.holds_of_wide 5 Try.f5 rfl rfl rfl rfl rfl rfl rfl ⟨rfl, rfl, rfl, rfl, rfl⟩ rfl rfl rfl rfl rfl (by kernel_rfl) Try.func5 (by kernel_rfl)
    (of_decide_eq_true (by kernel_rfl)) (by unfold Func.isWrapper; first | (rw [if_pos (by decide +kernel)]; kernel_rfl) | (rw [if_neg (by decide +kernel)]; exact ⟨rfl, rfl⟩))
    (fun os started H enc _ => lifted_EmptyMade os started H enc)
end Go.Proofs.Ytnghnifihnjfeaa

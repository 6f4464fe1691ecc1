/- The law UpdateMade. -/
import Derived.Test.YtnghnifihnjfeaaKeyUpdateR
import Derived.Test.YtnghnifihnjfeaaLift
namespace Go.Proofs.Ytnghnifihnjfeaa
open Go.ChangeShapes Go.WideShapes Go.ChangeAt Go.RowKit
set_option maxRecDepth 100000

section
variable {w w' : World} {v : Value} {xs bs data : List UInt8} {e : Ending}
theorem kuRead_kuBytes (b : Bool) : kuRead (kuBytes b) = some b := by cases b <;> rfl

theorem law_UpdateMade (b : Bool) : Calls Try.prog 7 #[.bool b] w (LawP w) := by
  have H1 := hid (impl_MarshalKeyUpdate (w := w) b)
  go_enter Try.func7, Try.ntmps7
  go_wp2_with fail
  refine H1.out.mono ?_
  rintro e w1 ⟨hu1, u, rfl, hb, -, A, n, c, rfl⟩
  have h2 := impl_UnmarshalKeyUpdate hb
  rw [kuRead_kuBytes] at h2
  have H2 := hid h2
  clear h2
  go_wp2_with fail
  refine H2.out.mono ?_
  rintro e w2 ⟨rfl, hu2⟩
  have H3 := hid (WriteUpdate_any (w := w2) b)
  go_wp2_with fail
  refine H3.out.mono ?_
  rintro e w3 ⟨v, rfl, hb3, hu3⟩
  have h4 := Same_any (Row.upd (Row.upd hb hu2 (by simp)) hu3 (by simp)) hb3
  rw [beq_self_eq_true] at h4
  have H4 := hid h4
  clear h4
  go_wp2_with fail
  refine H4.out.mono ?_
  rintro e w4 ⟨rfl, rfl⟩
  go_wp2
  go_ret
  exact ⟨rfl, (hu1.trans hu2 (by simp)).trans hu3 (by simp)⟩
end

set_option maxRecDepth 100000 in
theorem lifted_UpdateMade (os : Os) (started : os.Started) (H : Type) (enc : TypeId × Value → H) :
    ReturnsInHanded {} Try.checked os 7 .any (Rows.fnUpdateMadeSpec.pre6 enc Try.prog Try.f7 Rows.fnUpdateMadeRow.domain false) (Rows.fnUpdateMadeSpec.post enc Try.prog Try.f7 false true false false) := by
  refine returnsInHanded_of_change (C := Try.checked) own started (by kernel_rfl) Try.func7
    (ChangeSpec.witness6 (enc := enc) (C := Try.checked) false ⟨#[], #[.bool false], []⟩ 8 (by kernel_rfl) (by kernel_rfl) (by kernel_rfl) (by kernel_rfl)) ?_
  intro W base args ds gs before hval0 hW hcnd _
  have hval : ∀ (j : Nat) t v, Try.f7.params[j]? = some t → args[j]? = some v → Value.okWide Try.prog W .any base t v := hval0
  have hW' := hW
  obtain ⟨p, q, hA0, hV, rfl, hfz, hnd⟩ := hW
  have hA : DataW.TrodAll enc Try.prog W 0 (fun _ => true) true Try.f7.params.toList args.toList ds p := hA0
  rw [Try.params7] at hA hval
  obtain ⟨v0, vs0, d0, ds0, p0, q0, hargs, rfl, rfl, h0, r0⟩ := trodAll_cons hA
  obtain ⟨rfl, rfl, rfl⟩ := trodAll_nil r0
  obtain rfl : args = #[v0] := by cases args; simp_all
  obtain ⟨b, rfl, rfl, rfl⟩ := open_bool Try.underlying4 (hval 0 4 _ rfl rfl) h0
  exact (law_UpdateMade b).mono fun e W' h => law_post hW' rfl rfl (by kernel_rfl) (by kernel_rfl) h
theorem UpdateMade_holds : Rows.FnUpdateMadeSaid :=
  OpenClaim.holds_of_wide 7 Try.f7 rfl rfl rfl rfl rfl rfl rfl ⟨rfl, rfl, rfl, rfl, rfl⟩ rfl rfl rfl rfl rfl (by kernel_rfl) Try.func7 (by kernel_rfl)
    (of_decide_eq_true (by kernel_rfl)) (by unfold Func.isWrapper; first | (rw [if_pos (by decide +kernel)]; kernel_rfl) | (rw [if_neg (by decide +kernel)]; exact ⟨rfl, rfl⟩))
    (fun os started H enc _ => lifted_UpdateMade os started H enc)
end Go.Proofs.Ytnghnifihnjfeaa

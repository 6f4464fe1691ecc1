/- The reference reader: rest and protocol (as EeP, over UGen). -/
import Derived.Test.YtcikeghdlolkaaaUGen
import Derived.Test.YtcikeghdlolkaaaEePlain
import Derived.Test.YtcikeghdlolkaaaSpecE
namespace Go.Proofs.Ytcikeghdlolkaaa
open Go.RowKit
set_option maxRecDepth 100000

section
variable {w w' : World} {N r : Nat} {s : R} {e : Ending}
/-- what 'rest' hands back -/
def RestP (w : World) (N r : Nat) (s : R) (e : Ending) (w' : World) : Prop :=
  ∃ A c, e = .returned (.slice A s.rest.1.length c) ∧ Byt w' N (.slice A s.rest.1.length c) s.rest.1 ∧ Upd [r] w w' ∧ Rd w' N r s.rest.2
theorem rest_take (x : R) : x.take x.bs.length = (x.bs, ⟨[], x.code⟩) := by
  unfold R.take
  rw [if_neg (show ¬ x.bs.length < x.bs.length by omega)]
  simp
theorem rest_any (hr : Rd w N r s) (hl : s.bs.length ≤ 4294967296) :
    Calls Try.prog 76 #[.pointer (some ⟨r, 0, none⟩)] w (RestP w N r s) := by
  obtain ⟨A, c, c0, c1, f0, f1, -, -⟩ := hr.open_
  by_cases h0 : s.bs.length = 0
  · have hz : ((s.bs.length : Int) == 0) = true := by rw [h0]; rfl
    have H := hid (fail_any hr 1)
    have HR := hid (show s.rest1 = s.fail 1 by unfold R.rest1; rw [if_pos h0])
    clear h0
    go_enter Try.func76, Try.ntmps76
    go_wp2_with fail
    refine H.out.mono ?_
    rintro e w1 ⟨rfl, hu1, hr1⟩
    obtain ⟨A1, c1', d0, d1, e0, e1, -, -⟩ := hr1.open_
    have H2 := hid (take_any hr1 (s.fail 1).bs.length (by rw [fail_bs]; simp))
    clear H hr c0 c1 f0 f1
    go_wp2_with fail
    refine H2.out.mono ?_
    rintro e w2 ⟨v, rfl, hu2, hr2, -, hy2⟩
    have hy2 := hy2.resolve_left (by omega)
    rw [← HR.out] at hy2 hr2
    obtain ⟨A2, c2, rfl, hy2, -, -⟩ := Byt.form hy2 rfl
    go_wp2
    go_ret
    exact ⟨A2, c2, rfl, hy2, hu1.trans hu2 (by simp), hr2⟩
  · have hz : ((s.bs.length : Int) == 0) = false := by rw [beq_eq_false_iff_ne]; omega
    have HR := hid (show s.rest1 = s by unfold R.rest1; rw [if_neg h0])
    have H2 := hid (take_any hr s.bs.length hl)
    clear h0
    go_enter Try.func76, Try.ntmps76
    go_wp2_with fail
    refine H2.out.mono ?_
    rintro e w2 ⟨v, rfl, hu2, hr2, -, hy2⟩
    have hy2 := hy2.resolve_left (by omega)
    have hy2 : Byt w2 N v s.rest.1 := by unfold R.rest; rw [HR.out]; exact hy2
    have hr2 : Rd w2 N r s.rest.2 := by unfold R.rest; rw [HR.out]; exact hr2
    obtain ⟨A2, c2, rfl, hy2, -, -⟩ := Byt.form hy2 rfl
    go_wp2
    go_ret
    exact ⟨A2, c2, rfl, hy2, hu2, hr2⟩
/-- what 'protocol' hands back -/
def ProtP (w : World) (N r : Nat) (s : R) (e : Ending) (w' : World) : Prop :=
  e = .returned (strv s.protocol.1) ∧ Upd [r] w w' ∧ Rd w' N r s.protocol.2
set_option maxHeartbeats 2000000 in
theorem protocol_any (hr : Rd w N r s) :
    Calls Try.prog 74 #[.pointer (some ⟨r, 0, none⟩)] w (ProtP w N r s) := by
  have hrl := hr.lt
  have hN := hr.1
  have H1 := hid (vec_any hr 2 2 65535 (by omega))
  go_enter Try.func74, Try.ntmps74
  go_wp2_with fail
  refine H1.out.mono ?_
  rintro e w1 ⟨v1, rfl, hu1, hr1, hy1⟩
  obtain ⟨A1, c1, rfl, hy1, -, -⟩ := Byt.form hy1 rfl
  have hs1 := hu1.size
  have H2 := hid (within_any hr1 (N' := N) (by omega) hy1)
  obtain ⟨q, hq⟩ : ∃ q, w1.heap.size = q := ⟨_, rfl⟩
  clear H1
  go_wp2_with fail
  refine H2.out.mono ?_
  rintro e w2 ⟨rfl, hu2, hq2⟩
  rw [hq] at hq2 ⊢
  have hr2 := hr1.upd hu2 (by simp) (by simp)
  have hq2 : Rd w2 N q (prL s) := hq2
  have hU2 := hu1.trans hu2 (by simp)
  have hrq : r < q := by omega
  clear H2 hr1 hy1 hu1 hu2 hr
  have H3 := hid (vec_any hq2 1 1 255 (by omega))
  go_wp2_with fail
  refine H3.out.mono ?_
  rintro e w3 ⟨v3, rfl, hu3, hq3, hy3⟩
  obtain ⟨A3, c3, rfl, hy3, -, -⟩ := Byt.form hy3 rfl
  have hr3 := hr2.upd hu3 (by simp; omega) (by simp; omega)
  have hU3 := hU2.trans hu3 (by simp; omega)
  obtain ⟨A4, c4, d0, d1, e0, e1, -, -⟩ := hq3.open_
  have hp1 : s.protocol.1 = ((prL s).vec 1 1 255).1 := by simp only [R.protocol]
  have hp2 := protocol_2 s
  have hM : prM s = if ((prL s).vec 1 1 255).2.code = 0 ∧ 0 < ((prL s).vec 1 1 255).2.bs.length then ((prL s).vec 1 1 255).2.fail 1 else ((prL s).vec 1 1 255).2 := rfl
  have HP1 := hid hp1
  have HP2 := hid hp2
  have HM := hid hM
  clear hp1 hp2 hM H3 hq2 hu3 hU2 hr2
  generalize ((prL s).vec 1 1 255).2 = l1 at hq3 d0 d1 HM
  generalize ((prL s).vec 1 1 255).1 = p1 at hy3 HP1
  generalize (s.vec 2 2 65535).2 = x1 at hr3 HP2
  -- the end: 'done', and the string
  have hend : ∀ (w4 : World) (y : R), Rd w4 N q y → y = prM s → Rd w4 N r x1 → Byt w4 N (.slice A3 p1.length c3) p1 → Upd [r] w w4 →
      Hid (Calls Try.prog 56 #[.pointer (some ⟨r, 0, none⟩), .pointer (some ⟨q, 0, none⟩)] w4 (fun e w5 => e = .returned (.tuple #[]) ∧ Hid (ProtP w N r s (.returned (strv p1)) w5) ∧ (convert 23 9 (.slice A3 p1.length c3)).run Try.prog w5 = .ok (strv p1) w5)) := by
    intro w4 y hq4 hy hr4 hyb hU4
    refine hid ((done_any hr4 hq4 (by omega) (by omega)).mono ?_)
    rintro e w5 ⟨rfl, hu5, hr5⟩
    rw [hy, ← HP2.out] at hr5
    have hyb5 := Row.upd hyb hu5 (by simp; omega)
    have hU5 := hU4.trans hu5 (by simp; omega)
    exact ⟨rfl, hid ⟨by rw [HP1.out], hU5, hr5⟩, conv_bytes 23 Try.underlying23 hyb5⟩
  have HEND := hid hend
  clear hend
  by_cases h0 : l1.code = 0
  · have t0 : ((l1.code : Int) == 0) = true := by rw [h0]; rfl
    by_cases h1 : 0 < l1.bs.length
    · have t1 : decide (0 < l1.bs.length) = true := decide_eq_true h1
      have HF := hid (fail_any hq3 1)
      have hM1 : l1.fail 1 = prM s := by rw [HM.out, if_pos ⟨h0, h1⟩]
      have HM1 := hid hM1
      clear h0 h1 hM1
      go_wp2_with fail
      refine HF.out.mono ?_
      rintro e w4 ⟨rfl, hu4, hq4⟩
      have hr4 := hr3.upd hu4 (by simp; omega) (by simp; omega)
      have hy4 := Row.upd hy3 hu4 (by simp; omega)
      have hU4 := hU3.trans hu4 (by simp; omega)
      have HD := HEND.out w4 _ hq4 HM1.out hr4 hy4 hU4
      clear hr4 hy4 hq4 hu4 hq3 hy3 hr3 HF d0 d1 e0 e1
      go_wp2_with fail
      refine HD.out.mono ?_
      rintro e w5 ⟨rfl, HX, hcv⟩
      go_wp2
      go_ret
      exact HX.out
    · have t1 : decide (0 < l1.bs.length) = false := decide_eq_false h1
      have hM1 : l1 = prM s := by rw [HM.out, if_neg (fun h => h1 h.2)]
      have HD := HEND.out w3 _ hq3 hM1 hr3 hy3 hU3
      clear h0 h1 hM1 hq3 hy3 hr3
      go_wp2_with fail
      refine HD.out.mono ?_
      rintro e w5 ⟨rfl, HX, hcv⟩
      go_wp2
      go_ret
      exact HX.out
  · have t0 : ((l1.code : Int) == 0) = false := by rw [beq_eq_false_iff_ne]; omega
    have hM1 : l1 = prM s := by rw [HM.out, if_neg (fun h => h0 h.1)]
    have HD := HEND.out w3 _ hq3 hM1 hr3 hy3 hU3
    clear h0 hM1 hq3 hy3 hr3
    go_wp2_with fail
    refine HD.out.mono ?_
    rintro e w5 ⟨rfl, HX, hcv⟩
    go_wp2
    go_ret
    exact HX.out
end
end Go.Proofs.Ytcikeghdlolkaaa

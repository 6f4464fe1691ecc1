/- NewSessionTicket of TLS 1.3: what the reference reads, and what the package reads. -/
import Derived.Test.YtcdjbciifnoajaaTkR
import Derived.Test.YtcdjbciifnoajaaBlock
import Derived.Test.YtcdjbciifnoajaaAlive
namespace Go.Proofs.Ytcdjbciifnoajaa
open Go.RowKit
set_option maxRecDepth 100000

theorem num4_law (d : List UInt8) : (rd4 d = none ∧ ((R.mk d 0).num 4).2 = ⟨[], 3⟩) ∨ ∃ n r, rd4 d = some (n, r) ∧ UInt32.ofNat ((R.mk d 0).num 4).1 = n ∧ ((R.mk d 0).num 4).2 = ⟨r, 0⟩ := by
  rcases rd4_two d with h | ⟨x, y, z, t, r, rfl⟩
  · exact .inl ⟨rd4_bad h, R.num_bad h⟩
  · right
    have hn := R.num_ok (bs := x :: y :: z :: t :: r) (k := 4) (by simp)
    refine ⟨_, r, rfl, ?_, ?_⟩
    · rw [hn]; rfl
    · rw [hn]; rfl
theorem take_all (d : List UInt8) : ((R.mk d 0).take d.length).2 = ⟨[], 0⟩ := by
  unfold R.take
  rw [if_neg (show ¬ d.length < d.length by omega)]
  simp
theorem tk_step_law (m : Tk) (k : UInt16) (d : List UInt8) : ((tkRd m k ⟨d, 0⟩).2.fin.code = 0 → tkStep m (k, d) = some (tkRd m k ⟨d, 0⟩).1) ∧ ((tkRd m k ⟨d, 0⟩).2.fin.code = 3 → tkStep m (k, d) = none) := by
  unfold tkRd tkStep
  by_cases hk : k = 42
  · rw [if_pos hk, if_pos hk]
    show (((R.mk d 0).num 4).2.fin.code = 0 → tkEarly m (rd4 d) = some { m with early := UInt32.ofNat ((R.mk d 0).num 4).1 }) ∧ (((R.mk d 0).num 4).2.fin.code = 3 → tkEarly m (rd4 d) = none)
    rcases num4_law d with ⟨h1, h2⟩ | ⟨n, r, h1, h2, h3⟩
    · rw [h1, h2]
      exact ⟨fun h => (by cases h), fun _ => rfl⟩
    · rw [h1, h2, h3]
      cases r with
      | nil => exact ⟨fun _ => rfl, fun h => (by cases h)⟩
      | cons y t => exact ⟨fun h => (by cases h), fun _ => rfl⟩
  · rw [if_neg hk, if_neg hk]
    show (((R.mk d 0).take d.length).2.fin.code = 0 → _) ∧ (((R.mk d 0).take d.length).2.fin.code = 3 → _)
    rw [take_all]
    exact ⟨fun _ => rfl, fun h => (by cases h)⟩
theorem tkExt_eq (m : Tk) (d : List UInt8) : tkExt m d = lastB tkStep m d := by
  unfold tkExt lastB
  rcases lp 2 d with _ | ⟨x, _ | ⟨y, t⟩⟩ <;> rfl
theorem tk_law (data : List UInt8) : ((tkSpec data).2.code = 0 → tkRead data = some (tkSpec data).1) ∧ ((tkSpec data).2.code = 3 → tkRead data = none) := by
  have hsp : tkSpec data = specE tkRd (tkR4 data).2.exts.1 (tkM0 data, (tkR4 data).2.exts.2.fin) := rfl
  have stop : ∀ c, (tkR4 data).2.code = c → c ≠ 0 → (tkSpec data).2.code = c := fun c h hc => by
    rw [hsp, block_code tkRd _ (by rw [h]; exact hc), h]
  rcases bodyR_two 4 data with h | ⟨h, h4, -, -⟩
  · have h1 : (tkR1 data).2.code = 1 := by unfold tkR1; rw [R.num_code (by rw [h]; decide), h]
    have h2 : (tkR2 data).2.code = 1 := by unfold tkR2; rw [R.num_code (by rw [h1]; decide), h1]
    have h3 : (tkR3 data).2.code = 1 := by unfold tkR3; rw [R.vec_code (by rw [h2]; decide), h2]
    have h4 : (tkR4 data).2.code = 1 := by unfold tkR4; rw [R.vec_code (by rw [h3]; decide), h3]
    rw [stop 1 h4 (by decide)]
    exact ⟨fun h => by omega, fun h => by omega⟩
  · have hk : tkRead data = tkBody (data.drop 4) := by unfold tkRead; rw [if_neg (by omega)]
    rw [hk]
    generalize data.drop 4 = d0 at h
    rcases num4_law d0 with ⟨a1, a2⟩ | ⟨life, d1, a1, a2, a3⟩
    · have h1 : (tkR1 data).2.code = 3 := by unfold tkR1; rw [h, a2]
      have h2 : (tkR2 data).2.code = 3 := by unfold tkR2; rw [R.num_code (by rw [h1]; decide), h1]
      have h3 : (tkR3 data).2.code = 3 := by unfold tkR3; rw [R.vec_code (by rw [h2]; decide), h2]
      have h4 : (tkR4 data).2.code = 3 := by unfold tkR4; rw [R.vec_code (by rw [h3]; decide), h3]
      rw [stop 3 h4 (by decide)]
      exact ⟨fun h => (by cases h), fun _ => by unfold tkBody; rw [a1]; rfl⟩
    have hb : tkBody d0 = tkAge life d1 := by unfold tkBody; rw [a1]; rfl
    have e1 : (tkR1 data).2 = ⟨d1, 0⟩ := by unfold tkR1; rw [h, a3]
    have v1 : UInt32.ofNat (tkR1 data).1 = life := by unfold tkR1; rw [h, a2]
    rw [hb]
    rcases num4_law d1 with ⟨b1, b2⟩ | ⟨age, d2, b1, b2, b3⟩
    · have h2 : (tkR2 data).2.code = 3 := by unfold tkR2; rw [e1, b2]
      have h3 : (tkR3 data).2.code = 3 := by unfold tkR3; rw [R.vec_code (by rw [h2]; decide), h2]
      have h4 : (tkR4 data).2.code = 3 := by unfold tkR4; rw [R.vec_code (by rw [h3]; decide), h3]
      rw [stop 3 h4 (by decide)]
      exact ⟨fun h => (by cases h), fun _ => by unfold tkAge; rw [b1]; rfl⟩
    have hb : tkAge life d1 = tkNonce life age d2 := by unfold tkAge; rw [b1]; rfl
    have e2 : (tkR2 data).2 = ⟨d2, 0⟩ := by unfold tkR2; rw [e1, b3]
    have v2 : UInt32.ofNat (tkR2 data).1 = age := by unfold tkR2; rw [e1, b2]
    rw [hb]
    rcases hc : lp 1 d2 with _ | ⟨nonce, d3⟩
    · have h3 : (tkR3 data).2.code = 3 := by unfold tkR3; rw [e2, R.vec_none hc]
      have h4 : (tkR4 data).2.code = 3 := by unfold tkR4; rw [R.vec_code (by rw [h3]; decide), h3]
      rw [stop 3 h4 (by decide)]
      exact ⟨fun h => (by cases h), fun _ => by unfold tkNonce; rw [hc]; rfl⟩
    have hb : tkNonce life age d2 = tkLabel life age nonce d3 := by unfold tkNonce; rw [hc]; rfl
    have e3 : tkR3 data = (nonce, ⟨d3, 0⟩) := by
      unfold tkR3
      rw [e2, R.vec_some hc, R.rng_in (by omega) (by have := (lp_len hc).1; omega)]
    rw [hb]
    rcases hd : lp 2 d3 with _ | ⟨label, d4⟩
    · have h4 : (tkR4 data).2.code = 3 := by unfold tkR4; rw [e3, R.vec_none hd]
      rw [stop 3 h4 (by decide)]
      exact ⟨fun h => (by cases h), fun _ => by unfold tkLabel; rw [hd]; rfl⟩
    have hb : tkLabel life age nonce d3 = lastB tkStep ⟨life, age, nonce, label, 0⟩ d4 := by unfold tkLabel; rw [hd]; exact tkExt_eq _ _
    rw [hb]
    by_cases hl : label.length = 0
    · have h4 : (tkR4 data).2.code = 2 := by unfold tkR4; rw [e3, R.vec_some hd, R.rng_out (by omega)]
      rw [stop 2 h4 (by decide)]
      exact ⟨fun h => (by cases h), fun h => (by cases h)⟩
    · have e4 : tkR4 data = (label, ⟨d4, 0⟩) := by
        unfold tkR4
        rw [e3, R.vec_some hd, R.rng_in (by omega) (by have := (lp_len hd).1; omega)]
      have hm : tkM0 data = ⟨life, age, nonce, label, 0⟩ := by unfold tkM0; rw [v1, v2, e3, e4]
      rw [hsp, e4, hm]
      exact lastB_law tkRd tkStep (· = 3) (by decide) (by decide) tk_step_law _ d4

section
variable {w w' : World} {B C : Nat} {v u content : Value} {xs data : List UInt8} {e : Ending} {t : Tk}
/-- a message and itself -/
theorem SameTicket13_eq (hv : TkV w B v t) (hu : TkV w C u t) : Calls Try.prog 21 #[v, u] w (LawP w) := by
  obtain ⟨A1, c1, A2, c2, rfl, x1, x2⟩ := hv
  obtain ⟨A3, c3, A4, c4, rfl, y1, y2⟩ := hu
  obtain ⟨w1, hw1⟩ : ∃ w1, (w.alloc (.cells #[uv t.life, uv t.age, .slice A1 t.nonce.length c1, .slice A2 t.label.length c2, uv t.early] 25)).alloc (.cells #[uv t.life, uv t.age, .slice A3 t.nonce.length c3, .slice A4 t.label.length c4, uv t.early] 25) = w1 := ⟨_, rfl⟩
  obtain ⟨s, hs⟩ : ∃ s, w.heap.size = s := ⟨_, rfl⟩
  have hu1 : Upd [] w w1 := by rw [← hw1]; exact ((Upd.refl _ _).alloc _).alloc _
  have hb1 : Blk w1 s 25 #[uv t.life, uv t.age, .slice A1 t.nonce.length c1, .slice A2 t.label.length c2, uv t.early] := by rw [← hw1, ← hs]; exact (Blk.new _ _ _).alloc _
  have hm1 : Blk w1 (s + 1) 25 #[uv t.life, uv t.age, .slice A3 t.nonce.length c3, .slice A4 t.label.length c4, uv t.early] := by
    rw [← hw1, ← hs]
    have := Blk.new (w.alloc (.cells #[uv t.life, uv t.age, .slice A1 t.nonce.length c1, .slice A2 t.label.length c2, uv t.early] 25)) 25 #[uv t.life, uv t.age, .slice A3 t.nonce.length c3, .slice A4 t.label.length c4, uv t.early]
    rwa [show (w.alloc (.cells #[uv t.life, uv t.age, .slice A1 t.nonce.length c1, .slice A2 t.label.length c2, uv t.early] 25)).heap.size = w.heap.size + 1 by simp] at this
  obtain ⟨p0, p1, p2, p3, p4, -⟩ := five_cells hb1
  obtain ⟨q0, q1, q2, q3, q4, -⟩ := five_cells hm1
  have h1 := same_any (Row.upd x1.shrink hu1 (by simp)) (Row.upd y1.shrink hu1 (by simp))
  have h2 := same_any (Row.upd x2.shrink hu1 (by simp)) (Row.upd y2.shrink hu1 (by simp))
  rw [beq_self_eq_true] at h1 h2
  have H1 := hid h1
  have H2 := hid h2
  have HW := hid hw1
  clear h1 h2 hw1
  go_enter Try.func21, Try.ntmps21
  go_wp2_with fail
  rw [HW.out]
  go_wp2_with fail
  refine H1.out.mono ?_
  rintro e w2 ⟨rfl, rfl⟩
  go_wp2_with fail
  refine H2.out.mono ?_
  rintro e w2 ⟨rfl, rfl⟩
  go_wp2
  go_ret
  exact ⟨rfl, hu1⟩
end
end Go.Proofs.Ytcdjbciifnoajaa

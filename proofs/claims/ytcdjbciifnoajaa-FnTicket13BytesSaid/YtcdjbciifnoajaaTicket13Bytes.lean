/- The law Ticket13Bytes. -/
import Derived.Test.YtcdjbciifnoajaaTkBytes
import Derived.Test.YtcdjbciifnoajaaLift
namespace Go.Proofs.Ytcdjbciifnoajaa
open Go.ChangeShapes Go.WideShapes Go.ChangeAt Go.RowKit
set_option maxRecDepth 100000

section
variable {w w' : World} {B : Nat} {v content : Value} {xs data : List UInt8} {e : Ending}
/-- the message of a value, boxed -/
theorem TkB.box {t : Tk} {A1 A2 : Option Addr} {c1 c2 : Nat} (h1 : Byt w B (.slice A1 t.nonce.length c1) t.nonce) (h2 : Byt w B (.slice A2 t.label.length c2) t.label) (T : TypeId) :
    Blk (w.alloc (.cells #[uv t.life, uv t.age, .slice A1 t.nonce.length c1, .slice A2 t.label.length c2, uv t.early] T)) w.heap.size T #[uv t.life, uv t.age, .slice A1 t.nonce.length c1, .slice A2 t.label.length c2, uv t.early] ∧
    Byt (w.alloc (.cells #[uv t.life, uv t.age, .slice A1 t.nonce.length c1, .slice A2 t.label.length c2, uv t.early] T)) B (.slice A1 t.nonce.length c1) t.nonce ∧
    Byt (w.alloc (.cells #[uv t.life, uv t.age, .slice A1 t.nonce.length c1, .slice A2 t.label.length c2, uv t.early] T)) B (.slice A2 t.label.length c2) t.label ∧
    Upd [] w (w.alloc (.cells #[uv t.life, uv t.age, .slice A1 t.nonce.length c1, .slice A2 t.label.length c2, uv t.early] T)) :=
  ⟨Blk.new _ _ _, Row.alloc h1 _, Row.alloc h2 _, (Upd.refl _ _).alloc _⟩
set_option maxHeartbeats 4000000 in
theorem law_Ticket13Bytes (hc : Byt w B content xs) : Calls Try.prog 5 #[content] w (LawP w) := by
  obtain ⟨A, c, rfl, hc, hl, hcc⟩ := Byt.form hc rfl
  by_cases hbig : 2147483647 < xs.length
  · have hb : decide ((2147483647 : Int) < (xs.length : Int)) = true := decide_eq_true (by omega)
    clear hbig
    go_enter Try.func5, Try.ntmps5
    go_wp2
    go_ret
    exact ⟨rfl, Upd.refl _ _⟩
  have hb : decide ((2147483647 : Int) < (xs.length : Int)) = false := decide_eq_false (by omega)
  clear hbig
  have hc := hc.shrink
  have hr1 := ReadTicket13_any (w := w) hc (Nat.le_refl _)
  obtain ⟨l1, l2⟩ := tk_law xs
  generalize (tkSpec xs).1 = M at hr1 l1
  generalize (tkSpec xs).2.code = K at hr1 l1 l2
  generalize hO : tkRead xs = O at l1 l2
  have G1 : ∀ w1 : World, Upd [] w w1 → Hid (Calls Try.prog 20 #[.slice A xs.length c] w1 (UnT w1 w.heap.size O)) := by
    intro w1 hu
    have := impl_UnmarshalTicket13 (w := w1) (Row.upd hc hu (by simp)) hu.size
    rw [hO] at this
    exact this
  have H1 := hid hr1
  clear hr1 hO hl hcc
  go_enter Try.func5, Try.ntmps5
  go_wp2_with fail
  refine H1.out.mono ?_
  rintro e w1 ⟨_, rfl, ⟨A1, c1, A2, c2, rfl, y1, y2⟩, hu1⟩
  obtain ⟨b2, y1, y2, hu2⟩ := TkB.box y1 y2 25
  obtain ⟨w2, hw2⟩ : ∃ w2, w1.alloc (.cells #[uv M.life, uv M.age, .slice A1 M.nonce.length c1, .slice A2 M.label.length c2, uv M.early] 25) = w2 := ⟨_, rfl⟩
  rw [hw2] at b2 y1 y2 hu2
  obtain ⟨g1, hg1⟩ : ∃ g, w1.heap.size = g := ⟨_, rfl⟩
  rw [hg1] at b2
  have hU2 := hu1.trans hu2 (by simp)
  have H2 := G1 _ hU2
  have HW2 := hid hw2
  have HG1 := hid hg1
  clear hw2 hg1 H1 G1 hu1 hu2
  go_wp2_with fail
  rw [HW2.out, HG1.out]
  refine H2.out.mono ?_
  rintro e w3 ⟨_, rfl, ⟨A3, c3, A4, c4, rfl, y3, y4⟩, hu3⟩
  obtain ⟨b4, y3, y4, hu4⟩ := TkB.box y3 y4 25
  obtain ⟨t, ht⟩ : ∃ t, O.getD Tk.zero = t := ⟨_, rfl⟩
  rw [ht] at b4 y3 y4 hu4
  rw [ht]
  obtain ⟨w4, hw4⟩ : ∃ w4, w3.alloc (.cells #[uv t.life, uv t.age, .slice A3 t.nonce.length c3, .slice A4 t.label.length c4, uv t.early] 25) = w4 := ⟨_, rfl⟩
  rw [hw4] at b4 y3 y4 hu4
  obtain ⟨g2, hg2⟩ : ∃ g, w3.heap.size = g := ⟨_, rfl⟩
  rw [hg2] at b4
  have hu24 := hu3.trans hu4 (by simp)
  have b2 := b2.upd hu24 (by simp)
  have y1 := Row.upd y1 hu24 (by simp)
  have y2 := Row.upd y2 hu24 (by simp)
  have hU4 := hU2.trans hu24 (by simp)
  obtain ⟨p0, p1, p2, p3, p4, -⟩ := five_cells b2
  obtain ⟨q0, q1, q2, q3, q4, -⟩ := five_cells b4
  have HA := hid (alive_any (w := w4))
  have key : (K = 0 ∧ O = some M) ∨ (K = 3 ∧ O = none) ∨ (K ≠ 0 ∧ K ≠ 3) := by
    by_cases k0 : K = 0
    · exact .inl ⟨k0, l1 k0⟩
    · by_cases k3 : K = 3
      · exact .inr (.inl ⟨k3, l2 k3⟩)
      · exact .inr (.inr ⟨k0, k3⟩)
  clear l1 l2 H2 hu24 hu3 hu4
  subst hw4
  subst hg2
  rcases key with ⟨rfl, rfl⟩ | ⟨rfl, rfl⟩ | ⟨k0, k3⟩
  · have ht : M = t := ht
    subst ht
    have h5 := SameTicket13_eq (B := w.heap.size) (C := w.heap.size) (t := M) ⟨A3, c3, A4, c4, rfl, y3, y4⟩ ⟨A1, c1, A2, c2, rfl, y1, y2⟩
    have H5 := hid h5
    clear h5
    go_wp2_with fail
    refine H5.out.mono ?_
    rintro e w5 ⟨rfl, hu5⟩
    go_wp2
    go_ret
    exact ⟨rfl, hU4.trans hu5 (by simp)⟩
  · clear ht
    go_wp2_with fail
    refine HA.out.mono ?_
    rintro e w5 ⟨rfl, hu5⟩
    go_wp2
    go_ret
    exact ⟨rfl, hU4.trans hu5 (by simp)⟩
  · have e0 : ((K : Int) == 0) = false := by rw [beq_eq_false_iff_ne]; omega
    have e3 : ((K : Int) == 3) = false := by rw [beq_eq_false_iff_ne]; omega
    clear ht
    go_wp2_with fail
    refine HA.out.mono ?_
    rintro e w5 ⟨rfl, hu5⟩
    go_wp2
    go_ret
    exact ⟨rfl, hU4.trans hu5 (by simp)⟩
end
set_option maxRecDepth 100000 in
theorem lifted_Ticket13Bytes (os : Os) (started : os.Started) (H : Type) (enc : TypeId × Value → H) :
    ReturnsInHanded {} Try.checked os 5 .any (Rows.fnTicket13BytesSpec.pre6 enc Try.prog Try.f5 Rows.fnTicket13BytesRow.domain false) (Rows.fnTicket13BytesSpec.post enc Try.prog Try.f5 false true false false) := by
  refine returnsInHanded_of_change (C := Try.checked) own started (by kernel_rfl) Try.func5
    (ChangeSpec.witness6 (enc := enc) (C := Try.checked) false ⟨#[], #[.slice none 0 0], []⟩ 8 (by kernel_rfl) (by kernel_rfl) (by kernel_rfl) (by kernel_rfl)) ?_
  intro W base args ds gs before hval0 hW hcnd _
  have hval : ∀ (j : Nat) t v, Try.f5.params[j]? = some t → args[j]? = some v → Value.okWide Try.prog W .any base t v := hval0
  have hW' := hW
  obtain ⟨p, q, hA0, hV, rfl, hfz, hnd⟩ := hW
  have hA : DataW.TrodAll enc Try.prog W 0 (fun _ => true) true Try.f5.params.toList args.toList ds p := hA0
  rw [Try.params5] at hA hval
  obtain ⟨v0, vs0, d0, ds0, p0, q0, hargs, rfl, rfl, h0, r0⟩ := trodAll_cons hA
  obtain ⟨rfl, rfl, rfl⟩ := trodAll_nil r0
  obtain rfl : args = #[v0] := by cases args; simp_all
  obtain ⟨data, y0⟩ := open_bytes (hval 0 23 _ rfl rfl) h0
  exact (law_Ticket13Bytes y0).mono fun e W' h => law_post hW' rfl rfl (by kernel_rfl) (by kernel_rfl) h
theorem Ticket13Bytes_holds : Rows.FnTicket13BytesSaid :=
  OpenClaim.holds_of_wide 5 Try.f5 rfl rfl rfl rfl rfl rfl rfl ⟨rfl, rfl, rfl, rfl, rfl⟩ rfl rfl rfl rfl rfl (by kernel_rfl) Try.func5 (by kernel_rfl)
    (of_decide_eq_true (by kernel_rfl)) (by unfold Func.isWrapper; first | (rw [if_pos (by decide +kernel)]; kernel_rfl) | (rw [if_neg (by decide +kernel)]; exact ⟨rfl, rfl⟩))
    (fun os started H enc _ => lifted_Ticket13Bytes os started H enc)
end Go.Proofs.Ytcdjbciifnoajaa

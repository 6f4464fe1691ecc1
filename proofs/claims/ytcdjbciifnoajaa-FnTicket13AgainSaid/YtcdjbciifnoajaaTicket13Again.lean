/- The law Ticket13Again. -/
import Derived.Test.YtcdjbciifnoajaaTkMade
import Derived.Test.YtcdjbciifnoajaaLift
namespace Go.Proofs.Ytcdjbciifnoajaa
open Go.ChangeShapes Go.WideShapes Go.ChangeAt Go.RowKit
set_option maxRecDepth 100000

section
variable {w w' : World} {B : Nat} {v content : Value} {xs data : List UInt8} {e : Ending}
set_option maxHeartbeats 4000000 in
theorem law_Ticket13Again (hc : Byt w B content xs) : Calls Try.prog 7 #[content] w (LawP w) := by
  obtain ⟨A, c, rfl, hc, hl, hcc⟩ := Byt.form hc rfl
  by_cases hbig : 2147483647 < xs.length
  · have hb : decide ((2147483647 : Int) < (xs.length : Int)) = true := decide_eq_true (by omega)
    clear hbig
    go_enter Try.func7, Try.ntmps7
    go_wp2
    go_ret
    exact ⟨rfl, Upd.refl _ _⟩
  have hb : decide ((2147483647 : Int) < (xs.length : Int)) = false := decide_eq_false (by omega)
  clear hbig
  have hc := hc.shrink
  have hr1 := impl_UnmarshalTicket13 hc (Nat.le_refl _)
  have hsz := @tkRead_sizes xs
  generalize tkRead xs = O at hr1 hsz
  have H1 := hid hr1
  clear hr1 hl hcc
  rcases O with _ | t
  · clear hsz
    go_enter Try.func7, Try.ntmps7
    go_wp2_with fail
    refine H1.out.mono ?_
    rintro e w1 ⟨_, rfl, ⟨A1, c1, A2, c2, rfl, y1, y2⟩, hu1⟩
    have HA := hid (alive_any (w := w1.alloc (.cells #[uv Tk.zero.life, uv Tk.zero.age, .slice A1 Tk.zero.nonce.length c1, .slice A2 Tk.zero.label.length c2, uv Tk.zero.early] 25)))
    have hu2 := hu1.alloc (.cells #[uv Tk.zero.life, uv Tk.zero.age, .slice A1 Tk.zero.nonce.length c1, .slice A2 Tk.zero.label.length c2, uv Tk.zero.early] 25)
    clear y1 y2 hu1
    go_wp2_with fail
    refine HA.out.mono ?_
    rintro e w5 ⟨rfl, hu5⟩
    go_wp2
    go_ret
    exact ⟨rfl, hu2.trans hu5 (by simp)⟩
  obtain ⟨z1, z2⟩ := hsz rfl
  obtain ⟨m1, m2⟩ := tk_back t z1 z2
  clear hsz
  generalize tkMsg t (tkE t) = b at m1 m2
  have M1 := hid m1
  have M2 := hid m2
  have Z1 := hid z1
  have Z2 := hid z2
  clear m1 m2 z1 z2
  go_enter Try.func7, Try.ntmps7
  go_wp2_with fail
  refine H1.out.mono ?_
  rintro e w1 ⟨_, rfl, ⟨A1, c1, A2, c2, rfl, y1, y2⟩, hu1⟩
  have y1 : Byt w1 w.heap.size (.slice A1 t.nonce.length c1) t.nonce := y1
  have y2 : Byt w1 w.heap.size (.slice A2 t.label.length c2) t.label := y2
  have hb2 := Blk.new w1 25 #[uv t.life, uv t.age, .slice A1 t.nonce.length c1, .slice A2 t.label.length c2, uv t.early]
  have hu2 := hu1.alloc (.cells #[uv t.life, uv t.age, .slice A1 t.nonce.length c1, .slice A2 t.label.length c2, uv t.early] 25)
  have y1' := Row.alloc y1 (.cells #[uv t.life, uv t.age, .slice A1 t.nonce.length c1, .slice A2 t.label.length c2, uv t.early] 25)
  have y2' := Row.alloc y2 (.cells #[uv t.life, uv t.age, .slice A1 t.nonce.length c1, .slice A2 t.label.length c2, uv t.early] 25)
  have hm := impl_MarshalTicket13 (t := t) ⟨A1, c1, A2, c2, rfl, y1', y2'⟩ (by have := Z1.out; omega) (by have := Z2.out; omega)
  rw [M1.out] at hm
  have HM := hid hm
  clear hm y1 y2 hu1 H1
  go_wp2_with fail
  refine HM.out.mono ?_
  rintro e w2 ⟨hu3, u, rfl, hyb, -, A3, n3, c3, rfl⟩
  have hr := impl_UnmarshalTicket13 hyb (Nat.le_refl _)
  rw [M2.out] at hr
  have HR := hid hr
  have hb3 := hb2.upd hu3 (by simp)
  have y1 := Row.upd y1' hu3 (by simp)
  have y2 := Row.upd y2' hu3 (by simp)
  have hU3 := hu2.trans hu3 (by simp)
  have HYB := hid hyb
  clear hr HM hb2 hu2 y1' y2' hu3 hyb
  go_wp2_with fail
  refine HR.out.mono ?_
  rintro e w3 ⟨_, rfl, ⟨A4, c4, A5, c5, rfl, y3, y4⟩, hu4⟩
  have y3 : Byt w3 w2.heap.size (.slice A4 t.nonce.length c4) t.nonce := y3
  have y4 : Byt w3 w2.heap.size (.slice A5 t.label.length c5) t.label := y4
  have hb4 := (hb3.upd hu4 (by simp)).alloc (.cells #[uv t.life, uv t.age, .slice A4 t.nonce.length c4, .slice A5 t.label.length c5, uv t.early] 25)
  have y1 := Row.alloc (Row.upd y1 hu4 (by simp)) (.cells #[uv t.life, uv t.age, .slice A4 t.nonce.length c4, .slice A5 t.label.length c5, uv t.early] 25)
  have y2 := Row.alloc (Row.upd y2 hu4 (by simp)) (.cells #[uv t.life, uv t.age, .slice A4 t.nonce.length c4, .slice A5 t.label.length c5, uv t.early] 25)
  have y3 := Row.alloc y3 (.cells #[uv t.life, uv t.age, .slice A4 t.nonce.length c4, .slice A5 t.label.length c5, uv t.early] 25)
  have y4 := Row.alloc y4 (.cells #[uv t.life, uv t.age, .slice A4 t.nonce.length c4, .slice A5 t.label.length c5, uv t.early] 25)
  have hU4 := (hU3.trans hu4 (by simp)).alloc (.cells #[uv t.life, uv t.age, .slice A4 t.nonce.length c4, .slice A5 t.label.length c5, uv t.early] 25)
  obtain ⟨p0, p1, p2, p3, p4, -⟩ := five_cells hb4
  have HS := hid (SameTicket13_eq (t := t) ⟨A4, c4, A5, c5, rfl, y3, y4⟩ ⟨A1, c1, A2, c2, rfl, y1, y2⟩)
  clear hb3 hb4 y1 y2 y3 y4 hU3 hu4 HR
  go_wp2_with fail
  refine HS.out.mono ?_
  rintro e w5 ⟨rfl, hu5⟩
  go_wp2
  go_ret
  exact ⟨rfl, hU4.trans hu5 (by simp)⟩
end
set_option maxRecDepth 100000 in
theorem lifted_Ticket13Again (os : Os) (started : os.Started) (H : Type) (enc : TypeId × Value → H) :
    ReturnsInHanded {} Try.checked os 7 .any (Rows.fnTicket13AgainSpec.pre6 enc Try.prog Try.f7 Rows.fnTicket13AgainRow.domain false) (Rows.fnTicket13AgainSpec.post enc Try.prog Try.f7 false true false false) := by
  refine returnsInHanded_of_change (C := Try.checked) own started (by kernel_rfl) Try.func7
    (ChangeSpec.witness6 (enc := enc) (C := Try.checked) false ⟨#[], #[.slice none 0 0], []⟩ 8 (by kernel_rfl) (by kernel_rfl) (by kernel_rfl) (by kernel_rfl)) ?_
  intro W base args ds gs before hval0 hW hcnd _
  have hval : ∀ (j : Nat) t v, Try.f7.params[j]? = some t → args[j]? = some v → Value.okWide Try.prog W .any base t v := hval0
  have hW' := hW
  obtain ⟨p, q, hA0, hV, rfl, hfz, hnd⟩ := hW
  have hA : DataW.TrodAll enc Try.prog W 0 (fun _ => true) true Try.f7.params.toList args.toList ds p := hA0
  rw [Try.params7] at hA hval
  obtain ⟨v0, vs0, d0, ds0, p0, q0, hargs, rfl, rfl, h0, r0⟩ := trodAll_cons hA
  obtain ⟨rfl, rfl, rfl⟩ := trodAll_nil r0
  obtain rfl : args = #[v0] := by cases args; simp_all
  obtain ⟨data, y0⟩ := open_bytes (hval 0 23 _ rfl rfl) h0
  exact (law_Ticket13Again y0).mono fun e W' h => law_post hW' rfl rfl (by kernel_rfl) (by kernel_rfl) h
theorem Ticket13Again_holds : Rows.FnTicket13AgainSaid :=
  OpenClaim.holds_of_wide 7 Try.f7 rfl rfl rfl rfl rfl rfl rfl ⟨rfl, rfl, rfl, rfl, rfl⟩ rfl rfl rfl rfl rfl (by kernel_rfl) Try.func7 (by kernel_rfl)
    (of_decide_eq_true (by kernel_rfl)) (by unfold Func.isWrapper; first | (rw [if_pos (by decide +kernel)]; kernel_rfl) | (rw [if_neg (by decide +kernel)]; exact ⟨rfl, rfl⟩))
    (fun os started H enc _ => lifted_Ticket13Again os started H enc)
end Go.Proofs.Ytcdjbciifnoajaa

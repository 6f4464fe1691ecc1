/- EncryptedExtensions as a value: SameEncryptedExtensions of a message and itself; contracts in common form. -/
import Derived.Test.YtcdjbciifnoajaaEeR
import Derived.Test.YtcdjbciifnoajaaEeI
import Derived.Test.YtcdjbciifnoajaaGen
import Derived.Test.YtcdjbciifnoajaaWriter
namespace Go.Proofs.Ytcdjbciifnoajaa
open Go.RowKit
set_option maxRecDepth 100000

theorem EeV.ok : VOk 44 EeV where
  agg := by
    rintro w B v x ⟨A1, c1, A2, c2, rfl, h1, h2⟩
    exact ⟨_, rfl, by kernel_rfl, by simp [Value.oneCell']⟩
  str := ⟨_, Try.underlying44, rfl⟩
  upd := fun h hu hs => EeV.upd h hu hs
  shrink := fun h => EeV.shrink h
theorem EeV.size {w : World} {B : Nat} {cs : Array Value} {x : Ee} (h : EeV w B (.agg cs) x) : 6 = cs.size := by
  obtain ⟨A1, c1, A2, c2, e, -⟩ := h
  injection e with e
  rw [e]; rfl
section
variable {w w' : World} {B C : Nat} {v u : Value} {data : List UInt8} {t : Ee}
theorem SameEe_eq (hv : EeV w B v t) (hu : EeV w C u t) : Calls Try.prog 30 #[v, u] w (LawP w) := by
  obtain ⟨A1, c1, A2, c2, rfl, x1, x2⟩ := hv
  obtain ⟨A3, c3, A4, c4, rfl, y1, y2⟩ := hu
  obtain ⟨t0, t1, t2, t3, t4, t5⟩ := t
  obtain ⟨w1, hw1⟩ : ∃ w1, (w.alloc (.cells #[strv t0, .bool t1, .slice A1 t2.length c1, .bool t3, .slice A2 t4.length c2, .bool t5] 44)).alloc (.cells #[strv t0, .bool t1, .slice A3 t2.length c3, .bool t3, .slice A4 t4.length c4, .bool t5] 44) = w1 := ⟨_, rfl⟩
  obtain ⟨s, hs⟩ : ∃ s, w.heap.size = s := ⟨_, rfl⟩
  have hu1 : Upd [] w w1 := by rw [← hw1]; exact ((Upd.refl _ _).alloc _).alloc _
  have hb1 : Blk w1 s 44 #[strv t0, .bool t1, .slice A1 t2.length c1, .bool t3, .slice A2 t4.length c2, .bool t5] := by rw [← hw1, ← hs]; exact (Blk.new _ _ _).alloc _
  have hm1 : Blk w1 (s + 1) 44 #[strv t0, .bool t1, .slice A3 t2.length c3, .bool t3, .slice A4 t4.length c4, .bool t5] := by
    rw [← hw1, ← hs]
    have := Blk.new (w.alloc (.cells #[strv t0, .bool t1, .slice A1 t2.length c1, .bool t3, .slice A2 t4.length c2, .bool t5] 44)) 44 #[strv t0, .bool t1, .slice A3 t2.length c3, .bool t3, .slice A4 t4.length c4, .bool t5]
    rwa [show (w.alloc (.cells #[strv t0, .bool t1, .slice A1 t2.length c1, .bool t3, .slice A2 t4.length c2, .bool t5] 44)).heap.size = w.heap.size + 1 by simp] at this
  obtain ⟨p0, p1, p2, p3, p4, p5, -⟩ := six_cells hb1
  obtain ⟨q0, q1, q2, q3, q4, q5, -⟩ := six_cells hm1
  have h1 := same_any (Row.upd x1.shrink hu1 (by simp)) (Row.upd y1.shrink hu1 (by simp))
  have h2 := same_any (Row.upd x2.shrink hu1 (by simp)) (Row.upd y2.shrink hu1 (by simp))
  rw [beq_self_eq_true] at h1 h2
  have H1 := hid h1
  have H2 := hid h2
  have HW := hid hw1
  clear h1 h2 hw1 x1 x2 y1 y2
  go_enter Try.func30, Try.ntmps30
  go_wp2_with fail
  rw [HW.out]
  go_wp2_with fail
  refine H1.out.mono ?_
  rintro e w2 ⟨rfl, rfl⟩
  go_wp2_with fail
  refine H2.out.mono ?_
  rintro e w2 ⟨rfl, rfl⟩
  go_wp2
  go_ret
  exact ⟨rfl, hu1⟩
theorem rf_Ee (hv : Byt w B v data) : Calls Try.prog 32 #[v] w (RefG EeV w (eeSpec data).1 (eeSpec data).2.code) := by
  refine (ReadEe_any hv.shrink (Nat.le_refl _)).mono ?_
  rintro e w' ⟨v', rfl, h, hu⟩
  exact ⟨v', rfl, h.shrink, hu⟩
theorem un_Ee (hv : Byt w B v data) : Calls Try.prog 29 #[v] w (UnG EeV w Ee.zero (eeRead data)) := impl_UnmarshalEe hv.shrink (Nat.le_refl _)
end
end Go.Proofs.Ytcdjbciifnoajaa

/- NewSessionTicket of TLS 1.3: UnmarshalTicket13. -/
import Derived.Test.YtcdjbciifnoajaaTkU
namespace Go.Proofs.Ytcdjbciifnoajaa
open Go.RowKit
set_option maxRecDepth 100000

/-- what UnmarshalTicket13 hands back -/
def UnT (w : World) (B : Nat) (o : Option Tk) (e : Ending) (w' : World) : Prop :=
  ∃ v, e = .returned (.tuple #[v, .bool o.isSome]) ∧ TkV w' B v (o.getD Tk.zero) ∧ Upd [] w w'
section
variable {w w' : World} {B m : Nat} {v content : Value} {xs data : List UInt8} {e : Ending}

theorem TkV.zero_ (w : World) (B : Nat) : TkV w B (.agg #[.int .u32 0, .int .u32 0, .slice none 0 0, .slice none 0 0, .int .u32 0]) Tk.zero :=
  ⟨none, 0, none, 0, rfl, Row.nil_ _ _, Row.nil_ _ _⟩
theorem TkV.upd {S : List Nat} {t : Tk} (h : TkV w B v t) (hu : Upd S w w') (hs : ∀ x ∈ S, B ≤ x) : TkV w' B v t := by
  obtain ⟨A1, c1, A2, c2, rfl, h1, h2⟩ := h
  exact ⟨A1, c1, A2, c2, rfl, Row.upd h1 hu hs, Row.upd h2 hu hs⟩
theorem TkV.shrink {t : Tk} (h : TkV w B v t) : TkV w w.heap.size v t := by
  obtain ⟨A1, c1, A2, c2, rfl, h1, h2⟩ := h
  exact ⟨A1, c1, A2, c2, rfl, Row.shrink h1, Row.shrink h2⟩
/-- a block of five cells, stored whole -/
theorem five_set {T : TypeId} {g : Nat} {a0 a1 a2 a3 a4 b0 b1 b2 b3 b4 : Value} (h : Blk w g T #[a0, a1, a2, a3, a4]) :
    Blk (((((w.setCell ⟨g, 0, none⟩ b0).setCell ⟨g, 1, none⟩ b1).setCell ⟨g, 2, none⟩ b2).setCell ⟨g, 3, none⟩ b3).setCell ⟨g, 4, none⟩ b4) g T #[b0, b1, b2, b3, b4] := by
  have := ((((h.set_ 0 b0).set_ 1 b1).set_ 2 b2).set_ 3 b3).set_ 4 b4
  simpa using this
theorem five_upd {S : List Nat} {a : World} {g : Nat} {b0 b1 b2 b3 b4 : Value} (h : Upd S a w) (hg : g ∈ S ∨ a.heap.size ≤ g) :
    Upd S a (((((w.setCell ⟨g, 0, none⟩ b0).setCell ⟨g, 1, none⟩ b1).setCell ⟨g, 2, none⟩ b2).setCell ⟨g, 3, none⟩ b3).setCell ⟨g, 4, none⟩ b4) :=
  ((((h.setCell hg _).setCell hg _).setCell hg _).setCell hg _).setCell hg _

theorem five_cells {T : TypeId} {g : Nat} {a0 a1 a2 a3 a4 : Value} (h : Blk w g T #[a0, a1, a2, a3, a4]) :
    w.cell? ⟨g, 0, none⟩ = some a0 ∧ w.cell? ⟨g, 1, none⟩ = some a1 ∧ w.cell? ⟨g, 2, none⟩ = some a2 ∧ w.cell? ⟨g, 3, none⟩ = some a3 ∧ w.cell? ⟨g, 4, none⟩ = some a4 ∧
    w.frozen? ⟨g, 0, none⟩ = false ∧ w.frozen? ⟨g, 1, none⟩ = false ∧ w.frozen? ⟨g, 2, none⟩ = false ∧ w.frozen? ⟨g, 3, none⟩ = false ∧ w.frozen? ⟨g, 4, none⟩ = false :=
  ⟨h.cell 0, h.cell 1, h.cell 2, h.cell 3, h.cell 4, h.frozen 0, h.frozen 1, h.frozen 2, h.frozen 3, h.frozen 4⟩
set_option maxHeartbeats 2000000 in
theorem tls_UnmarshalTicket13 (hv : Byt w B v data) (hB : B ≤ w.heap.size) : Calls Try.prog 41 #[v] w (UnT w B (tkRead data)) := by
  obtain ⟨A, c, rfl, hv, hl, hc⟩ := Byt.form hv rfl
  obtain ⟨w1, hw1⟩ : ∃ w1, (w.alloc (.cells #[.int .u32 0, .int .u32 0, .slice none 0 0, .slice none 0 0, .int .u32 0] 71)).alloc (.cells #[.int .u32 0, .int .u32 0, .slice none 0 0, .slice none 0 0, .int .u32 0] 107) = w1 := ⟨_, rfl⟩
  obtain ⟨s, hs⟩ : ∃ s, w.heap.size = s := ⟨_, rfl⟩
  have hu1 : Upd [] w w1 := by rw [← hw1]; exact ((Upd.refl _ _).alloc _).alloc _
  have hb1 : Blk w1 s 71 #[.int .u32 0, .int .u32 0, .slice none 0 0, .slice none 0 0, .int .u32 0] := by rw [← hw1, ← hs]; exact (Blk.new _ _ _).alloc _
  have hm1 : Blk w1 (s + 1) 107 #[.int .u32 0, .int .u32 0, .slice none 0 0, .slice none 0 0, .int .u32 0] := by
    rw [← hw1, ← hs]
    have := Blk.new (w.alloc (.cells #[.int .u32 0, .int .u32 0, .slice none 0 0, .slice none 0 0, .int .u32 0] 71)) 107 #[.int .u32 0, .int .u32 0, .slice none 0 0, .slice none 0 0, .int .u32 0]
    rwa [show (w.alloc (.cells #[.int .u32 0, .int .u32 0, .slice none 0 0, .slice none 0 0, .int .u32 0] 71)).heap.size = w.heap.size + 1 by simp] at this
  have H1 := hid (unmarshal_Tk hm1 (Row.upd hv hu1 (by simp)) (by omega))
  have HW := hid hw1
  clear hw1 hm1
  generalize tkRead data = o at H1 ⊢
  go_enter Try.func41, Try.ntmps41
  go_wp2_with fail
  rw [HW.out]
  refine (H1.out).mono ?_
  rintro e w2 ⟨rfl, hu2, hx⟩
  have hu := hu1.trans hu2 (by simp; omega)
  have hb2 := hb1.upd hu2 (by simp)
  have r0 := hb2.cell 0
  have r1 := hb2.cell 1
  have r2 := hb2.cell 2
  have r3 := hb2.cell 3
  have r4 := hb2.cell 4
  have f0 := hb2.frozen 0
  have f1 := hb2.frozen 1
  have f2 := hb2.frozen 2
  have f3 := hb2.frozen 3
  have f4 := hb2.frozen 4
  simp at r0 r1 r2 r3 r4
  rcases o with _ | t
  · have hz : Blk (((((w2.setCell ⟨s, 0, none⟩ (.int .u32 0)).setCell ⟨s, 1, none⟩ (.int .u32 0)).setCell ⟨s, 2, none⟩ (.slice none 0 0)).setCell ⟨s, 3, none⟩ (.slice none 0 0)).setCell ⟨s, 4, none⟩ (.int .u32 0)) s 71 #[.int .u32 0, .int .u32 0, .slice none 0 0, .slice none 0 0, .int .u32 0] := five_set hb2
    have z0 := hz.cell 0
    have z1 := hz.cell 1
    have z2 := hz.cell 2
    have z3 := hz.cell 3
    have z4 := hz.cell 4
    simp at z0 z1 z2 z3 z4
    go_wp2
    exact bodyPost_ret (v := .tuple #[.agg #[.int .u32 0, .int .u32 0, .slice none 0 0, .slice none 0 0, .int .u32 0], .bool false]) (by simp [results, Try.results41, go_sem, z0, z1, z2, z3, z4]) rfl ⟨_, rfl, TkV.zero_ _ _, five_upd hu (.inr (by omega))⟩
  · obtain ⟨A1, c1, A2, c2, hm2, hy1, hy2⟩ := hx t rfl
    have m0 := hm2.cell 0
    have m1 := hm2.cell 1
    have m2 := hm2.cell 2
    have m3 := hm2.cell 3
    have m4 := hm2.cell 4
    simp at m0 m1 m2 m3 m4
    clear hx
    go_wp2_with fail
    go_still_tail 21, (by kernel_rfl)
    go_wp2
    have hz : Blk (((((w2.setCell ⟨s, 0, none⟩ (uv t.life)).setCell ⟨s, 1, none⟩ (uv t.age)).setCell ⟨s, 2, none⟩ (.slice A1 t.nonce.length c1)).setCell ⟨s, 3, none⟩ (.slice A2 t.label.length c2)).setCell ⟨s, 4, none⟩ (uv t.early)) s 71 #[uv t.life, uv t.age, .slice A1 t.nonce.length c1, .slice A2 t.label.length c2, uv t.early] := five_set hb2
    have z0 := hz.cell 0
    have z1 := hz.cell 1
    have z2 := hz.cell 2
    have z3 := hz.cell 3
    have z4 := hz.cell 4
    simp at z0 z1 z2 z3 z4
    have huf : Upd [s] w2 (((((w2.setCell ⟨s, 0, none⟩ (uv t.life)).setCell ⟨s, 1, none⟩ (uv t.age)).setCell ⟨s, 2, none⟩ (.slice A1 t.nonce.length c1)).setCell ⟨s, 3, none⟩ (.slice A2 t.label.length c2)).setCell ⟨s, 4, none⟩ (uv t.early)).drew := (five_upd (Upd.refl [s] w2) (.inl (by simp))).drew
    exact bodyPost_ret (v := .tuple #[.agg #[uv t.life, uv t.age, .slice A1 t.nonce.length c1, .slice A2 t.label.length c2, uv t.early], .bool true]) (by simp [results, Try.results41, go_sem, z0, z1, z2, z3, z4]) rfl
      ⟨_, rfl, ⟨A1, c1, A2, c2, rfl, Row.upd hy1 huf (by simp; omega), Row.upd hy2 huf (by simp; omega)⟩, hu.trans huf (by simp; omega)⟩
set_option maxHeartbeats 2000000 in
theorem impl_UnmarshalTicket13 (hv : Byt w B v data) (hB : B ≤ w.heap.size) : Calls Try.prog 20 #[v] w (UnT w B (tkRead data)) := by
  obtain ⟨A, c, rfl, hv, hl, hc⟩ := Byt.form hv rfl
  obtain ⟨w1, hw1⟩ : ∃ w1, w.alloc (.cells #[.int .u32 0, .int .u32 0, .slice none 0 0, .slice none 0 0, .int .u32 0] 25) = w1 := ⟨_, rfl⟩
  obtain ⟨s, hs⟩ : ∃ s, w.heap.size = s := ⟨_, rfl⟩
  have hu1 : Upd [] w w1 := by rw [← hw1]; exact (Upd.refl _ _).alloc _
  have hb1 : Blk w1 s 25 #[.int .u32 0, .int .u32 0, .slice none 0 0, .slice none 0 0, .int .u32 0] := by rw [← hw1, ← hs]; exact Blk.new _ _ _
  have H1 := hid (tls_UnmarshalTicket13 (Row.upd hv hu1 (by simp)) (by have := hu1.size; omega))
  have HW := hid hw1
  clear hw1
  generalize tkRead data = o at H1 ⊢
  go_enter Try.func20, Try.ntmps20
  go_wp2_with fail
  rw [HW.out]
  refine (H1.out).mono ?_
  rintro e w2 ⟨_, rfl, ⟨A1, c1, A2, c2, rfl, hy1, hy2⟩, hu2⟩
  obtain ⟨t, ht⟩ : ∃ t, o.getD Tk.zero = t := ⟨_, rfl⟩
  rw [ht] at hy1 hy2
  rw [ht]
  have HT := hid ht
  clear ht
  have hb2 := hb1.upd hu2 (by simp)
  have hs2 := hb2.lt
  have hb3 := hb2.alloc (.cells #[uv t.life, uv t.age, .slice A1 t.nonce.length c1, .slice A2 t.label.length c2, uv t.early] 71)
  obtain ⟨r0, r1, r2, r3, r4, f0, f1, f2, f3, f4⟩ := five_cells hb3
  obtain ⟨p0, p1, p2, p3, p4, q0, q1, q2, q3, q4⟩ := five_cells hb2
  have hne : ¬ w2.heap.size = s := by omega
  have hne' : ¬ s = w2.heap.size := by omega
  have hz0 : Blk (((((w2.setCell ⟨s, 0, none⟩ (uv t.life)).setCell ⟨s, 1, none⟩ (uv t.age)).setCell ⟨s, 2, none⟩ (.slice A1 t.nonce.length c1)).setCell ⟨s, 3, none⟩ (.slice A2 t.label.length c2)).setCell ⟨s, 4, none⟩ (uv t.early)) s 25 #[uv t.life, uv t.age, .slice A1 t.nonce.length c1, .slice A2 t.label.length c2, uv t.early] := five_set hb2
  have hz := hz0.alloc (.cells #[uv t.life, uv t.age, .slice A1 t.nonce.length c1, .slice A2 t.label.length c2, uv t.early] 71)
  have huf := (five_upd (w := w2) (b0 := uv t.life) (b1 := uv t.age) (b2 := .slice A1 t.nonce.length c1) (b3 := .slice A2 t.label.length c2) (b4 := uv t.early) (Upd.refl [s] w2) (.inl (by simp) : s ∈ [s] ∨ w2.heap.size ≤ s)).alloc (.cells #[uv t.life, uv t.age, .slice A1 t.nonce.length c1, .slice A2 t.label.length c2, uv t.early] 71)
  have HZ := hid hz
  have HF := hid huf
  have HY1 := hid hy1
  have HY2 := hid hy2
  have HU := hid hu2
  clear hy1 hy2 hb3 hb2 hu2 hz0 hz huf
  go_wp2
  obtain ⟨z0, z1, z2, z3, z4, -⟩ := five_cells HZ.out
  refine bodyPost_ret (v := .tuple #[.agg #[uv t.life, uv t.age, .slice A1 t.nonce.length c1, .slice A2 t.label.length c2, uv t.early], .bool o.isSome]) (by simp [results, Try.results20, go_sem, z0, z1, z2, z3, z4]) rfl
    ⟨_, rfl, ?_, (hu1.trans HU.out (by simp)).trans HF.out (by simp; omega)⟩
  rw [HT.out]
  exact ⟨A1, c1, A2, c2, rfl, Row.upd HY1.out HF.out (by simp; omega), Row.upd HY2.out HF.out (by simp; omega)⟩
end
end Go.Proofs.Ytcdjbciifnoajaa

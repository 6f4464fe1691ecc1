/- EncryptedExtensions: the package's 'Unmarshal'. -/
import Derived.Test.YtcdjbciifnoajaaEeU
namespace Go.Proofs.Ytcdjbciifnoajaa
open Go.RowKit
set_option maxRecDepth 100000

/-- the message as a value -/
def EeV (w : World) (B : Nat) (v : Value) (x : Ee) : Prop :=
  ∃ A1 c1 A2 c2, v = .agg #[strv x.alpn, .bool x.has, .slice A1 x.quic.length c1, .bool x.early, .slice A2 x.ech.length c2, .bool x.ack] ∧ Byt w B (.slice A1 x.quic.length c1) x.quic ∧ Byt w B (.slice A2 x.ech.length c2) x.ech
/-- .. its bytes in new blocks -/
def EeN (w : World) (lo : Nat) (v : Value) (x : Ee) : Prop :=
  ∃ A1 c1 A2 c2 ec, v = .agg #[strv x.alpn, .bool x.has, .slice A1 x.quic.length c1, .bool x.early, .slice A2 x.ech.length c2, .bool x.ack] ∧ CpO w lo x.has (.slice A1 x.quic.length c1) x.quic ∧ CpO w lo ec (.slice A2 x.ech.length c2) x.ech
def UnEN (w : World) (o : Option Ee) (e : Ending) (w' : World) : Prop :=
  ∃ v, e = .returned (.tuple #[v, .bool o.isSome]) ∧ EeN w' w.heap.size v (o.getD Ee.zero) ∧ Upd [] w w'
def UnE (w : World) (o : Option Ee) (e : Ending) (w' : World) : Prop :=
  ∃ v, e = .returned (.tuple #[v, .bool o.isSome]) ∧ EeV w' w'.heap.size v (o.getD Ee.zero) ∧ Upd [] w w'
section
variable {w w' : World} {B m lo : Nat} {v content : Value} {xs data : List UInt8} {e : Ending} {t : Ee}
theorem EeN.val (h : EeN w lo v t) : EeV w w.heap.size v t := by
  obtain ⟨A1, c1, A2, c2, ec, e, h1, h2⟩ := h
  exact ⟨A1, c1, A2, c2, e, h1.byt, h2.byt⟩
theorem EeN.zero_ (w : World) (lo : Nat) : EeN w lo (.agg #[strv [], .bool false, .slice none 0 0, .bool false, .slice none 0 0, .bool false]) Ee.zero :=
  ⟨none, 0, none, 0, false, rfl, .inr ⟨rfl, rfl, rfl⟩, .inr ⟨rfl, rfl, rfl⟩⟩
theorem EeV.upd {S : List Nat} (h : EeV w B v t) (hu : Upd S w w') (hs : ∀ x ∈ S, B ≤ x) : EeV w' B v t := by
  obtain ⟨A1, c1, A2, c2, e, h1, h2⟩ := h
  exact ⟨A1, c1, A2, c2, e, Row.upd h1 hu hs, Row.upd h2 hu hs⟩
theorem EeV.shrink (h : EeV w B v t) : EeV w w.heap.size v t := by
  obtain ⟨A1, c1, A2, c2, e, h1, h2⟩ := h
  exact ⟨A1, c1, A2, c2, e, h1.shrink, h2.shrink⟩
theorem six_set {T : TypeId} {g : Nat} {a0 a1 a2 a3 a4 a5 b0 b1 b2 b3 b4 b5 : Value} (h : Blk w g T #[a0, a1, a2, a3, a4, a5]) :
    Blk ((((((w.setCell ⟨g, 0, none⟩ (b0)).setCell ⟨g, 1, none⟩ (b1)).setCell ⟨g, 2, none⟩ (b2)).setCell ⟨g, 3, none⟩ (b3)).setCell ⟨g, 4, none⟩ (b4)).setCell ⟨g, 5, none⟩ (b5)) g T #[b0, b1, b2, b3, b4, b5] := by
  have := (((((h.set_ 0 b0).set_ 1 b1).set_ 2 b2).set_ 3 b3).set_ 4 b4).set_ 5 b5
  simpa using this
theorem six_upd {S : List Nat} {a : World} {g : Nat} {b0 b1 b2 b3 b4 b5 : Value} (h : Upd S a w) (hg : g ∈ S ∨ a.heap.size ≤ g) :
    Upd S a ((((((w.setCell ⟨g, 0, none⟩ (b0)).setCell ⟨g, 1, none⟩ (b1)).setCell ⟨g, 2, none⟩ (b2)).setCell ⟨g, 3, none⟩ (b3)).setCell ⟨g, 4, none⟩ (b4)).setCell ⟨g, 5, none⟩ (b5)) := (((((h.setCell hg _).setCell hg _).setCell hg _).setCell hg _).setCell hg _).setCell hg _
theorem six_cells {T : TypeId} {g : Nat} {a0 a1 a2 a3 a4 a5 : Value} (h : Blk w g T #[a0, a1, a2, a3, a4, a5]) :
    w.cell? ⟨g, 0, none⟩ = some a0 ∧ w.cell? ⟨g, 1, none⟩ = some a1 ∧ w.cell? ⟨g, 2, none⟩ = some a2 ∧ w.cell? ⟨g, 3, none⟩ = some a3 ∧ w.cell? ⟨g, 4, none⟩ = some a4 ∧ w.cell? ⟨g, 5, none⟩ = some a5 ∧
    w.frozen? ⟨g, 0, none⟩ = false ∧ w.frozen? ⟨g, 1, none⟩ = false ∧ w.frozen? ⟨g, 2, none⟩ = false ∧ w.frozen? ⟨g, 3, none⟩ = false ∧ w.frozen? ⟨g, 4, none⟩ = false ∧ w.frozen? ⟨g, 5, none⟩ = false :=
  ⟨h.cell 0, h.cell 1, h.cell 2, h.cell 3, h.cell 4, h.cell 5, h.frozen 0, h.frozen 1, h.frozen 2, h.frozen 3, h.frozen 4, h.frozen 5⟩
set_option maxHeartbeats 2000000 in
theorem tls_UnmarshalEe (hv : Byt w B v data) (hB : B ≤ w.heap.size) : Calls Try.prog 59 #[v] w (UnEN w (eeRead data)) := by
  obtain ⟨A, c, rfl, hv, hl, hc⟩ := Byt.form hv rfl
  have q : ∀ (w : World) (a : Option Addr) (n c n' c' : Nat), (binOp .neq 23 (.slice a n c) (.slice none n' c')).run Try.prog w = .ok (.bool (!a.isNone)) w := fun w a n c n' c' => run_neq_slice_nil_any w _ _ a n c n' c' Try.underlying23
  obtain ⟨w1, hw1⟩ : ∃ w1, (w.alloc (.cells #[strv [], .bool false, .slice none 0 0, .bool false, .slice none 0 0, .bool false] 96)).alloc (.cells #[strv [], .slice none 0 0, .bool false, .slice none 0 0, .bool false] 114) = w1 := ⟨_, rfl⟩
  obtain ⟨s, hs⟩ : ∃ s, w.heap.size = s := ⟨_, rfl⟩
  have hu1 : Upd [] w w1 := by rw [← hw1]; exact ((Upd.refl _ _).alloc _).alloc _
  have hb1 : Blk w1 s 96 #[strv [], .bool false, .slice none 0 0, .bool false, .slice none 0 0, .bool false] := by rw [← hw1, ← hs]; exact (Blk.new _ _ _).alloc _
  have hm1 : Blk w1 (s + 1) 114 #[strv [], .slice none 0 0, .bool false, .slice none 0 0, .bool false] := by
    rw [← hw1, ← hs]
    have := Blk.new (w.alloc (.cells #[strv [], .bool false, .slice none 0 0, .bool false, .slice none 0 0, .bool false] 96)) 114 #[strv [], .slice none 0 0, .bool false, .slice none 0 0, .bool false]
    rwa [show (w.alloc (.cells #[strv [], .bool false, .slice none 0 0, .bool false, .slice none 0 0, .bool false] 96)).heap.size = w.heap.size + 1 by simp] at this
  have hs1 : w1.heap.size = s + 2 := by rw [← hw1, ← hs]; simp
  have H1 := hid (unmarshal_Ee hm1 (Row.upd hv hu1 (by simp)) (by omega))
  have HW := hid hw1
  have HS1 := hid hs1
  have HSS := hid hs
  clear hw1 hm1 hs1
  generalize eeRead data = o at H1 ⊢
  go_enter Try.func59, Try.ntmps59
  go_wp2_with fail
  rw [HW.out]
  refine (H1.out).mono ?_
  rintro e w2 ⟨rfl, hu2, hx⟩
  have hu := hu1.trans hu2 (by simp; omega)
  have hb2 := hb1.upd hu2 (by simp)
  obtain ⟨r0, r1, r2, r3, r4, r5, f0, f1, f2, f3, f4, f5⟩ := six_cells hb2
  rcases o with _ | t
  · have hz : Blk ((((((w2.setCell ⟨s, 0, none⟩ (strv [])).setCell ⟨s, 1, none⟩ (.bool false)).setCell ⟨s, 2, none⟩ (.slice none 0 0)).setCell ⟨s, 3, none⟩ (.bool false)).setCell ⟨s, 4, none⟩ (.slice none 0 0)).setCell ⟨s, 5, none⟩ (.bool false)) s 96 #[strv [], .bool false, .slice none 0 0, .bool false, .slice none 0 0, .bool false] := six_set hb2
    obtain ⟨z0, z1, z2, z3, z4, z5, -⟩ := six_cells hz
    go_wp2
    exact bodyPost_ret (v := .tuple #[.agg #[strv [], .bool false, .slice none 0 0, .bool false, .slice none 0 0, .bool false], .bool false]) (by simp [results, Try.results59, go_sem, z0, z1, z2, z3, z4, z5]) rfl ⟨_, rfl, EeN.zero_ _ _, six_upd hu (.inr (by omega))⟩
  · obtain ⟨qv, ev, ec, hm2, hq, he⟩ := hx t rfl
    obtain ⟨A1, c1, rfl, hA1⟩ := hq.nil
    obtain ⟨A2, c2, rfl, -⟩ := he.nil
    have hA1 : (!A1.isNone) = t.has := by rw [hA1, Bool.not_not]
    have HA1 := hid hA1
    obtain ⟨m0, m1, m2, m3, m4, -⟩ := ee_cells hm2
    rw [HS1.out] at hq he
    clear hx
    have hz : Blk ((((((w2.setCell ⟨s, 0, none⟩ (strv t.alpn)).setCell ⟨s, 1, none⟩ (.bool t.has)).setCell ⟨s, 2, none⟩ (.slice A1 t.quic.length c1)).setCell ⟨s, 3, none⟩ (.bool t.early)).setCell ⟨s, 4, none⟩ (.slice A2 t.ech.length c2)).setCell ⟨s, 5, none⟩ (.bool t.ack)) s 96 #[strv t.alpn, .bool t.has, .slice A1 t.quic.length c1, .bool t.early, .slice A2 t.ech.length c2, .bool t.ack] := six_set hb2
    obtain ⟨z0, z1, z2, z3, z4, z5, -⟩ := six_cells hz
    have huf : Upd [s] w2 ((((((w2.setCell ⟨s, 0, none⟩ (strv t.alpn)).setCell ⟨s, 1, none⟩ (.bool t.has)).setCell ⟨s, 2, none⟩ (.slice A1 t.quic.length c1)).setCell ⟨s, 3, none⟩ (.bool t.early)).setCell ⟨s, 4, none⟩ (.slice A2 t.ech.length c2)).setCell ⟨s, 5, none⟩ (.bool t.ack)).drew := (six_upd (Upd.refl [s] w2) (.inl (by simp))).drew
    have HUF := hid huf
    clear hz huf
    go_wp2_with fail
    go_still_tail 26, (by kernel_rfl)
    go_wp2
    have huf := HUF.out
    refine bodyPost_ret (v := .tuple #[.agg #[strv t.alpn, .bool t.has, .slice A1 t.quic.length c1, .bool t.early, .slice A2 t.ech.length c2, .bool t.ack], .bool true]) (by simp [results, Try.results59, go_sem, z0, z1, z2, z3, z4, z5]) rfl
      ⟨_, rfl, ⟨A1, c1, A2, c2, ec, rfl, (hq.upd huf (by simp)).more (by omega), (he.upd huf (by simp)).more (by omega)⟩, hu.trans huf (by simp; omega)⟩
set_option maxHeartbeats 2000000 in
theorem impl_UnmarshalEe (hv : Byt w B v data) (hB : B ≤ w.heap.size) : Calls Try.prog 29 #[v] w (UnE w (eeRead data)) := by
  obtain ⟨A, c, rfl, hv, hl, hc⟩ := Byt.form hv rfl
  obtain ⟨w1, hw1⟩ : ∃ w1, w.alloc (.cells #[strv [], .bool false, .slice none 0 0, .bool false, .slice none 0 0, .bool false] 44) = w1 := ⟨_, rfl⟩
  obtain ⟨s, hs⟩ : ∃ s, w.heap.size = s := ⟨_, rfl⟩
  have hu1 : Upd [] w w1 := by rw [← hw1]; exact (Upd.refl _ _).alloc _
  have hb1 : Blk w1 s 44 #[strv [], .bool false, .slice none 0 0, .bool false, .slice none 0 0, .bool false] := by rw [← hw1, ← hs]; exact Blk.new _ _ _
  have hs1 : w1.heap.size = s + 1 := by rw [← hw1, ← hs]; simp
  have H1 := hid (tls_UnmarshalEe (Row.upd hv hu1 (by simp)) (by have := hu1.size; omega))
  have HW := hid hw1
  have HS1 := hid hs1
  clear hw1 hs1
  generalize eeRead data = o at H1 ⊢
  go_enter Try.func29, Try.ntmps29
  go_wp2_with fail
  rw [HW.out]
  refine (H1.out).mono ?_
  rintro e w2 ⟨_, rfl, ⟨A1, c1, A2, c2, ec, rfl, hy1, hy2⟩, hu2⟩
  obtain ⟨t, ht⟩ : ∃ t, o.getD Ee.zero = t := ⟨_, rfl⟩
  rw [ht] at hy1 hy2
  rw [ht]
  rw [HS1.out] at hy1 hy2
  have HT := hid ht
  clear ht
  have hb2 := hb1.upd hu2 (by simp)
  have hs2 := hb2.lt
  have hb3 := hb2.alloc (.cells #[strv t.alpn, .bool t.has, .slice A1 t.quic.length c1, .bool t.early, .slice A2 t.ech.length c2, .bool t.ack] 96)
  obtain ⟨r0, r1, r2, r3, r4, r5, f0, f1, f2, f3, f4, f5⟩ := six_cells hb3
  obtain ⟨p0, p1, p2, p3, p4, p5, q0, q1, q2, q3, q4, q5⟩ := six_cells hb2
  have hne : ¬ w2.heap.size = s := by omega
  have hne' : ¬ s = w2.heap.size := by omega
  have hz0 : Blk ((((((w2.setCell ⟨s, 0, none⟩ (strv t.alpn)).setCell ⟨s, 1, none⟩ (.bool t.has)).setCell ⟨s, 2, none⟩ (.slice A1 t.quic.length c1)).setCell ⟨s, 3, none⟩ (.bool t.early)).setCell ⟨s, 4, none⟩ (.slice A2 t.ech.length c2)).setCell ⟨s, 5, none⟩ (.bool t.ack)) s 44 #[strv t.alpn, .bool t.has, .slice A1 t.quic.length c1, .bool t.early, .slice A2 t.ech.length c2, .bool t.ack] := six_set hb2
  have hz := hz0.alloc (.cells #[strv t.alpn, .bool t.has, .slice A1 t.quic.length c1, .bool t.early, .slice A2 t.ech.length c2, .bool t.ack] 96)
  have huf : Upd [s] w2 (((((((w2.setCell ⟨s, 0, none⟩ (strv t.alpn)).setCell ⟨s, 1, none⟩ (.bool t.has)).setCell ⟨s, 2, none⟩ (.slice A1 t.quic.length c1)).setCell ⟨s, 3, none⟩ (.bool t.early)).setCell ⟨s, 4, none⟩ (.slice A2 t.ech.length c2)).setCell ⟨s, 5, none⟩ (.bool t.ack)).alloc (.cells #[strv t.alpn, .bool t.has, .slice A1 t.quic.length c1, .bool t.early, .slice A2 t.ech.length c2, .bool t.ack] 96)) := (six_upd (Upd.refl [s] w2) (.inl (by simp))).alloc _
  have HZ := hid hz
  have HF := hid huf
  have HY1 := hid hy1
  have HY2 := hid hy2
  have HU := hid hu2
  clear hy1 hy2 hb3 hb2 hu2 hz0 hz huf
  go_wp2
  obtain ⟨z0, z1, z2, z3, z4, z5, -⟩ := six_cells HZ.out
  refine bodyPost_ret (v := .tuple #[.agg #[strv t.alpn, .bool t.has, .slice A1 t.quic.length c1, .bool t.early, .slice A2 t.ech.length c2, .bool t.ack], .bool o.isSome]) (by simp [results, Try.results29, go_sem, z0, z1, z2, z3, z4, z5]) rfl
    ⟨_, rfl, ?_, (hu1.trans HU.out (by simp)).trans HF.out (by simp; omega)⟩
  rw [HT.out]
  exact ⟨A1, c1, A2, c2, rfl, (HY1.out.upd HF.out (by simp)).byt, (HY2.out.upd HF.out (by simp)).byt⟩
end
end Go.Proofs.Ytcdjbciifnoajaa

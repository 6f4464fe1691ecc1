/- Contracts of the reference's writer: inner, message, plain, vector, number, staple. -/
import Derived.Test.YtcdjbciifnoajaaWriter2
namespace Go.Proofs.Ytcdjbciifnoajaa
open Go.RowKit
set_option maxRecDepth 20000

section
variable {w w' : World} {base p : Nat} {v content : Value} {s : Wr} {xs : List UInt8} {S : List Nat}
theorem Wrt.upd (h : Wrt w base p v s) (hu : Upd S w w') (hp : p ∉ S) (hs : ∀ g, v.ownBlock = some g → g ∉ S) : Wrt w' base p v s := ⟨h.1, h.2.1.upd hu hp, h.2.2.upd hu hs⟩
theorem Src.upd (h : Src w base p v content xs) (hu : Upd S w w') (hS : ∀ k ∈ S, base ≤ k ∧ (k = p ∨ v.ownBlock = some k)) : Src w' base p v content xs := by
  obtain ⟨B, hb, hk⟩ := h
  refine ⟨B, ?_, hk⟩
  rcases hk with hk | hk
  · exact hb.upd hu fun x hx => by have := (hS x hx).1; omega
  · refine Row.apart hb hu fun g hg hx => ?_
    have := hk g hg
    rcases (hS g hx).2 with rfl | h2
    · exact this.1 rfl
    · exact this.2 h2
/-- a frame for a writer's method, from the world before a change of its own cells -/
theorem WrtP.from (hu : Upd (p :: v.ownBlock.toList) w w') {e : Ending} {w2 : World} (h : WrtP w' base p v s e w2) : WrtP w base p v s e w2 := by
  obtain ⟨he, v', h1, h2, h3⟩ := h
  exact ⟨he, v', h1, hu.two h2, h3.imp id fun ⟨g, h1, h2⟩ => ⟨g, h1, Nat.le_trans hu.size h2⟩⟩

set_option maxHeartbeats 1000000 in
theorem winner_any1 (hw : Wrt w base p v s) (hc : Src w base p v content xs) (xb : Bool) (hl : s.b.length ≤ 17592186044416) (hx : xs.length ≤ 1099511627776) :
    Calls Try.prog 63 #[.pointer (some ⟨p, 0, none⟩), .int .i64 1, .agg #[content, .bool xb]] w (WrtP w base p v (s.inner 1 ⟨xs, xb⟩)) := by
  obtain ⟨A, c, hvs, c0, c1, f0, f1⟩ := hw.open_
  obtain ⟨Ax, cx, rfl, -⟩ : ∃ A c, content = .slice A xs.length c ∧ True := by
    obtain ⟨B, hb, _⟩ := hc
    obtain ⟨A, c, e, _⟩ := Byt.form hb rfl
    exact ⟨A, c, e, trivial⟩
  have hpl := hw.2.1.lt
  have hbp := hw.1
  have Hvs := hid hvs
  have HL := hid hl
  have HX := hid hx
  clear hvs hl hx
  have hu1 : ∀ b o, Upd [p] w ((w.setCell ⟨p, 1, none⟩ (.bool b)).alloc o) := fun b o => ((Upd.refl _ _).setCell (by simp) _).alloc _
  have hw1 : ∀ b o, Wrt ((w.setCell ⟨p, 1, none⟩ (.bool b)).alloc o) base p v ⟨s.b, b⟩ := fun b o => (wrt_bad hw b).upd (S := []) ((Upd.refl _ _).alloc _) (by simp) (by simp)
  have hc1 : ∀ b o, Src ((w.setCell ⟨p, 1, none⟩ (.bool b)).alloc o) base p v (.slice Ax xs.length cx) xs := fun b o => hc.upd (hu1 b o) (fun k hk => by simp at hk; subst hk; exact ⟨hbp, .inl rfl⟩)
  have hu2 : ∀ b o, Upd (p :: v.ownBlock.toList) w ((w.setCell ⟨p, 1, none⟩ (.bool b)).alloc o) := fun b o => (hu1 b o).mono (by simp)
  have Hu2 := hid hu2
  have Hw1 := hid hw1
  have Hc1 := hid hc1
  clear hu1 hw1 hc1 hu2
  cases hsb : s.bad
  · have HS := hid (show s.inner 1 ⟨xs, xb⟩ = Wr.vec ⟨s.b, xb⟩ 1 xs by simp [Wr.inner, hsb])
    rw [hsb] at c1
    clear hsb
    go_enter Try.func63, Try.ntmps63
    go_wp2_with fail
    refine (wvec_any1 (Hw1.out xb _) (Hc1.out xb _) HL.out HX.out).mono ?_
    intro e w2 hp
    have he := hp.1
    subst he
    go_wp2
    go_end0
    rw [HS.out]
    exact hp.from (Hu2.out _ _)
  · have HS := hid (show s.inner 1 ⟨xs, xb⟩ = Wr.vec ⟨s.b, true⟩ 1 xs by simp [Wr.inner, hsb])
    rw [hsb] at c1
    clear hsb
    go_enter Try.func63, Try.ntmps63
    go_wp2_with fail
    refine (wvec_any1 (Hw1.out true _) (Hc1.out true _) HL.out HX.out).mono ?_
    intro e w2 hp
    have he := hp.1
    subst he
    go_wp2
    go_end0
    rw [HS.out]
    exact hp.from (Hu2.out _ _)

set_option maxHeartbeats 1000000 in
theorem winner_any2 (hw : Wrt w base p v s) (hc : Src w base p v content xs) (xb : Bool) (hl : s.b.length ≤ 17592186044416) (hx : xs.length ≤ 1099511627776) :
    Calls Try.prog 63 #[.pointer (some ⟨p, 0, none⟩), .int .i64 2, .agg #[content, .bool xb]] w (WrtP w base p v (s.inner 2 ⟨xs, xb⟩)) := by
  obtain ⟨A, c, hvs, c0, c1, f0, f1⟩ := hw.open_
  obtain ⟨Ax, cx, rfl, -⟩ : ∃ A c, content = .slice A xs.length c ∧ True := by
    obtain ⟨B, hb, _⟩ := hc
    obtain ⟨A, c, e, _⟩ := Byt.form hb rfl
    exact ⟨A, c, e, trivial⟩
  have hpl := hw.2.1.lt
  have hbp := hw.1
  have Hvs := hid hvs
  have HL := hid hl
  have HX := hid hx
  clear hvs hl hx
  have hu1 : ∀ b o, Upd [p] w ((w.setCell ⟨p, 1, none⟩ (.bool b)).alloc o) := fun b o => ((Upd.refl _ _).setCell (by simp) _).alloc _
  have hw1 : ∀ b o, Wrt ((w.setCell ⟨p, 1, none⟩ (.bool b)).alloc o) base p v ⟨s.b, b⟩ := fun b o => (wrt_bad hw b).upd (S := []) ((Upd.refl _ _).alloc _) (by simp) (by simp)
  have hc1 : ∀ b o, Src ((w.setCell ⟨p, 1, none⟩ (.bool b)).alloc o) base p v (.slice Ax xs.length cx) xs := fun b o => hc.upd (hu1 b o) (fun k hk => by simp at hk; subst hk; exact ⟨hbp, .inl rfl⟩)
  have hu2 : ∀ b o, Upd (p :: v.ownBlock.toList) w ((w.setCell ⟨p, 1, none⟩ (.bool b)).alloc o) := fun b o => (hu1 b o).mono (by simp)
  have Hu2 := hid hu2
  have Hw1 := hid hw1
  have Hc1 := hid hc1
  clear hu1 hw1 hc1 hu2
  cases hsb : s.bad
  · have HS := hid (show s.inner 2 ⟨xs, xb⟩ = Wr.vec ⟨s.b, xb⟩ 2 xs by simp [Wr.inner, hsb])
    rw [hsb] at c1
    clear hsb
    go_enter Try.func63, Try.ntmps63
    go_wp2_with fail
    refine (wvec_any2 (Hw1.out xb _) (Hc1.out xb _) HL.out HX.out).mono ?_
    intro e w2 hp
    have he := hp.1
    subst he
    go_wp2
    go_end0
    rw [HS.out]
    exact hp.from (Hu2.out _ _)
  · have HS := hid (show s.inner 2 ⟨xs, xb⟩ = Wr.vec ⟨s.b, true⟩ 2 xs by simp [Wr.inner, hsb])
    rw [hsb] at c1
    clear hsb
    go_enter Try.func63, Try.ntmps63
    go_wp2_with fail
    refine (wvec_any2 (Hw1.out true _) (Hc1.out true _) HL.out HX.out).mono ?_
    intro e w2 hp
    have he := hp.1
    subst he
    go_wp2
    go_end0
    rw [HS.out]
    exact hp.from (Hu2.out _ _)

set_option maxHeartbeats 1000000 in
theorem winner_any3 (hw : Wrt w base p v s) (hc : Src w base p v content xs) (xb : Bool) (hl : s.b.length ≤ 17592186044416) (hx : xs.length ≤ 1099511627776) :
    Calls Try.prog 63 #[.pointer (some ⟨p, 0, none⟩), .int .i64 3, .agg #[content, .bool xb]] w (WrtP w base p v (s.inner 3 ⟨xs, xb⟩)) := by
  obtain ⟨A, c, hvs, c0, c1, f0, f1⟩ := hw.open_
  obtain ⟨Ax, cx, rfl, -⟩ : ∃ A c, content = .slice A xs.length c ∧ True := by
    obtain ⟨B, hb, _⟩ := hc
    obtain ⟨A, c, e, _⟩ := Byt.form hb rfl
    exact ⟨A, c, e, trivial⟩
  have hpl := hw.2.1.lt
  have hbp := hw.1
  have Hvs := hid hvs
  have HL := hid hl
  have HX := hid hx
  clear hvs hl hx
  have hu1 : ∀ b o, Upd [p] w ((w.setCell ⟨p, 1, none⟩ (.bool b)).alloc o) := fun b o => ((Upd.refl _ _).setCell (by simp) _).alloc _
  have hw1 : ∀ b o, Wrt ((w.setCell ⟨p, 1, none⟩ (.bool b)).alloc o) base p v ⟨s.b, b⟩ := fun b o => (wrt_bad hw b).upd (S := []) ((Upd.refl _ _).alloc _) (by simp) (by simp)
  have hc1 : ∀ b o, Src ((w.setCell ⟨p, 1, none⟩ (.bool b)).alloc o) base p v (.slice Ax xs.length cx) xs := fun b o => hc.upd (hu1 b o) (fun k hk => by simp at hk; subst hk; exact ⟨hbp, .inl rfl⟩)
  have hu2 : ∀ b o, Upd (p :: v.ownBlock.toList) w ((w.setCell ⟨p, 1, none⟩ (.bool b)).alloc o) := fun b o => (hu1 b o).mono (by simp)
  have Hu2 := hid hu2
  have Hw1 := hid hw1
  have Hc1 := hid hc1
  clear hu1 hw1 hc1 hu2
  cases hsb : s.bad
  · have HS := hid (show s.inner 3 ⟨xs, xb⟩ = Wr.vec ⟨s.b, xb⟩ 3 xs by simp [Wr.inner, hsb])
    rw [hsb] at c1
    clear hsb
    go_enter Try.func63, Try.ntmps63
    go_wp2_with fail
    refine (wvec_any3 (Hw1.out xb _) (Hc1.out xb _) HL.out HX.out).mono ?_
    intro e w2 hp
    have he := hp.1
    subst he
    go_wp2
    go_end0
    rw [HS.out]
    exact hp.from (Hu2.out _ _)
  · have HS := hid (show s.inner 3 ⟨xs, xb⟩ = Wr.vec ⟨s.b, true⟩ 3 xs by simp [Wr.inner, hsb])
    rw [hsb] at c1
    clear hsb
    go_enter Try.func63, Try.ntmps63
    go_wp2_with fail
    refine (wvec_any3 (Hw1.out true _) (Hc1.out true _) HL.out HX.out).mono ?_
    intro e w2 hp
    have he := hp.1
    subst he
    go_wp2
    go_end0
    rw [HS.out]
    exact hp.from (Hu2.out _ _)
end
end Go.Proofs.Ytcdjbciifnoajaa

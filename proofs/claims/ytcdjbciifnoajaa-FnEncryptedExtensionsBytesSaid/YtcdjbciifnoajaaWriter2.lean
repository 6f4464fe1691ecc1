/- Contracts of the reference's writer: vec, inner, message and their kin. -/
import Derived.Test.YtcdjbciifnoajaaWriter
import Derived.Deep.DeepMust
namespace Go.Proofs.Ytcdjbciifnoajaa
open Go.RowKit
set_option maxRecDepth 20000

theorem byt_oneCell (xs : List UInt8) : ∀ u ∈ xs.map bv, u.oneCell' = true := by
  intro u hu
  simp only [List.mem_map] at hu
  obtain ⟨a, _, rfl⟩ := hu
  rfl

/-- bytes that a writer's method may read while it writes: they lie below base, or in a block that the writer does not write -/
def Src (w : World) (base p : Nat) (v content : Value) (xs : List UInt8) : Prop :=
  ∃ B, Byt w B content xs ∧ (B ≤ base ∨ ∀ k, content.ownBlock = some k → k ≠ p ∧ v.ownBlock ≠ some k)

section
variable {w w' : World} {base p : Nat} {v content : Value} {s : Wr} {xs : List UInt8} {S : List Nat}
theorem Src.row (h : Src w base p v content xs) (hp : base ≤ p) {ys : List Value} (hown : Own w base 5 v ys) (hu : Upd (p :: v.ownBlock.toList) w w') : ∃ B, Byt w' B content xs := by
  obtain ⟨B, hb, hk⟩ := h
  refine ⟨B, ?_⟩
  rcases hk with hk | hk
  · refine hb.upd hu fun x hx => ?_
    rcases List.mem_cons.1 hx with rfl | hx
    · omega
    · have := hown.ge (Option.mem_toList.1 hx)
      omega
  · refine Row.apart hb hu fun g hg hx => ?_
    have := hk g hg
    rcases List.mem_cons.1 hx with rfl | hx
    · exact this.1 rfl
    · exact this.2 (Option.mem_toList.1 hx)

theorem wrt_bad (h : Wrt w base p v s) (b : Bool) : Wrt (w.setCell ⟨p, 1, none⟩ (.bool b)) base p v ⟨s.b, b⟩ := by
  refine ⟨h.1, ?_, h.2.2.upd ((Upd.refl [p] _).setCell (by simp) _) ?_⟩
  · have := h.2.1.set_ 1 (.bool b)
    simpa using this
  · intro g hg hm
    simp at hm
    exact h.2.2.ne h.2.1 (by decide) g hg hm

/-- behind the appended content -/
theorem wvec_end {w0 w2 w3 : World} {v v2 v3 : Value} {s2 s3 : Wr} (hu1 : Upd (p :: v.ownBlock.toList) w0 w2) (hv2 : v2.ownBlock = v.ownBlock ∨ ∃ g, v2.ownBlock = some g ∧ w0.heap.size ≤ g)
    (hw2 : Wrt w2 base p v2 s2) (hap : Appended w2 base 5 v2 (s2.b.map bv ++ xs.map bv) v3 w3) (hs3 : s3 = ⟨s2.b ++ xs, s2.bad⟩) :
    WrtP w0 base p v s3 (.returned (.tuple #[])) (w3.setCell ⟨p, 0, none⟩ v3) := by
  obtain ⟨h1, h2, h3⟩ := hap
  have hpn : p ∉ v2.ownBlock.toList := fun hm => hw2.2.2.ne hw2.2.1 (by decide) _ (Option.mem_toList.1 hm) rfl
  have hb3 := hw2.2.1.upd h2 hpn
  have hsz := hu1.size
  subst hs3
  refine ⟨rfl, v3, ⟨hw2.1, ?_, ?_⟩, ?_, ?_⟩
  · have := hb3.set_ 0 v3
    simpa using this
  · rw [List.map_append]
    refine h1.upd ((Upd.refl [p] _).setCell (by simp) _) (fun g hg hm => ?_)
    simp at hm
    exact h1.ne hb3 (by decide) g hg hm
  · refine (hu1.trans h2 ?_).setCell (by simp) _
    intro k hk
    rcases hv2 with hv | ⟨g, hg, hge⟩
    · rw [hv] at hk; left; simp; right; exact Option.mem_toList.1 hk
    · rw [hg] at hk; right; simp at hk; omega
  · rcases h3 with h3 | h3
    · rw [h3]; exact hv2
    · exact .inr ⟨_, h3, hsz⟩

set_option maxHeartbeats 2000000 in
theorem wvec_any1 (hw : Wrt w base p v s) (hc : Src w base p v content xs) (hl : s.b.length ≤ 17592186044416) (hx : xs.length ≤ 1099511627776) :
    Calls Try.prog 34 #[.pointer (some ⟨p, 0, none⟩), .int .i64 1, content] w (WrtP w base p v (s.vec 1 xs)) := by
  obtain ⟨A, c, hvs, c0, c1, f0, f1⟩ := hw.open_
  obtain ⟨Ax, cx, rfl, -⟩ : ∃ A c, content = .slice A xs.length c ∧ True := by
    obtain ⟨B, hb, _⟩ := hc
    obtain ⟨A, c, e, _⟩ := Byt.form hb rfl
    exact ⟨A, c, e, trivial⟩
  have Hvs := hid hvs
  have HL := hid hl
  have HX := hid hx
  clear hvs hl hx
  by_cases hbig : 256 ≤ xs.length
  · have HS := hid (show s.vec 1 xs = ⟨s.b ++ be 1 xs.length ++ xs, true⟩ by simp [Wr.vec, hbig])
    have hw1 : Wrt (w.setCell ⟨p, 1, none⟩ (.bool true)) base p v ⟨s.b, true⟩ := wrt_bad hw true
    have hu1 : Upd (p :: v.ownBlock.toList) w (w.setCell ⟨p, 1, none⟩ (.bool true)) := (Upd.refl _ _).setCell (by simp) _
    have hc1 : Src (w.setCell ⟨p, 1, none⟩ (.bool true)) base p v (.slice Ax xs.length cx) xs := by
      obtain ⟨B, hb, hk⟩ := hc
      refine ⟨B, ?_, hk⟩
      rcases hk with hk | hk
      · exact hb.setCell (p := ⟨p, 1, none⟩) (by have := hw.1; simp; omega) _
      · refine Row.apart hb ((Upd.refl [p] _).setCell (by simp) _) fun g hg hm => ?_
        simp at hm
        exact (hk g hg).1 hm

    have hd : decide ((256 : Int) ≤ (xs.length : Int)) = true := by rw [decide_eq_true_eq]; omega
    clear hbig
    go_enter Try.func34, Try.ntmps34
    go_wp2_with fail
    refine (wnum_any hw1 1 xs.length (by omega) HL.out).mono ?_
    rintro e w2 ⟨rfl, v2, hw2, hu2, hv2⟩
    have hx2 := (hc1.row hw1.1 hw1.2.2 hu2)
    obtain ⟨B, hx2⟩ := hx2
    have hb2 := hw2.1
    have hl2 := hw2.2.1.lt
    have hsb : (s.b ++ be 1 xs.length).length = s.b.length + 1 := by rw [List.length_append, be_len]
    obtain ⟨A2, c2, hv2e, d0, d1, g0, g1⟩ := hw2.open_
    have hown2 := hw2.2.2
    have hpn : p ∉ v2.ownBlock.toList := fun hm => hw2.2.2.ne hw2.2.1 (by decide) _ (Option.mem_toList.1 hm) rfl
    have Hv2e := hid hv2e
    clear hv2e
    rw [← Hv2e.out] at d0
    go_wp2_with (at_builtin; go_must (refine wpList_append_row _ rfl _ _ _ rfl base 5 (.int .u8 0) 1 Try.underlying23 info_u8 rfl rfl hown2 rfl hx2 (byt_oneCell xs) (by have := HL.out; have := HX.out; simp [Wr.num, be_len]; omega) (by have := HL.out; have := HX.out; simp [Wr.num, be_len]; omega) (by omega) ?_; intro v3 w3 hap; have hb3 := hw2.2.1.upd hap.2.1 hpn; have e3 := hb3.cell 0; simp at e3; have h3 := hb3.frozen 0; obtain ⟨A3, c3', hv3⟩ := Own.formN (n := s.b.length + 1 + xs.length) hap.1 (by simp [Wr.num, be_len]; omega); subst hv3))
    go_end0
    rw [HS.out]
    exact wvec_end (hu1.two hu2) (hv2.imp id fun ⟨g, h1, h2⟩ => ⟨g, h1, Nat.le_trans hu1.size h2⟩) hw2 hap rfl
  · have HS := hid (show s.vec 1 xs = ⟨s.b ++ be 1 xs.length ++ xs, s.bad⟩ by simp [Wr.vec, hbig])
    have hw1 := hw
    have hc1 := hc

    have hd : decide ((256 : Int) ≤ (xs.length : Int)) = false := by rw [decide_eq_false_iff_not]; omega
    clear hbig
    go_enter Try.func34, Try.ntmps34
    go_wp2_with fail
    refine (wnum_any hw1 1 xs.length (by omega) HL.out).mono ?_
    rintro e w2 ⟨rfl, v2, hw2, hu2, hv2⟩
    have hx2 := (hc1.row hw1.1 hw1.2.2 hu2)
    obtain ⟨B, hx2⟩ := hx2
    have hb2 := hw2.1
    have hl2 := hw2.2.1.lt
    have hsb : (s.b ++ be 1 xs.length).length = s.b.length + 1 := by rw [List.length_append, be_len]
    obtain ⟨A2, c2, hv2e, d0, d1, g0, g1⟩ := hw2.open_
    have hown2 := hw2.2.2
    have hpn : p ∉ v2.ownBlock.toList := fun hm => hw2.2.2.ne hw2.2.1 (by decide) _ (Option.mem_toList.1 hm) rfl
    have Hv2e := hid hv2e
    clear hv2e
    rw [← Hv2e.out] at d0
    go_wp2_with (at_builtin; go_must (refine wpList_append_row _ rfl _ _ _ rfl base 5 (.int .u8 0) 1 Try.underlying23 info_u8 rfl rfl hown2 rfl hx2 (byt_oneCell xs) (by have := HL.out; have := HX.out; simp [Wr.num, be_len]; omega) (by have := HL.out; have := HX.out; simp [Wr.num, be_len]; omega) (by omega) ?_; intro v3 w3 hap; have hb3 := hw2.2.1.upd hap.2.1 hpn; have e3 := hb3.cell 0; simp at e3; have h3 := hb3.frozen 0; obtain ⟨A3, c3', hv3⟩ := Own.formN (n := s.b.length + 1 + xs.length) hap.1 (by simp [Wr.num, be_len]; omega); subst hv3))
    go_end0
    rw [HS.out]
    exact wvec_end hu2 hv2 hw2 hap rfl

set_option maxHeartbeats 2000000 in
theorem wvec_any2 (hw : Wrt w base p v s) (hc : Src w base p v content xs) (hl : s.b.length ≤ 17592186044416) (hx : xs.length ≤ 1099511627776) :
    Calls Try.prog 34 #[.pointer (some ⟨p, 0, none⟩), .int .i64 2, content] w (WrtP w base p v (s.vec 2 xs)) := by
  obtain ⟨A, c, hvs, c0, c1, f0, f1⟩ := hw.open_
  obtain ⟨Ax, cx, rfl, -⟩ : ∃ A c, content = .slice A xs.length c ∧ True := by
    obtain ⟨B, hb, _⟩ := hc
    obtain ⟨A, c, e, _⟩ := Byt.form hb rfl
    exact ⟨A, c, e, trivial⟩
  have Hvs := hid hvs
  have HL := hid hl
  have HX := hid hx
  clear hvs hl hx
  by_cases hbig : 65536 ≤ xs.length
  · have HS := hid (show s.vec 2 xs = ⟨s.b ++ be 2 xs.length ++ xs, true⟩ by simp [Wr.vec, hbig])
    have hw1 : Wrt (w.setCell ⟨p, 1, none⟩ (.bool true)) base p v ⟨s.b, true⟩ := wrt_bad hw true
    have hu1 : Upd (p :: v.ownBlock.toList) w (w.setCell ⟨p, 1, none⟩ (.bool true)) := (Upd.refl _ _).setCell (by simp) _
    have hc1 : Src (w.setCell ⟨p, 1, none⟩ (.bool true)) base p v (.slice Ax xs.length cx) xs := by
      obtain ⟨B, hb, hk⟩ := hc
      refine ⟨B, ?_, hk⟩
      rcases hk with hk | hk
      · exact hb.setCell (p := ⟨p, 1, none⟩) (by have := hw.1; simp; omega) _
      · refine Row.apart hb ((Upd.refl [p] _).setCell (by simp) _) fun g hg hm => ?_
        simp at hm
        exact (hk g hg).1 hm

    have hd : decide ((65536 : Int) ≤ (xs.length : Int)) = true := by rw [decide_eq_true_eq]; omega
    clear hbig
    go_enter Try.func34, Try.ntmps34
    go_wp2_with fail
    refine (wnum_any hw1 2 xs.length (by omega) HL.out).mono ?_
    rintro e w2 ⟨rfl, v2, hw2, hu2, hv2⟩
    have hx2 := (hc1.row hw1.1 hw1.2.2 hu2)
    obtain ⟨B, hx2⟩ := hx2
    have hb2 := hw2.1
    have hl2 := hw2.2.1.lt
    have hsb : (s.b ++ be 2 xs.length).length = s.b.length + 2 := by rw [List.length_append, be_len]
    obtain ⟨A2, c2, hv2e, d0, d1, g0, g1⟩ := hw2.open_
    have hown2 := hw2.2.2
    have hpn : p ∉ v2.ownBlock.toList := fun hm => hw2.2.2.ne hw2.2.1 (by decide) _ (Option.mem_toList.1 hm) rfl
    have Hv2e := hid hv2e
    clear hv2e
    rw [← Hv2e.out] at d0
    go_wp2_with (at_builtin; go_must (refine wpList_append_row _ rfl _ _ _ rfl base 5 (.int .u8 0) 1 Try.underlying23 info_u8 rfl rfl hown2 rfl hx2 (byt_oneCell xs) (by have := HL.out; have := HX.out; simp [Wr.num, be_len]; omega) (by have := HL.out; have := HX.out; simp [Wr.num, be_len]; omega) (by omega) ?_; intro v3 w3 hap; have hb3 := hw2.2.1.upd hap.2.1 hpn; have e3 := hb3.cell 0; simp at e3; have h3 := hb3.frozen 0; obtain ⟨A3, c3', hv3⟩ := Own.formN (n := s.b.length + 2 + xs.length) hap.1 (by simp [Wr.num, be_len]; omega); subst hv3))
    go_end0
    rw [HS.out]
    exact wvec_end (hu1.two hu2) (hv2.imp id fun ⟨g, h1, h2⟩ => ⟨g, h1, Nat.le_trans hu1.size h2⟩) hw2 hap rfl
  · have HS := hid (show s.vec 2 xs = ⟨s.b ++ be 2 xs.length ++ xs, s.bad⟩ by simp [Wr.vec, hbig])
    have hw1 := hw
    have hc1 := hc

    have hd : decide ((65536 : Int) ≤ (xs.length : Int)) = false := by rw [decide_eq_false_iff_not]; omega
    clear hbig
    go_enter Try.func34, Try.ntmps34
    go_wp2_with fail
    refine (wnum_any hw1 2 xs.length (by omega) HL.out).mono ?_
    rintro e w2 ⟨rfl, v2, hw2, hu2, hv2⟩
    have hx2 := (hc1.row hw1.1 hw1.2.2 hu2)
    obtain ⟨B, hx2⟩ := hx2
    have hb2 := hw2.1
    have hl2 := hw2.2.1.lt
    have hsb : (s.b ++ be 2 xs.length).length = s.b.length + 2 := by rw [List.length_append, be_len]
    obtain ⟨A2, c2, hv2e, d0, d1, g0, g1⟩ := hw2.open_
    have hown2 := hw2.2.2
    have hpn : p ∉ v2.ownBlock.toList := fun hm => hw2.2.2.ne hw2.2.1 (by decide) _ (Option.mem_toList.1 hm) rfl
    have Hv2e := hid hv2e
    clear hv2e
    rw [← Hv2e.out] at d0
    go_wp2_with (at_builtin; go_must (refine wpList_append_row _ rfl _ _ _ rfl base 5 (.int .u8 0) 1 Try.underlying23 info_u8 rfl rfl hown2 rfl hx2 (byt_oneCell xs) (by have := HL.out; have := HX.out; simp [Wr.num, be_len]; omega) (by have := HL.out; have := HX.out; simp [Wr.num, be_len]; omega) (by omega) ?_; intro v3 w3 hap; have hb3 := hw2.2.1.upd hap.2.1 hpn; have e3 := hb3.cell 0; simp at e3; have h3 := hb3.frozen 0; obtain ⟨A3, c3', hv3⟩ := Own.formN (n := s.b.length + 2 + xs.length) hap.1 (by simp [Wr.num, be_len]; omega); subst hv3))
    go_end0
    rw [HS.out]
    exact wvec_end hu2 hv2 hw2 hap rfl

set_option maxHeartbeats 2000000 in
theorem wvec_any3 (hw : Wrt w base p v s) (hc : Src w base p v content xs) (hl : s.b.length ≤ 17592186044416) (hx : xs.length ≤ 1099511627776) :
    Calls Try.prog 34 #[.pointer (some ⟨p, 0, none⟩), .int .i64 3, content] w (WrtP w base p v (s.vec 3 xs)) := by
  obtain ⟨A, c, hvs, c0, c1, f0, f1⟩ := hw.open_
  obtain ⟨Ax, cx, rfl, -⟩ : ∃ A c, content = .slice A xs.length c ∧ True := by
    obtain ⟨B, hb, _⟩ := hc
    obtain ⟨A, c, e, _⟩ := Byt.form hb rfl
    exact ⟨A, c, e, trivial⟩
  have Hvs := hid hvs
  have HL := hid hl
  have HX := hid hx
  clear hvs hl hx
  by_cases hbig : 16777216 ≤ xs.length
  · have HS := hid (show s.vec 3 xs = ⟨s.b ++ be 3 xs.length ++ xs, true⟩ by simp [Wr.vec, hbig])
    have hw1 : Wrt (w.setCell ⟨p, 1, none⟩ (.bool true)) base p v ⟨s.b, true⟩ := wrt_bad hw true
    have hu1 : Upd (p :: v.ownBlock.toList) w (w.setCell ⟨p, 1, none⟩ (.bool true)) := (Upd.refl _ _).setCell (by simp) _
    have hc1 : Src (w.setCell ⟨p, 1, none⟩ (.bool true)) base p v (.slice Ax xs.length cx) xs := by
      obtain ⟨B, hb, hk⟩ := hc
      refine ⟨B, ?_, hk⟩
      rcases hk with hk | hk
      · exact hb.setCell (p := ⟨p, 1, none⟩) (by have := hw.1; simp; omega) _
      · refine Row.apart hb ((Upd.refl [p] _).setCell (by simp) _) fun g hg hm => ?_
        simp at hm
        exact (hk g hg).1 hm

    have hd : decide ((16777216 : Int) ≤ (xs.length : Int)) = true := by rw [decide_eq_true_eq]; omega
    clear hbig
    go_enter Try.func34, Try.ntmps34
    go_wp2_with fail
    refine (wnum_any hw1 3 xs.length (by omega) HL.out).mono ?_
    rintro e w2 ⟨rfl, v2, hw2, hu2, hv2⟩
    have hx2 := (hc1.row hw1.1 hw1.2.2 hu2)
    obtain ⟨B, hx2⟩ := hx2
    have hb2 := hw2.1
    have hl2 := hw2.2.1.lt
    have hsb : (s.b ++ be 3 xs.length).length = s.b.length + 3 := by rw [List.length_append, be_len]
    obtain ⟨A2, c2, hv2e, d0, d1, g0, g1⟩ := hw2.open_
    have hown2 := hw2.2.2
    have hpn : p ∉ v2.ownBlock.toList := fun hm => hw2.2.2.ne hw2.2.1 (by decide) _ (Option.mem_toList.1 hm) rfl
    have Hv2e := hid hv2e
    clear hv2e
    rw [← Hv2e.out] at d0
    go_wp2_with (at_builtin; go_must (refine wpList_append_row _ rfl _ _ _ rfl base 5 (.int .u8 0) 1 Try.underlying23 info_u8 rfl rfl hown2 rfl hx2 (byt_oneCell xs) (by have := HL.out; have := HX.out; simp [Wr.num, be_len]; omega) (by have := HL.out; have := HX.out; simp [Wr.num, be_len]; omega) (by omega) ?_; intro v3 w3 hap; have hb3 := hw2.2.1.upd hap.2.1 hpn; have e3 := hb3.cell 0; simp at e3; have h3 := hb3.frozen 0; obtain ⟨A3, c3', hv3⟩ := Own.formN (n := s.b.length + 3 + xs.length) hap.1 (by simp [Wr.num, be_len]; omega); subst hv3))
    go_end0
    rw [HS.out]
    exact wvec_end (hu1.two hu2) (hv2.imp id fun ⟨g, h1, h2⟩ => ⟨g, h1, Nat.le_trans hu1.size h2⟩) hw2 hap rfl
  · have HS := hid (show s.vec 3 xs = ⟨s.b ++ be 3 xs.length ++ xs, s.bad⟩ by simp [Wr.vec, hbig])
    have hw1 := hw
    have hc1 := hc

    have hd : decide ((16777216 : Int) ≤ (xs.length : Int)) = false := by rw [decide_eq_false_iff_not]; omega
    clear hbig
    go_enter Try.func34, Try.ntmps34
    go_wp2_with fail
    refine (wnum_any hw1 3 xs.length (by omega) HL.out).mono ?_
    rintro e w2 ⟨rfl, v2, hw2, hu2, hv2⟩
    have hx2 := (hc1.row hw1.1 hw1.2.2 hu2)
    obtain ⟨B, hx2⟩ := hx2
    have hb2 := hw2.1
    have hl2 := hw2.2.1.lt
    have hsb : (s.b ++ be 3 xs.length).length = s.b.length + 3 := by rw [List.length_append, be_len]
    obtain ⟨A2, c2, hv2e, d0, d1, g0, g1⟩ := hw2.open_
    have hown2 := hw2.2.2
    have hpn : p ∉ v2.ownBlock.toList := fun hm => hw2.2.2.ne hw2.2.1 (by decide) _ (Option.mem_toList.1 hm) rfl
    have Hv2e := hid hv2e
    clear hv2e
    rw [← Hv2e.out] at d0
    go_wp2_with (at_builtin; go_must (refine wpList_append_row _ rfl _ _ _ rfl base 5 (.int .u8 0) 1 Try.underlying23 info_u8 rfl rfl hown2 rfl hx2 (byt_oneCell xs) (by have := HL.out; have := HX.out; simp [Wr.num, be_len]; omega) (by have := HL.out; have := HX.out; simp [Wr.num, be_len]; omega) (by omega) ?_; intro v3 w3 hap; have hb3 := hw2.2.1.upd hap.2.1 hpn; have e3 := hb3.cell 0; simp at e3; have h3 := hb3.frozen 0; obtain ⟨A3, c3', hv3⟩ := Own.formN (n := s.b.length + 3 + xs.length) hap.1 (by simp [Wr.num, be_len]; omega); subst hv3))
    go_end0
    rw [HS.out]
    exact wvec_end hu2 hv2 hw2 hap rfl
end
end Go.Proofs.Ytcdjbciifnoajaa

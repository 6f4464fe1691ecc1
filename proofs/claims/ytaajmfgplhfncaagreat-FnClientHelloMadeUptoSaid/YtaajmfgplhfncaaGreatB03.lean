/- Texts joined: Writer2, Writer3, Writer4, Writer5, Same, String, String2. -/
import Derived.Deep.DeepMust
import Derived.WalkSpells
import Derived.StillTailTactics
import Derived.Test.YtaajmfgplhfncaaGreatB02
namespace Go.Proofs.YtaajmfgplhfncaaGreat
open Go.RowKit
set_option maxRecDepth 20000
theorem byt_oneCell (xs : List UInt8) : ∀ u ∈ xs.map bv, u.oneCell' = true := by
  intro u hu
  simp only [List.mem_map] at hu
  obtain ⟨a, _, rfl⟩ := hu
  rfl
def Src (w : World) (base p : Nat) (v content : Value) (xs : List UInt8) : Prop :=
  ∃ B, Byt w B content xs ∧ (B ≤ base ∨ ∀ k, content.ownBlock = some k → k ≠ p ∧ v.ownBlock ≠ some k)
section
variable {w w' : World} {base p : Nat} {v content : Value} {s : Wr} {xs : List UInt8} {S : List Nat}
theorem Src.row (h : Src w base p v content xs) (hp : base ≤ p) {ys : List Value} (hown : Own w base 5 v ys) (hu : Upd (p :: v.ownBlock.toList) w w') : ∃ B, Byt w' B content xs := by
  obtain ⟨B, hb, hk⟩ := h
  refine ⟨B, ?_⟩
  rcases hk with hk | hk
  · refine hb.upd hu fun x hx => ?_
    rcases List.mem_cons.1 hx with rfl | hx
    · omega
    · have := hown.ge (Option.mem_toList.1 hx)
      omega
  · refine Row.apart hb hu fun g hg hx => ?_
    have := hk g hg
    rcases List.mem_cons.1 hx with rfl | hx
    · exact this.1 rfl
    · exact this.2 (Option.mem_toList.1 hx)
theorem wrt_bad (h : Wrt w base p v s) (b : Bool) : Wrt (w.setCell ⟨p, 1, none⟩ (.bool b)) base p v ⟨s.b, b⟩ := by
  refine ⟨h.1, ?_, h.2.2.upd ((Upd.refl [p] _).setCell (by simp) _) ?_⟩
  · have := h.2.1.set_ 1 (.bool b)
    simpa using this
  · intro g hg hm
    simp at hm
    exact h.2.2.ne h.2.1 (by decide) g hg hm
theorem wvec_end {w0 w2 w3 : World} {v v2 v3 : Value} {s2 s3 : Wr} (hu1 : Upd (p :: v.ownBlock.toList) w0 w2) (hv2 : v2.ownBlock = v.ownBlock ∨ ∃ g, v2.ownBlock = some g ∧ w0.heap.size ≤ g)
    (hw2 : Wrt w2 base p v2 s2) (hap : Appended w2 base 5 v2 (s2.b.map bv ++ xs.map bv) v3 w3) (hs3 : s3 = ⟨s2.b ++ xs, s2.bad⟩) :
    WrtP w0 base p v s3 (.returned (.tuple #[])) (w3.setCell ⟨p, 0, none⟩ v3) := by
  obtain ⟨h1, h2, h3⟩ := hap
  have hpn : p ∉ v2.ownBlock.toList := fun hm => hw2.2.2.ne hw2.2.1 (by decide) _ (Option.mem_toList.1 hm) rfl
  have hb3 := hw2.2.1.upd h2 hpn
  have hsz := hu1.size
  subst hs3
  refine ⟨rfl, v3, ⟨hw2.1, ?_, ?_⟩, ?_, ?_⟩
  · have := hb3.set_ 0 v3
    simpa using this
  · rw [List.map_append]
    refine h1.upd ((Upd.refl [p] _).setCell (by simp) _) (fun g hg hm => ?_)
    simp at hm
    exact h1.ne hb3 (by decide) g hg hm
  · refine (hu1.trans h2 ?_).setCell (by simp) _
    intro k hk
    rcases hv2 with hv | ⟨g, hg, hge⟩
    · rw [hv] at hk; left; simp; right; exact Option.mem_toList.1 hk
    · rw [hg] at hk; right; simp at hk; omega
  · rcases h3 with h3 | h3
    · rw [h3]; exact hv2
    · exact .inr ⟨_, h3, hsz⟩
set_option maxHeartbeats 2000000 in
theorem wvec_any1 (hw : Wrt w base p v s) (hc : Src w base p v content xs) (hl : s.b.length ≤ 17592186044416) (hx : xs.length ≤ 1099511627776) :
    Calls Tryz.prog 33 #[.pointer (some ⟨p, 0, none⟩), .int .i64 1, content] w (WrtP w base p v (s.vec 1 xs)) := by
  obtain ⟨A, c, hvs, c0, c1, f0, f1⟩ := hw.open_
  obtain ⟨Ax, cx, rfl, -⟩ : ∃ A c, content = .slice A xs.length c ∧ True := by
    obtain ⟨B, hb, _⟩ := hc
    obtain ⟨A, c, e, _⟩ := Byt.form hb rfl
    exact ⟨A, c, e, trivial⟩
  have Hvs := hid hvs
  have HL := hid hl
  have HX := hid hx
  clear hvs hl hx
  by_cases hbig : 256 ≤ xs.length
  · have HS := hid (show s.vec 1 xs = ⟨s.b ++ be 1 xs.length ++ xs, true⟩ by simp [Wr.vec, hbig])
    have hw1 : Wrt (w.setCell ⟨p, 1, none⟩ (.bool true)) base p v ⟨s.b, true⟩ := wrt_bad hw true
    have hu1 : Upd (p :: v.ownBlock.toList) w (w.setCell ⟨p, 1, none⟩ (.bool true)) := (Upd.refl _ _).setCell (by simp) _
    have hc1 : Src (w.setCell ⟨p, 1, none⟩ (.bool true)) base p v (.slice Ax xs.length cx) xs := by
      obtain ⟨B, hb, hk⟩ := hc
      refine ⟨B, ?_, hk⟩
      rcases hk with hk | hk
      · exact hb.setCell (p := ⟨p, 1, none⟩) (by have := hw.1; simp; omega) _
      · refine Row.apart hb ((Upd.refl [p] _).setCell (by simp) _) fun g hg hm => ?_
        simp at hm
        exact (hk g hg).1 hm

    have hd : decide ((256 : Int) ≤ (xs.length : Int)) = true := by rw [decide_eq_true_eq]; omega
    clear hbig
    go_enter Tryz.func33, Tryz.ntmps33
    go_wp2_with fail
    refine (wnum_any hw1 1 xs.length (by omega) HL.out).mono ?_
    rintro e w2 ⟨rfl, v2, hw2, hu2, hv2⟩
    have hx2 := (hc1.row hw1.1 hw1.2.2 hu2)
    obtain ⟨B, hx2⟩ := hx2
    have hb2 := hw2.1
    have hl2 := hw2.2.1.lt
    have hsb : (s.b ++ be 1 xs.length).length = s.b.length + 1 := by rw [List.length_append, be_len]
    obtain ⟨A2, c2, hv2e, d0, d1, g0, g1⟩ := hw2.open_
    have hown2 := hw2.2.2
    have hpn : p ∉ v2.ownBlock.toList := fun hm => hw2.2.2.ne hw2.2.1 (by decide) _ (Option.mem_toList.1 hm) rfl
    have Hv2e := hid hv2e
    clear hv2e
    rw [← Hv2e.out] at d0
    go_wp2_with (at_builtin; go_must (refine wpList_append_row _ rfl _ _ _ rfl base 5 (.int .u8 0) 1 Tryz.underlying23 info_u8 rfl rfl hown2 rfl hx2 (byt_oneCell xs) (by have := HL.out; have := HX.out; simp [Wr.num, be_len]; omega) (by have := HL.out; have := HX.out; simp [Wr.num, be_len]; omega) (by omega) ?_; intro v3 w3 hap; have hb3 := hw2.2.1.upd hap.2.1 hpn; have e3 := hb3.cell 0; simp at e3; have h3 := hb3.frozen 0; obtain ⟨A3, c3', hv3⟩ := Own.formN (n := s.b.length + 1 + xs.length) hap.1 (by simp [Wr.num, be_len]; omega); subst hv3))
    go_end0
    rw [HS.out]
    exact wvec_end (hu1.two hu2) (hv2.imp id fun ⟨g, h1, h2⟩ => ⟨g, h1, Nat.le_trans hu1.size h2⟩) hw2 hap rfl
  · have HS := hid (show s.vec 1 xs = ⟨s.b ++ be 1 xs.length ++ xs, s.bad⟩ by simp [Wr.vec, hbig])
    have hw1 := hw
    have hc1 := hc

    have hd : decide ((256 : Int) ≤ (xs.length : Int)) = false := by rw [decide_eq_false_iff_not]; omega
    clear hbig
    go_enter Tryz.func33, Tryz.ntmps33
    go_wp2_with fail
    refine (wnum_any hw1 1 xs.length (by omega) HL.out).mono ?_
    rintro e w2 ⟨rfl, v2, hw2, hu2, hv2⟩
    have hx2 := (hc1.row hw1.1 hw1.2.2 hu2)
    obtain ⟨B, hx2⟩ := hx2
    have hb2 := hw2.1
    have hl2 := hw2.2.1.lt
    have hsb : (s.b ++ be 1 xs.length).length = s.b.length + 1 := by rw [List.length_append, be_len]
    obtain ⟨A2, c2, hv2e, d0, d1, g0, g1⟩ := hw2.open_
    have hown2 := hw2.2.2
    have hpn : p ∉ v2.ownBlock.toList := fun hm => hw2.2.2.ne hw2.2.1 (by decide) _ (Option.mem_toList.1 hm) rfl
    have Hv2e := hid hv2e
    clear hv2e
    rw [← Hv2e.out] at d0
    go_wp2_with (at_builtin; go_must (refine wpList_append_row _ rfl _ _ _ rfl base 5 (.int .u8 0) 1 Tryz.underlying23 info_u8 rfl rfl hown2 rfl hx2 (byt_oneCell xs) (by have := HL.out; have := HX.out; simp [Wr.num, be_len]; omega) (by have := HL.out; have := HX.out; simp [Wr.num, be_len]; omega) (by omega) ?_; intro v3 w3 hap; have hb3 := hw2.2.1.upd hap.2.1 hpn; have e3 := hb3.cell 0; simp at e3; have h3 := hb3.frozen 0; obtain ⟨A3, c3', hv3⟩ := Own.formN (n := s.b.length + 1 + xs.length) hap.1 (by simp [Wr.num, be_len]; omega); subst hv3))
    go_end0
    rw [HS.out]
    exact wvec_end hu2 hv2 hw2 hap rfl
set_option maxHeartbeats 2000000 in
theorem wvec_any2 (hw : Wrt w base p v s) (hc : Src w base p v content xs) (hl : s.b.length ≤ 17592186044416) (hx : xs.length ≤ 1099511627776) :
    Calls Tryz.prog 33 #[.pointer (some ⟨p, 0, none⟩), .int .i64 2, content] w (WrtP w base p v (s.vec 2 xs)) := by
  obtain ⟨A, c, hvs, c0, c1, f0, f1⟩ := hw.open_
  obtain ⟨Ax, cx, rfl, -⟩ : ∃ A c, content = .slice A xs.length c ∧ True := by
    obtain ⟨B, hb, _⟩ := hc
    obtain ⟨A, c, e, _⟩ := Byt.form hb rfl
    exact ⟨A, c, e, trivial⟩
  have Hvs := hid hvs
  have HL := hid hl
  have HX := hid hx
  clear hvs hl hx
  by_cases hbig : 65536 ≤ xs.length
  · have HS := hid (show s.vec 2 xs = ⟨s.b ++ be 2 xs.length ++ xs, true⟩ by simp [Wr.vec, hbig])
    have hw1 : Wrt (w.setCell ⟨p, 1, none⟩ (.bool true)) base p v ⟨s.b, true⟩ := wrt_bad hw true
    have hu1 : Upd (p :: v.ownBlock.toList) w (w.setCell ⟨p, 1, none⟩ (.bool true)) := (Upd.refl _ _).setCell (by simp) _
    have hc1 : Src (w.setCell ⟨p, 1, none⟩ (.bool true)) base p v (.slice Ax xs.length cx) xs := by
      obtain ⟨B, hb, hk⟩ := hc
      refine ⟨B, ?_, hk⟩
      rcases hk with hk | hk
      · exact hb.setCell (p := ⟨p, 1, none⟩) (by have := hw.1; simp; omega) _
      · refine Row.apart hb ((Upd.refl [p] _).setCell (by simp) _) fun g hg hm => ?_
        simp at hm
        exact (hk g hg).1 hm

    have hd : decide ((65536 : Int) ≤ (xs.length : Int)) = true := by rw [decide_eq_true_eq]; omega
    clear hbig
    go_enter Tryz.func33, Tryz.ntmps33
    go_wp2_with fail
    refine (wnum_any hw1 2 xs.length (by omega) HL.out).mono ?_
    rintro e w2 ⟨rfl, v2, hw2, hu2, hv2⟩
    have hx2 := (hc1.row hw1.1 hw1.2.2 hu2)
    obtain ⟨B, hx2⟩ := hx2
    have hb2 := hw2.1
    have hl2 := hw2.2.1.lt
    have hsb : (s.b ++ be 2 xs.length).length = s.b.length + 2 := by rw [List.length_append, be_len]
    obtain ⟨A2, c2, hv2e, d0, d1, g0, g1⟩ := hw2.open_
    have hown2 := hw2.2.2
    have hpn : p ∉ v2.ownBlock.toList := fun hm => hw2.2.2.ne hw2.2.1 (by decide) _ (Option.mem_toList.1 hm) rfl
    have Hv2e := hid hv2e
    clear hv2e
    rw [← Hv2e.out] at d0
    go_wp2_with (at_builtin; go_must (refine wpList_append_row _ rfl _ _ _ rfl base 5 (.int .u8 0) 1 Tryz.underlying23 info_u8 rfl rfl hown2 rfl hx2 (byt_oneCell xs) (by have := HL.out; have := HX.out; simp [Wr.num, be_len]; omega) (by have := HL.out; have := HX.out; simp [Wr.num, be_len]; omega) (by omega) ?_; intro v3 w3 hap; have hb3 := hw2.2.1.upd hap.2.1 hpn; have e3 := hb3.cell 0; simp at e3; have h3 := hb3.frozen 0; obtain ⟨A3, c3', hv3⟩ := Own.formN (n := s.b.length + 2 + xs.length) hap.1 (by simp [Wr.num, be_len]; omega); subst hv3))
    go_end0
    rw [HS.out]
    exact wvec_end (hu1.two hu2) (hv2.imp id fun ⟨g, h1, h2⟩ => ⟨g, h1, Nat.le_trans hu1.size h2⟩) hw2 hap rfl
  · have HS := hid (show s.vec 2 xs = ⟨s.b ++ be 2 xs.length ++ xs, s.bad⟩ by simp [Wr.vec, hbig])
    have hw1 := hw
    have hc1 := hc

    have hd : decide ((65536 : Int) ≤ (xs.length : Int)) = false := by rw [decide_eq_false_iff_not]; omega
    clear hbig
    go_enter Tryz.func33, Tryz.ntmps33
    go_wp2_with fail
    refine (wnum_any hw1 2 xs.length (by omega) HL.out).mono ?_
    rintro e w2 ⟨rfl, v2, hw2, hu2, hv2⟩
    have hx2 := (hc1.row hw1.1 hw1.2.2 hu2)
    obtain ⟨B, hx2⟩ := hx2
    have hb2 := hw2.1
    have hl2 := hw2.2.1.lt
    have hsb : (s.b ++ be 2 xs.length).length = s.b.length + 2 := by rw [List.length_append, be_len]
    obtain ⟨A2, c2, hv2e, d0, d1, g0, g1⟩ := hw2.open_
    have hown2 := hw2.2.2
    have hpn : p ∉ v2.ownBlock.toList := fun hm => hw2.2.2.ne hw2.2.1 (by decide) _ (Option.mem_toList.1 hm) rfl
    have Hv2e := hid hv2e
    clear hv2e
    rw [← Hv2e.out] at d0
    go_wp2_with (at_builtin; go_must (refine wpList_append_row _ rfl _ _ _ rfl base 5 (.int .u8 0) 1 Tryz.underlying23 info_u8 rfl rfl hown2 rfl hx2 (byt_oneCell xs) (by have := HL.out; have := HX.out; simp [Wr.num, be_len]; omega) (by have := HL.out; have := HX.out; simp [Wr.num, be_len]; omega) (by omega) ?_; intro v3 w3 hap; have hb3 := hw2.2.1.upd hap.2.1 hpn; have e3 := hb3.cell 0; simp at e3; have h3 := hb3.frozen 0; obtain ⟨A3, c3', hv3⟩ := Own.formN (n := s.b.length + 2 + xs.length) hap.1 (by simp [Wr.num, be_len]; omega); subst hv3))
    go_end0
    rw [HS.out]
    exact wvec_end hu2 hv2 hw2 hap rfl
set_option maxHeartbeats 2000000 in
theorem wvec_any3 (hw : Wrt w base p v s) (hc : Src w base p v content xs) (hl : s.b.length ≤ 17592186044416) (hx : xs.length ≤ 1099511627776) :
    Calls Tryz.prog 33 #[.pointer (some ⟨p, 0, none⟩), .int .i64 3, content] w (WrtP w base p v (s.vec 3 xs)) := by
  obtain ⟨A, c, hvs, c0, c1, f0, f1⟩ := hw.open_
  obtain ⟨Ax, cx, rfl, -⟩ : ∃ A c, content = .slice A xs.length c ∧ True := by
    obtain ⟨B, hb, _⟩ := hc
    obtain ⟨A, c, e, _⟩ := Byt.form hb rfl
    exact ⟨A, c, e, trivial⟩
  have Hvs := hid hvs
  have HL := hid hl
  have HX := hid hx
  clear hvs hl hx
  by_cases hbig : 16777216 ≤ xs.length
  · have HS := hid (show s.vec 3 xs = ⟨s.b ++ be 3 xs.length ++ xs, true⟩ by simp [Wr.vec, hbig])
    have hw1 : Wrt (w.setCell ⟨p, 1, none⟩ (.bool true)) base p v ⟨s.b, true⟩ := wrt_bad hw true
    have hu1 : Upd (p :: v.ownBlock.toList) w (w.setCell ⟨p, 1, none⟩ (.bool true)) := (Upd.refl _ _).setCell (by simp) _
    have hc1 : Src (w.setCell ⟨p, 1, none⟩ (.bool true)) base p v (.slice Ax xs.length cx) xs := by
      obtain ⟨B, hb, hk⟩ := hc
      refine ⟨B, ?_, hk⟩
      rcases hk with hk | hk
      · exact hb.setCell (p := ⟨p, 1, none⟩) (by have := hw.1; simp; omega) _
      · refine Row.apart hb ((Upd.refl [p] _).setCell (by simp) _) fun g hg hm => ?_
        simp at hm
        exact (hk g hg).1 hm

    have hd : decide ((16777216 : Int) ≤ (xs.length : Int)) = true := by rw [decide_eq_true_eq]; omega
    clear hbig
    go_enter Tryz.func33, Tryz.ntmps33
    go_wp2_with fail
    refine (wnum_any hw1 3 xs.length (by omega) HL.out).mono ?_
    rintro e w2 ⟨rfl, v2, hw2, hu2, hv2⟩
    have hx2 := (hc1.row hw1.1 hw1.2.2 hu2)
    obtain ⟨B, hx2⟩ := hx2
    have hb2 := hw2.1
    have hl2 := hw2.2.1.lt
    have hsb : (s.b ++ be 3 xs.length).length = s.b.length + 3 := by rw [List.length_append, be_len]
    obtain ⟨A2, c2, hv2e, d0, d1, g0, g1⟩ := hw2.open_
    have hown2 := hw2.2.2
    have hpn : p ∉ v2.ownBlock.toList := fun hm => hw2.2.2.ne hw2.2.1 (by decide) _ (Option.mem_toList.1 hm) rfl
    have Hv2e := hid hv2e
    clear hv2e
    rw [← Hv2e.out] at d0
    go_wp2_with (at_builtin; go_must (refine wpList_append_row _ rfl _ _ _ rfl base 5 (.int .u8 0) 1 Tryz.underlying23 info_u8 rfl rfl hown2 rfl hx2 (byt_oneCell xs) (by have := HL.out; have := HX.out; simp [Wr.num, be_len]; omega) (by have := HL.out; have := HX.out; simp [Wr.num, be_len]; omega) (by omega) ?_; intro v3 w3 hap; have hb3 := hw2.2.1.upd hap.2.1 hpn; have e3 := hb3.cell 0; simp at e3; have h3 := hb3.frozen 0; obtain ⟨A3, c3', hv3⟩ := Own.formN (n := s.b.length + 3 + xs.length) hap.1 (by simp [Wr.num, be_len]; omega); subst hv3))
    go_end0
    rw [HS.out]
    exact wvec_end (hu1.two hu2) (hv2.imp id fun ⟨g, h1, h2⟩ => ⟨g, h1, Nat.le_trans hu1.size h2⟩) hw2 hap rfl
  · have HS := hid (show s.vec 3 xs = ⟨s.b ++ be 3 xs.length ++ xs, s.bad⟩ by simp [Wr.vec, hbig])
    have hw1 := hw
    have hc1 := hc

    have hd : decide ((16777216 : Int) ≤ (xs.length : Int)) = false := by rw [decide_eq_false_iff_not]; omega
    clear hbig
    go_enter Tryz.func33, Tryz.ntmps33
    go_wp2_with fail
    refine (wnum_any hw1 3 xs.length (by omega) HL.out).mono ?_
    rintro e w2 ⟨rfl, v2, hw2, hu2, hv2⟩
    have hx2 := (hc1.row hw1.1 hw1.2.2 hu2)
    obtain ⟨B, hx2⟩ := hx2
    have hb2 := hw2.1
    have hl2 := hw2.2.1.lt
    have hsb : (s.b ++ be 3 xs.length).length = s.b.length + 3 := by rw [List.length_append, be_len]
    obtain ⟨A2, c2, hv2e, d0, d1, g0, g1⟩ := hw2.open_
    have hown2 := hw2.2.2
    have hpn : p ∉ v2.ownBlock.toList := fun hm => hw2.2.2.ne hw2.2.1 (by decide) _ (Option.mem_toList.1 hm) rfl
    have Hv2e := hid hv2e
    clear hv2e
    rw [← Hv2e.out] at d0
    go_wp2_with (at_builtin; go_must (refine wpList_append_row _ rfl _ _ _ rfl base 5 (.int .u8 0) 1 Tryz.underlying23 info_u8 rfl rfl hown2 rfl hx2 (byt_oneCell xs) (by have := HL.out; have := HX.out; simp [Wr.num, be_len]; omega) (by have := HL.out; have := HX.out; simp [Wr.num, be_len]; omega) (by omega) ?_; intro v3 w3 hap; have hb3 := hw2.2.1.upd hap.2.1 hpn; have e3 := hb3.cell 0; simp at e3; have h3 := hb3.frozen 0; obtain ⟨A3, c3', hv3⟩ := Own.formN (n := s.b.length + 3 + xs.length) hap.1 (by simp [Wr.num, be_len]; omega); subst hv3))
    go_end0
    rw [HS.out]
    exact wvec_end hu2 hv2 hw2 hap rfl
end
end Go.Proofs.YtaajmfgplhfncaaGreat
namespace Go.Proofs.YtaajmfgplhfncaaGreat
open Go.RowKit
set_option maxRecDepth 20000
section
variable {w w' : World} {base p : Nat} {v content : Value} {s : Wr} {xs : List UInt8} {S : List Nat}
theorem Wrt.upd (h : Wrt w base p v s) (hu : Upd S w w') (hp : p ∉ S) (hs : ∀ g, v.ownBlock = some g → g ∉ S) : Wrt w' base p v s := ⟨h.1, h.2.1.upd hu hp, h.2.2.upd hu hs⟩
theorem Src.upd (h : Src w base p v content xs) (hu : Upd S w w') (hS : ∀ k ∈ S, base ≤ k ∧ (k = p ∨ v.ownBlock = some k)) : Src w' base p v content xs := by
  obtain ⟨B, hb, hk⟩ := h
  refine ⟨B, ?_, hk⟩
  rcases hk with hk | hk
  · exact hb.upd hu fun x hx => by have := (hS x hx).1; omega
  · refine Row.apart hb hu fun g hg hx => ?_
    have := hk g hg
    rcases (hS g hx).2 with rfl | h2
    · exact this.1 rfl
    · exact this.2 h2
theorem WrtP.from (hu : Upd (p :: v.ownBlock.toList) w w') {e : Ending} {w2 : World} (h : WrtP w' base p v s e w2) : WrtP w base p v s e w2 := by
  obtain ⟨he, v', h1, h2, h3⟩ := h
  exact ⟨he, v', h1, hu.two h2, h3.imp id fun ⟨g, h1, h2⟩ => ⟨g, h1, Nat.le_trans hu.size h2⟩⟩
set_option maxHeartbeats 1000000 in
theorem winner_any1 (hw : Wrt w base p v s) (hc : Src w base p v content xs) (xb : Bool) (hl : s.b.length ≤ 17592186044416) (hx : xs.length ≤ 1099511627776) :
    Calls Tryz.prog 34 #[.pointer (some ⟨p, 0, none⟩), .int .i64 1, .agg #[content, .bool xb]] w (WrtP w base p v (s.inner 1 ⟨xs, xb⟩)) := by
  obtain ⟨A, c, hvs, c0, c1, f0, f1⟩ := hw.open_
  obtain ⟨Ax, cx, rfl, -⟩ : ∃ A c, content = .slice A xs.length c ∧ True := by
    obtain ⟨B, hb, _⟩ := hc
    obtain ⟨A, c, e, _⟩ := Byt.form hb rfl
    exact ⟨A, c, e, trivial⟩
  have hpl := hw.2.1.lt
  have hbp := hw.1
  have Hvs := hid hvs
  have HL := hid hl
  have HX := hid hx
  clear hvs hl hx
  have hu1 : ∀ b o, Upd [p] w ((w.setCell ⟨p, 1, none⟩ (.bool b)).alloc o) := fun b o => ((Upd.refl _ _).setCell (by simp) _).alloc _
  have hw1 : ∀ b o, Wrt ((w.setCell ⟨p, 1, none⟩ (.bool b)).alloc o) base p v ⟨s.b, b⟩ := fun b o => (wrt_bad hw b).upd (S := []) ((Upd.refl _ _).alloc _) (by simp) (by simp)
  have hc1 : ∀ b o, Src ((w.setCell ⟨p, 1, none⟩ (.bool b)).alloc o) base p v (.slice Ax xs.length cx) xs := fun b o => hc.upd (hu1 b o) (fun k hk => by simp at hk; subst hk; exact ⟨hbp, .inl rfl⟩)
  have hu2 : ∀ b o, Upd (p :: v.ownBlock.toList) w ((w.setCell ⟨p, 1, none⟩ (.bool b)).alloc o) := fun b o => (hu1 b o).mono (by simp)
  have Hu2 := hid hu2
  have Hw1 := hid hw1
  have Hc1 := hid hc1
  clear hu1 hw1 hc1 hu2
  cases hsb : s.bad
  · have HS := hid (show s.inner 1 ⟨xs, xb⟩ = Wr.vec ⟨s.b, xb⟩ 1 xs by simp [Wr.inner, hsb])
    rw [hsb] at c1
    clear hsb
    go_enter Tryz.func34, Tryz.ntmps34
    go_wp2_with fail
    refine (wvec_any1 (Hw1.out xb _) (Hc1.out xb _) HL.out HX.out).mono ?_
    intro e w2 hp
    have he := hp.1
    subst he
    go_wp2
    go_end0
    rw [HS.out]
    exact hp.from (Hu2.out _ _)
  · have HS := hid (show s.inner 1 ⟨xs, xb⟩ = Wr.vec ⟨s.b, true⟩ 1 xs by simp [Wr.inner, hsb])
    rw [hsb] at c1
    clear hsb
    go_enter Tryz.func34, Tryz.ntmps34
    go_wp2_with fail
    refine (wvec_any1 (Hw1.out true _) (Hc1.out true _) HL.out HX.out).mono ?_
    intro e w2 hp
    have he := hp.1
    subst he
    go_wp2
    go_end0
    rw [HS.out]
    exact hp.from (Hu2.out _ _)
set_option maxHeartbeats 1000000 in
theorem winner_any2 (hw : Wrt w base p v s) (hc : Src w base p v content xs) (xb : Bool) (hl : s.b.length ≤ 17592186044416) (hx : xs.length ≤ 1099511627776) :
    Calls Tryz.prog 34 #[.pointer (some ⟨p, 0, none⟩), .int .i64 2, .agg #[content, .bool xb]] w (WrtP w base p v (s.inner 2 ⟨xs, xb⟩)) := by
  obtain ⟨A, c, hvs, c0, c1, f0, f1⟩ := hw.open_
  obtain ⟨Ax, cx, rfl, -⟩ : ∃ A c, content = .slice A xs.length c ∧ True := by
    obtain ⟨B, hb, _⟩ := hc
    obtain ⟨A, c, e, _⟩ := Byt.form hb rfl
    exact ⟨A, c, e, trivial⟩
  have hpl := hw.2.1.lt
  have hbp := hw.1
  have Hvs := hid hvs
  have HL := hid hl
  have HX := hid hx
  clear hvs hl hx
  have hu1 : ∀ b o, Upd [p] w ((w.setCell ⟨p, 1, none⟩ (.bool b)).alloc o) := fun b o => ((Upd.refl _ _).setCell (by simp) _).alloc _
  have hw1 : ∀ b o, Wrt ((w.setCell ⟨p, 1, none⟩ (.bool b)).alloc o) base p v ⟨s.b, b⟩ := fun b o => (wrt_bad hw b).upd (S := []) ((Upd.refl _ _).alloc _) (by simp) (by simp)
  have hc1 : ∀ b o, Src ((w.setCell ⟨p, 1, none⟩ (.bool b)).alloc o) base p v (.slice Ax xs.length cx) xs := fun b o => hc.upd (hu1 b o) (fun k hk => by simp at hk; subst hk; exact ⟨hbp, .inl rfl⟩)
  have hu2 : ∀ b o, Upd (p :: v.ownBlock.toList) w ((w.setCell ⟨p, 1, none⟩ (.bool b)).alloc o) := fun b o => (hu1 b o).mono (by simp)
  have Hu2 := hid hu2
  have Hw1 := hid hw1
  have Hc1 := hid hc1
  clear hu1 hw1 hc1 hu2
  cases hsb : s.bad
  · have HS := hid (show s.inner 2 ⟨xs, xb⟩ = Wr.vec ⟨s.b, xb⟩ 2 xs by simp [Wr.inner, hsb])
    rw [hsb] at c1
    clear hsb
    go_enter Tryz.func34, Tryz.ntmps34
    go_wp2_with fail
    refine (wvec_any2 (Hw1.out xb _) (Hc1.out xb _) HL.out HX.out).mono ?_
    intro e w2 hp
    have he := hp.1
    subst he
    go_wp2
    go_end0
    rw [HS.out]
    exact hp.from (Hu2.out _ _)
  · have HS := hid (show s.inner 2 ⟨xs, xb⟩ = Wr.vec ⟨s.b, true⟩ 2 xs by simp [Wr.inner, hsb])
    rw [hsb] at c1
    clear hsb
    go_enter Tryz.func34, Tryz.ntmps34
    go_wp2_with fail
    refine (wvec_any2 (Hw1.out true _) (Hc1.out true _) HL.out HX.out).mono ?_
    intro e w2 hp
    have he := hp.1
    subst he
    go_wp2
    go_end0
    rw [HS.out]
    exact hp.from (Hu2.out _ _)
set_option maxHeartbeats 1000000 in
theorem winner_any3 (hw : Wrt w base p v s) (hc : Src w base p v content xs) (xb : Bool) (hl : s.b.length ≤ 17592186044416) (hx : xs.length ≤ 1099511627776) :
    Calls Tryz.prog 34 #[.pointer (some ⟨p, 0, none⟩), .int .i64 3, .agg #[content, .bool xb]] w (WrtP w base p v (s.inner 3 ⟨xs, xb⟩)) := by
  obtain ⟨A, c, hvs, c0, c1, f0, f1⟩ := hw.open_
  obtain ⟨Ax, cx, rfl, -⟩ : ∃ A c, content = .slice A xs.length c ∧ True := by
    obtain ⟨B, hb, _⟩ := hc
    obtain ⟨A, c, e, _⟩ := Byt.form hb rfl
    exact ⟨A, c, e, trivial⟩
  have hpl := hw.2.1.lt
  have hbp := hw.1
  have Hvs := hid hvs
  have HL := hid hl
  have HX := hid hx
  clear hvs hl hx
  have hu1 : ∀ b o, Upd [p] w ((w.setCell ⟨p, 1, none⟩ (.bool b)).alloc o) := fun b o => ((Upd.refl _ _).setCell (by simp) _).alloc _
  have hw1 : ∀ b o, Wrt ((w.setCell ⟨p, 1, none⟩ (.bool b)).alloc o) base p v ⟨s.b, b⟩ := fun b o => (wrt_bad hw b).upd (S := []) ((Upd.refl _ _).alloc _) (by simp) (by simp)
  have hc1 : ∀ b o, Src ((w.setCell ⟨p, 1, none⟩ (.bool b)).alloc o) base p v (.slice Ax xs.length cx) xs := fun b o => hc.upd (hu1 b o) (fun k hk => by simp at hk; subst hk; exact ⟨hbp, .inl rfl⟩)
  have hu2 : ∀ b o, Upd (p :: v.ownBlock.toList) w ((w.setCell ⟨p, 1, none⟩ (.bool b)).alloc o) := fun b o => (hu1 b o).mono (by simp)
  have Hu2 := hid hu2
  have Hw1 := hid hw1
  have Hc1 := hid hc1
  clear hu1 hw1 hc1 hu2
  cases hsb : s.bad
  · have HS := hid (show s.inner 3 ⟨xs, xb⟩ = Wr.vec ⟨s.b, xb⟩ 3 xs by simp [Wr.inner, hsb])
    rw [hsb] at c1
    clear hsb
    go_enter Tryz.func34, Tryz.ntmps34
    go_wp2_with fail
    refine (wvec_any3 (Hw1.out xb _) (Hc1.out xb _) HL.out HX.out).mono ?_
    intro e w2 hp
    have he := hp.1
    subst he
    go_wp2
    go_end0
    rw [HS.out]
    exact hp.from (Hu2.out _ _)
  · have HS := hid (show s.inner 3 ⟨xs, xb⟩ = Wr.vec ⟨s.b, true⟩ 3 xs by simp [Wr.inner, hsb])
    rw [hsb] at c1
    clear hsb
    go_enter Tryz.func34, Tryz.ntmps34
    go_wp2_with fail
    refine (wvec_any3 (Hw1.out true _) (Hc1.out true _) HL.out HX.out).mono ?_
    intro e w2 hp
    have he := hp.1
    subst he
    go_wp2
    go_end0
    rw [HS.out]
    exact hp.from (Hu2.out _ _)
end
end Go.Proofs.YtaajmfgplhfncaaGreat
namespace Go.Proofs.YtaajmfgplhfncaaGreat
open Go.RowKit
set_option maxRecDepth 20000
theorem Row.shrink {w : World} {B : Nat} {v : Value} {xs : List Value} (h : Row w B v xs) : Row w w.heap.size v xs := by
  obtain ⟨A, c, rfl, h1, h2, h3, h4⟩ := h
  refine ⟨A, c, rfl, h1, h2, h3, fun hn => ?_⟩
  obtain ⟨b, o, rfl, hb, hc⟩ := h4 hn
  obtain ⟨x, t, rfl⟩ : ∃ x t, xs = x :: t := by cases xs with | nil => exact absurd rfl hn | cons x t => exact ⟨x, t, rfl⟩
  exact ⟨b, o, rfl, World.block_lt_of_cell? w _ (hc 0 x rfl), hc⟩
def NewFrom (n : Nat) (v : Value) : Prop := ∀ k, v.ownBlock = some k → n ≤ k
def WValP (w : World) (x : Wr) (e : Ending) (w' : World) : Prop :=
  ∃ v, e = .returned (.agg #[v, .bool x.bad]) ∧ Byt w' w'.heap.size v x.b ∧ NewFrom w.heap.size v ∧ isSlice v ∧ Upd [] w w'
def MsgP (w : World) (x : Wr) (e : Ending) (w' : World) : Prop :=
  ∃ v, e = .returned (.tuple #[v, .bool (!x.bad)]) ∧ Byt w' w'.heap.size v x.b ∧ NewFrom w.heap.size v ∧ isSlice v ∧ Upd [] w w'
section
variable {w w' : World} {v content : Value} {s : Wr} {xs : List UInt8}
theorem WrtP.ends {base p : Nat} {w0 : World} {v0 : Value} (hp : w.heap.size ≤ p) (h0 : v0.ownBlock = none) (hu : Upd [] w w0) {e : Ending} {w2 : World} (h : WrtP w0 base p v0 s e w2) :
    ∃ v', Blk w2 p 53 #[v', .bool s.bad] ∧ Byt w2 w2.heap.size v' s.b ∧ isSlice v' ∧ NewFrom w.heap.size v' ∧ Upd [] w w2 ∧ Wrt w2 base p v' s := by
  obtain ⟨he, v', h1, h2, h3⟩ := h
  refine ⟨v', h1.2.1, h1.2.2.row, ?_, ?_, ?_, h1⟩
  · obtain ⟨A, c, e, _⟩ := h1.2.2.form
    exact ⟨A, _, c, e⟩
  · intro k hk
    rcases h3 with h3 | ⟨g, hg, hge⟩
    · rw [h3, h0] at hk; cases hk
    · rw [hg] at hk
      injection hk with hk
      have := hu.size
      omega
  · refine hu.trans h2 ?_
    intro k hk
    rw [h0] at hk
    simp at hk
    omega
theorem WrtP.after {base p : Nat} {w1 w2 : World} {v v1 : Value} {e : Ending} (hu : Upd (p :: v.ownBlock.toList) w w1) (hv : v1.ownBlock = v.ownBlock ∨ ∃ g, v1.ownBlock = some g ∧ w.heap.size ≤ g)
    (h : WrtP w1 base p v1 s e w2) : WrtP w base p v s e w2 := by
  obtain ⟨he, v', h1, h2, h3⟩ := h
  have hsz := hu.size
  refine ⟨he, v', h1, hu.trans h2 ?_, ?_⟩
  · intro k hk
    rcases List.mem_cons.1 hk with rfl | hk
    · simp
    · rcases hv with hv | ⟨g, hg, hge⟩
      · rw [hv] at hk; left; exact List.mem_cons_of_mem _ hk
      · rw [hg] at hk; right; simp at hk; omega
  · rcases h3 with h3 | ⟨g, hg, hge⟩
    · rw [h3]; exact hv
    · exact .inr ⟨g, hg, by omega⟩
theorem wrt_new (w : World) : Wrt (w.alloc (.cells #[.slice none 0 0, .bool false] 53)) w.heap.size w.heap.size (.slice none 0 0) Wr.nil :=
  ⟨Nat.le_refl _, Blk.new _ _ _, Own.nil_ _ _ _⟩
set_option maxHeartbeats 1000000 in
theorem message_any (kind : Nat) (xb : Bool) {B : Nat} (hc : Byt w B content xs) (hx : xs.length ≤ 1099511627776) :
    Calls Tryz.prog 36 #[.int .i64 kind, .agg #[content, .bool xb]] w (MsgP w (messageW kind ⟨xs, xb⟩)) := by
  obtain ⟨Ax, cx, rfl, hc, -⟩ := Byt.form hc rfl
  have hc' := Row.shrink hc
  have HX := hid hx
  clear hx
  obtain ⟨w0, hw0⟩ : ∃ w0, w0 = w.alloc (.cells #[.slice Ax xs.length cx, .bool xb] 53) := ⟨_, rfl⟩
  have hw := wrt_new w0
  have hsz : w0.heap.size = w.heap.size + 1 := by rw [hw0]; simp
  have hu0 : Upd [] w w0 := by rw [hw0]; exact (Upd.refl _ _).alloc _
  have hb0 : Blk w0 w.heap.size 53 #[.slice Ax xs.length cx, .bool xb] := by rw [hw0]; exact Blk.new _ _ _
  have hc0 : Byt w0 w.heap.size (.slice Ax xs.length cx) xs := by rw [hw0]; exact Row.alloc hc' _
  have HW0 := hid hw0
  rw [hsz] at hw
  have hu1 := hu0.alloc (.cells #[.slice none 0 0, .bool false] 53)
  have hb1 := hb0.alloc (.cells #[.slice none 0 0, .bool false] 53)
  have hc1 := Row.alloc hc0 (.cells #[.slice none 0 0, .bool false] 53)
  have hn := wnum_any hw 1 kind (by omega) (by simp [Wr.nil])
  rw [HW0.out] at hn
  have HN := hid hn
  clear hn
  go_enter Tryz.func36, Tryz.ntmps36
  go_wp2_with fail
  refine HN.out.mono ?_
  rintro e w2 ⟨rfl, v2, hw2, hu2, hv2⟩
  rw [← HW0.out] at hu2 hv2
  have hb2 := hb1.upd hu2 (by simp [Value.ownBlock])
  have d0 := hb2.cell 0
  have d1 := hb2.cell 1
  simp at d0 d1
  have hc2 : Byt w2 w.heap.size (.slice Ax xs.length cx) xs := Row.upd hc1 hu2 (by simp [Value.ownBlock])
  obtain ⟨Av, cv, hv2e, -, -⟩ := hw2.2.2.form
  go_wp2_with fail
  refine (winner_any3 hw2 ⟨_, hc2, .inl (by omega)⟩ xb (by simp [Wr.num, Wr.nil, be_len]) HX.out).mono ?_
  intro e w3 hp3
  have he := hp3.1
  subst he
  have hp3' := WrtP.after hu2 hv2 hp3
  obtain ⟨v4, hb4, hy4, hs4, hn4, hu4, -⟩ := hp3'.ends (w := w) (by omega) rfl hu1
  obtain ⟨A4, n4, c4, rfl⟩ := hs4
  have e0 := hb4.cell 0
  have e1 := hb4.cell 1
  simp at e0 e1
  go_wp2
  go_quiet (fail)
  go_wp2
  go_ret2
  exact ⟨.slice A4 n4 c4, rfl, Row.drewN hy4 _, hn4, ⟨_, _, _, rfl⟩, hu4.drewN _⟩
theorem plain_any {B : Nat} (hc : Byt w B content xs) :
    Calls Tryz.prog 27 #[content] w fun e w' => e = .returned (.agg #[content, .bool false]) ∧ Upd [] w w' := by
  obtain ⟨Ax, cx, rfl, hc, -⟩ := Byt.form hc rfl
  go_enter Tryz.func27, Tryz.ntmps27
  go_wp2
  exact bodyPost_ret (v := .agg #[.slice Ax xs.length cx, .bool false]) (by simp [results, Tryz.results27, go_sem]) rfl ⟨rfl, (Upd.refl _ _).alloc _⟩
theorem wval_end {r0 base p : Nat} {x : Wr} {w2 : World} {v4 u0 u1 : Value} (hr0 : w.heap.size ≤ r0) (hb2 : Blk w2 r0 53 #[u0, u1]) (h : Wrt w2 base p v4 x) (hn : NewFrom w.heap.size v4) (hu : Upd [] w w2) :
    Blk ((w2.setCell ⟨r0, 0, none⟩ v4).setCell ⟨r0, 1, none⟩ (.bool x.bad)) r0 53 #[v4, .bool x.bad] ∧
    WValP w x (.returned (.agg #[v4, .bool x.bad])) ((w2.setCell ⟨r0, 0, none⟩ v4).setCell ⟨r0, 1, none⟩ (.bool x.bad)) := by
  have hu1 : Upd [r0] w2 ((w2.setCell ⟨r0, 0, none⟩ v4).setCell ⟨r0, 1, none⟩ (.bool x.bad)) := ((Upd.refl _ _).setCell (by simp) _).setCell (by simp) _
  have ho := h.2.2.upd hu1 (fun g hg hm => by
    simp at hm
    exact h.2.2.ne hb2 (by decide) g hg hm)
  obtain ⟨A, c, e, _⟩ := h.2.2.form
  refine ⟨?_, v4, rfl, ho.row, hn, ⟨A, _, c, e⟩, hu.trans hu1 (by simp; omega)⟩
  have := (hb2.set_ 0 v4).set_ 1 (.bool x.bad)
  simpa using this
end
end Go.Proofs.YtaajmfgplhfncaaGreat
namespace Go.Proofs.YtaajmfgplhfncaaGreat
open Go.RowKit
set_option maxRecDepth 20000
section
variable {w w' : World} {v content : Value} {s : Wr} {xs : List UInt8}
def W1 (w : World) : World := (w.alloc (.cells #[.slice none 0 0, .bool false] 53)).alloc (.cells #[.slice none 0 0, .bool false] 53)
theorem W1_eq (w : World) : (w.alloc (.cells #[.slice none 0 0, .bool false] 53)).alloc (.cells #[.slice none 0 0, .bool false] 53) = W1 w := rfl
theorem W1_size (w : World) : (W1 w).heap.size = w.heap.size + 2 := by simp [W1]
theorem W1_upd (w : World) : Upd [] w (W1 w) := ((Upd.refl _ _).alloc _).alloc _
theorem W1_res (w : World) : Blk (W1 w) w.heap.size 53 #[.slice none 0 0, .bool false] := (Blk.new w _ _).alloc _
theorem W1_wrt (w : World) : Wrt (W1 w) (w.heap.size + 1) (w.heap.size + 1) (.slice none 0 0) Wr.nil := by
  have h := wrt_new (w.alloc (.cells #[.slice none 0 0, .bool false] 53))
  rw [show (w.alloc (.cells #[.slice none 0 0, .bool false] 53)).heap.size = w.heap.size + 1 by simp] at h
  exact h
def WMid (w : World) (s : Wr) (w' : World) : Prop := WrtP (W1 w) (w.heap.size + 1) (w.heap.size + 1) (.slice none 0 0) s (.returned (.tuple #[])) w'
theorem WMid.start (w : World) : WMid w Wr.nil (W1 w) := ⟨rfl, _, W1_wrt w, Upd.refl _ _, .inl rfl⟩
theorem WMid.open_ (h : WMid w s w') : ∃ v', Wrt w' (w.heap.size + 1) (w.heap.size + 1) v' s ∧ Upd ((w.heap.size + 1) :: (Value.slice none 0 0).ownBlock.toList) (W1 w) w' ∧
    (v'.ownBlock = (Value.slice none 0 0).ownBlock ∨ ∃ g, v'.ownBlock = some g ∧ (W1 w).heap.size ≤ g) := by
  obtain ⟨_, v', h1, h2, h3⟩ := h
  exact ⟨v', h1, h2, h3⟩
theorem WMid.next (_h : WMid w s w') {v' : Value} {s' : Wr} {e : Ending} {w2 : World} (hv : Upd ((w.heap.size + 1) :: (Value.slice none 0 0).ownBlock.toList) (W1 w) w' ∧
    (v'.ownBlock = (Value.slice none 0 0).ownBlock ∨ ∃ g, v'.ownBlock = some g ∧ (W1 w).heap.size ≤ g)) (hp : WrtP w' (w.heap.size + 1) (w.heap.size + 1) v' s' e w2) : e = .returned (.tuple #[]) ∧ WMid w s' w2 := by
  obtain rfl := hp.1
  exact ⟨rfl, WrtP.after hv.1 hv.2 hp⟩
theorem WMid.upd (h : WMid w s w') : Upd [] w w' := by
  obtain ⟨v', h1, h2, h3⟩ := h.open_
  exact (W1_upd w).trans h2 (by simp [Value.ownBlock])
theorem WMid.byt (h : WMid w s w') {B : Nat} (hc : Byt w B content xs) : Byt w' w.heap.size content xs := Row.upd (Row.shrink hc) h.upd (by simp)
theorem WMid.src (h : WMid w s w') {B : Nat} (hc : Byt w B content xs) (v' : Value) : Src w' (w.heap.size + 1) (w.heap.size + 1) v' content xs := ⟨_, h.byt hc, .inl (by omega)⟩
theorem WMid.fin (h : WMid w s w') : ∃ A n c, w'.cell? ⟨w.heap.size + 1, 0, none⟩ = some (.slice A n c) ∧ w'.cell? ⟨w.heap.size + 1, 1, none⟩ = some (.bool s.bad) ∧
    w'.cell? ⟨w.heap.size, 0, none⟩ = some (.slice none 0 0) ∧ w'.cell? ⟨w.heap.size, 1, none⟩ = some (.bool false) ∧ w'.frozen? ⟨w.heap.size, 0, none⟩ = false ∧ w'.frozen? ⟨w.heap.size, 1, none⟩ = false ∧
    ((w'.setCell ⟨w.heap.size, 0, none⟩ (.slice A n c)).setCell ⟨w.heap.size, 1, none⟩ (.bool s.bad)).cell? ⟨w.heap.size, 0, none⟩ = some (.slice A n c) ∧
    ((w'.setCell ⟨w.heap.size, 0, none⟩ (.slice A n c)).setCell ⟨w.heap.size, 1, none⟩ (.bool s.bad)).cell? ⟨w.heap.size, 1, none⟩ = some (.bool s.bad) ∧
    WValP w s (.returned (.agg #[.slice A n c, .bool s.bad])) ((w'.setCell ⟨w.heap.size, 0, none⟩ (.slice A n c)).setCell ⟨w.heap.size, 1, none⟩ (.bool s.bad)) := by
  obtain ⟨v', h1, h2, h3⟩ := h.open_
  have hb : Blk w' w.heap.size 53 #[.slice none 0 0, .bool false] := (W1_res w).upd h2 (by simp [Value.ownBlock])
  have hn : NewFrom w.heap.size v' := by
    intro k hk
    rcases h3 with h3 | ⟨g, hg, hge⟩
    · rw [h3] at hk; cases hk
    · rw [hg] at hk
      injection hk with hk
      have := W1_size w
      omega
  obtain ⟨hb5, hend⟩ := wval_end (Nat.le_refl _) hb h1 hn h.upd
  obtain ⟨A, c, rfl, _⟩ := h1.2.2.form
  refine ⟨A, _, c, ?_, ?_, ?_, ?_, hb.frozen 0, hb.frozen 1, ?_, ?_, hend⟩
  · rw [h1.2.1.cell]; rfl
  · rw [h1.2.1.cell]; rfl
  · rw [hb.cell]; rfl
  · rw [hb.cell]; rfl
  · rw [hb5.cell]; rfl
  · rw [hb5.cell]; rfl
def wordsB (ns : List UInt16) : List UInt8 := ns.flatMap fun n => be 2 n.toNat
def wordsW (ns : List UInt16) : Wr := ⟨wordsB ns, false⟩
theorem wordsB_len (ns : List UInt16) : (wordsB ns).length = 2 * ns.length := by
  induction ns with
  | nil => rfl
  | cons n ns ih =>
    have : wordsB (n :: ns) = be 2 n.toNat ++ wordsB ns := rfl
    rw [this, List.length_append, be_len, ih, List.length_cons]; omega
theorem wordsB_snoc (ns : List UInt16) (n : UInt16) : wordsB (ns ++ [n]) = wordsB ns ++ be 2 n.toNat := by simp [wordsB]
set_option maxHeartbeats 1000000 in
theorem words_any_w {ns : List UInt16} {B : Nat} (hc : Row w B content (ns.map wv)) (hx : ns.length ≤ 1099511627776) :
    Calls Tryz.prog 26 #[content] w (WValP w (wordsW ns)) := by
  have hm0 := WMid.start w
  have HX := hid hx
  obtain ⟨A, c, rfl, hcr, hlc, hm⟩ := Row.formN (n := ns.length) (Row.shrink hc) (by simp)
  clear hx hc
  go_enter Tryz.func26, Tryz.ntmps26
  go_wp2_with fail
  rw [W1_eq]
  go_loopg [5, 8] ns.length (fun gk _ i wr => ∃ j : Nat, j + gk = ns.length ∧ i = .int .i64 j ∧ WMid w (wordsW (ns.take j)) wr)
  case atStart => exact ⟨0, by omega, rfl, by simpa [wordsW, wordsB, Wr.nil] using hm0⟩
  case round =>
    obtain ⟨j, hj0, rfl, hmr⟩ := hrel
    have hj : j ≤ ns.length := by omega
    have HJ := hid hj0
    clear hj0
    by_cases hlt : j < ns.length
    · have hcw := Row.upd hcr hmr.upd (by simp)
      obtain ⟨b, o, rfl, hb, hj', hcell⟩ := hcw.at_ hlt
      rw [List.getElem_map] at hcell
      obtain ⟨vr, kr, hvr⟩ := hmr.open_
      have hlen : (wordsW (ns.take j)).b.length ≤ 17592186044416 := by
        have h1 := HX.out
        show (wordsB _).length ≤ _
        rw [wordsB_len, List.length_take]; omega
      have HN := hid (wnum_any kr 2 (ns[j]).toNat (by omega) hlen)
      have HS := hid (show (wordsW (ns.take j)).num 2 (ns[j]).toNat = wordsW (ns.take (j + 1)) by
        rw [List.take_succ_eq_append_getElem hlt, wordsW, wordsW, wordsB_snoc]; rfl)
      have hu := (ns[j]).toNat_lt
      clear hlen
      go_wp2_with fail
      refine HN.out.mono ?_
      intro e w2 hp2
      rw [HS.out] at hp2
      obtain ⟨rfl, hm2⟩ := hmr.next hvr hp2
      go_wp2
      have hj0 := HJ.out
      go_roundg (ns.length - (j + 1))
      case measure => omega
      case rel => exact ⟨j + 1, by omega, by go_num, hm2⟩
    · obtain rfl : j = ns.length := by omega
      rw [List.take_length] at hmr
      obtain ⟨A4, n4, c4, c0, c1, d0, d1, g0, g1, e0, e1, hend⟩ := hmr.fin
      go_wp2
      exact bodyPost_ret (v := .agg #[.slice A4 n4 c4, .bool _]) (by simp [results, Tryz.results26, go_sem, e0, e1]) rfl hend
end
end Go.Proofs.YtaajmfgplhfncaaGreat
namespace Go.Proofs.YtaajmfgplhfncaaGreat
open Go.RowKit
set_option maxRecDepth 20000
section
variable {w w' : World} {v u : Value} {xs ys : List UInt8}
theorem run_string_of {B : Nat} (h : Byt w B v xs) (src dst e : TypeId) (hs : Tryz.prog.underlying src = some (.slice e)) (he : Tryz.prog.underlying e = some (.int .u8)) (hd : Tryz.prog.underlying dst = some .string) :
    (convert src dst v).run Tryz.prog w = .ok (.string ⟨xs.toArray⟩) w := by
  obtain ⟨A, c, e', h1, h2, h3, h4⟩ := h
  subst e'
  cases A with
  | none =>
    have hc := h3 rfl
    subst hc
    have hx : xs = [] := by
      have : (xs.map bv).length = 0 := by omega
      simpa using this
    subst hx
    exact run_convert_bytes_nil w src e hs he _ _ dst hd
  | some a =>
    rw [List.length_map]
    refine run_convert_bytes_back w src dst e a c xs hs he hd fun j hj => ?_
    obtain ⟨b, o, ha, _, hc⟩ := h4 (by intro e; rw [List.map_eq_nil_iff] at e; rw [e] at hj; simp at hj)
    injection ha with ha
    subst ha
    rw [add_lit]
    refine hc j _ ?_
    rw [List.getElem?_map, List.getElem?_eq_getElem hj]
    rfl
theorem same_any {B C : Nat} (hv : Byt w B v xs) (hu : Byt w C u ys) :
    Calls Tryz.prog 39 #[v, u] w fun e w' => e = .returned (.bool (xs == ys)) ∧ w = w' := by
  have h1 := run_string_of hv 23 9 5 Tryz.underlying23 Tryz.underlying5 Tryz.underlying9
  have h2 := run_string_of hu 23 9 5 Tryz.underlying23 Tryz.underlying5 Tryz.underlying9
  go_enter Tryz.func39, Tryz.ntmps39
  go_wp2
  go_ret
  exact ⟨rfl, rfl⟩
theorem be2_inj (a b : UInt16) (h : be 2 a.toNat = be 2 b.toNat) : a = b := by
  have ha := a.toNat_lt
  have hb := b.toNat_lt
  simp only [be, Nat.pow_one, Nat.pow_zero, Nat.div_one, List.cons.injEq, and_true] at h
  obtain ⟨h1, h2⟩ := h
  have h1' := congrArg UInt8.toNat h1
  have h2' := congrArg UInt8.toNat h2
  simp only [UInt8.toNat_ofNat'] at h1' h2'
  apply UInt16.toNat_inj.1
  omega
theorem wordsB_inj (al bl : List UInt16) (h : wordsB al = wordsB bl) : al = bl := by
  induction al generalizing bl with
  | nil =>
    have := congrArg List.length h
    rw [wordsB_len, wordsB_len] at this
    exact (List.eq_nil_of_length_eq_zero (by simp only [List.length_nil] at this; omega)).symm
  | cons a al ih =>
    cases bl with
    | nil =>
      have := congrArg List.length h
      rw [wordsB_len, wordsB_len] at this
      simp at this
    | cons b bl =>
      have e1 : wordsB (a :: al) = be 2 a.toNat ++ wordsB al := rfl
      have e2 : wordsB (b :: bl) = be 2 b.toNat ++ wordsB bl := rfl
      rw [e1, e2] at h
      obtain ⟨h1, h2⟩ := List.append_inj h (by rw [be_len, be_len])
      rw [be2_inj a b h1, ih bl h2]
theorem wordsB_beq (al bl : List UInt16) : (wordsB al == wordsB bl) = (al == bl) := by
  by_cases h : al = bl
  · subst h; simp
  · rw [beq_eq_false_iff_ne.2 h, beq_eq_false_iff_ne]
    exact fun e => h (wordsB_inj al bl e)
theorem run_field_writer (v b : Value) (w : World) : (Instr.field 53 (.agg #[v, b]) 0).run Tryz.prog w = .ok v w := by kernel_rfl
theorem sameWords_any {B C : Nat} {al bl : List UInt16} (hv : Row w B v (al.map wv)) (hu : Row w C u (bl.map wv)) (ha : al.length ≤ 1099511627776) (hb : bl.length ≤ 1099511627776) :
    Calls Tryz.prog 40 #[v, u] w fun e w' => e = .returned (.bool (al == bl)) ∧ Upd [] w w' := by
  have H := hid (wordsB_beq al bl)
  have hfw := run_field_writer
  go_enter Tryz.func40, Tryz.ntmps40
  go_wp2_with fail
  refine (words_any_w hv ha).mono ?_
  rintro e w1 ⟨v1, rfl, hy1, hn1, ⟨A1, n1, c1, rfl⟩, hu1⟩
  go_wp2_with fail
  have hu' := Row.upd (Row.shrink hu) hu1 (by simp)
  refine (words_any_w hu' hb).mono ?_
  rintro e w2 ⟨v2, rfl, hy2, hn2, ⟨A2, n2, c2, rfl⟩, hu2⟩
  have hy1' := Row.upd hy1 hu2 (by simp)
  go_wp2_with fail
  refine (same_any hy1' hy2).mono ?_
  rintro e w3 ⟨rfl, rfl⟩
  go_wp2
  go_ret
  refine ⟨?_, hu1.two hu2⟩
  show Ending.returned (.bool (wordsB al == wordsB bl)) = _
  rw [H.out]
def Lst (w : World) (B : Nat) (v : Value) (ls : List (List UInt8)) : Prop := ∃ vs, Row w B v vs ∧ All2 (fun u l => Byt w B u l) vs ls
theorem Vecs.lst {base N : Nat} {v : Value} {ls : List (List UInt8)} (h : Vecs w base N v ls) : Lst w w.heap.size v ls := by
  obtain ⟨vs, h1, h2⟩ := h
  exact ⟨vs, h1.row, h2.imp fun _ _ hb => Row.shrink hb⟩
theorem Lst.upd {B : Nat} {S : List Nat} {ls : List (List UInt8)} (h : Lst w B v ls) (hu : Upd S w w') (hs : ∀ x ∈ S, B ≤ x) : Lst w' B v ls := by
  obtain ⟨vs, h1, h2⟩ := h
  exact ⟨vs, h1.upd hu hs, h2.imp fun _ _ hb => hb.upd hu hs⟩
theorem Lst.shrink {B : Nat} {ls : List (List UInt8)} (h : Lst w B v ls) : Lst w w.heap.size v ls := by
  obtain ⟨vs, h1, h2⟩ := h
  exact ⟨vs, Row.shrink h1, h2.imp fun _ _ hb => Row.shrink hb⟩
theorem Lst.more {B C : Nat} {ls : List (List UInt8)} (h : Lst w B v ls) (hB : B ≤ C) : Lst w C v ls := by
  obtain ⟨vs, h1, h2⟩ := h
  exact ⟨vs, h1.more hB, h2.imp fun _ _ hb => hb.more hB⟩
theorem Lst.nil_ (w : World) (B : Nat) : Lst w B (.slice none 0 0) [] := ⟨[], Row.nil_ _ _, trivial⟩
theorem Lst.form {B : Nat} {ls : List (List UInt8)} (h : Lst w B v ls) : ∃ A c, v = .slice A ls.length c ∧ Lst w B (.slice A ls.length c) ls ∧ ls.length ≤ c ∧ c ≤ 9223372036854775807 := by
  have h0 := h
  obtain ⟨vs, h1, h2⟩ := h
  obtain ⟨A, c, rfl, h3, h4, h5⟩ := Row.formN h1 h2.length
  exact ⟨A, c, rfl, h0, h4, h5⟩
theorem Lst.at_ {B : Nat} {A : Option Addr} {n c : Nat} {ls : List (List UInt8)} (h : Lst w B (.slice A n c) ls) {k : Nat} (hk : k < n) :
    ∃ b o, A = some ⟨b, o, none⟩ ∧ b < B ∧ ∃ hk' : k < ls.length, ∃ A' c', w.cell? ⟨b, o + k, none⟩ = some (.slice A' (ls[k]'hk').length c') ∧ Byt w B (.slice A' (ls[k]'hk').length c') (ls[k]'hk') ∧
      (ls[k]'hk').length ≤ c' ∧ c' ≤ 9223372036854775807 := by
  obtain ⟨vs, h1, h2⟩ := h
  obtain ⟨b, o, rfl, hb, hk', hc⟩ := h1.at_ hk
  have hl : k < ls.length := by rw [← h2.length]; exact hk'
  have hy := h2.get k hk' hl
  obtain ⟨A', c', e, hy', h3, h4⟩ := Byt.form hy rfl
  exact ⟨b, o, rfl, hb, hl, A', c', by rw [hc, e], hy', h3, h4⟩
theorem lists_ne (ls ms : List (List UInt8)) (i : Nat) (h : i < ls.length) (h' : i < ms.length) (hne : ls[i] ≠ ms[i]) : (ls == ms) = false := by
  rw [beq_eq_false_iff_ne]
  rintro rfl
  exact hne rfl
theorem lists_eq (ls ms : List (List UInt8)) (hl : ls.length = ms.length) (h : ls.take ls.length = ms.take ls.length) : (ls == ms) = true := by
  rw [List.take_length, hl, List.take_length] at h
  rw [h]; simp
theorem take_more (ls ms : List (List UInt8)) (i : Nat) (h : i < ls.length) (h' : i < ms.length) (he : ls[i] = ms[i]) (ht : ls.take i = ms.take i) : ls.take (i + 1) = ms.take (i + 1) := by
  rw [List.take_succ_eq_append_getElem h, List.take_succ_eq_append_getElem h', ht, he]
set_option maxHeartbeats 1000000 in
theorem SameLists_any {B C : Nat} {ls ms : List (List UInt8)} (hv : Lst w B v ls) (hu : Lst w C u ms) :
    Calls Tryz.prog 41 #[v, u] w fun e w' => e = .returned (.bool (ls == ms)) ∧ w = w' := by
  obtain ⟨A, c, rfl, hv, hlc, hcm⟩ := hv.form
  obtain ⟨A2, c2, rfl, hu, hlc2, hcm2⟩ := hu.form
  by_cases hlen : ls.length = ms.length
  · have HL := hid hlen
    have hne := neq_false hlen
    clear hlen
    go_enter Tryz.func41, Tryz.ntmps41
    go_wp2_with fail
    go_loopg [5, 6, 14] ls.length (fun gk _ _ i wr => ∃ j : Nat, j + gk = ls.length ∧ i = .int .i64 j ∧ w = wr ∧ ls.take j = ms.take j)
    case atStart => exact ⟨0, by omega, rfl, rfl, by simp⟩
    case round =>
      obtain ⟨j, hj0, rfl, rfl, ht⟩ := hrel
      have HT := hid ht
      have HJ := hid hj0
      have hj : j ≤ ls.length := by omega
      clear ht hj0
      by_cases hlt : j < ls.length
      · have hlt2 : j < ms.length := by have := HL.out; omega
        obtain ⟨b, o, rfl, hb, hj1, A', c', hcell, hy, hl3, hl4⟩ := hv.at_ hlt
        obtain ⟨b2, o2, rfl, hb2, hj2, A2', c2', hcell2, hy2, hl5, hl6⟩ := hu.at_ hlt2
        go_wp2_with fail
        refine (same_any hy hy2).mono ?_
        rintro e w1 ⟨rfl, rfl⟩
        by_cases he : ls[j] = ms[j]
        · have hbe : (ls[j] == ms[j]) = true := by rw [he]; simp
          have HE := hid he
          clear he
          go_wp2
          have hj0 := HJ.out
          go_roundg (ls.length - (j + 1))
          case measure => omega
          case rel => exact ⟨j + 1, by omega, by go_num, rfl, take_more ls ms j hj1 hj2 HE.out HT.out⟩
        · have hbe : (ls[j] == ms[j]) = false := by rw [beq_eq_false_iff_ne]; exact he
          have HE := hid he
          clear he
          go_wp2
          go_ret
          exact ⟨by rw [lists_ne ls ms j hj1 hj2 HE.out]; rfl, rfl⟩
      · obtain rfl : j = ls.length := by omega
        go_wp2
        go_ret
        exact ⟨by rw [lists_eq ls ms HL.out HT.out]; rfl, rfl⟩
  · have hne := neq_true hlen
    have HL := hid (show (ls == ms) = false by rw [beq_eq_false_iff_ne]; rintro rfl; exact hlen rfl)
    clear hlen
    go_enter Tryz.func41, Tryz.ntmps41
    go_wp2
    go_ret
    exact ⟨by rw [HL.out]; rfl, rfl⟩
end
end Go.Proofs.YtaajmfgplhfncaaGreat
namespace Go.Proofs.YtaajmfgplhfncaaGreat
open Go.RowKit
set_option maxRecDepth 20000
def NN (v : Value) : Prop := ∃ a n c, v = .slice (some a) n c
def Sv (w : World) (N b : Nat) (bs : List UInt8) (nn : Prop) : Prop := N ≤ b ∧ ∃ v, Blk w b 116 #[v] ∧ Byt w N v bs ∧ (nn → NN v)
section
variable {w w' : World} {N b : Nat} {bs : List UInt8} {nn : Prop} {S : List Nat}
theorem Sv.upd (h : Sv w N b bs nn) (hu : Upd S w w') (hs : ∀ x ∈ S, N ≤ x) (hb : b ∉ S) : Sv w' N b bs nn := by
  obtain ⟨h1, v, h2, h3, h4⟩ := h
  exact ⟨h1, v, h2.upd hu hb, h3.upd hu hs, h4⟩
theorem Sv.open_ (h : Sv w N b bs nn) : ∃ A c, w.cell? ⟨b, 0, none⟩ = some (.slice A bs.length c) ∧ w.frozen? ⟨b, 0, none⟩ = false ∧ Byt w N (.slice A bs.length c) bs ∧ bs.length ≤ c ∧ c ≤ 9223372036854775807 ∧ (nn → ∃ a, A = some a) := by
  obtain ⟨h1, v, h2, h3, h4⟩ := h
  obtain ⟨A, c, rfl, hv', hl, hc⟩ := Byt.form h3 rfl
  refine ⟨A, c, by rw [h2.cell]; rfl, h2.frozen 0, hv', hl, hc, fun hn => ?_⟩
  obtain ⟨a, n, c', e⟩ := h4 hn
  injection e with e
  exact ⟨a, e⟩
theorem Sv.stored {v v' : Value} {bs' : List UInt8} {mm : Prop} (hb : Blk w b 116 #[v]) (hN : N ≤ b) (hv : Byt w N v' bs') (hm : mm → NN v') : Sv (w.setCell ⟨b, 0, none⟩ v') N b bs' mm := by
  refine ⟨hN, v', ?_, Row.setCell (p := ⟨b, 0, none⟩) hv hN _, hm⟩
  have := hb.set_ 0 v'
  simpa using this
def NoP (w : World) (b : Nat) (e : Ending) (w' : World) : Prop := e = .returned (.bool false) ∧ Upd [b] w w'
end
end Go.Proofs.YtaajmfgplhfncaaGreat
namespace Go.Proofs.YtaajmfgplhfncaaGreat
open Go.RowKit
set_option maxRecDepth 20000
def lp (n : Nat) (bs : List UInt8) : Option (List UInt8 × List UInt8) :=
  if n ≤ bs.length then
    if beNat (bs.take n) ≤ (bs.drop n).length then some ((bs.drop n).take (beNat (bs.take n)), (bs.drop n).drop (beNat (bs.take n))) else none
  else none
section
variable {w w' : World} {N b : Nat} {bs : List UInt8} {nn : Prop} {S : List Nat}
def LpP (w : World) (N b : Nat) (x rest : List UInt8) (ob : Nat) (T : TypeId) (cs : Array Value) (k : Nat) (e : Ending) (w' : World) : Prop :=
  ∃ u, e = .returned (.bool true) ∧ Upd [b, ob] w w' ∧ Sv w' N b rest True ∧ Blk w' ob T (cs.setIfInBounds k u) ∧ Byt w' N u x ∧ NN u
def LpPost (w : World) (N b n : Nat) (bs : List UInt8) (ob : Nat) (T : TypeId) (cs : Array Value) (k : Nat) (e : Ending) (w' : World) : Prop :=
  match lp n bs with
  | some (x, rest) => LpP w N b x rest ob T cs k e w'
  | none => NoP w b e w'
theorem LpPost.ret {n ob k : Nat} {T : TypeId} {cs : Array Value} {e : Ending} (h : LpPost w N b n bs ob T cs k e w') : ∃ r, e = .returned (.bool r) := by
  unfold LpPost at h
  split at h
  · obtain ⟨_, he, _⟩ := h
    exact ⟨true, he⟩
  · exact ⟨false, h.1⟩
end
end Go.Proofs.YtaajmfgplhfncaaGreat

/- The CertificateStatus message: read by the package. -/
import Derived.Test.YtnghnifihnjfeaaStatusR
namespace Go.Proofs.Ytnghnifihnjfeaa
open Go.RowKit
set_option maxRecDepth 100000

section
variable {w w0 w' : World} {v content : Value} {xs data : List UInt8} {m B : Nat} {e : Ending}

theorem unmarshal_CertificateStatus (hm : Blk w m 113 #[.slice none 0 0]) (hv : Byt w B v data) (hB : B ≤ m) :
    Calls Try.prog 87 #[.pointer (some ⟨m, 0, none⟩), v] w (UnmP w m 113 (readCertificateStatus data)) := by
  obtain ⟨A, c, rfl, hv, hl, hc⟩ := Byt.form hv rfl
  have hml := hm.lt
  obtain ⟨w1, hw1⟩ : ∃ w1, w1 = (SvW w (.slice A data.length c)).alloc (.cells #[.int .u8 0] 5) := ⟨_, rfl⟩
  have hs1 : Sv w1 B w.heap.size data False := by
    rw [hw1]
    exact (sv_start hv (by omega)).upd ((Upd.refl [] _).alloc _) (by simp) (by simp)
  have hu1 : Upd [] w w1 := by rw [hw1]; exact (SvW_upd w _).alloc _
  have ho1 : Blk w1 (w.heap.size + 1) 5 #[.int .u8 0] := by rw [hw1, ← SvW_size w (.slice A data.length c)]; exact Blk.new _ _ _
  have hm1 := hm.upd hu1 (by simp)
  have HW := hid hw1
  clear hw1
  have hno : ∀ w2 : World, Upd [w.heap.size, w.heap.size + 1] w1 w2 → readCertificateStatus data = none → UnmP w m 113 (readCertificateStatus data) (.returned (.bool false)) w2 := by
    intro w2 hu2 hk
    rw [hk]
    have hu : Upd [] w w2 := hu1.trans hu2 (by simp)
    exact ⟨rfl, hu.mono (by simp), _, ⟨_, _, _, rfl⟩, hm.upd hu (by simp), fun x h => (by cases h)⟩
  have HNO := hid hno
  clear hno
  by_cases h4 : data.length < 4
  · have Hk := hid (show readCertificateStatus data = none by simp [readCertificateStatus, h4])
    have H := hid (Skip_bad hs1 4 h4)
    clear h4
    go_enter Try.func87, Try.ntmps87
    go_wp2_with fail
    rw [SvW_eq, ← HW.out]
    refine H.out.mono ?_
    rintro e w2 ⟨rfl, hu2⟩
    go_wp2
    go_ret
    exact HNO.out _ (hu2.mono (by simp)) Hk.out
  · have H := hid (Skip_ok hs1 4 (by omega) (by omega))
    rcases hd : data.drop 4 with _ | ⟨x, r⟩
    · rw [hd] at H
      have Hk := hid (show readCertificateStatus data = none by simp only [readCertificateStatus, if_neg h4, hd])
      clear hd h4
      go_enter Try.func87, Try.ntmps87
      go_wp2_with fail
      rw [SvW_eq, ← HW.out]
      refine H.out.mono ?_
      rintro e w2 ⟨rfl, hu2, hs2⟩
      have H2 := hid (ReadUint8_bad (ob := w.heap.size + 1) (k := 0) hs2)
      go_wp2_with fail
      refine H2.out.mono ?_
      rintro e w3 ⟨rfl, hu3⟩
      go_wp2
      go_ret
      exact HNO.out _ ((hu2.mono (by simp)).trans (hu3.mono (S' := [w.heap.size, w.heap.size + 1]) (by simp)) (by simp)) Hk.out
    · rw [hd] at H
      by_cases hx1 : x = 1
      · subst hx1
        have Hk := hid (show readCertificateStatus data = statIn r by simp only [readCertificateStatus, if_neg h4, hd, if_true])
        clear hd h4
        go_enter Try.func87, Try.ntmps87
        go_wp2_with fail
        rw [SvW_eq, ← HW.out]
        refine H.out.mono ?_
        rintro e w2 ⟨rfl, hu2, hs2⟩
        have H2 := hid (ReadUint8_ok (k := 0) hs2 (ho1.upd hu2 (by simp)) (by simp) (by simp) (by omega))
        go_wp2_with fail
        refine H2.out.mono ?_
        rintro e w3 ⟨rfl, hu3, hs3, hb3⟩
        have hu23 := (hu2.mono (S' := [w.heap.size, w.heap.size + 1]) (by simp)).trans hu3 (by simp)
        have hm3 := hm1.upd hu23 (by simp; omega)
        have d0 := hb3.cell 0
        simp [bv] at d0
        have m0 := hm3.cell 0
        simp at m0
        have H3 := hid (tlsLP24_any hs3 (k := 0) hm3 (by simp) (by omega) hB)
        go_wp2_with fail
        refine H3.out.mono ?_
        intro e w4 hp
        rcases hL : lp 3 r with _ | ⟨y, rest⟩
        · obtain ⟨rfl, hu4⟩ := hp.no hL
          simp only [statIn, hL] at Hk
          go_wp2
          go_ret
          exact HNO.out _ (hu23.trans (hu4.mono (S' := [w.heap.size, w.heap.size + 1]) (by simp)) (by simp)) Hk.out
        · obtain ⟨u, rfl, hu4, hs4, hb4, hy4, ⟨a, n, cc, rfl⟩⟩ := hp.yes hL
          simp only [statIn, hL] at Hk
          obtain ⟨A3, c3, c0, -, hy, -⟩ := hs4.open_
          have hyl := Byt.len hy4
          have H4 := hid (Empty_any hy)
          simp at hb4
          have b0 := hb4.cell 0
          simp at b0
          have hu' : Upd [m] w w4 := ((hu1.trans hu23 (by simp)).mono (S' := [m]) (by simp)).trans hu4 (by simp)
          rcases y with _ | ⟨y, ys⟩
          · simp at hyl
            subst hyl
            go_wp2
            go_ret
            rw [Hk.out]
            exact ⟨rfl, hu', _, ⟨_, _, _, rfl⟩, hb4, fun x' h => (by cases h)⟩
          · simp at hyl
            have n0 : ((n : Int) == 0) = false := by rw [beq_eq_false_iff_ne]; omega
            go_wp2_with fail
            refine H4.out.mono ?_
            rintro e w5 ⟨rfl, rfl⟩
            rcases rest with _ | ⟨z, t⟩
            · go_wp2
              go_ret
              rw [Hk.out]
              exact ⟨rfl, hu', _, ⟨_, _, _, rfl⟩, hb4, fun x' h => (by cases h; exact Row.shrink hy4)⟩
            · go_wp2
              go_ret
              rw [Hk.out]
              exact ⟨rfl, hu', _, ⟨_, _, _, rfl⟩, hb4, fun x' h => (by cases h)⟩
      · have Hk := hid (show readCertificateStatus data = none by simp only [readCertificateStatus, if_neg h4, hd, if_neg hx1])
        have n1 : ((x.toNat : Int) != 1) = true := by
          rw [bne_iff_ne]; intro h; exact hx1 (UInt8.toNat_inj.1 (by simp; omega))
        clear hd h4 hx1
        go_enter Try.func87, Try.ntmps87
        go_wp2_with fail
        rw [SvW_eq, ← HW.out]
        refine H.out.mono ?_
        rintro e w2 ⟨rfl, hu2, hs2⟩
        have H2 := hid (ReadUint8_ok (k := 0) hs2 (ho1.upd hu2 (by simp)) (by simp) (by simp) (by omega))
        go_wp2_with fail
        refine H2.out.mono ?_
        rintro e w3 ⟨rfl, hu3, hs3, hb3⟩
        have hu23 := (hu2.mono (S' := [w.heap.size, w.heap.size + 1]) (by simp)).trans hu3 (by simp)
        have d0 := hb3.cell 0
        simp [bv] at d0
        go_wp2
        go_ret
        exact HNO.out _ hu23 Hk.out
theorem tls_UnmarshalCertificateStatus (hv : Byt w B v data) : Calls Try.prog 61 #[v] w (UnP w (readCertificateStatus data)) := by
  obtain ⟨A, c, rfl, hv, hl, hc⟩ := Byt.form hv rfl
  have hm0 := Blk.new w 113 #[.slice none 0 0]
  have H1 := hid (unmarshal_CertificateStatus hm0 (Row.alloc (Row.shrink hv) _) (Nat.le_refl _))
  have hu0 : Upd [] w _ := (Upd.refl [] w).alloc (.cells #[.slice none 0 0] 113)
  go_enter Try.func61, Try.ntmps61
  go_wp2_with fail
  refine (H1.out).mono ?_
  rintro e w1 ⟨rfl, hu, u, ⟨A1, n1, c1, rfl⟩, hb, hx⟩
  have c0 := hb.cell 0
  simp at c0
  go_wp2
  go_ret2
  exact ⟨_, ⟨A1, n1, c1, rfl⟩, rfl, hu0.trans hu (by simp), hx⟩
theorem impl_UnmarshalCertificateStatus (hv : Byt w B v data) : Calls Try.prog 31 #[v] w (UnP w (readCertificateStatus data)) := by
  obtain ⟨A, c, rfl, hv, hl, hc⟩ := Byt.form hv rfl
  have H1 := hid (tls_UnmarshalCertificateStatus hv)
  go_enter Try.func31, Try.ntmps31
  go_wp2_with fail
  refine (H1.out).mono ?_
  rintro e w1 ⟨u, ⟨A1, n1, c1, rfl⟩, rfl, hu, hx⟩
  go_wp2
  go_ret2
  exact ⟨_, ⟨A1, n1, c1, rfl⟩, rfl, hu, hx⟩
end
end Go.Proofs.Ytnghnifihnjfeaa

/- An extension of a certificate of TLS 1.3: read by the reference. -/
import Derived.Test.YtddkjhlngofkaaaCtV
import Derived.Test.YtddkjhlngofkaaaLoops
import Derived.Test.YtddkjhlngofkaaaCqR
import Derived.Test.YtddkjhlngofkaaaReader
import Derived.Deep.DeepCutAuto
namespace Go.Proofs.Ytddkjhlngofkaaa
open Go.RowKit
set_option maxRecDepth 100000

/-- what reading an extension leaves: the message in block m -/
def CexP (w : World) (N q m : Nat) (vc vst vsp : Value) (M M' : Ct) (x' : R) (e : Ending) (w' : World) : Prop :=
  e = .returned (.tuple #[]) ∧ Upd [q, m] w w' ∧ Rd w' N q x' ∧ ∃ vst' vsp', Blk w' m 53 #[vc, .bool M'.ocsp, .bool M'.scts, vst', vsp'] ∧
    ((vst' = vst ∧ M'.staple = M.staple) ∨ Byt w' N vst' M'.staple) ∧ ((vsp' = vsp ∧ M'.stamps = M.stamps) ∨ VecsIn w' N w.heap.size w'.heap.size vsp' M'.stamps)
section
variable {w w' : World} {N q m n cc : Nat} {vst vsp : Value} {M : Ct} {x : R} {Ac : Option Addr} {k : UInt16}
theorem u16_ne (k n : UInt16) : ((k.toNat : Int) != (n.toNat : Int)) = !decide (k = n) := by
  show (!((k.toNat : Int) == (n.toNat : Int))) = _
  rw [u16_eq]
set_option maxHeartbeats 8000000 in
theorem certExt_any (hx : Rd w N q x) (hm : Blk w m 53 #[.slice Ac n cc, .bool M.ocsp, .bool M.scts, vst, vsp]) (hn : n = M.certs.length) (hqm : q ≠ m) (hNm : N ≤ m) (hxl : x.bs.length ≤ 4294967296) :
    Calls Try.prog 70 #[.pointer (some ⟨q, 0, none⟩), .int .u16 (k.toNat : Int), .pointer (some ⟨m, 0, none⟩)] w (CexP w N q m (.slice Ac n cc) vst vsp M (ctRd M k x).1 (ctRd M k x).2) := by
  have hNq := hx.1
  have hql := hx.lt
  have hml := hm.lt
  have HN := hid hn
  have n5 := u16_ne k 5
  have n18 := u16_ne k 18
  have d18 := u16_eq k 18
  rw [show ((5 : UInt16).toNat : Int) = 5 from rfl] at n5
  rw [show ((18 : UInt16).toNat : Int) = 18 from rfl] at n18 d18
  by_cases hk : k ≠ 5 ∧ k ≠ 18
  · have HRD := hid (show ctRd M k x = (M, ⟨[], x.code⟩) by unfold ctRd; rw [if_neg hk.2, if_neg hk.1, cq_rest_take])
    rw [decide_eq_false hk.1] at n5
    rw [decide_eq_false hk.2] at n18 d18
    obtain ⟨A, c, q0, q1, qf0, qf1, hl, hc⟩ := hx.open_
    have H := hid (take_any hx x.bs.length hxl)
    clear hk hx hn
    go_enter Try.func70, Try.ntmps70
    go_wp2_with fail
    refine H.out.mono ?_
    rintro e w1 ⟨u1, rfl, hu1, hq1, -, -⟩
    rw [cq_rest_take] at hq1
    go_wp2
    go_end0
    rw [HRD.out]
    exact ⟨rfl, hu1.mono (by simp), hq1, vst, vsp, hm.upd hu1 (by simp; omega), .inl ⟨rfl, rfl⟩, .inl ⟨rfl, rfl⟩⟩
  · have hkk : k = 5 ∨ k = 18 := by
      by_cases h5 : k = 5
      · exact .inl h5
      · by_cases h18 : k = 18
        · exact .inr h18
        · exact absurd ⟨h5, h18⟩ hk
    have m0 := hm.cell 0
    simp at m0
    have HF := hid (fail_any hx 1)
    have HX := hid hx
    have HM := hid hm
    have hlate : (decide ((1 : Int) < (n : Int)) = true ∧ x.late M = x.fail 1) ∨ (decide ((1 : Int) < (n : Int)) = false ∧ x.late M = x) := by
      by_cases h : 1 < M.certs.length
      · exact .inl ⟨decide_eq_true (by omega), by unfold R.late; rw [if_pos h]⟩
      · exact .inr ⟨decide_eq_false (by omega), by unfold R.late; rw [if_neg h]⟩
    clear hk hm hx hn n5 n18 d18
    rcases hkk with rfl | rfl
    · rw [show ((5 : UInt16).toNat : Int) = 5 from rfl]
      have HRD := hid (show ctRd M 5 x = (M.setStaple (x.late M).stapV.1, (x.late M).stapV.2) from rfl)
      go_enter Try.func70, Try.ntmps70
      go_upto_if 25 with fail
      go_cut [] (fun wx => Rd wx N q (x.late M) ∧ Upd [q] w wx)
      case first =>
        rcases hlate with ⟨h1, h2⟩ | ⟨h1, h2⟩
        · have H2 := hid h2
          rw [h1]
          clear h1 h2
          go_wp2_with fail
          refine HF.out.mono ?_
          rintro e w1 ⟨rfl, hu1, hq1⟩
          go_wp2
          go_meet
          rw [H2.out]
          exact ⟨hq1, hu1⟩
        · have H2 := hid h2
          rw [h1]
          clear h1 h2
          go_wp2
          go_meet
          rw [H2.out]
          exact ⟨HX.out, Upd.refl _ _⟩
      obtain ⟨hr1, hu1⟩ := hcut
      have hm1 := HM.out.upd hu1 (by simp; omega)
      clear HF HX m0 hlate
      generalize x.late M = x1 at hr1 HRD
      have hnl : ((x1.num 1).1 = 1 ∧ ((((x1.num 1).1 : Nat) : Int) != 1) = false) ∨ (¬ (x1.num 1).1 = 1 ∧ ((((x1.num 1).1 : Nat) : Int) != 1) = true) := by
        by_cases h : (x1.num 1).1 = 1
        · exact .inl ⟨h, by rw [h]; decide⟩
        · exact .inr ⟨h, by rw [bne_iff_ne]; omega⟩
      have hone : x1.one = if (x1.num 1).1 = 1 then (x1.num 1).2 else (x1.num 1).2.fail 1 := rfl
      have H := hid (num_any hr1 1 (by omega))
      have HONE := hid hone
      have HNL := hid hnl
      clear hone hr1 hnl
      go_upto_region 6 with fail
      go_wp2_with fail
      refine H.out.mono ?_
      rintro e w2 ⟨rfl, hu2, hq2⟩
      go_upto_if 43 with fail
      go_cut [] (fun wx => Rd wx N q x1.one ∧ Upd [q] w wx)
      case first =>
        have hu12 := hu1.trans hu2 (by simp)
        rcases HNL.out with ⟨h1, h2⟩ | ⟨h1, h2⟩
        · have H1 := hid h1
          rw [h2]
          clear h1 h2
          go_wp2
          go_meet
          rw [HONE.out, if_pos H1.out]
          exact ⟨hq2, hu12⟩
        · have H1 := hid h1
          have HF2 := hid (fail_any hq2 1)
          rw [h2]
          clear h1 h2
          go_wp2_with fail
          refine HF2.out.mono ?_
          rintro e w3 ⟨rfl, hu3, hq3⟩
          go_wp2
          go_meet
          rw [HONE.out, if_neg H1.out]
          exact ⟨hq3, hu12.trans hu3 (by simp)⟩
      obtain ⟨hr3, hu3⟩ := hcut
      clear HNL H HONE hm1 hu1
      have H := hid (vec_any hr3 3 1 16777215 (by omega))
      go_wp2_with fail
      refine H.out.mono ?_
      rintro e w4 ⟨v4, rfl, hu4, hq4, hy4⟩
      have hu34 := hu3.trans hu4 (by simp)
      have hm4 := HM.out.upd hu34 (by simp; omega)
      obtain ⟨A4, c4, rfl, hy4, -, -⟩ := Byt.form hy4 rfl
      have p1 := hm4.cell 1
      have p3 := hm4.cell 3
      have f1 := hm4.frozen 1
      have f3 := hm4.frozen 3
      simp at p1 p3
      clear hr3 hu3 hu4 H
      go_wp2
      go_end0
      have hmz := (hm4.set_ 1 (.bool true)).set_ 3 (.slice A4 (x1.one.vec 3 1 16777215).1.length c4)
      have huz := ((Upd.refl [m] w4).setCell (p := ⟨m, 1, none⟩) (.inl (List.mem_singleton.2 rfl)) (.bool true)).setCell (p := ⟨m, 3, none⟩) (.inl (List.mem_singleton.2 rfl)) (.slice A4 (x1.one.vec 3 1 16777215).1.length c4)
      rw [HRD.out]
      exact ⟨rfl, (hu34.mono (S' := [q, m]) (by simp)).trans (huz.mono (S' := [q, m]) (by simp)) (by simp), hq4.upd huz (by simpa using hNm) (by simpa using hqm), _, _, hmz, .inr (Row.upd hy4 huz (by simpa using hNm)), .inl ⟨rfl, rfl⟩⟩
    · rw [show ((18 : UInt16).toNat : Int) = 18 from rfl]
      have HRD := hid (show ctRd M 18 x = (M.setStamps ((x.late M).listsV 2 1 65535 2).1, ((x.late M).listsV 2 1 65535 2).2) from rfl)
      go_enter Try.func70, Try.ntmps70
      go_upto_if 25 with fail
      go_cut [] (fun wx => Rd wx N q (x.late M) ∧ Upd [q] w wx)
      case first =>
        rcases hlate with ⟨h1, h2⟩ | ⟨h1, h2⟩
        · have H2 := hid h2
          rw [h1]
          clear h1 h2
          go_wp2_with fail
          refine HF.out.mono ?_
          rintro e w1 ⟨rfl, hu1, hq1⟩
          go_wp2
          go_meet
          rw [H2.out]
          exact ⟨hq1, hu1⟩
        · have H2 := hid h2
          rw [h1]
          clear h1 h2
          go_wp2
          go_meet
          rw [H2.out]
          exact ⟨HX.out, Upd.refl _ _⟩
      obtain ⟨hr1, hu1⟩ := hcut
      have hm1 := HM.out.upd hu1 (by simp; omega)
      clear HF HX m0 hlate
      generalize x.late M = x1 at hr1 HRD
      have hvl := cq_vec_len x1 2 1 65535 (by omega)
      have H := hid (vec_any hr1 2 1 65535 (by omega))
      clear hr1
      go_wp2_with fail
      refine H.out.mono ?_
      rintro e w2 ⟨v2, rfl, hu2, hq2, hy2⟩
      have H2 := hid (vectors_any2 hq2 hy2 (by omega) 1)
      rw [show (x1.vec 2 1 65535).2.vectors (x1.vec 2 1 65535).1 2 1 = x1.listsV 2 1 65535 2 from rfl] at H2
      have hu12 := hu1.trans hu2 (by simp)
      have hs12 := hu12.size
      obtain ⟨pp, hpp⟩ : ∃ pp, x1.listsV 2 1 65535 2 = pp := ⟨_, rfl⟩
      rw [hpp] at H2 HRD
      clear hpp H hy2 hu1 hu2 hvl
      go_wp2_with fail
      refine H2.out.mono ?_
      rintro e w3 ⟨v3, rfl, ho3, hu3, hq3⟩
      obtain ⟨A3, c3, rfl⟩ := ho3.formL
      have hu34 := hu12.trans hu3 (by simp)
      have hm4 := HM.out.upd hu34 (by simp; omega)
      have p1 := hm4.cell 2
      have p3 := hm4.cell 4
      have f1 := hm4.frozen 2
      have f3 := hm4.frozen 4
      simp at p1 p3
      clear H2 hu3 hm1 hq2 hu12
      go_wp2
      go_end0
      have hmz := (hm4.set_ 2 (.bool true)).set_ 4 (.slice A3 pp.1.length c3)
      have huz := ((Upd.refl [m] w3).setCell (p := ⟨m, 2, none⟩) (.inl (List.mem_singleton.2 rfl)) (.bool true)).setCell (p := ⟨m, 4, none⟩) (.inl (List.mem_singleton.2 rfl)) (.slice A3 pp.1.length c3)
      have hsz := huz.size
      rw [HRD.out]
      exact ⟨rfl, (hu34.mono (S' := [q, m]) (by simp)).trans (huz.mono (S' := [q, m]) (by simp)) (by simp), hq3.upd huz (by simpa using hNm) (by simpa using hqm), _, _, hmz, .inl ⟨rfl, rfl⟩, .inr (((VecsIn.new ho3).upd huz (by simp; omega) (by simpa using hNm)).wide (by omega) (by omega))⟩
end
end Go.Proofs.Ytddkjhlngofkaaa

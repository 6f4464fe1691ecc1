/- The CertificateVerify message: read by the package. -/
import Derived.Test.YtnghnifihnjfeaaEmit2
import Derived.Test.YtnghnifihnjfeaaMsg
import Derived.Test.YtnghnifihnjfeaaBody2
import Derived.OwnWalk
namespace Go.Proofs.Ytnghnifihnjfeaa
open Go.RowKit
set_option maxRecDepth 100000

def verSig (a : UInt16) (r : List UInt8) : Option (UInt16 × List UInt8) := match lp 2 r with
  | some (s, []) => some (a, s)
  | _ => none
def verIn : Bool → List UInt8 → Option (UInt16 × List UInt8)
  | false, r => verSig 0 r
  | true, x :: y :: r => verSig (UInt16.ofNat (x.toNat * 256 + y.toNat)) r
  | true, _ => none
def readVerify (has : Bool) (data : List UInt8) : Option (UInt16 × List UInt8) := if data.length < 4 then none else verIn has (data.drop 4)

section
variable {w w0 w' : World} {v content : Value} {xs data r : List UInt8} {m B : Nat} {e : Ending} {has : Bool}

def VerP (w : World) (m : Nat) (has : Bool) (o : Option (UInt16 × List UInt8)) (e : Ending) (w' : World) : Prop :=
  e = .returned (.bool o.isSome) ∧ Upd [m] w w' ∧ ∃ u a, isSlice u ∧ Blk w' m 116 #[.bool has, wv a, u] ∧ ∀ x, o = some x → x.1 = a ∧ Byt w' w'.heap.size u x.2

theorem unmarshal_Verify (has : Bool) (hm : Blk w m 116 #[.bool has, .int .u16 0, .slice none 0 0]) (hv : Byt w B v data) (hB : B ≤ m) :
    Calls Try.prog 89 #[.pointer (some ⟨m, 0, none⟩), v] w (VerP w m has (readVerify has data)) := by
  obtain ⟨A, c, rfl, hv, hl, hc⟩ := Byt.form hv rfl
  have hml := hm.lt
  obtain ⟨w1, hw1⟩ : ∃ w1, w1 = SvW w (.slice A data.length c) := ⟨_, rfl⟩
  have hs1 : Sv w1 B w.heap.size data False := by rw [hw1]; exact sv_start hv (by omega)
  have hu1 : Upd [] w w1 := by rw [hw1]; exact SvW_upd w _
  have HW := hid hw1
  clear hw1
  have hno : ∀ w2 : World, Upd [] w w2 → readVerify has data = none → VerP w m has (readVerify has data) (.returned (.bool false)) w2 := by
    intro w2 hu hk
    rw [hk]
    exact ⟨rfl, hu.mono (by simp), _, 0, ⟨_, _, _, rfl⟩, hm.upd hu (by simp), fun x h => (by cases h)⟩
  have HNO := hid hno
  clear hno
  by_cases h4 : data.length < 4
  · have Hk := hid (show readVerify has data = none by simp [readVerify, h4])
    have H := hid (Skip_bad hs1 4 h4)
    clear h4
    go_enter Try.func89, Try.ntmps89
    go_wp2_with fail
    rw [SvW_eq, ← HW.out]
    refine H.out.mono ?_
    rintro e w2 ⟨rfl, hu2⟩
    go_wp2
    go_ret
    exact HNO.out _ (hu1.trans hu2 (by simp)) Hk.out
  · have H := hid (Skip_ok hs1 4 (by omega) (by omega))
    have Hk := hid (show readVerify has data = verIn has (data.drop 4) by simp only [readVerify, if_neg h4])
    generalize data.drop 4 = d at H Hk
    clear h4
    cases has
    · have Hk : Hid (readVerify false data = verSig 0 d) := Hk
      go_enter Try.func89, Try.ntmps89
      go_wp2_with fail
      rw [SvW_eq, ← HW.out]
      refine H.out.mono ?_
      rintro e w2 ⟨rfl, hu2, hs2⟩
      have hu : Upd [] w w2 := hu1.trans hu2 (by simp)
      have hm2 := hm.upd hu (by simp)
      have m0 := hm2.cell 0
      have m2 := hm2.cell 2
      simp at m0 m2
      have H3 := hid (tlsLP16_any hs2 (k := 2) hm2 (by simp) (by omega) hB)
      go_wp2_with fail
      refine H3.out.mono ?_
      intro e w4 hp
      rcases hL : lp 2 d with _ | ⟨y, rest⟩
      · obtain ⟨rfl, hu4⟩ := hp.no hL
        simp only [verSig, hL] at Hk
        go_wp2
        go_ret
        exact HNO.out _ (hu.trans hu4 (by simp)) Hk.out
      · obtain ⟨u, rfl, hu4, hs4, hb4, hy4, ⟨a, n, cc, rfl⟩⟩ := hp.yes hL
        simp only [verSig, hL] at Hk
        obtain ⟨A3, c3, c0, -, hy, -⟩ := hs4.open_
        have H4 := hid (Empty_any hy)
        simp at hb4
        have hu' : Upd [m] w w4 := (hu.mono (S' := [m]) (by simp)).trans hu4 (by simp)
        go_wp2_with fail
        refine H4.out.mono ?_
        rintro e w5 ⟨rfl, rfl⟩
        go_wp2
        go_ret
        rw [Hk.out]
        rcases rest with _ | ⟨z, t⟩
        · exact ⟨rfl, hu', _, 0, ⟨_, _, _, rfl⟩, hb4, fun x' h => (by cases h; exact ⟨rfl, Row.shrink hy4⟩)⟩
        · exact ⟨rfl, hu', _, 0, ⟨_, _, _, rfl⟩, hb4, fun x' h => (by cases h)⟩
    · have short : d.length < 2 ∨ ∃ x y r, d = x :: y :: r := by
        rcases d with _ | ⟨x, _ | ⟨y, r⟩⟩
        · left; simp
        · left; simp
        · right; exact ⟨x, y, r, rfl⟩
      rcases short with hsh | ⟨x, y, r, rfl⟩
      · have Hk : Hid (readVerify true data = none) := by
          have h := Hk.out
          rcases d with _ | ⟨x, _ | ⟨y, r⟩⟩
          · exact h
          · exact h
          · simp at hsh; omega
        go_enter Try.func89, Try.ntmps89
        go_wp2_with fail
        rw [SvW_eq, ← HW.out]
        refine H.out.mono ?_
        rintro e w2 ⟨rfl, hu2, hs2⟩
        have hu : Upd [] w w2 := hu1.trans hu2 (by simp)
        have hm2 := hm.upd hu (by simp)
        have m0 := hm2.cell 0
        have m1 := hm2.cell 1
        simp at m0 m1
        have H3 := hid (ReadUint16_bad (ob := m) (k := 1) hs2 hsh)
        go_wp2_with fail
        refine H3.out.mono ?_
        rintro e w3 ⟨rfl, hu3⟩
        go_wp2
        go_ret
        exact HNO.out _ (hu.trans hu3 (by simp)) Hk.out
      · have Hk : Hid (readVerify true data = verSig (UInt16.ofNat (x.toNat * 256 + y.toNat)) r) := Hk
        go_enter Try.func89, Try.ntmps89
        go_wp2_with fail
        rw [SvW_eq, ← HW.out]
        refine H.out.mono ?_
        rintro e w2 ⟨rfl, hu2, hs2⟩
        have hu : Upd [] w w2 := hu1.trans hu2 (by simp)
        have hm2 := hm.upd hu (by simp)
        have m0 := hm2.cell 0
        have m1 := hm2.cell 1
        simp at m0 m1
        have H3 := hid (ReadUint16_ok (k := 1) hs2 hm2 (by simp) (by omega) hB)
        go_wp2_with fail
        refine H3.out.mono ?_
        rintro e w3 ⟨rfl, hu3, hs3, hb3⟩
        generalize UInt16.ofNat (x.toNat * 256 + y.toNat) = al at hb3 Hk
        simp at hb3
        have n2 := hb3.cell 2
        simp at n2
        have hu3' : Upd [m] w w3 := (hu.mono (S' := [m]) (by simp)).trans hu3 (by simp)
        have H4 := hid (tlsLP16_any hs3 (k := 2) hb3 (by simp) (by omega) hB)
        go_wp2_with fail
        refine H4.out.mono ?_
        intro e w4 hp
        rcases hL : lp 2 r with _ | ⟨y, rest⟩
        · obtain ⟨rfl, hu4⟩ := hp.no hL
          simp only [verSig, hL] at Hk
          go_wp2
          go_ret
          rw [Hk.out]
          exact ⟨rfl, hu3'.trans hu4 (by simp), _, al, ⟨_, _, _, rfl⟩, hb3.upd hu4 (by simp; omega), fun x' h => (by cases h)⟩
        · obtain ⟨u, rfl, hu4, hs4, hb4, hy4, ⟨a, n, cc, rfl⟩⟩ := hp.yes hL
          simp only [verSig, hL] at Hk
          obtain ⟨A3, c3, c0, -, hy, -⟩ := hs4.open_
          have H5 := hid (Empty_any hy)
          simp at hb4
          have hu' : Upd [m] w w4 := hu3'.trans hu4 (by simp)
          go_wp2_with fail
          refine H5.out.mono ?_
          rintro e w5 ⟨rfl, rfl⟩
          go_wp2
          go_ret
          rw [Hk.out]
          rcases rest with _ | ⟨z, t⟩
          · exact ⟨rfl, hu', _, al, ⟨_, _, _, rfl⟩, hb4, fun x' h => (by cases h; exact ⟨rfl, Row.shrink hy4⟩)⟩
          · exact ⟨rfl, hu', _, al, ⟨_, _, _, rfl⟩, hb4, fun x' h => (by cases h)⟩

/-- what the package's readers of a CertificateVerify hand back -/
def UnV (w : World) (o : Option (UInt16 × List UInt8)) (e : Ending) (w' : World) : Prop :=
  ∃ u a, isSlice u ∧ e = .returned (.tuple #[wv a, u, .bool o.isSome]) ∧ Upd [] w w' ∧ ∀ x, o = some x → x.1 = a ∧ Byt w' w'.heap.size u x.2

theorem tls_UnmarshalVerify (has : Bool) (hv : Byt w B v data) : Calls Try.prog 64 #[.bool has, v] w (UnV w (readVerify has data)) := by
  obtain ⟨A, c, rfl, hv, hl, hc⟩ := Byt.form hv rfl
  have hm0 := Blk.new w 116 #[.bool has, .int .u16 0, .slice none 0 0]
  have H1 := hid (unmarshal_Verify has hm0 (Row.alloc (Row.shrink hv) _) (Nat.le_refl _))
  generalize readVerify has data = o at H1 ⊢
  have hu0 : Upd [] w _ := (Upd.refl [] w).alloc (.cells #[.bool has, .int .u16 0, .slice none 0 0] 116)
  go_enter Try.func64, Try.ntmps64
  go_wp2_with fail
  refine (H1.out).mono ?_
  rintro e w1 ⟨rfl, hu, u, a, ⟨A1, n1, c1, rfl⟩, hb, hx⟩
  have hu' := hu0.trans hu (by simp)
  have c0 := hb.cell 1
  have c2 := hb.cell 2
  simp at c0 c2
  rcases o with _ | ⟨x, y⟩
  · go_wp2
    go_ret3
    exact ⟨.slice none 0 0, 0, ⟨_, _, _, rfl⟩, rfl, hu', fun x h => (by cases h)⟩
  · go_wp2_with fail
    go_quiet (fail)
    go_wp2
    go_ret3
    exact ⟨_, a, ⟨A1, n1, c1, rfl⟩, rfl, hu'.drewN _, fun z hz => ⟨(hx z hz).1, Row.drewN (hx z hz).2 _⟩⟩
theorem impl_UnmarshalVerify (has : Bool) (hv : Byt w B v data) : Calls Try.prog 35 #[.bool has, v] w (UnV w (readVerify has data)) := by
  obtain ⟨A, c, rfl, hv, hl, hc⟩ := Byt.form hv rfl
  have H1 := hid (tls_UnmarshalVerify has hv)
  go_enter Try.func35, Try.ntmps35
  go_wp2_with fail
  refine (H1.out).mono ?_
  rintro e w1 ⟨u, a, ⟨A1, n1, c1, rfl⟩, rfl, hu, hx⟩
  go_wp2
  go_ret3
  exact ⟨_, a, ⟨A1, n1, c1, rfl⟩, rfl, hu, hx⟩
end
end Go.Proofs.Ytnghnifihnjfeaa

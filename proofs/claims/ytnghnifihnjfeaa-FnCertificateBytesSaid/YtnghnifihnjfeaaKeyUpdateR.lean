/- The KeyUpdate message: read by the package, and by the reference. -/
import Derived.Test.YtnghnifihnjfeaaAlive
namespace Go.Proofs.Ytnghnifihnjfeaa
open Go.RowKit
set_option maxRecDepth 100000

section
variable {w w0 w' : World} {v v2 content : Value} {xs bs data : List UInt8} {st : Option (List UInt8)} {S : List Nat} {e : Ending} {m B : Nat}

/-- the world in which a String variable has been made of some bytes -/
def SvW (w : World) (v : Value) : World := w.alloc (.cells #[v] 128)
theorem SvW_eq (w : World) (v : Value) : w.alloc (.cells #[v] 128) = SvW w v := rfl
theorem SvW_size (w : World) (v : Value) : (SvW w v).heap.size = w.heap.size + 1 := by simp [SvW]
theorem SvW_upd (w : World) (v : Value) : Upd [] w (SvW w v) := (Upd.refl _ _).alloc _
theorem SvW_sv (h : Byt w B v bs) : Sv (SvW w v) w.heap.size w.heap.size bs False :=
  ⟨Nat.le_refl _, v, Blk.new _ _ _, (Row.shrink h).alloc _, fun x => x.elim⟩

/-- what a KeyUpdate's bytes say -/
def kuRead (data : List UInt8) : Option Bool := if data.length < 4 then none else match data.drop 4 with
  | [x] => if x = 0 then some false else if x = 1 then some true else none
  | _ => none

def KuP (w : World) (m : Nat) (o : Option Bool) (e : Ending) (w' : World) : Prop :=
  e = .returned (.bool o.isSome) ∧ Upd [m] w w' ∧ Blk w' m 107 #[.bool (o.getD false)]

theorem unmarshal_keyUpdate (hm : Blk w m 107 #[.bool false]) (hv : Byt w B v data) :
    Calls Try.prog 83 #[.pointer (some ⟨m, 0, none⟩), v] w (KuP w m (kuRead data)) := by
  obtain ⟨A, c, rfl, hv, hl, hc⟩ := Byt.form hv rfl
  obtain ⟨w1, hw1⟩ : ∃ w1, w1 = (SvW w (.slice A data.length c)).alloc (.cells #[.int .u8 0] 5) := ⟨_, rfl⟩
  have hs1 : Sv w1 w.heap.size w.heap.size data False := by
    rw [hw1]
    exact (SvW_sv hv).upd ((Upd.refl [] _).alloc _) (by simp) (by simp)
  have hu1 : Upd [] w w1 := by rw [hw1]; exact (SvW_upd w _).alloc _
  have ho1 : Blk w1 (w.heap.size + 1) 5 #[.int .u8 0] := by rw [hw1, ← SvW_size w (.slice A data.length c)]; exact Blk.new _ _ _
  have hm1 := hm.upd hu1 (by simp)
  have hml := hm.lt
  have HW := hid hw1
  clear hw1
  have hend : ∀ w2 : World, Upd [w.heap.size, w.heap.size + 1] w1 w2 → kuRead data = none → KuP w m (kuRead data) (.returned (.bool false)) w2 := by
    intro w2 hu2 hk
    rw [hk]
    have hu : Upd [] w w2 := hu1.trans hu2 (by simp)
    exact ⟨rfl, hu.mono (by simp), hm.upd hu (by simp)⟩
  by_cases h4 : data.length < 4
  · have hk : kuRead data = none := by simp [kuRead, h4]
    have H := hid (Skip_bad hs1 4 h4)
    have HE := hid (fun w2 (h : Upd _ _ w2) => hend w2 h hk)
    clear h4 hend hk
    go_enter Try.func83, Try.ntmps83
    go_wp2_with fail
    rw [SvW_eq, ← HW.out]
    refine H.out.mono ?_
    rintro e w2 ⟨rfl, hu2⟩
    go_wp2
    go_ret
    exact HE.out _ (hu2.mono (by simp))
  · have H := hid (Skip_ok hs1 4 (by omega) (by omega))
    have Hk := hid (show kuRead data = (match data.drop 4 with
      | [x] => if x = 0 then some false else if x = 1 then some true else none
      | _ => none) by simp only [kuRead, if_neg h4])
    generalize hd : data.drop 4 = d at H Hk
    have Hd := hid hd
    clear hd h4
    rcases d with _ | ⟨x, rest⟩
    · have HE := hid (fun w2 (h : Upd _ _ w2) => hend w2 h Hk.out)
      clear hend
      go_enter Try.func83, Try.ntmps83
      go_wp2_with fail
      rw [SvW_eq, ← HW.out]
      refine H.out.mono ?_
      rintro e w2 ⟨rfl, hu2, hs2⟩
      have H2 := hid (ReadUint8_bad (ob := w.heap.size + 1) (k := 0) hs2)
      go_wp2_with fail
      refine H2.out.mono ?_
      rintro e w3 ⟨rfl, hu3⟩
      go_wp2
      go_ret
      exact HE.out _ ((hu2.mono (by simp)).trans (hu3.mono (S' := [w.heap.size, w.heap.size + 1]) (by simp)) (by simp))
    · have hgo : ∀ (w4 : World) (y : Bool), Upd [w.heap.size, w.heap.size + 1] w1 w4 → kuRead data = some y → KuP w m (kuRead data) (.returned (.bool true)) (w4.setCell ⟨m, 0, none⟩ (.bool y)) := by
        intro w4 y hu4 hk
        rw [hk]
        have hu : Upd [] w w4 := hu1.trans hu4 (by simp)
        refine ⟨rfl, (hu.mono (by simp)).setCell (by simp) _, ?_⟩
        have := (hm.upd hu (by simp)).set_ 0 (.bool y)
        simpa using this
      have HG := hid hgo
      have HE := hid hend
      clear hend hgo
      by_cases hr : rest = []
      · subst hr
        have key : x = 0 ∨ x = 1 ∨ (x ≠ 0 ∧ x ≠ 1) := by
          by_cases h0 : x = 0
          · exact .inl h0
          · by_cases h1 : x = 1
            · exact .inr (.inl h1)
            · exact .inr (.inr ⟨h0, h1⟩)
        rcases key with rfl | rfl | ⟨k0, k1⟩
        · go_enter Try.func83, Try.ntmps83
          go_wp2_with fail
          rw [SvW_eq, ← HW.out]
          refine H.out.mono ?_
          rintro e w2 ⟨rfl, hu2, hs2⟩
          have H2 := hid (ReadUint8_ok (k := 0) hs2 (ho1.upd hu2 (by simp)) (by simp) (by simp) (by omega))
          go_wp2_with fail
          refine H2.out.mono ?_
          rintro e w3 ⟨rfl, hu3, hs3, hb3⟩
          obtain ⟨A3, c3, c0, -, hy, -⟩ := hs3.open_
          have H3 := hid (Empty_any hy)
          go_wp2_with fail
          refine H3.out.mono ?_
          rintro e w4 ⟨rfl, rfl⟩
          have d0 := hb3.cell 0
          have hu := (hu2.mono (S' := [w.heap.size, w.heap.size + 1]) (by simp)).trans hu3 (by simp)
          have hm3 := hm1.upd hu (by simp; omega)
          have m0 := hm3.cell 0
          have f0 := hm3.frozen 0
          simp [bv] at d0 m0
          go_wp2
          go_ret
          exact HG.out _ false hu Hk.out
        · go_enter Try.func83, Try.ntmps83
          go_wp2_with fail
          rw [SvW_eq, ← HW.out]
          refine H.out.mono ?_
          rintro e w2 ⟨rfl, hu2, hs2⟩
          have H2 := hid (ReadUint8_ok (k := 0) hs2 (ho1.upd hu2 (by simp)) (by simp) (by simp) (by omega))
          go_wp2_with fail
          refine H2.out.mono ?_
          rintro e w3 ⟨rfl, hu3, hs3, hb3⟩
          obtain ⟨A3, c3, c0, -, hy, -⟩ := hs3.open_
          have H3 := hid (Empty_any hy)
          go_wp2_with fail
          refine H3.out.mono ?_
          rintro e w4 ⟨rfl, rfl⟩
          have d0 := hb3.cell 0
          have hu := (hu2.mono (S' := [w.heap.size, w.heap.size + 1]) (by simp)).trans hu3 (by simp)
          have hm3 := hm1.upd hu (by simp; omega)
          have m0 := hm3.cell 0
          have f0 := hm3.frozen 0
          simp [bv] at d0 m0
          go_wp2
          go_ret
          exact HG.out _ true hu Hk.out
        · have Hk2 := hid (show kuRead data = none by rw [Hk.out]; simp [k0, k1])
          have n0 : ((x.toNat : Int) == 0) = false := by
            rw [beq_eq_false_iff_ne]; intro h; exact k0 (UInt8.toNat_inj.1 (by simpa using h))
          have n1 : ((x.toNat : Int) == 1) = false := by
            rw [beq_eq_false_iff_ne]; intro h; exact k1 (UInt8.toNat_inj.1 (by simp; omega))
          go_enter Try.func83, Try.ntmps83
          go_wp2_with fail
          rw [SvW_eq, ← HW.out]
          refine H.out.mono ?_
          rintro e w2 ⟨rfl, hu2, hs2⟩
          have H2 := hid (ReadUint8_ok (k := 0) hs2 (ho1.upd hu2 (by simp)) (by simp) (by simp) (by omega))
          go_wp2_with fail
          refine H2.out.mono ?_
          rintro e w3 ⟨rfl, hu3, hs3, hb3⟩
          obtain ⟨A3, c3, c0, -, hy, -⟩ := hs3.open_
          have H3 := hid (Empty_any hy)
          go_wp2_with fail
          refine H3.out.mono ?_
          rintro e w4 ⟨rfl, rfl⟩
          have d0 := hb3.cell 0
          have hu := (hu2.mono (S' := [w.heap.size, w.heap.size + 1]) (by simp)).trans hu3 (by simp)
          have hm3 := hm1.upd hu (by simp; omega)
          have m0 := hm3.cell 0
          have f0 := hm3.frozen 0
          simp [bv] at d0 m0
          go_wp2
          go_ret
          exact HE.out _ hu Hk2.out
      · have Hk2 := hid (show kuRead data = none by
          rw [Hk.out]
          split
          · next h => injection h with _ h; exact absurd h hr
          · rfl)
        have hr' : decide (rest = []) = false := decide_eq_false hr
        go_enter Try.func83, Try.ntmps83
        go_wp2_with fail
        rw [SvW_eq, ← HW.out]
        refine H.out.mono ?_
        rintro e w2 ⟨rfl, hu2, hs2⟩
        have H2 := hid (ReadUint8_ok (k := 0) hs2 (ho1.upd hu2 (by simp)) (by simp) (by simp) (by omega))
        go_wp2_with fail
        refine H2.out.mono ?_
        rintro e w3 ⟨rfl, hu3, hs3, hb3⟩
        obtain ⟨A3, c3, c0, -, hy, -⟩ := hs3.open_
        have H3 := hid (Empty_any hy)
        rw [hr'] at H3
        go_wp2_with fail
        refine H3.out.mono ?_
        rintro e w4 ⟨rfl, rfl⟩
        have hu := (hu2.mono (S' := [w.heap.size, w.heap.size + 1]) (by simp)).trans hu3 (by simp)
        go_wp2
        go_ret
        exact HE.out _ hu Hk2.out

theorem tls_UnmarshalKeyUpdate (hv : Byt w B v data) : Calls Try.prog 56 #[v] w fun e w' => e = .returned (.tuple #[.bool ((kuRead data).getD false), .bool (kuRead data).isSome]) ∧ Upd [] w w' := by
  obtain ⟨A, c, rfl, hv, hl, hc⟩ := Byt.form hv rfl
  have hm0 := Blk.new w 107 #[.bool false]
  have H1 := hid (unmarshal_keyUpdate hm0 (Row.alloc (Row.shrink hv) _))
  have hu0 : Upd [] w _ := (Upd.refl [] w).alloc (.cells #[.bool false] 107)
  go_enter Try.func56, Try.ntmps56
  go_wp2_with fail
  refine (H1.out).mono ?_
  rintro e w1 ⟨rfl, hu, hb⟩
  have c0 := hb.cell 0
  simp at c0
  go_wp2
  go_ret2
  exact ⟨rfl, hu0.trans hu (by simp)⟩
theorem impl_UnmarshalKeyUpdate (hv : Byt w B v data) : Calls Try.prog 25 #[v] w fun e w' => e = .returned (.tuple #[.bool ((kuRead data).getD false), .bool (kuRead data).isSome]) ∧ Upd [] w w' := by
  obtain ⟨A, c, rfl, hv, hl, hc⟩ := Byt.form hv rfl
  have H1 := hid (tls_UnmarshalKeyUpdate hv)
  go_enter Try.func25, Try.ntmps25
  go_wp2_with fail
  refine (H1.out).mono ?_
  rintro e w1 ⟨rfl, hu⟩
  go_wp2
  go_ret2
  exact ⟨rfl, hu⟩
end
end Go.Proofs.Ytnghnifihnjfeaa

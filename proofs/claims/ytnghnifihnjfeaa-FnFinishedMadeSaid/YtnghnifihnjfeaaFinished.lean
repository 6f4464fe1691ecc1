/- The Finished message, and its law. -/
import Derived.Test.YtnghnifihnjfeaaEmit
import Derived.Test.YtnghnifihnjfeaaLift
namespace Go.Proofs.Ytnghnifihnjfeaa
open Go.ChangeShapes Go.WideShapes Go.ChangeAt Go.RowKit
set_option maxRecDepth 100000

section
variable {w w0 w' : World} {base p q off pl : Nat} {v v2 content ic ic2 : Value} {xs bs data : List UInt8} {st out : Option (List UInt8)} {S : List Nat} {m B : Nat} {e : Ending}

theorem enters_Finished : Enters 103 := by intro args w; kernel_rfl
theorem emits_Finished {m k B : Nat} {cs : Array Value} (hm : Blk w m 110 cs) (hci : cs[0]? = some content) (hk : Blk w k 108 #[.pointer (some ⟨m, 0, none⟩)]) (hmS : m ∉ S) (hkS : k ∉ S)
    (hc : Byt w B content xs) (hB : ∀ x ∈ S, B ≤ x) (hBw : B ≤ w.heap.size) (hx : xs.length ≤ 17592186044416) :
    Emits 103 #[.pointer (some ⟨k, 0, none⟩)] S w (some xs) xs.length := by
  intro w1 hu base q v off pl ic bs hb hi hq hv hl
  have hm1 := hm.upd hu hmS
  have hk1 := hk.upd hu hkS
  have d0 := hk1.cell 0
  simp at d0
  have hc1 := Row.upd hc hu hB
  obtain ⟨A, c, rfl, hc1, -⟩ := Byt.form hc1 rfl
  have c0 := (hm1.cell 0).trans hci
  have H := hid (AddBytes_any (st := some bs) hb (src_of hc1 (by omega) (fun g hg => (hv g hg).elim (hB g) (fun h => Nat.le_trans hBw h))) (by show bs.length ≤ _; omega) hx)
  clear hl hx hBw hq
  go_enter Try.func103, Try.ntmps103
  go_wp2_with fail
  refine H.out.mono ?_
  intro e w2 hp
  have he := hp.1
  subst he
  go_wp2
  go_end0
  exact hp
theorem olen_Finished (hx : xs.length ≤ 2147483647) : olen (some xs) ≤ 4294967296 := by show xs.length ≤ _; omega
theorem marshal_Finished {m B : Nat}  (hm : Blk w m 110 #[content]) (hc : Byt w B content xs) (hx : xs.length ≤ 2147483647) :
    Calls Try.prog 85 #[.pointer (some ⟨m, 0, none⟩)] w (BytesP w (app (some [UInt8.ofNat 20]) (lpOut 3 (some xs)))) := by
  obtain ⟨A, c, rfl, hc, -⟩ := Byt.form hc rfl
  have hc := Row.shrink hc
  obtain ⟨w0, hw0⟩ : ∃ w0, w.alloc (.cells #[.pointer (some ⟨m, 0, none⟩)] 108) = w0 := ⟨_, rfl⟩
  have hk0 : Blk w0 w.heap.size 108 #[.pointer (some ⟨m, 0, none⟩)] := by rw [← hw0]; exact Blk.new _ _ _
  have hm0 : Blk w0 m 110 #[.slice A xs.length c] := by rw [← hw0]; exact hm.alloc _
  have hu0 : Upd [] w w0 := by rw [← hw0]; exact (Upd.refl _ _).alloc _
  have hs0 : w0.heap.size = w.heap.size + 1 := by rw [← hw0]; simp
  have hc0 := Row.upd hc hu0 (by simp)
  have hE := emits_Finished (S := []) hm0 rfl hk0 (by simp) (by simp) hc0 (by simp) (by omega) (by omega)
  have hmf : ∀ (fn : Fn) (first cap : Array Value) (w : World), (Instr.makeFunc fn first cap).run Try.prog w = .ok (.func fn first cap) w := fun _ _ _ _ => rfl
  have h1 := AddUint8_top (TopS.new w0) (by show 0 ≤ _; omega) 20 (by omega)
  rw [hs0, ← hw0] at h1
  have H1 := hid h1
  have HW := hid hw0
  have Hs := hid hs0
  have hlo : olen (some xs) ≤ 4294967296 := olen_Finished hx
  have hll : olen (lpOut 3 (some xs)) ≤ 4294967300 := Nat.le_trans (olen_lp 3 (by omega) _) (by omega)
  have HX := hid hx
  have HL := hid hlo
  have HLL := hid hll
  clear h1 hw0 hs0 hlo hll hx
  go_enter Try.func85, Try.ntmps85
  go_wp2_with fail
  refine H1.out.mono ?_
  intro e w2 hp
  rw [HW.out] at hp
  obtain ⟨he, h2⟩ := hp
  subst he
  have H2 := hid (AddLP24_top h2 hE enters_Finished (by have := HX.out; show 1 + (xs.length) + 4 ≤ _; omega) (by have := HL.out; omega))
  go_wp2_with fail
  refine (H2.out).mono ?_
  intro e w3 hp
  obtain ⟨he, h3⟩ := hp
  subst he
  have H3 := hid (Bytes_top h3 (by have := HLL.out; have h := olen_app (app (some []) (some [UInt8.ofNat 20])) (lpOut 3 (some xs)); have h1 : olen (app (some []) (some [UInt8.ofNat 20])) = 1 := rfl; omega))
  go_wp2_with fail
  refine (H3.out).mono ?_
  intro e w4 hp
  obtain ⟨A1, n1, c1, x1, rfl⟩ := hp.pair
  go_wp2
  go_ret2
  exact hp.up hu0
theorem tls_MarshalFinished {B : Nat}  (hc : Byt w B content xs) (hx : xs.length ≤ 2147483647) :
    Calls Try.prog 59 #[content] w (BytesP w (app (some [UInt8.ofNat 20]) (lpOut 3 (some xs)))) := by
  obtain ⟨A, c, rfl, hc, -⟩ := Byt.form hc rfl
  have hm0 := Blk.new w 110 #[.slice A xs.length c]
  have H1 := hid (marshal_Finished hm0 (Row.alloc hc _) hx)
  have hu0 : Upd [] w _ := (Upd.refl [] w).alloc (.cells #[.slice A xs.length c] 110)
  clear hx
  go_enter Try.func59, Try.ntmps59
  go_wp2_with fail
  refine (H1.out).mono ?_
  intro e w1 hp
  obtain ⟨A1, n1, c1, x1, rfl⟩ := hp.pair
  go_wp2
  go_ret2
  exact hp.up hu0
theorem impl_MarshalFinished {B : Nat}  (hc : Byt w B content xs) (hx : xs.length ≤ 2147483647) :
    Calls Try.prog 28 #[content] w (MadeP w (app (some [UInt8.ofNat 20]) (lpOut 3 (some xs)))) := by
  obtain ⟨A, c, rfl, hc, -⟩ := Byt.form hc rfl
  have H1 := hid (tls_MarshalFinished (w := w)  hc hx)
  clear hx
  go_enter Try.func28, Try.ntmps28
  go_wp2_with fail
  refine (H1.out).mono ?_
  intro e w1 hp
  have q1 := eql_err_nil
  have q2 := eql_err_some
  obtain ⟨A, n, c, ⟨rfl, hr⟩ | ⟨t, x, rfl, hr⟩⟩ := hp.two
  all_goals
    have HR := hid hr
    clear hr
    go_wp2_with fail
    go_quiet (fail)
    go_wp2
    go_ret2
    exact HR.out _

/-- what a Finished's bytes hold -/
def readFinished (data : List UInt8) : Option (List UInt8) := if data.length < 1 then none else match lp 3 (data.drop 1) with
  | some (x, []) => some x
  | _ => none

theorem unmarshal_Finished (hm : Blk w m 110 #[.slice none 0 0]) (hv : Byt w B v data) (hB : B ≤ m) :
    Calls Try.prog 86 #[.pointer (some ⟨m, 0, none⟩), v] w (UnmP w m 110 (readFinished data)) := by
  obtain ⟨A, c, rfl, hv, hl, hc⟩ := Byt.form hv rfl
  have hml := hm.lt
  obtain ⟨w1, hw1⟩ : ∃ w1, w1 = SvW w (.slice A data.length c) := ⟨_, rfl⟩
  have hs1 : Sv w1 B w.heap.size data False := by rw [hw1]; exact sv_start hv (by omega)
  have hu1 : Upd [] w w1 := by rw [hw1]; exact SvW_upd w _
  have hm1 := hm.upd hu1 (by simp)
  have HW := hid hw1
  clear hw1
  by_cases h1 : data.length < 1
  · have Hk := hid (show readFinished data = none by simp [readFinished, h1])
    have H := hid (Skip_bad hs1 1 h1)
    clear h1
    go_enter Try.func86, Try.ntmps86
    go_wp2_with fail
    rw [SvW_eq, ← HW.out]
    refine H.out.mono ?_
    rintro e w2 ⟨rfl, hu2⟩
    have hu : Upd [] w w2 := hu1.trans hu2 (by simp)
    have hm2 := hm.upd hu (by simp)
    go_wp2
    go_ret
    rw [Hk.out]
    exact ⟨rfl, hu.mono (by simp), _, ⟨_, _, _, rfl⟩, hm2, fun x h => by cases h⟩
  · have H := hid (Skip_ok hs1 1 (by omega) (by omega))
    have Hk := hid (show readFinished data = (match lp 3 (data.drop 1) with
      | some (x, []) => some x
      | _ => none) by simp only [readFinished, if_neg h1])
    clear h1
    go_enter Try.func86, Try.ntmps86
    go_wp2_with fail
    rw [SvW_eq, ← HW.out]
    refine H.out.mono ?_
    rintro e w2 ⟨rfl, hu2, hs2⟩
    have hu : Upd [] w w2 := hu1.trans hu2 (by simp)
    have hm2 := hm.upd hu (by simp)
    have H2 := hid (tlsLP24_any hs2 (k := 0) hm2 (by simp) (by omega) hB)
    have hmc := hm2.cell 0
    simp at hmc
    go_wp2_with fail
    refine H2.out.mono ?_
    intro e w3 hp
    rcases hL : lp 3 (data.drop 1) with _ | ⟨x, rest⟩
    · obtain ⟨rfl, hu3⟩ := hp.no hL
      rw [hL] at Hk
      have hu' : Upd [] w w3 := hu.trans hu3 (by simp)
      have hm3 := hm.upd hu' (by simp)
      go_wp2
      go_ret
      rw [Hk.out]
      exact ⟨rfl, hu'.mono (by simp), _, ⟨_, _, _, rfl⟩, hm3, fun x h => by cases h⟩
    · obtain ⟨u, rfl, hu3, hs3, hb3, hy3, ⟨a, n, cc, rfl⟩⟩ := hp.yes hL
      rw [hL] at Hk
      obtain ⟨A3, c3, c0, -, hy, -⟩ := hs3.open_
      have H3 := hid (Empty_any hy)
      have hu' : Upd [m] w w3 := (hu.mono (by simp)).trans hu3 (by simp)
      simp at hb3
      go_wp2_with fail
      refine H3.out.mono ?_
      rintro e w4 ⟨rfl, rfl⟩
      go_wp2
      go_ret
      rw [Hk.out]
      rcases rest with _ | ⟨y, t⟩
      · exact ⟨rfl, hu', _, ⟨_, _, _, rfl⟩, hb3, fun x' h => by cases h; exact Row.shrink hy3⟩
      · exact ⟨rfl, hu', _, ⟨_, _, _, rfl⟩, hb3, fun x' h => by cases h⟩
theorem tls_UnmarshalFinished (hv : Byt w B v data) : Calls Try.prog 60 #[v] w (UnP w (readFinished data)) := by
  obtain ⟨A, c, rfl, hv, hl, hc⟩ := Byt.form hv rfl
  have hm0 := Blk.new w 110 #[.slice none 0 0]
  have H1 := hid (unmarshal_Finished hm0 (Row.alloc (Row.shrink hv) _) (Nat.le_refl _))
  have hu0 : Upd [] w _ := (Upd.refl [] w).alloc (.cells #[.slice none 0 0] 110)
  go_enter Try.func60, Try.ntmps60
  go_wp2_with fail
  refine (H1.out).mono ?_
  rintro e w1 ⟨rfl, hu, u, ⟨A1, n1, c1, rfl⟩, hb, hx⟩
  have c0 := hb.cell 0
  simp at c0
  go_wp2
  go_ret2
  exact ⟨_, ⟨A1, n1, c1, rfl⟩, rfl, hu0.trans hu (by simp), hx⟩
theorem impl_UnmarshalFinished (hv : Byt w B v data) : Calls Try.prog 29 #[v] w (UnP w (readFinished data)) := by
  obtain ⟨A, c, rfl, hv, hl, hc⟩ := Byt.form hv rfl
  have H1 := hid (tls_UnmarshalFinished hv)
  go_enter Try.func29, Try.ntmps29
  go_wp2_with fail
  refine (H1.out).mono ?_
  rintro e w1 ⟨u, ⟨A1, n1, c1, rfl⟩, rfl, hu, hx⟩
  go_wp2
  go_ret2
  exact ⟨_, ⟨A1, n1, c1, rfl⟩, rfl, hu, hx⟩
end
end Go.Proofs.Ytnghnifihnjfeaa

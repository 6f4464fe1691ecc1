/- The NewSessionTicket message up to TLS 1.2, made by the package. -/
import Derived.Test.YtnghnifihnjfeaaTicketU
import Derived.Test.YtnghnifihnjfeaaAlive
import Derived.Test.YtnghnifihnjfeaaBody2
import Derived.Test.YtnghnifihnjfeaaAppend
import Derived.Laws.CopyOwn
namespace Go.Proofs.Ytnghnifihnjfeaa
open Go.ChangeShapes Go.WideShapes Go.ChangeAt Go.RowKit
set_option maxRecDepth 100000

section
variable {w w' : World} {B m : Nat} {v content : Value} {xs data : List UInt8} {e : Ending}

/-- the package's bytes of a ticket -/
def tickO (xs : List UInt8) : List UInt8 := 4 :: be 3 (xs.length + 6) ++ [0, 0, 0, 0] ++ be 2 xs.length ++ xs

theorem tick_cells (xs : List UInt8) (hx : xs.length ≤ 65535) : splice (((((((madeCells #[.int .u8 0] (xs.length + 10)).setIfInBounds 0 (.int .u8 4)).setIfInBounds 1 (.int .u8 ((6 + (xs.length : Int)) / 65536))).setIfInBounds 2 (.int .u8 ((6 + (xs.length : Int)) / 256 % 256))).setIfInBounds 3 (.int .u8 ((6 + (xs.length : Int)) % 256))).setIfInBounds 8 (.int .u8 ((xs.length : Int) / 256))).setIfInBounds 9 (.int .u8 ((xs.length : Int) % 256))).toList 10 (xs.map bv) = (tickO xs).map bv := by
  have hr : List.replicate (xs.length + 10) (Value.int .u8 0) = [.int .u8 0, .int .u8 0, .int .u8 0, .int .u8 0, .int .u8 0, .int .u8 0, .int .u8 0, .int .u8 0, .int .u8 0, .int .u8 0] ++ List.replicate xs.length (.int .u8 0) := by
    rw [Nat.add_comm]; simp [List.replicate_succ, Nat.add_comm]
  simp only [Array.toList_setIfInBounds, toList_madeCells_one, hr]
  unfold splice tickO
  have hd : ∀ l : List Value, l.length = 10 → (l ++ List.replicate xs.length (Value.int .u8 0)).drop (10 + (xs.map bv).length) = [] := by
    intro l hl
    exact List.drop_eq_nil_of_le (by simp [hl])
  have e1 : bv (UInt8.ofNat ((xs.length + 6) / 65536)) = .int .u8 ((6 + (xs.length : Int)) / 65536) := bv_of (by omega)
  have e2 : bv (UInt8.ofNat ((xs.length + 6) / 256)) = .int .u8 ((6 + (xs.length : Int)) / 256 % 256) := bv_of (by omega)
  have e3 : bv (UInt8.ofNat (xs.length + 6)) = .int .u8 ((6 + (xs.length : Int)) % 256) := bv_of (by omega)
  have e4 : bv (UInt8.ofNat (xs.length / 256)) = .int .u8 ((xs.length : Int) / 256) := bv_of (by omega)
  have e5 : bv (UInt8.ofNat xs.length) = .int .u8 ((xs.length : Int) % 256) := bv_of (by omega)
  simp [be, ← e1, ← e2, ← e3, ← e4, ← e5]
  omega
theorem makeN (n : Nat) (hn : n ≤ 4294967296) (u : World) {z : Int} (hz : z = (n : Int)) : (Instr.makeSlice 22 (.int .i64 z) (.int .i64 z)).run Try.prog u =
    .ok (.slice (some ⟨u.heap.size, 0, none⟩) n n) (u.alloc (.cells (madeCells #[.int .u8 0] n) 5)) := by
  subst hz
  obtain ⟨i0, hi, hz0, hz1, hz2⟩ := info_parts info_u8
  have h := run_make (P := Try.prog) u 22 5 i0 (.int .u8 0) Try.underlying22 hi hz0 .i64 .i64 (n : Int) (n : Int) (by omega) (Int.le_refl _) (by rw [hz2]; omega) (by omega)
  rw [Int.toNat_natCast] at h
  simpa [hz1, Value.cells] using h

set_option maxHeartbeats 2000000 in
theorem marshal_Ticket (hm : Blk w m 95 #[content]) (hc : Byt w B content xs) (hx : xs.length ≤ 65535) :
    Calls Try.prog 75 #[.pointer (some ⟨m, 0, none⟩)] w (BytesP w (some (tickO xs))) := by
  obtain ⟨A, c, rfl, hc, hl, hcc⟩ := Byt.form hc rfl
  have m0 := hm.cell 0
  simp at m0
  have hml := hm.lt
  have hmk : ∀ u : World, (Instr.makeSlice 22 (.int .i64 (4 + (6 + (xs.length : Int)))) (.int .i64 (4 + (6 + (xs.length : Int))))).run Try.prog u =
      .ok (.slice (some ⟨u.heap.size, 0, none⟩) (xs.length + 10) (xs.length + 10)) (u.alloc (.cells (madeCells #[.int .u8 0] (xs.length + 10)) 5)) := fun u => makeN _ (by omega) u (by omega)
  have HK := hid hmk
  have HX := hid hx
  clear hmk
  go_enter Try.func75, Try.ntmps75
  go_wp2_with fail
  rw [HK.out w]
  obtain ⟨w1, hw1⟩ : ∃ w1, w.alloc (.cells (madeCells #[.int .u8 0] (xs.length + 10)) 5) = w1 := ⟨_, rfl⟩
  rw [hw1]
  have hb1 : Blk w1 w.heap.size 5 (madeCells #[.int .u8 0] (xs.length + 10)) := by rw [← hw1]; exact Blk.new _ _ _
  have hu1 : Upd [] w w1 := by rw [← hw1]; exact (Upd.refl _ _).alloc _
  obtain ⟨cs, hcs⟩ : ∃ cs, madeCells #[.int .u8 0] (xs.length + 10) = cs := ⟨_, rfl⟩
  have hcl : ∀ i, i < xs.length + 10 → cs[i]? = some (.int .u8 0) := by
    intro i hi
    rw [← hcs, ← Array.getElem?_toList, toList_madeCells_one, List.getElem?_replicate, if_pos hi]
  rw [hcs] at hb1
  have k0 := (hb1.cell 0).trans (hcl 0 (by omega))
  have k1 := (hb1.cell 1).trans (hcl 1 (by omega))
  have k2 := (hb1.cell 2).trans (hcl 2 (by omega))
  have k3 := (hb1.cell 3).trans (hcl 3 (by omega))
  have k8 := (hb1.cell 8).trans (hcl 8 (by omega))
  have k9 := (hb1.cell 9).trans (hcl 9 (by omega))
  have f0 := hb1.frozen
  have hm1 := hm.upd hu1 (by simp)
  have m1 := hm1.cell 0
  simp at m1
  have HW := hid hw1
  have HC := hid hcs
  have HCL := hid hcl
  clear hw1 hcs hcl
  go_wp2_with fail
  have hb6 := (((((hb1.set_ 0 (.int .u8 4)).set_ 1 (.int .u8 ((6 + (xs.length : Int)) / 65536))).set_ 2 (.int .u8 ((6 + (xs.length : Int)) / 256 % 256))).set_ 3 (.int .u8 ((6 + (xs.length : Int)) % 256))).set_ 8 (.int .u8 ((xs.length : Int) / 256))).set_ 9 (.int .u8 ((xs.length : Int) % 256))
  generalize hw6 : World.setCell _ _ _ = w6
  rw [hw6] at hb6
  have hgg : (w.heap.size : Nat) ∈ ([] : List Nat) ∨ w.heap.size ≤ w.heap.size := .inr (Nat.le_refl _)
  have hu6 : Upd [] w w6 := by
    rw [← hw6]
    exact (((((hu1.setCell hgg _).setCell hgg _).setCell hgg _).setCell hgg _).setCell hgg _).setCell hgg _
  have hm6 := hm.upd hu6 (by simp)
  have m6 := hm6.cell 0
  simp at m6
  have hc6 := Row.upd (Row.shrink hc) hu6 (by simp)
  rw [← HC.out] at hb6
  have htc := tick_cells xs HX.out
  obtain ⟨cur, hcur⟩ : ∃ cur : List Value, cur = (((((((madeCells #[.int .u8 0] (xs.length + 10)).setIfInBounds 0 (.int .u8 4)).setIfInBounds 1 (.int .u8 ((6 + (xs.length : Int)) / 65536))).setIfInBounds 2 (.int .u8 ((6 + (xs.length : Int)) / 256 % 256))).setIfInBounds 3 (.int .u8 ((6 + (xs.length : Int)) % 256))).setIfInBounds 8 (.int .u8 ((xs.length : Int) / 256))).setIfInBounds 9 (.int .u8 ((xs.length : Int) % 256))).toList := ⟨_, rfl⟩
  rw [← hcur] at htc
  have hb6' : Blk w6 w.heap.size 5 cur.toArray := by rw [hcur, Array.toArray_toList]; exact hb6
  have hcl : cur.length = xs.length + 10 := by rw [hcur]; simp [toList_madeCells_one]
  have hsrc : 0 < xs.length → ∃ ad, A = some ad ∧ ∀ j v, (xs.map bv)[j]? = some v → w6.cell? (ad.add j) = some v := by
    intro h0
    obtain ⟨A', c', e, -, -, -, h4⟩ := hc6
    injection e with e1 e2 e3
    obtain ⟨b, o, e4, -, hj⟩ := h4 (by intro h; rw [List.map_eq_nil_iff] at h; rw [h] at h0; simp at h0)
    refine ⟨⟨b, o, none⟩, e1.trans e4, fun j v hv => ?_⟩
    rw [add_lit]
    exact hj j v hv
  have HS := hid hsrc
  have HB := hid hb6'
  have HT := hid htc
  have HL := hid hcl
  have HU := hid hu6
  clear hsrc hb6' htc hcl hu6 hcur hb6 hw6 k0 k1 k2 k3 k8 k9 f0 m1 hm1 hb1 hu1
  obtain ⟨X1, hX1⟩ : ∃ X1, X1 = xs.map bv := ⟨_, rfl⟩
  have hXl : X1.length = xs.length := by rw [hX1]; simp
  have HXX := hid hX1
  have hge : (10 : Int) ≤ (xs.length : Int) + 10 := by omega
  by_cases hnil : xs = []
  all_goals
    go_region_law (first | (refine step_copy_splice rfl (.tmp 43) (.tmp 47) 22 22 rfl 5 Try.underlying22 (by kernel_rfl) _ _ _ _ _ _ rfl rfl w.heap.size 10 cur 5 HB.out X1 (by rw [hXl]; first | (simp; done) | (simp; omega)) (by intro h0; rw [hXl] at h0; refine ⟨by first | rfl | (exfalso; rw [hnil] at h0; simp at h0) | simp, ?_⟩; rw [HXX.out]; exact HS.out h0) (by rw [hXl, HL.out]; omega) (by rw [HXX.out]; intro u hu; simp at hu; obtain ⟨a, -, rfl⟩ := hu; rfl) w.heap.size w (by first | exact (HU.out.drew).below (Nat.le_refl _) (by simp) | exact (HU.out.drewN _).below (Nat.le_refl _) (by simp)) (Nat.le_refl _) ?_; intro w7 hg7 hb7))
  all_goals
    go_wp2
    go_ret2
    have hg := hg7.out
    rw [HXX.out, HT.out] at hg
    have hbl : Blk w7 w.heap.size 5 ((tickO xs).map bv).toArray := hg
    have htl : (tickO xs).length = xs.length + 10 := by simp [tickO, be_len]; omega
    refine ⟨⟨hb7.os, hb7.tape, hb7.output, hb7.size, fun k hk _ => hb7.block k hk⟩, _, rfl, ⟨some ⟨w.heap.size, 0, none⟩, xs.length + 10, by first | (rw [List.length_map, htl]; rfl) | (rw [List.length_map, htl, hnil]; rfl), by rw [List.length_map, htl]; omega, by have := HX.out; unfold maxLen; omega, fun e => (by cases e), fun _ => ⟨w.heap.size, 0, rfl, hbl.lt, fun j u hu => ?_⟩⟩, fun k hk => by simp [Value.ownBlock] at hk; omega, ⟨_, _, _, rfl⟩⟩
    rw [hbl.cell, Nat.zero_add]
    simpa using hu

theorem tls_MarshalTicket (hc : Byt w B content xs) (hx : xs.length ≤ 65535) :
    Calls Try.prog 50 #[content] w (BytesP w (some (tickO xs))) := by
  obtain ⟨A, c, rfl, hc, -⟩ := Byt.form hc rfl
  have hm0 := Blk.new w 95 #[.slice A xs.length c]
  have H1 := hid (marshal_Ticket hm0 (Row.alloc hc _) hx)
  have hu0 : Upd [] w _ := (Upd.refl [] w).alloc (.cells #[.slice A xs.length c] 95)
  clear hx
  go_enter Try.func50, Try.ntmps50
  go_wp2_with fail
  refine (H1.out).mono ?_
  intro e w1 hp
  obtain ⟨A1, n1, c1, x1, rfl⟩ := hp.pair
  go_wp2
  go_ret2
  exact hp.up hu0
theorem impl_MarshalTicket (hc : Byt w B content xs) (hx : xs.length ≤ 65535) :
    Calls Try.prog 19 #[content] w (MadeP w (some (tickO xs))) := by
  obtain ⟨A, c, rfl, hc, -⟩ := Byt.form hc rfl
  have H1 := hid (tls_MarshalTicket (w := w) hc hx)
  clear hx
  go_enter Try.func19, Try.ntmps19
  go_wp2_with fail
  refine (H1.out).mono ?_
  intro e w1 hp
  have q1 := eql_err_nil
  have q2 := eql_err_some
  obtain ⟨A, n, c, ⟨rfl, hr⟩ | ⟨t, x, rfl, hr⟩⟩ := hp.two
  all_goals
    have HR := hid hr
    clear hr
    go_wp2_with fail
    go_quiet (fail)
    go_wp2
    go_ret2
    exact HR.out _

theorem tick_back (xs : List UInt8) (hx : xs.length ≤ 65535) : (tickV (tickO xs)).2.fin.code = 0 ∧ (tickV (tickO xs)).1 = xs ∧ readTicket (tickO xs) = some xs := by
  have hl : (tickO xs).length = xs.length + 10 := by simp [tickO, be_len]; omega
  have hb : bodyR 4 (tickO xs) = ⟨(tickO xs).drop 4, 0⟩ := by
    refine bodyR_of (by omega) rfl ?_
    have : ((tickO xs).drop 1).take 3 = be 3 (xs.length + 6) := by simp [tickO, be]
    rw [this, beNat_be3 _ (by omega)]
    omega
  have hd8 : (tickO xs).drop 8 = be 2 xs.length ++ xs ++ [] := by simp [tickO, be]
  have hL : lp 2 ((tickO xs).drop 8) = some (xs, []) := by rw [hd8]; exact lp_be 2 xs [] (beNat_be2 _ (by omega))
  have e : ((R.mk ((tickO xs).drop 4) 0).num 4).2 = ⟨(tickO xs).drop 8, 0⟩ := by rw [R.num_ok (by simp; omega)]; simp
  have hv : tickV (tickO xs) = (xs, ⟨[], 0⟩) := by
    unfold tickV
    rw [hb, e, R.vec_some hL, R.rng_in (Nat.zero_le _) hx]
  rw [hv]
  refine ⟨rfl, rfl, ?_⟩
  have h3 : ((tickO xs).drop 1).take 3 = be 3 (xs.length + 6) := by simp [tickO, be]
  have h2 : ((tickO xs).drop 8).take 2 = be 2 xs.length := by simp [tickO, be]
  have h10 : (tickO xs).drop 10 = xs := by simp [tickO, be]
  unfold readTicket
  rw [if_neg (by omega), h3, beNat_be3 _ (by omega), if_pos (by omega), h2, beNat_be2 _ (by omega), if_pos (by omega), h10]

theorem law_TicketMade {B : Nat} (hc : Byt w B content xs) : Calls Try.prog 4 #[content] w (LawP w) := by
  obtain ⟨A, c, rfl, hc, hl, hcc⟩ := Byt.form hc rfl
  by_cases hbig : 2147483647 < xs.length
  · have hb : decide ((2147483647 : Int) < (xs.length : Int)) = true := decide_eq_true (by omega)
    clear hbig
    go_enter Try.func4, Try.ntmps4
    go_wp2
    go_ret
    exact ⟨rfl, Upd.refl _ _⟩
  have hb : decide ((2147483647 : Int) < (xs.length : Int)) = false := decide_eq_false (by omega)
  by_cases hx : 65535 < xs.length
  · have hb2 : decide ((65535 : Int) < (xs.length : Int)) = true := decide_eq_true (by omega)
    clear hbig hx
    go_enter Try.func4, Try.ntmps4
    go_wp2_with fail
    refine alive_any.mono ?_
    rintro e w1 ⟨rfl, hu⟩
    go_wp2
    go_ret
    exact ⟨rfl, hu⟩
  have hb2 : decide ((65535 : Int) < (xs.length : Int)) = false := decide_eq_false (by omega)
  obtain ⟨p1, p2, p3⟩ := tick_back xs (by omega)
  have hol : (tickO xs).length ≤ 2147483647 := by simp [tickO, be_len]; omega
  have HX := hid hol
  have H1 := hid (impl_MarshalTicket (w := w) hc (by omega))
  have HP1 := hid p1
  have HP2 := hid p2
  have HP3 := hid p3
  clear hbig hx p1 p2 p3 hol
  go_enter Try.func4, Try.ntmps4
  go_wp2_with fail
  refine H1.out.mono ?_
  rintro e w1 ⟨hu1, u, rfl, hb1, -, A1, n1, c1, rfl⟩
  have H2 := hid (ReadTicket_any hb1)
  go_wp2_with fail
  refine H2.out.mono ?_
  rintro e w2 ⟨v2, C, ⟨A2, n2, c2, rfl⟩, hC, rfl, hu2, hb2'⟩
  rw [HP1.out] at hC
  subst hC
  rw [HP2.out] at hb2'
  have h3 := impl_UnmarshalTicket (Row.upd hb1 hu2 (by simp)) HX.out
  rw [HP3.out] at h3
  have H3 := hid h3
  clear h3
  go_wp2_with fail
  refine H3.out.mono ?_
  rintro e w3 ⟨u3, ⟨A3, n3, c3, rfl⟩, rfl, hu3, hx3⟩
  have hy3 := hx3 _ rfl
  have hu123 := (hu1.trans hu2 (by simp)).trans hu3 (by simp)
  have h4 := Same_any (Row.upd hb2' hu3 (by simp)) (Row.upd (Row.shrink hc) hu123 (by simp))
  have h5 := Same_any hy3 (Row.upd (Row.shrink hc) hu123 (by simp))
  rw [beq_self_eq_true] at h4 h5
  have H4 := hid h4
  have H5 := hid h5
  clear h4 h5 hx3
  go_wp2_with fail
  refine H4.out.mono ?_
  rintro e w4 ⟨rfl, rfl⟩
  go_wp2_with fail
  refine H5.out.mono ?_
  rintro e w5 ⟨rfl, rfl⟩
  go_wp2
  go_ret
  exact ⟨rfl, hu123⟩
end
set_option maxRecDepth 100000 in
theorem lifted_TicketMade (os : Os) (started : os.Started) (H : Type) (enc : TypeId × Value → H) :
    ReturnsInHanded {} Try.checked os 4 .any (Rows.fnTicketMadeSpec.pre6 enc Try.prog Try.f4 Rows.fnTicketMadeRow.domain false) (Rows.fnTicketMadeSpec.post enc Try.prog Try.f4 false true false false) := by
  refine returnsInHanded_of_change (C := Try.checked) own started (by kernel_rfl) Try.func4
    (ChangeSpec.witness6 (enc := enc) (C := Try.checked) false ⟨#[], #[.slice none 0 0], []⟩ 8 (by kernel_rfl) (by kernel_rfl) (by kernel_rfl) (by kernel_rfl)) ?_
  intro W base args ds gs before hval0 hW hcnd _
  have hval : ∀ (j : Nat) t v, Try.f4.params[j]? = some t → args[j]? = some v → Value.okWide Try.prog W .any base t v := hval0
  have hW' := hW
  obtain ⟨p, q, hA0, hV, rfl, hfz, hnd⟩ := hW
  have hA : DataW.TrodAll enc Try.prog W 0 (fun _ => true) true Try.f4.params.toList args.toList ds p := hA0
  rw [Try.params4] at hA hval
  obtain ⟨v0, vs0, d0, ds0, p0, q0, hargs, rfl, rfl, h0, r0⟩ := trodAll_cons hA
  obtain ⟨rfl, rfl, rfl⟩ := trodAll_nil r0
  obtain rfl : args = #[v0] := by cases args; simp_all
  obtain ⟨ticket, y0⟩ := open_bytes (hval 0 22 _ rfl rfl) h0
  exact (law_TicketMade y0).mono fun e W' h => law_post hW' rfl rfl (by kernel_rfl) (by kernel_rfl) h
theorem TicketMade_holds : Rows.FnTicketMadeSaid :=
  OpenClaim.holds_of_wide 4 Try.f4 rfl rfl rfl rfl rfl rfl rfl ⟨rfl, rfl, rfl, rfl, rfl⟩ rfl rfl rfl rfl rfl (by kernel_rfl) Try.func4 (by kernel_rfl)
    (of_decide_eq_true (by kernel_rfl)) (by unfold Func.isWrapper; first | (rw [if_pos (by decide +kernel)]; kernel_rfl) | (rw [if_neg (by decide +kernel)]; exact ⟨rfl, rfl⟩))
    (fun os started H enc _ => lifted_TicketMade os started H enc)
end Go.Proofs.Ytnghnifihnjfeaa

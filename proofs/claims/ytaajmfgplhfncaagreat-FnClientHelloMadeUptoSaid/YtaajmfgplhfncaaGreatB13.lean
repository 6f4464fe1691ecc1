/- Texts joined: ChL. -/
import Derived.Test.YtaajmfgplhfncaaGreatB12
import Derived.Test.YtaajmfgplhfncaaGreatB06
import Derived.Test.YtaajmfgplhfncaaGreatB05
namespace Go.Proofs.YtaajmfgplhfncaaGreat
open Go.RowKit
set_option maxRecDepth 100000
section
variable {w w' : World} {B : Nat} {v content : Value} {t : Ch} {ls : List (List UInt8)}
set_option maxHeartbeats 1000000 in
theorem zzFits5_any (hc : Row w B content (ls.map strv)) (hl : lstSz ls ≤ 1048576) : Calls Tryz.prog 17 #[content] w (fun e w' => e = .returned (.bool true) ∧ w = w') := by
  obtain ⟨A, c, rfl, hcr, hlc, hm⟩ := Row.formN (n := ls.length) (Row.shrink hc) (by simp)
  have hln : ls.length ≤ 1048576 := Nat.le_trans (lstSz_len _) hl
  have hb : decide ((2147483647 : Int) < (ls.length : Int)) = false := decide_eq_false (by omega)
  have HL := hid hl
  clear hc hl
  go_enter Tryz.func17, Tryz.ntmps17
  go_wp2
  go_loopg [4, 10] ls.length (fun gk _ i wr => ∃ j : Nat, j + gk = ls.length ∧ i = .int .i64 (j : Int) ∧ w = wr)
  case atStart => exact ⟨0, by omega, rfl, rfl⟩
  case round =>
    obtain ⟨j, hj0, rfl, rfl⟩ := hrel
    have HJ := hid hj0
    have hj : j ≤ ls.length := by omega
    clear hj0
    by_cases hlt : j < ls.length
    · obtain ⟨b, o, rfl, hb', hj', hcell⟩ := hcr.at_ hlt
      rw [List.getElem_map] at hcell
      have hxl : (ls[j]).length ≤ 1048576 := by have := lstSz_mem (List.getElem_mem hlt); have := HL.out; omega
      have hx' : decide ((2147483647 : Int) < ((ls[j]).length : Int)) = false := decide_eq_false (by omega)
      go_wp2
      have hj0 := HJ.out
      go_roundg (ls.length - (j + 1))
      case measure => omega
      case rel => exact ⟨j + 1, by omega, by go_num, rfl⟩
    · obtain rfl : j = ls.length := by omega
      go_wp2
      go_ret
      exact ⟨rfl, rfl⟩
set_option maxHeartbeats 4000000 in
theorem zzFits_Ch (hv : ChV w B v t) (hZ : ChSz t) : Calls Tryz.prog 6 #[v] w (FitsP w True) := by
  obtain ⟨cs1, rfl, -⟩ := ChV.ok.agg hv
  obtain ⟨s, hs⟩ : ∃ s, w.heap.size = s := ⟨_, rfl⟩
  obtain ⟨w1, hw1⟩ : ∃ w1, w.alloc (.cells cs1 29) = w1 := ⟨_, rfl⟩
  have hu1 : Upd [] w w1 := by rw [← hw1]; exact (Upd.refl _ _).alloc _
  have hb1 : Blk w1 s 29 cs1 := by rw [← hw1, ← hs]; exact Blk.new _ _ _
  obtain ⟨A1, c1, a1, x1⟩ := GV.byt hv (i := 1) (l := t.random) rfl
  have d1 := hb1.at_ a1
  clear a1
  obtain ⟨A2, c2, a2, x2⟩ := GV.byt hv (i := 2) (l := t.sid) rfl
  have d2 := hb1.at_ a2
  clear a2
  obtain ⟨A3, c3, a3, x3⟩ := GV.row hv (i := 3) (us := t.suites.map wv) rfl (n := t.suites.length) (by simp)
  have d3 := hb1.at_ a3
  clear a3
  obtain ⟨A4, c4, a4, x4⟩ := GV.byt hv (i := 4) (l := t.comps) rfl
  have d4 := hb1.at_ a4
  clear a4
  have d5 := hb1.at_ (GV.val hv (i := 5) (u := strv t.host) rfl)
  obtain ⟨A7, c7, a7, x7⟩ := GV.row hv (i := 7) (us := t.curves.map wv) rfl (n := t.curves.length) (by simp)
  have d7 := hb1.at_ a7
  clear a7
  obtain ⟨A8, c8, a8, x8⟩ := GV.byt hv (i := 8) (l := t.pts) rfl
  have d8 := hb1.at_ a8
  clear a8
  obtain ⟨A10, c10, a10, x10⟩ := GV.byt hv (i := 10) (l := t.tick) rfl
  have d10 := hb1.at_ a10
  clear a10
  obtain ⟨A11, c11, a11, x11⟩ := GV.row hv (i := 11) (us := t.sig.map wv) rfl (n := t.sig.length) (by simp)
  have d11 := hb1.at_ a11
  clear a11
  obtain ⟨A12, c12, a12, x12⟩ := GV.row hv (i := 12) (us := t.sigc.map wv) rfl (n := t.sigc.length) (by simp)
  have d12 := hb1.at_ a12
  clear a12
  obtain ⟨A14, c14, a14, x14⟩ := GV.byt hv (i := 14) (l := t.rn) rfl
  have d14 := hb1.at_ a14
  clear a14
  obtain ⟨A16, c16, a16, x16⟩ := GV.row hv (i := 16) (us := t.alpn.map strv) rfl (n := t.alpn.length) (by simp)
  have d16 := hb1.at_ a16
  clear a16
  obtain ⟨A18, c18, a18, x18⟩ := GV.row hv (i := 18) (us := t.sv.map wv) rfl (n := t.sv.length) (by simp)
  have d18 := hb1.at_ a18
  clear a18
  obtain ⟨A19, c19, a19, x19⟩ := GV.byt hv (i := 19) (l := t.cookie) rfl
  have d19 := hb1.at_ a19
  clear a19
  obtain ⟨A20, c20, a20, x20⟩ := GV.row hv (i := 20) (us := t.kg.map wv) rfl (n := t.kg.length) (by simp)
  have d20 := hb1.at_ a20
  clear a20
  obtain ⟨A21, c21, a21, x21⟩ := GV.lst hv (i := 21) (ls := t.kd) rfl
  have d21 := hb1.at_ a21
  clear a21
  obtain ⟨A23, c23, a23, x23⟩ := GV.byt hv (i := 23) (l := t.modes) rfl
  have d23 := hb1.at_ a23
  clear a23
  obtain ⟨A24, c24, a24, x24⟩ := GV.lst hv (i := 24) (ls := t.pl) rfl
  have d24 := hb1.at_ a24
  clear a24
  obtain ⟨A25, c25, a25, x25⟩ := GV.row hv (i := 25) (us := t.pa.map uv) rfl (n := t.pa.length) (by simp)
  have d25 := hb1.at_ a25
  clear a25
  obtain ⟨A26, c26, a26, x26⟩ := GV.lst hv (i := 26) (ls := t.pb) rfl
  have d26 := hb1.at_ a26
  clear a26
  obtain ⟨A28, c28, a28, x28⟩ := GV.byt hv (i := 28) (l := t.qtp) rfl
  have d28 := hb1.at_ a28
  clear a28
  obtain ⟨A29, c29, a29, x29⟩ := GV.byt hv (i := 29) (l := t.ech) rfl
  have d29 := hb1.at_ a29
  clear a29
  obtain ⟨A30, c30, a30, x30⟩ := GV.row hv (i := 30) (us := t.exs.map wv) rfl (n := t.exs.length) (by simp)
  have d30 := hb1.at_ a30
  clear a30
  have l1 : decide ((2147483647 : Int) < (t.random.length : Int)) = false := decide_eq_false (by have := hZ.random; omega)
  have l2 : decide ((2147483647 : Int) < (t.sid.length : Int)) = false := decide_eq_false (by have := hZ.sid; omega)
  have l3 : decide ((2147483647 : Int) < (t.suites.length : Int)) = false := decide_eq_false (by have := hZ.suites; omega)
  have l4 : decide ((2147483647 : Int) < (t.comps.length : Int)) = false := decide_eq_false (by have := hZ.comps; omega)
  have l5 : decide ((2147483647 : Int) < (t.host.length : Int)) = false := decide_eq_false (by have := hZ.host; omega)
  have l7 : decide ((2147483647 : Int) < (t.curves.length : Int)) = false := decide_eq_false (by have := hZ.curves; omega)
  have l8 : decide ((2147483647 : Int) < (t.pts.length : Int)) = false := decide_eq_false (by have := hZ.pts; omega)
  have l10 : decide ((2147483647 : Int) < (t.tick.length : Int)) = false := decide_eq_false (by have := hZ.tick; omega)
  have l11 : decide ((2147483647 : Int) < (t.sig.length : Int)) = false := decide_eq_false (by have := hZ.sig; omega)
  have l12 : decide ((2147483647 : Int) < (t.sigc.length : Int)) = false := decide_eq_false (by have := hZ.sigc; omega)
  have l14 : decide ((2147483647 : Int) < (t.rn.length : Int)) = false := decide_eq_false (by have := hZ.rn; omega)
  have l18 : decide ((2147483647 : Int) < (t.sv.length : Int)) = false := decide_eq_false (by have := hZ.sv; omega)
  have l19 : decide ((2147483647 : Int) < (t.cookie.length : Int)) = false := decide_eq_false (by have := hZ.cookie; omega)
  have l20 : decide ((2147483647 : Int) < (t.kg.length : Int)) = false := decide_eq_false (by have := hZ.kg; omega)
  have l23 : decide ((2147483647 : Int) < (t.modes.length : Int)) = false := decide_eq_false (by have := hZ.modes; omega)
  have l25 : decide ((2147483647 : Int) < (t.pa.length : Int)) = false := decide_eq_false (by have := hZ.pa; omega)
  have l28 : decide ((2147483647 : Int) < (t.qtp.length : Int)) = false := decide_eq_false (by have := hZ.qtp; omega)
  have l29 : decide ((2147483647 : Int) < (t.ech.length : Int)) = false := decide_eq_false (by have := hZ.ech; omega)
  have l30 : decide ((2147483647 : Int) < (t.exs.length : Int)) = false := decide_eq_false (by have := hZ.exs; omega)
  have H16 := hid (zzFits5_any (x16.shrink.upd hu1 (by simp)) hZ.alpn)
  have H21 := hid (fun (wx : World) (hu : Upd [] w1 wx) => zzFits2_any ((x21.shrink.upd hu1 (by simp)).shrink.upd hu (by simp)))
  have H24 := hid (fun (wx : World) (hu : Upd [] w1 wx) => zzFits2_any ((x24.shrink.upd hu1 (by simp)).shrink.upd hu (by simp)))
  have H26 := hid (fun (wx : World) (hu : Upd [] w1 wx) => zzFits2_any ((x26.shrink.upd hu1 (by simp)).shrink.upd hu (by simp)))
  have HB := hid hb1
  have HW := hid hw1
  have HS := hid hs
  have HU := hid hu1
  have HD := hid (fun (i : Nat) (u : Value) (h : w1.cell? ⟨s, i, none⟩ = some u) (wx : World) (hu : Upd [] w1 wx) => hu.cell h (by simp))
  clear hw1 hs hu1 hb1 hv hZ x1 x2 x3 x4 x7 x8 x10 x11 x12 x14 x16 x18 x19 x20 x21 x23 x24 x25 x26 x28 x29 x30
  go_enter Tryz.func6, Tryz.ntmps6
  go_upto_region 1 with fail
  rw [HW.out, HS.out]
  go_wp2_with fail
  refine H16.out.mono ?_
  rintro e w2 ⟨rfl, rfl⟩
  go_wp2_with fail
  have D23 := hid d23
  have D24 := hid d24
  have D25 := hid d25
  have D26 := hid d26
  have D28 := hid d28
  have D29 := hid d29
  have D30 := hid d30
  clear d1 d2 d3 d4 d5 d7 d8 d10 d11 d12 d14 d16 d18 d19 d20 d21 d23 d24 d25 d26 d28 d29 d30
  refine (H21.out _ (Upd.refl _ _)).mono ?_
  rintro e w3 ⟨b, rfl, hu3, -⟩
  have d23 := HD.out _ _ D23.out _ hu3
  have d24 := HD.out _ _ D24.out _ hu3
  have HU3 := hid hu3
  clear hu3
  cases b
  · go_wp2
    go_ret
    exact ⟨false, rfl, HU.out.trans HU3.out (by simp), fun _ => trivial⟩
  go_wp2_with fail
  refine (H24.out _ HU3.out).mono ?_
  rintro e w4 ⟨b, rfl, hu4, -⟩
  clear d23 d24
  have hu4 := HU3.out.trans hu4 (by simp)
  have d25 := HD.out _ _ D25.out _ hu4
  have d26 := HD.out _ _ D26.out _ hu4
  have HU4 := hid hu4
  clear hu4
  cases b
  · go_wp2
    go_ret
    exact ⟨false, rfl, HU.out.trans HU4.out (by simp), fun _ => trivial⟩
  go_wp2_with fail
  refine (H26.out _ HU4.out).mono ?_
  rintro e w5 ⟨b, rfl, hu5, -⟩
  clear d25 d26
  have hu5 := HU4.out.trans hu5 (by simp)
  have d28 := HD.out _ _ D28.out _ hu5
  have d29 := HD.out _ _ D29.out _ hu5
  have d30 := HD.out _ _ D30.out _ hu5
  have HU5 := hid hu5
  clear hu5
  cases b
  · go_wp2
    go_ret
    exact ⟨false, rfl, HU.out.trans HU5.out (by simp), fun _ => trivial⟩
  go_wp2
  go_ret
  exact ⟨true, rfl, HU.out.trans HU5.out (by simp), fun _ => trivial⟩
def chR1 (t : Ch) : Bool := ((t.random.length : Int) != 32) || (decide ((32 : Int) < (t.sid.length : Int)) || (((t.suites.length : Int) == 0) || ((t.comps.length : Int) == 0)))
def chR2 (t : Ch) : Bool := decide (0 < t.host.length) && (t.host.getLast? == some 46)
def chR3 (t : Ch) : Bool := (!t.ticket && decide (0 < t.tick.length)) || ((!t.rns && decide (0 < t.rn.length)) || (!t.quic && decide (0 < t.qtp.length)))
def chR4 (t : Ch) : Bool := ((t.kg.length : Int) != (t.kd.length : Int)) || (((t.pl.length : Int) != (t.pa.length : Int)) || ((t.pl.length : Int) != (t.pb.length : Int)))
def chR5 (t : Ch) : Bool := (decide (0 < t.ech.length) && decide (0 < t.pl.length)) || sigB t.suites
def chR6 (t : Ch) : Bool := noneB t.kd 0 0 && (noneB t.pl 0 0 && (noneB t.pb 0 31 && noneB t.alpn 0 0))
def chRight (t : Ch) : Bool := !chR1 t && (!chR2 t && (!chR3 t && (!chR4 t && (!chR5 t && chR6 t))))
set_option maxHeartbeats 8000000 in
theorem Right_Ch (hv : ChV w B v t) (hal : lstSz t.alpn ≤ 1048576) (hhost : t.host.length ≤ 1048576) : Calls Tryz.prog 7 #[v] w fun e w' => e = .returned (.bool (chRight t)) ∧ Upd [] w w' := by
  obtain ⟨cs1, rfl, -⟩ := ChV.ok.agg hv
  obtain ⟨s, hs⟩ : ∃ s, w.heap.size = s := ⟨_, rfl⟩
  obtain ⟨w1, hw1⟩ : ∃ w1, w.alloc (.cells cs1 29) = w1 := ⟨_, rfl⟩
  have hu1 : Upd [] w w1 := by rw [← hw1]; exact (Upd.refl _ _).alloc _
  have hb1 : Blk w1 s 29 cs1 := by rw [← hw1, ← hs]; exact Blk.new _ _ _
  obtain ⟨A1, c1, a1, x1⟩ := GV.byt hv (i := 1) (l := t.random) rfl
  have d1 := hb1.at_ a1
  clear a1
  obtain ⟨A2, c2, a2, x2⟩ := GV.byt hv (i := 2) (l := t.sid) rfl
  have d2 := hb1.at_ a2
  clear a2
  obtain ⟨A3, c3, a3, x3⟩ := GV.row hv (i := 3) (us := t.suites.map wv) rfl (n := t.suites.length) (by simp)
  have d3 := hb1.at_ a3
  clear a3
  obtain ⟨A4, c4, a4, x4⟩ := GV.byt hv (i := 4) (l := t.comps) rfl
  have d4 := hb1.at_ a4
  clear a4
  have d5 := hb1.at_ (GV.val hv (i := 5) (u := strv t.host) rfl)
  have d9 := hb1.at_ (GV.val hv (i := 9) (u := .bool t.ticket) rfl)
  obtain ⟨A10, c10, a10, x10⟩ := GV.byt hv (i := 10) (l := t.tick) rfl
  have d10 := hb1.at_ a10
  clear a10
  have d13 := hb1.at_ (GV.val hv (i := 13) (u := .bool t.rns) rfl)
  obtain ⟨A14, c14, a14, x14⟩ := GV.byt hv (i := 14) (l := t.rn) rfl
  have d14 := hb1.at_ a14
  clear a14
  obtain ⟨A16, c16, a16, x16⟩ := GV.row hv (i := 16) (us := t.alpn.map strv) rfl (n := t.alpn.length) (by simp)
  have d16 := hb1.at_ a16
  clear a16
  obtain ⟨A20, c20, a20, x20⟩ := GV.row hv (i := 20) (us := t.kg.map wv) rfl (n := t.kg.length) (by simp)
  have d20 := hb1.at_ a20
  clear a20
  obtain ⟨A21, c21, a21, x21⟩ := GV.lst hv (i := 21) (ls := t.kd) rfl
  have d21 := hb1.at_ a21
  clear a21
  obtain ⟨A24, c24, a24, x24⟩ := GV.lst hv (i := 24) (ls := t.pl) rfl
  have d24 := hb1.at_ a24
  clear a24
  obtain ⟨A25, c25, a25, x25⟩ := GV.row hv (i := 25) (us := t.pa.map uv) rfl (n := t.pa.length) (by simp)
  have d25 := hb1.at_ a25
  clear a25
  obtain ⟨A26, c26, a26, x26⟩ := GV.lst hv (i := 26) (ls := t.pb) rfl
  have d26 := hb1.at_ a26
  clear a26
  have d27 := hb1.at_ (GV.val hv (i := 27) (u := .bool t.quic) rfl)
  obtain ⟨A28, c28, a28, x28⟩ := GV.byt hv (i := 28) (l := t.qtp) rfl
  have d28 := hb1.at_ a28
  clear a28
  obtain ⟨A29, c29, a29, x29⟩ := GV.byt hv (i := 29) (l := t.ech) rfl
  have d29 := hb1.at_ a29
  clear a29
  have HW := hid hw1
  have HS := hid hs
  have HU := hid hu1
  have HX3 := hid (x3.shrink.upd hu1 (by simp))
  have HX21 := hid (x21.shrink.upd hu1 (by simp))
  have HX24 := hid (x24.shrink.upd hu1 (by simp))
  have HX26 := hid (x26.shrink.upd hu1 (by simp))
  have HX16 := hid (x16.shrink.upd hu1 (by simp))
  have HAL := hid hal
  have HHO := hid hhost
  have HD := hid (fun (i : Nat) (u : Value) (h : w1.cell? ⟨s, i, none⟩ = some u) (wx : World) (hu : Upd [] w1 wx) => hu.cell h (by simp))
  clear hw1 hs hu1 hb1 hv hal hhost x1 x2 x3 x4 x10 x14 x16 x20 x21 x24 x25 x26 x28 x29
  go_enter Tryz.func7, Tryz.ntmps7
  go_upto_region 1 with fail
  rw [HW.out, HS.out]
  go_cut [24] from 3 to 24 (fun c wx => c = .bool (chR1 t) ∧ wx = w1)
  case first =>
    rcases bcase (((t.random.length : Int) != 32)) with b1 | b1
    · skip
      have HC := hid (show chR1 t = _ by unfold chR1; rw [b1])
      go_wp2_with fail
      go_meet
      exact ⟨by rw [HC.out]; rfl, rfl⟩
    · skip
      rcases bcase (decide ((32 : Int) < (t.sid.length : Int))) with b2 | b2
      · skip
        have HC := hid (show chR1 t = _ by unfold chR1; rw [b1, b2])
        go_wp2_with fail
        go_meet
        exact ⟨by rw [HC.out]; rfl, rfl⟩
      · skip
        rcases bcase (((t.suites.length : Int) == 0)) with b3 | b3
        · skip
          have HC := hid (show chR1 t = _ by unfold chR1; rw [b1, b2, b3])
          go_wp2_with fail
          go_meet
          exact ⟨by rw [HC.out]; rfl, rfl⟩
        · skip
          rcases bcase (((t.comps.length : Int) == 0)) with b4 | b4
          · skip
            have HC := hid (show chR1 t = _ by unfold chR1; rw [b1, b2, b3, b4])
            go_wp2_with fail
            go_meet
            exact ⟨by rw [HC.out]; rfl, rfl⟩
          · skip
            have HC := hid (show chR1 t = _ by unfold chR1; rw [b1, b2, b3, b4])
            go_wp2_with fail
            go_meet
            exact ⟨by rw [HC.out]; rfl, rfl⟩
  obtain ⟨h1, h2⟩ := hcut
  replace h2 := h2.symm
  subst h1 h2
  go_upto_if 24 with fail
  rcases bcase (chR1 t) with hz | hz
  · rw [hz]
    have HR := hid (show chRight t = false by unfold chRight; rw [hz]; rfl)
    clear hz
    go_wp2
    go_ret
    exact ⟨by rw [HR.out]; rfl, HU.out⟩
  rw [hz]
  have HR1 := hid hz
  clear hz
  go_upto_region 3 with fail
  obtain ⟨hx, hxe⟩ : ∃ hx : UInt8, 0 < t.host.length → t.host.getLast? = some hx ∧ ∀ w, (Instr.index 9 (strv t.host) (.int .i64 ((t.host.length : Int) - 1))).run Tryz.prog w = .ok (.int .u8 (hx.toNat : Int)) w := by
    by_cases h0 : t.host = []
    · exact ⟨0, fun h => by rw [h0] at h; exact absurd h (by simp)⟩
    · refine ⟨t.host.getLast h0, fun hp => ⟨List.getLast?_eq_some_getLast h0, fun w => ?_⟩⟩
      rw [run_index_string w 9 _ _ _ Tryz.underlying9]
      have hsz : (⟨t.host.toArray⟩ : ByteArray).size = t.host.length := by simp [ByteArray.size]
      rw [dif_pos (by rw [hsz]; omega)]
      congr 3
      have hi : ((t.host.length : Int) - 1).toNat = t.host.length - 1 := by omega
      have : (⟨t.host.toArray⟩ : ByteArray)[((t.host.length : Int) - 1).toNat]'(by rw [hsz]; omega) = t.host.getLast h0 := by
        show t.host.toArray[((t.host.length : Int) - 1).toNat]'_ = _
        simp only [hi, List.getElem_toArray]
        rw [List.getLast_eq_getElem]
      rw [this]
  have HXE := hid hxe
  clear hxe
  go_cut [38] from 25 to 38 (fun c wx => c = .bool (chR2 t) ∧ wx = w1)
  case first =>
    rcases bcase (decide (0 < t.host.length)) with b1 | b1
    · obtain ⟨hl, hix⟩ := HXE.out (of_decide_eq_true b1)
      have hho := HHO.out
      have hpos : 0 < t.host.length := of_decide_eq_true b1
      rcases bcase ((hx.toNat : Int) == 46) with b2 | b2
      · have e : hx = 46 := by rw [beq_iff_eq] at b2; apply UInt8.toNat_inj.1; show hx.toNat = 46; omega
        have HC := hid (show chR2 t = true by unfold chR2; rw [b1, hl, e]; rfl)
        clear hl e
        go_wp2_with fail
        go_meet
        exact ⟨by rw [HC.out], rfl⟩
      · have HC := hid (show chR2 t = false by
          unfold chR2
          rw [b1, hl]
          rw [beq_eq_false_iff_ne] at b2
          have e : hx ≠ 46 := fun e => b2 (by rw [e]; rfl)
          simp [e])
        clear hl
        go_wp2_with fail
        go_meet
        exact ⟨by rw [HC.out], rfl⟩
    · have HC := hid (show chR2 t = false by unfold chR2; rw [b1]; rfl)
      go_wp2_with fail
      go_meet
      exact ⟨by rw [HC.out], rfl⟩
  obtain ⟨h1, h2⟩ := hcut
  replace h2 := h2.symm
  subst h1 h2
  go_upto_if 38 with fail
  rcases bcase (chR2 t) with hz | hz
  · rw [hz]
    have HR := hid (show chRight t = false by unfold chRight; rw [HR1.out, hz]; rfl)
    clear hz
    go_wp2
    go_ret
    exact ⟨by rw [HR.out]; rfl, HU.out⟩
  rw [hz]
  have HR2 := hid hz
  clear hz
  go_upto_region 5 with fail
  go_cut [69] from 39 to 69 (fun c wx => c = .bool (chR3 t) ∧ wx = w1)
  case first =>
    rcases bcase (t.ticket) with b5 | b5
    · skip
      rcases bcase (t.rns) with b6 | b6
      · skip
        rcases bcase (t.quic) with b7 | b7
        · skip
          have HC := hid (show chR3 t = _ by unfold chR3; rw [b5, b6, b7])
          go_wp2_with fail
          go_meet
          exact ⟨by rw [HC.out]; rfl, rfl⟩
        · skip
          rcases bcase (decide (0 < t.qtp.length)) with b8 | b8
          · skip
            have HC := hid (show chR3 t = _ by unfold chR3; rw [b5, b6, b7, b8])
            go_wp2_with fail
            go_meet
            exact ⟨by rw [HC.out]; rfl, rfl⟩
          · skip
            have HC := hid (show chR3 t = _ by unfold chR3; rw [b5, b6, b7, b8])
            go_wp2_with fail
            go_meet
            exact ⟨by rw [HC.out]; rfl, rfl⟩
      · skip
        rcases bcase (decide (0 < t.rn.length)) with b9 | b9
        · skip
          have HC := hid (show chR3 t = _ by unfold chR3; rw [b5, b6, b9])
          go_wp2_with fail
          go_meet
          exact ⟨by rw [HC.out]; rfl, rfl⟩
        · skip
          rcases bcase (t.quic) with b10 | b10
          · skip
            have HC := hid (show chR3 t = _ by unfold chR3; rw [b5, b6, b9, b10])
            go_wp2_with fail
            go_meet
            exact ⟨by rw [HC.out]; rfl, rfl⟩
          · skip
            rcases bcase (decide (0 < t.qtp.length)) with b11 | b11
            · skip
              have HC := hid (show chR3 t = _ by unfold chR3; rw [b5, b6, b9, b10, b11])
              go_wp2_with fail
              go_meet
              exact ⟨by rw [HC.out]; rfl, rfl⟩
            · skip
              have HC := hid (show chR3 t = _ by unfold chR3; rw [b5, b6, b9, b10, b11])
              go_wp2_with fail
              go_meet
              exact ⟨by rw [HC.out]; rfl, rfl⟩
    · skip
      rcases bcase (decide (0 < t.tick.length)) with b12 | b12
      · skip
        have HC := hid (show chR3 t = _ by unfold chR3; rw [b5, b12])
        go_wp2_with fail
        go_meet
        exact ⟨by rw [HC.out]; rfl, rfl⟩
      · skip
        rcases bcase (t.rns) with b13 | b13
        · skip
          rcases bcase (t.quic) with b14 | b14
          · skip
            have HC := hid (show chR3 t = _ by unfold chR3; rw [b5, b12, b13, b14])
            go_wp2_with fail
            go_meet
            exact ⟨by rw [HC.out]; rfl, rfl⟩
          · skip
            rcases bcase (decide (0 < t.qtp.length)) with b15 | b15
            · skip
              have HC := hid (show chR3 t = _ by unfold chR3; rw [b5, b12, b13, b14, b15])
              go_wp2_with fail
              go_meet
              exact ⟨by rw [HC.out]; rfl, rfl⟩
            · skip
              have HC := hid (show chR3 t = _ by unfold chR3; rw [b5, b12, b13, b14, b15])
              go_wp2_with fail
              go_meet
              exact ⟨by rw [HC.out]; rfl, rfl⟩
        · skip
          rcases bcase (decide (0 < t.rn.length)) with b16 | b16
          · skip
            have HC := hid (show chR3 t = _ by unfold chR3; rw [b5, b12, b13, b16])
            go_wp2_with fail
            go_meet
            exact ⟨by rw [HC.out]; rfl, rfl⟩
          · skip
            rcases bcase (t.quic) with b17 | b17
            · skip
              have HC := hid (show chR3 t = _ by unfold chR3; rw [b5, b12, b13, b16, b17])
              go_wp2_with fail
              go_meet
              exact ⟨by rw [HC.out]; rfl, rfl⟩
            · skip
              rcases bcase (decide (0 < t.qtp.length)) with b18 | b18
              · skip
                have HC := hid (show chR3 t = _ by unfold chR3; rw [b5, b12, b13, b16, b17, b18])
                go_wp2_with fail
                go_meet
                exact ⟨by rw [HC.out]; rfl, rfl⟩
              · skip
                have HC := hid (show chR3 t = _ by unfold chR3; rw [b5, b12, b13, b16, b17, b18])
                go_wp2_with fail
                go_meet
                exact ⟨by rw [HC.out]; rfl, rfl⟩
  obtain ⟨h1, h2⟩ := hcut
  replace h2 := h2.symm
  subst h1 h2
  go_upto_if 69 with fail
  rcases bcase (chR3 t) with hz | hz
  · rw [hz]
    have HR := hid (show chRight t = false by unfold chRight; rw [HR1.out, HR2.out, hz]; rfl)
    clear hz
    go_wp2
    go_ret
    exact ⟨by rw [HR.out]; rfl, HU.out⟩
  rw [hz]
  have HR3 := hid hz
  clear hz
  go_upto_region 7 with fail
  go_cut [94] from 70 to 94 (fun c wx => c = .bool (chR4 t) ∧ wx = w1)
  case first =>
    rcases bcase (((t.kg.length : Int) != (t.kd.length : Int))) with b19 | b19
    · skip
      have HC := hid (show chR4 t = _ by unfold chR4; rw [b19])
      go_wp2_with fail
      go_meet
      exact ⟨by rw [HC.out]; rfl, rfl⟩
    · skip
      rcases bcase (((t.pl.length : Int) != (t.pa.length : Int))) with b20 | b20
      · skip
        have HC := hid (show chR4 t = _ by unfold chR4; rw [b19, b20])
        go_wp2_with fail
        go_meet
        exact ⟨by rw [HC.out]; rfl, rfl⟩
      · skip
        rcases bcase (((t.pl.length : Int) != (t.pb.length : Int))) with b21 | b21
        · skip
          have HC := hid (show chR4 t = _ by unfold chR4; rw [b19, b20, b21])
          go_wp2_with fail
          go_meet
          exact ⟨by rw [HC.out]; rfl, rfl⟩
        · skip
          have HC := hid (show chR4 t = _ by unfold chR4; rw [b19, b20, b21])
          go_wp2_with fail
          go_meet
          exact ⟨by rw [HC.out]; rfl, rfl⟩
  obtain ⟨h1, h2⟩ := hcut
  replace h2 := h2.symm
  subst h1 h2
  go_upto_if 94 with fail
  rcases bcase (chR4 t) with hz | hz
  · rw [hz]
    have HR := hid (show chRight t = false by unfold chRight; rw [HR1.out, HR2.out, HR3.out, hz]; rfl)
    clear hz
    go_wp2
    go_ret
    exact ⟨by rw [HR.out]; rfl, HU.out⟩
  rw [hz]
  have HR4 := hid hz
  clear hz
  go_upto_region 9 with fail
  go_cut [109] from 95 to 109 (fun c wx => c = .bool (chR5 t) ∧ wx = w1)
  case first =>
    rcases bcase (decide (0 < t.ech.length)) with b1 | b1
    · rcases bcase (decide (0 < t.pl.length)) with b2 | b2
      · have HC := hid (show chR5 t = true by unfold chR5; rw [b1, b2]; rfl)
        go_wp2_with fail
        go_meet
        exact ⟨by rw [HC.out], rfl⟩
      · have HC := hid (show chR5 t = sigB t.suites by unfold chR5; rw [b1, b2]; rfl)
        have HSG := hid (signals_any HX3.out)
        go_wp2_with fail
        refine HSG.out.mono ?_
        rintro e w2 ⟨rfl, rfl⟩
        go_wp2_with fail
        go_meet
        exact ⟨by rw [HC.out], rfl⟩
    · have HC := hid (show chR5 t = sigB t.suites by unfold chR5; rw [b1]; rfl)
      have HSG := hid (signals_any HX3.out)
      go_wp2_with fail
      refine HSG.out.mono ?_
      rintro e w2 ⟨rfl, rfl⟩
      go_wp2_with fail
      go_meet
      exact ⟨by rw [HC.out], rfl⟩
  obtain ⟨h1, h2⟩ := hcut
  replace h2 := h2.symm
  subst h1 h2
  go_upto_if 109 with fail
  rcases bcase (chR5 t) with hz | hz
  · rw [hz]
    have HR := hid (show chRight t = false by unfold chRight; rw [HR1.out, HR2.out, HR3.out, HR4.out, hz]; rfl)
    clear hz
    go_wp2
    go_ret
    exact ⟨by rw [HR.out]; rfl, HU.out⟩
  rw [hz]
  have HR5 := hid hz
  clear hz
  have HRR := hid (show chRight t = chR6 t by unfold chRight; rw [HR1.out, HR2.out, HR3.out, HR4.out, HR5.out]; rfl)
  have H := hid (none_any HX21.out 0 0)
  have H2 := hid (none_any HX24.out 0 0)
  have H3 := hid (none_any HX26.out 0 31)
  have H4 := hid (octets_any HX16.out (by have := lstSz_len t.alpn; have := HAL.out; omega) (fun x hx => by have := lstSz_mem hx; have := HAL.out; omega))
  go_wp2_with fail
  refine H.out.mono ?_
  rintro e w2 ⟨rfl, rfl⟩
  rcases bcase (noneB t.kd 0 0) with b1 | b1
  rotate_left
  · have HC := hid (show chR6 t = false by unfold chR6; rw [b1]; rfl)
    rw [b1]
    go_wp2
    go_ret
    exact ⟨by rw [HRR.out, HC.out]; rfl, HU.out⟩
  rw [b1]
  have HB1 := hid b1
  clear b1
  go_wp2_with fail
  refine H2.out.mono ?_
  rintro e w2 ⟨rfl, rfl⟩
  rcases bcase (noneB t.pl 0 0) with b2 | b2
  rotate_left
  · have HC := hid (show chR6 t = false by unfold chR6; rw [HB1.out, b2]; rfl)
    rw [b2]
    go_wp2
    go_ret
    exact ⟨by rw [HRR.out, HC.out]; rfl, HU.out⟩
  rw [b2]
  have HB2 := hid b2
  clear b2
  go_wp2_with fail
  refine H3.out.mono ?_
  rintro e w2 ⟨rfl, rfl⟩
  rcases bcase (noneB t.pb 0 31) with b3 | b3
  rotate_left
  · have HC := hid (show chR6 t = false by unfold chR6; rw [HB1.out, HB2.out, b3]; rfl)
    rw [b3]
    go_wp2
    go_ret
    exact ⟨by rw [HRR.out, HC.out]; rfl, HU.out⟩
  rw [b3]
  have HB3 := hid b3
  clear b3
  go_wp2_with fail
  refine H4.out.mono ?_
  rintro e w3 ⟨vo, rfl, hlo, huo, -⟩
  obtain ⟨Ao, co, rfl, hlo, -, -⟩ := hlo.form
  have H5 := hid (none_any hlo 0 0)
  have HUO := hid huo
  clear hlo huo
  go_wp2_with fail
  refine H5.out.mono ?_
  rintro e w2 ⟨rfl, rfl⟩
  have HC := hid (show chR6 t = noneB t.alpn 0 0 by unfold chR6; rw [HB1.out, HB2.out, HB3.out]; rfl)
  go_wp2
  go_ret
  exact ⟨by rw [HRR.out, HC.out]; rfl, HU.out.trans HUO.out (by simp)⟩
theorem noneB_iff {ls : List (List UInt8)} {lo hi : Nat} (h : noneB ls lo hi = true) : ∀ x ∈ ls, ¬ (lo ≤ x.length ∧ x.length ≤ hi) := by
  intro x hx ⟨h1, h2⟩
  have := List.all_eq_true.1 h x hx
  simp [h1, h2] at this
theorem chRight_iff {t : Ch} (h : chRight t = true) : ChOk t := by
  unfold chRight at h
  simp only [Bool.and_eq_true, Bool.not_eq_true'] at h
  obtain ⟨h1, h2, h3, h4, h5, h6⟩ := h
  unfold chR1 at h1
  simp only [Bool.or_eq_false_iff, decide_eq_false_iff_not, bne_eq_false_iff_eq, beq_eq_false_iff_ne] at h1
  obtain ⟨a1, a2, a3, a4⟩ := h1
  unfold chR2 at h2
  unfold chR3 at h3
  simp only [Bool.or_eq_false_iff] at h3
  obtain ⟨b1, b2, b3⟩ := h3
  unfold chR4 at h4
  simp only [Bool.or_eq_false_iff, bne_eq_false_iff_eq] at h4
  obtain ⟨c1, c2, c3⟩ := h4
  unfold chR5 at h5
  simp only [Bool.or_eq_false_iff] at h5
  obtain ⟨d1, d2⟩ := h5
  unfold chR6 at h6
  simp only [Bool.and_eq_true] at h6
  obtain ⟨e1, e2, e3, e4⟩ := h6
  have pz : ∀ {α : Type} (b : Bool) (l : List α), (!b && decide (0 < l.length)) = false → b = true ∨ l = [] := by
    intro α b l h
    cases b
    · right
      cases l with
      | nil => rfl
      | cons x l => simp at h
    · exact .inl rfl
  have nz : ∀ {ls : List (List UInt8)}, noneB ls 0 0 = true → ∀ x ∈ ls, x ≠ [] := fun h x hx e => noneB_iff h x hx (by rw [e]; simp)
  refine ⟨by omega, by omega, fun e => a3 (by rw [e]; rfl), fun e => a4 (by rw [e]; rfl), fun e => ?_, pz _ _ b1, pz _ _ b2, pz _ _ b3, by omega, by omega, by omega, ?_, (sigB_iff _).1 d2, nz e1, nz e2, fun x hx => ?_, nz e4⟩
  · have : t.host ≠ [] := fun h => by rw [h] at e; cases e
    have hp : decide (0 < t.host.length) = true := decide_eq_true (List.length_pos_iff.2 this)
    rw [hp, e] at h2
    exact absurd h2 (by decide)
  · by_cases he : t.ech = []
    · exact .inl he
    · right
      have hp : decide (0 < t.ech.length) = true := decide_eq_true (List.length_pos_iff.2 he)
      rw [hp, Bool.true_and, decide_eq_false_iff_not] at d1
      exact List.eq_nil_of_length_eq_zero (by omega)
  · have := noneB_iff e3 x hx
    omega
end
end Go.Proofs.YtaajmfgplhfncaaGreat

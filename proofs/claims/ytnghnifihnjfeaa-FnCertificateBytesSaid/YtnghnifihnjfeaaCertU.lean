/- The Certificate message up to TLS 1.2: read by the package. -/
import Derived.Test.YtnghnifihnjfeaaTicketU
import Derived.Test.YtnghnifihnjfeaaCertPlain
namespace Go.Proofs.Ytnghnifihnjfeaa
open Go.RowKit
set_option maxRecDepth 100000

section
variable {w w' : World} {B m : Nat} {v content : Value} {xs data : List UInt8} {e : Ending}

/-- what 'unmarshal' of a Certificate leaves -/
def CerP (w : World) (m : Nat) (o : Option (List (List UInt8))) (e : Ending) (w' : World) : Prop :=
  e = .returned (.bool o.isSome) ∧ Upd [m] w w' ∧ ∃ u, isSlice u ∧ Blk w' m 122 #[u] ∧ ∀ x, o = some x → Lst w' w'.heap.size u x
/-- the first loop: what is left, and what was before it -/
def CRel (w : World) (B : Nat) (d0 : List UInt8) (gk : Nat) (v5 v6 v7 : Value) (wr : World) : Prop :=
  ∃ (d : List UInt8) (ps : List (List UInt8)), gk = d.length ∧ v5 = .int .u32 (d.length : Int) ∧ v6 = .int .i64 (ps.length : Int) ∧ Byt wr B v7 d ∧ certs d0 = (certs d).map (ps ++ ·) ∧ Upd [] w wr ∧ d.length ≤ 2147483647 ∧ ps.length + d.length ≤ 2147483647

theorem All2.of_get {α β : Type} {p : α → β → Prop} : ∀ {l : List α} {m : List β}, l.length = m.length → (∀ i (h : i < l.length) (h' : i < m.length), p l[i] m[i]) → All2 p l m
  | [], [], _, _ => trivial
  | a :: l, b :: m, hl, h => ⟨h 0 (by simp) (by simp), All2.of_get (Nat.succ.inj hl) fun i hi hi' => h (i + 1) (Nat.succ_lt_succ hi) (Nat.succ_lt_succ hi')⟩
  | [], _ :: _, hl, _ => by simp at hl
  | _ :: _, [], hl, _ => by simp at hl
/-- the second loop: the row of the certificates, filled up to place j -/
def CRel2 (w : World) (B m g : Nat) (ps : List (List UInt8)) (gk : Nat) (v7 i : Value) (wr : World) : Prop :=
  ∃ (j : Nat) (d : List UInt8) (cs : Array Value), j + gk = ps.length ∧ i = .int .i64 (j : Int) ∧ Byt wr B v7 d ∧ certs d = some (ps.drop j) ∧ d.length ≤ 2147483647 ∧ Upd [m] w wr ∧ w.heap.size ≤ g ∧
    Blk wr m 122 #[.slice (some ⟨g, 0, none⟩) ps.length ps.length] ∧ Blk wr g 22 cs ∧ cs.size = ps.length ∧
    (∀ k (h : k < ps.length), k < j → ∃ u, cs[k]? = some u ∧ Byt wr B u ps[k]) ∧ (∀ k, j ≤ k → k < ps.length → cs[k]? = some (.slice none 0 0))
set_option maxHeartbeats 4000000 in
theorem unmarshal_Certificate (hm : Blk w m 122 #[.slice none 0 0]) (hv : Byt w B v data) (hB : B ≤ m) (hx : data.length ≤ 2147483647) :
    Calls Try.prog 93 #[.pointer (some ⟨m, 0, none⟩), v] w (CerP w m (readCertificate data)) := by
  obtain ⟨A, c, rfl, hv, hl, hc⟩ := Byt.form hv rfl
  have hml := hm.lt
  have hno : ∀ w2 : World, Upd [] w w2 → readCertificate data = none → CerP w m (readCertificate data) (.returned (.bool false)) w2 := by
    intro w2 hu hk
    rw [hk]
    exact ⟨rfl, hu.mono (by simp), _, ⟨_, _, _, rfl⟩, hm.upd hu (by simp), fun x h => (by cases h)⟩
  have HNO := hid hno
  clear hno
  by_cases h7 : data.length < 7
  · have Hk := hid (show readCertificate data = none by simp [readCertificate, h7])
    go_enter Try.func93, Try.ntmps93
    go_wp2
    go_ret
    exact HNO.out _ (Upd.refl _ _) Hk.out
  obtain ⟨b, o, rfl, hb, hj⟩ : ∃ b o, A = some ⟨b, o, none⟩ ∧ b < B ∧ ∀ j (hj : j < data.length), w.cell? ⟨b, o + j, none⟩ = some (bv data[j]) := by
    obtain ⟨b, o, e, hb, _⟩ := Byt.at_ hv (k := 0) (by omega)
    refine ⟨b, o, e, hb, fun j hj => ?_⟩
    obtain ⟨b', o', e', _, _, hcell⟩ := Byt.at_ hv (k := j) hj
    rw [e] at e'
    cases e'
    exact hcell
  have c4 := hj 4 (by omega)
  have c5 := hj 5 (by omega)
  have c6 := hj 6 (by omega)
  have t3 := take3 data 4 (by omega)
  have b3 := be3_u32 data[4] data[5] data[6]
  rw [← t3] at b3
  have HK := hid (show readCertificate data = (if data.length = beNat ((data.drop 4).take 3) + 7 then certs (data.drop 7) else none) by unfold readCertificate; rw [if_neg h7])
  have hlt : beNat ((data.drop 4).take 3) < 16777216 := by
    have := beNat_lt ((data.drop 4).take 3)
    have h3 : ((data.drop 4).take 3).length = 3 := by simp; omega
    rw [h3] at this
    exact this
  generalize data[4] = x4 at c4 b3 t3
  generalize data[5] = x5 at c5 b3 t3
  generalize data[6] = x6 at c6 b3 t3
  generalize beNat ((data.drop 4).take 3) = L at b3 HK hlt
  have B3 := hid b3
  clear b3 t3
  by_cases k1 : data.length = L + 7
  · rw [if_pos k1] at HK
    have n1 : ((data.length : Int) != (L : Int) + 7) = false := by rw [bne_eq_false_iff_eq]; omega
    have e7 := Byt.cutOff (k := 7) hv (by omega)
    have e7' := Byt.cutEnd (k := 7) hv (by omega)
    have E7 := hid e7
    have E7' := hid e7'
    have K1 := hid k1
    clear e7 e7' k1
    go_enter Try.func93, Try.ntmps93
    go_wp2_with fail
    go_quiet (fail)
    rw [B3.out]
    go_wp2_with fail
    all_goals
      go_loopg [5, 6, 7, 8] (data.drop 7).length (fun gk v5 v6 v7 v8 wr => CRel w B (data.drop 7) gk v5 v6 v7 wr)
      case atStart =>
        have hL : (data.drop 7).length = L := by have := K1.out; simp; omega
        refine ⟨data.drop 7, [], rfl, by rw [hL], rfl, ?_, by cases certs (data.drop 7) <;> rfl, (Upd.refl _ _).drewN _, by have := K1.out; simp; omega, by have := K1.out; simp; omega⟩
        first
        | exact Row.drewN (E7'.out (by assumption)) _
        | exact Row.drewN (E7.out (by assumption)) _
      case round =>
        obtain ⟨d, ps, hgk, rfl, rfl, hy, hcd, hur, hdl, hpl⟩ := hrel
        obtain ⟨Ad, cd, rfl, hy, hld, hcdm⟩ := Byt.form hy rfl
        have HCD := hid hcd
        clear hcd
        by_cases h0 : d = []
        · subst h0
          have HP := hid (show readCertificate data = some ps by rw [HK.out, HCD.out, certs_nil]; simp)
          have hl0 : ¬ (0 : Int) < (([] : List UInt8).length : Int) := by simp
          have hmk : ∀ u : World, (Instr.makeSlice 50 (.int .i64 (ps.length : Int)) (.int .i64 (ps.length : Int))).run Try.prog u =
              .ok (.slice (some ⟨u.heap.size, 0, none⟩) ps.length ps.length) (u.alloc (.cells (madeCells #[.slice none 0 0] ps.length) 22)) := fun u => by
            obtain ⟨i0, hi, hz0, hz1, hz2⟩ := info_parts info_bytes
            have h := run_make (P := Try.prog) u 50 22 i0 (.slice none 0 0) Try.underlying50 hi hz0 .i64 .i64 (ps.length : Int) (ps.length : Int) (by omega) (Int.le_refl _) (by rw [hz2]; omega) (by omega)
            rw [Int.toNat_natCast] at h
            simpa [hz1, Value.cells] using h
          have HMK := hid hmk
          clear hmk
          go_wp2_with fail
          rw [HMK.out wr]
          obtain ⟨w1, hw1⟩ : ∃ w1, wr.alloc (.cells (madeCells #[.slice none 0 0] ps.length) 22) = w1 := ⟨_, rfl⟩
          rw [hw1]
          obtain ⟨g, hg⟩ : ∃ g, wr.heap.size = g := ⟨_, rfl⟩
          have hgw : w.heap.size ≤ g := by have := hur.size; omega
          have hb1 : Blk w1 g 22 (madeCells #[.slice none 0 0] ps.length) := by rw [← hw1, ← hg]; exact Blk.new _ _ _
          have hu1 : Upd [] w w1 := by rw [← hw1]; exact hur.alloc _
          have hm1 := hm.upd hu1 (by simp)
          have m1 := hm1.cell 0
          have g1 := hm1.frozen 0
          simp at m1
          rw [hg]
          have HW := hid hw1
          have HG := hid hg
          clear hw1 hg
          go_wp2_with fail
          go_loopg [7, 9, 10] ps.length (fun gk v7 i v10 wr2 => CRel2 w B m g ps gk v7 i wr2)
          case atStart =>
            have hcs : certs (data.drop 7) = some (ps.drop 0) := by rw [HCD.out, certs_nil]; simp
            have hgm : g ≠ m := by omega
            have hbm := hm1.set_ 0 (.slice (some ⟨g, 0, none⟩) ps.length ps.length)
            refine ⟨0, data.drop 7, madeCells #[.slice none 0 0] ps.length, by omega, rfl, ?_, hcs, by simp; omega, (hu1.mono (S' := [m]) (by simp)).setCell (by simp) _, hgw, by simpa using hbm, hb1.far (p := ⟨m, 0, none⟩) hgm _, ?_, fun k h hk => by omega, ?_⟩
            · first
              | exact Row.setCell (p := ⟨m, 0, none⟩) (Row.upd (E7'.out (by assumption)) hu1 (by simp)) hB _
              | (have h := E7.out (by assumption); simp only [Option.map_some, add_lit] at h; exact Row.setCell (p := ⟨m, 0, none⟩) (Row.upd h hu1 (by simp)) hB _)
            · rw [← Array.length_toList, toList_madeCells_one, List.length_replicate]
            · intro k _ hk
              rw [← Array.getElem?_toList, toList_madeCells_one, List.getElem?_replicate, if_pos hk]
          case round =>
            obtain ⟨j, d, cs, hj, rfl, hy, hcd, hdl, hur2, -, hbm, hbg, hsz, hdone, hrest⟩ := hrel
            have HJ := hid hj
            have HSZ := hid hsz
            have HD := hid hdone
            have HR := hid hrest
            clear hj hdone hrest hsz
            by_cases hlt : j < ps.length
            · rw [List.drop_eq_getElem_cons hlt] at hcd
              obtain ⟨h4, r, hL, hcr⟩ := certs_inv hcd
              obtain ⟨Ad, cd, rfl, hy, hld, hcdm⟩ := Byt.form hy rfl
              obtain ⟨bd, od, rfl, hbd, hjd⟩ : ∃ bd od, Ad = some ⟨bd, od, none⟩ ∧ bd < B ∧ ∀ j (hj : j < d.length), wr.cell? ⟨bd, od + j, none⟩ = some (bv d[j]) := by
                obtain ⟨b, o, e, hb, _⟩ := Byt.at_ hy (k := 0) (by omega)
                refine ⟨b, o, e, hb, fun j hj => ?_⟩
                obtain ⟨b', o', e', _, _, hcell⟩ := Byt.at_ hy (k := j) hj
                rw [e] at e'
                cases e'
                exact hcell
              have q0 := hjd 0 (by omega)
              have q1 := hjd 1 (by omega)
              have q2 := hjd 2 (by omega)
              have u3 := take3 d 0 (by omega)
              have d3 := be3_u32 d[0] d[1] d[2]
              simp only [Nat.zero_add] at u3
              rw [← u3] at d3
              simp only [List.drop_zero] at d3 u3
              have hl2 : beNat (d.take 3) < 16777216 := by
                have := beNat_lt (d.take 3)
                have h3 : (d.take 3).length = 3 := by simp; omega
                rw [h3] at this
                exact this
              have hlp : beNat (d.take 3) ≤ (d.drop 3).length ∧ (d.drop 3).take (beNat (d.take 3)) = ps[j] ∧ (d.drop 3).drop (beNat (d.take 3)) = r := by
                unfold lp at hL
                rw [if_pos (by omega)] at hL
                by_cases hk : beNat (d.take 3) ≤ (d.drop 3).length
                · rw [if_pos hk] at hL
                  injection hL with hL
                  injection hL with h1 h2
                  exact ⟨hk, h1, h2⟩
                · rw [if_neg hk] at hL; cases hL
              clear hL
              generalize d[0] = y0 at q0 d3 u3
              generalize d[1] = y1 at q1 d3 u3
              generalize d[2] = y2 at q2 d3 u3
              generalize beNat (d.take 3) = M at d3 hl2 hlp
              have D3 := hid d3
              obtain ⟨hM, hx1, hx2⟩ := hlp
              have hM' : M + 3 ≤ d.length := by simp at hM; omega
              have e1 := Byt.cutOff (k := 3) hy (by omega) (by omega)
              have e2 := Byt.takeTo (k := M) (m := cd - 3) e1 (by omega) (by omega) (Nat.le_refl _) (by intro h; cases h)
              rw [hx1] at e2
              simp only [Option.map_some, add_lit] at e2
              have e3 := Byt.cutOff (k := 3 + M) hy (by omega)
              have e3' := Byt.cutEnd (k := 3 + M) hy (by omega)
              rw [← hx2, List.drop_drop] at hcr
              have HCR := hid hcr
              have E2 := hid e2
              have E3 := hid e3
              have E3' := hid e3'
              have hcj := (hbg.cell j).trans (HR.out j (Nat.le_refl _) hlt)
              have hfj := hbg.frozen j
              have m2 : wr.cell? ⟨m, 0, none⟩ = some (.slice (some ⟨g, 0, none⟩) ps.length ps.length) := hbm.cell 0
              clear d3 u3 e1 e2 e3 e3' hcr hx1 hx2 hM
              try simp only [Nat.add_zero] at q0
              go_wp2_with fail
              go_quiet (fail)
              rw [D3.out]
              go_wp2_with fail
              generalize hwd : wr.drewN nq = wd
              have m2d : wd.cell? ⟨m, 0, none⟩ = some (.slice (some ⟨g, 0, none⟩) ps.length ps.length) := by rw [← hwd]; exact m2
              have hcjd : wd.cell? ⟨g, j, none⟩ = some (.slice none 0 0) := by rw [← hwd]; exact hcj
              have hfjd : wd.frozen? ⟨g, j, none⟩ = false := by rw [← hwd]; exact hfj
              have hurd : Upd [m] w wd := by rw [← hwd]; exact hur2.drewN _
              have hbmd : Blk wd m 122 #[.slice (some ⟨g, 0, none⟩) ps.length ps.length] := by rw [← hwd]; exact hbm
              have hbgd : Blk wd g 22 cs := by rw [← hwd]; exact hbg
              have E2d : Hid (Byt wd B (.slice (some ⟨bd, od + 3, none⟩) M (cd - 3)) ps[j]) := by rw [← hwd]; exact hid (Row.drewN E2.out _)
              have HDd : Hid (∀ k (h : k < ps.length), k < j → ∃ u, cs[k]? = some u ∧ Byt wd B u ps[k]) := by
                rw [← hwd]
                exact hid fun k h hk => by
                  obtain ⟨u, hu, hyu⟩ := HD.out k h hk
                  exact ⟨u, hu, Row.drewN hyu _⟩
              have E3d : Hid (∀ q, Byt wr B q (d.drop (3 + M)) → Byt wd B q (d.drop (3 + M))) := by rw [← hwd]; exact hid fun q hq => Row.drewN hq _
              clear hwd m2 hcj hfj hbm hbg hur2 q0 q1 q2
              have i1 : (3 : Int) ≤ 3 + (M : Int) := by omega
              have i2 : 3 + (M : Int) ≤ (cd : Int) := by omega
              have i3 : ¬ cd = 3 := by omega
              have i5 : (3 + (M : Int)).toNat = 3 + M := by omega
              have i6 : (3 + (M : Int)) % 2 ^ 32 = 3 + (M : Int) := by omega
              have i4 : IntKind.u32.wrap (3 + (M : Int)) = 3 + (M : Int) := by simp [IntKind.wrap, IntKind.signed, IntKind.bits]; omega
              clear i6
              go_still_tail 9, (by kernel_rfl)
              go_wp2
              all_goals
                have hBg : B ≤ g := by omega
                have hmg : m ≠ g := by omega
                go_roundg (ps.length - (j + 1))
                case measure => have := HJ.out; omega
                case rel =>
                  refine ⟨j + 1, d.drop (3 + M), _, by have := HJ.out; omega, by first | rfl | (congr 1; omega), ?_, HCR.out, by simp; omega, (hurd.drewN _).setCell (.inr hgw) _, hgw, (hbmd.drewN _).far (p := ⟨g, j, none⟩) hmg _, Blk.set_ (hbgd.drewN _) j _, by simpa using HSZ.out, ?_, ?_⟩
                  · first
                    | exact Row.setCell (p := ⟨g, j, none⟩) (Row.drewN (E3d.out _ (E3'.out (by assumption))) _) hBg _
                    | (have h := E3.out (by assumption); simp only [Option.map_some, add_lit] at h; exact Row.setCell (p := ⟨g, j, none⟩) (Row.drewN (E3d.out _ h) _) hBg _)
                  · intro k h hk
                    by_cases hkj : k = j
                    · subst hkj
                      refine ⟨_, by rw [Array.getElem?_setIfInBounds_self_of_lt (by have := HSZ.out; omega)], ?_⟩
                      first
                      | exact Row.setCell (p := ⟨g, k, none⟩) (Row.drewN E2d.out _) hBg _
                      | (have h2 := E2d.out; rw [show cd - 3 = M by omega] at h2; exact Row.setCell (p := ⟨g, k, none⟩) (Row.drewN h2 _) hBg _)
                    · obtain ⟨u, hu, hyu⟩ := HDd.out k h (by omega)
                      refine ⟨u, by rw [Array.getElem?_setIfInBounds_ne (by omega)]; exact hu, ?_⟩
                      exact Row.setCell (p := ⟨g, j, none⟩) (Row.drewN hyu _) hBg _
                  · intro k hk1 hk2
                    rw [Array.getElem?_setIfInBounds_ne (by omega)]
                    exact HR.out k (by omega) hk2
            · have hje : j = ps.length := by have := HJ.out; omega
              have m2 := hbm.cell 0
              have hcl : cs.toList.length = ps.length := by simpa using HSZ.out
              go_wp2
              go_ret
              rw [HP.out]
              refine ⟨rfl, hur2, _, ⟨_, _, _, rfl⟩, hbm, fun x hx => ?_⟩
              cases hx
              refine ⟨cs.toList, ⟨some ⟨g, 0, none⟩, ps.length, by rw [hcl], by rw [hcl]; exact Nat.le_refl _, by unfold maxLen; omega, fun e => (by cases e), fun _ => ⟨g, 0, rfl, hbg.lt, fun k u hk => ?_⟩⟩, All2.of_get hcl fun k h h' => ?_⟩
              · rw [Nat.zero_add, hbg.cell]
                simpa using hk
              · obtain ⟨u, hu, hyu⟩ := HD.out k h' (by omega)
                have : cs.toList[k] = u := by
                  have h2 := List.getElem?_eq_getElem h
                  rw [Array.getElem?_toList, hu] at h2
                  exact (Option.some.inj h2).symm
                rw [this]
                exact Row.shrink hyu
        · have hpos : 0 < d.length := List.length_pos_iff.2 h0
          by_cases h4 : d.length < 4
          · go_wp2
            go_ret
            exact HNO.out _ hur (HK.out.trans (HCD.out.trans (by rw [certs_short h4 h0]; rfl)))
          · obtain ⟨bd, od, rfl, hbd, hjd⟩ : ∃ bd od, Ad = some ⟨bd, od, none⟩ ∧ bd < B ∧ ∀ j (hj : j < d.length), wr.cell? ⟨bd, od + j, none⟩ = some (bv d[j]) := by
              obtain ⟨b, o, e, hb, _⟩ := Byt.at_ hy (k := 0) (by omega)
              refine ⟨b, o, e, hb, fun j hj => ?_⟩
              obtain ⟨b', o', e', _, _, hcell⟩ := Byt.at_ hy (k := j) hj
              rw [e] at e'
              cases e'
              exact hcell
            have q0 := hjd 0 (by omega)
            have q1 := hjd 1 (by omega)
            have q2 := hjd 2 (by omega)
            have u3 := take3 d 0 (by omega)
            have d3 := be3_u32 d[0] d[1] d[2]
            simp only [Nat.zero_add] at u3
            rw [← u3] at d3
            simp only [List.drop_zero] at d3 u3
            have hl2 : beNat (d.take 3) < 16777216 := by
              have := beNat_lt (d.take 3)
              have h3 : (d.take 3).length = 3 := by simp; omega
              rw [h3] at this
              exact this
            have hlp : lp 3 d = if beNat (d.take 3) ≤ (d.drop 3).length then some ((d.drop 3).take (beNat (d.take 3)), (d.drop 3).drop (beNat (d.take 3))) else none := by
              unfold lp; rw [if_pos (by omega)]
            have HLP := hid hlp
            clear hlp
            generalize d[0] = y0 at q0 d3 u3
            generalize d[1] = y1 at q1 d3 u3
            generalize d[2] = y2 at q2 d3 u3
            generalize beNat (d.take 3) = M at d3 hl2 HLP
            have D3 := hid d3
            clear d3 u3
            simp only [Nat.add_zero] at q0
            by_cases hfit : d.length < 3 + M
            · rw [if_neg (by simp; omega)] at HLP
              have hbad := HNO.out
              go_wp2_with fail
              go_quiet (fail)
              rw [D3.out]
              go_wp2
              go_ret
              exact HNO.out _ (hur.drewN _) (HK.out.trans (HCD.out.trans (by rw [certs_none HLP.out h0]; rfl)))
            · rw [if_pos (by simp; omega)] at HLP
              have e3 := Byt.cutOff (k := 3 + M) hy (by omega)
              have e3' := Byt.cutEnd (k := 3 + M) hy (by omega)
              have E3 := hid e3
              have E3' := hid e3'
              clear e3 e3'
              go_wp2_with fail
              go_quiet (fail)
              rw [D3.out]
              have HS := hid (show certs (data.drop 7) = (certs (d.drop (3 + M))).map ((ps ++ [(d.drop 3).take M]) ++ ·) by
                rw [HCD.out, certs_step (by omega) HLP.out, Option.map_map, List.drop_drop]
                congr 1
                funext l
                simp)
              go_wp2
              all_goals
                go_roundg (d.drop (3 + M)).length
                case measure => simp; omega
                case rel =>
                  refine ⟨d.drop (3 + M), ps ++ [(d.drop 3).take M], rfl, by congr 1; simp; omega, by congr 1; simp, ?_, HS.out, hur.drewN _, by simp; omega, by simp; omega⟩
                  first
                  | exact Row.drewN (E3'.out (by assumption)) _
                  | (have h := E3.out (by assumption); simp only [Option.map_some, add_lit] at h; exact Row.drewN h _)
  · rw [if_neg k1] at HK
    have n1 : ((data.length : Int) != (L : Int) + 7) = true := by rw [bne_iff_ne]; omega
    clear k1
    go_enter Try.func93, Try.ntmps93
    go_wp2_with fail
    go_quiet (fail)
    rw [B3.out]
    go_wp2
    go_ret
    exact HNO.out _ ((Upd.refl _ _).drewN _) HK.out
end
end Go.Proofs.Ytnghnifihnjfeaa

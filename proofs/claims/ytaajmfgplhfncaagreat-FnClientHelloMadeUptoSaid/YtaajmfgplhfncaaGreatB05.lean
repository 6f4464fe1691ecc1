/- Texts joined: Build2, Build3, Build4, Build5, Build6, KeyUpdate, Alive, KeyUpdateR, Emit, Emit2, Em, EmS, Octets, Body, Body2, Ext. -/
import Derived.Deep.DeepFit
import Derived.Recover
import Derived.Deep.RegionHeld3
import Derived.Lib.ConvBytes
import Derived.Deep.DeepCutAuto
import Derived.Deep.LoopGhost
import Derived.Test.YtaajmfgplhfncaaGreatB04
import Derived.Test.YtaajmfgplhfncaaGreatB03
import Derived.Test.YtaajmfgplhfncaaGreatB01
namespace Go.Proofs.YtaajmfgplhfncaaGreat
open Go.RowKit
set_option maxRecDepth 100000
section
variable {w w' : World} {base p q off pl : Nat} {v v2 content ic ic2 : Value} {xs bs : List UInt8} {st : Option (List UInt8)} {S : List Nat}
set_option maxHeartbeats 2000000 in
theorem flush_nil {t : World} (c3 : t.cell? ⟨q, 3, none⟩ = some (.pointer none)) :
    Calls Tryz.prog 144 #[.pointer (some ⟨q, 0, none⟩)] t fun e w' => e = .returned (.tuple #[]) ∧ t = w' := by
  go_enter Tryz.func144, Tryz.ntmps144
  go_wp2
  exact bodyPost_ret (results_none rfl _ _ _) rfl ⟨rfl, rfl⟩
def rowAt (bs xs : List UInt8) (n gk : Nat) : List UInt8 := bs ++ List.replicate gk 0 ++ be (n - gk) xs.length ++ xs
theorem rowAt_len (bs xs : List UInt8) (n gk : Nat) (h : gk ≤ n) : (rowAt bs xs n gk).length = bs.length + n + xs.length := by
  simp [rowAt, be_len]; omega
theorem rowAt_set (bs xs : List UInt8) (n j : Nat) (h : j + 1 ≤ n) : (rowAt bs xs n (j + 1)).set (bs.length + j) (UInt8.ofNat (xs.length / 256 ^ (n - (j + 1)))) = rowAt bs xs n j := by
  have e : n - j = (n - (j + 1)) + 1 := by omega
  unfold rowAt
  rw [e, be, List.replicate_succ']
  simp only [List.append_assoc]
  rw [List.set_append_right _ _ (by omega), show bs.length + j - bs.length = j by omega, List.set_append_right _ _ (by simp)]
  simp
theorem rowAt_zero (bs xs : List UInt8) (n : Nat) : rowAt bs xs n 0 = bs ++ be n xs.length ++ xs := by simp [rowAt]
theorem rowAt_full (bs xs : List UInt8) (n : Nat) : rowAt bs xs n n = bs ++ List.replicate n 0 ++ xs := by simp [rowAt, be]
theorem bcs_cells {t : World} {v child ic : Value} {off pl : Nat} (h : Blk t p 139 (bcs v child off pl ic)) :
    t.cell? ⟨p, 0, none⟩ = some .nilIface ∧ t.cell? ⟨p, 1, none⟩ = some v ∧ t.cell? ⟨p, 2, none⟩ = some (.bool false) ∧ t.cell? ⟨p, 3, none⟩ = some child ∧
    t.cell? ⟨p, 4, none⟩ = some (.int .i64 (off : Int)) ∧ t.cell? ⟨p, 5, none⟩ = some (.int .i64 (pl : Int)) ∧ t.cell? ⟨p, 6, none⟩ = some (.bool false) ∧ t.cell? ⟨p, 7, none⟩ = some ic := by
  refine ⟨?_, ?_, ?_, ?_, ?_, ?_, ?_, ?_⟩
  all_goals (rw [h.cell]; rfl)
theorem Own.some_ {t : World} {e : TypeId} {u : Value} {ys : List Value} (h : Own t base e u ys) (hp : 0 < ys.length) : ∃ g c, u = .slice (some ⟨g, 0, none⟩) ys.length c := by
  rcases h.2 with ⟨_, h0⟩ | ⟨g, cap, cur, hv, _⟩
  · omega
  · exact ⟨g, cap, hv⟩
def FRel (w1 : World) (base q : Nat) (v2 : Value) (n : Nat) (ic2 : Value) (bs xs : List UInt8) (gk : Nat) (l i : Value) (wr : World) : Prop :=
  ∃ m : Nat, gk ≤ n ∧ i = .int .i64 ((gk : Int) - 1) ∧ l = .int .i64 (m : Int) ∧ m = xs.length / 256 ^ (n - gk) ∧ Bld wr base q v2 bs.length n ic2 (rowAt bs xs n gk) ∧ Upd v2.ownBlock.toList w1 wr
theorem frel_step {w1 wr : World} {n j m g c : Nat} {l i : Value} {z : Int} (hj : j + 1 ≤ n) (hl : l = .int .i64 ((m / 256 : Nat) : Int)) (hi : i = .int .i64 ((j : Int) - 1)) (hm : m = xs.length / 256 ^ (n - (j + 1))) (hz : z = ((m % 256 : Nat) : Int))
    (hq : Bld wr base q v2 bs.length n ic2 (rowAt bs xs n (j + 1))) (hv : v2 = .slice (some ⟨g, 0, none⟩) (bs.length + n + xs.length) c) (hu : Upd v2.ownBlock.toList w1 wr) :
    FRel w1 base q v2 n ic2 bs xs j l i ((wr.setCell ⟨g, bs.length + j, none⟩ (.int .u8 z)).drew) := by
  have hlen : ((rowAt bs xs n (j + 1)).map bv).length = bs.length + n + xs.length := by rw [List.length_map, rowAt_len _ _ _ _ hj]
  have hlen2 : ((rowAt bs xs n j).map bv).length = bs.length + n + xs.length := by rw [List.length_map, rowAt_len _ _ _ _ (by omega)]
  have hown := hq.2.2
  unfold Own at hown
  rw [hlen, hv] at hown
  have hst := (hown.stored (bs.length + j) (.int .u8 z)).1
  have hg : g ∈ v2.ownBlock.toList := by rw [hv]; simp [Value.ownBlock]
  have hqg : q ≠ g := fun e => hq.2.2.ne hq.2.1 (by decide) g (Option.mem_toList.1 hg) e.symm
  refine ⟨m / 256, by omega, hi, hl, ?_, ⟨hq.1, ?_, ?_⟩, ?_⟩
  · rw [hm, Nat.div_div_eq_div_mul, ← Nat.pow_succ]
    congr 2
    omega
  · exact (hq.2.1.far (p := ⟨g, bs.length + j, none⟩) hqg _).drew
  · show World.ownsRow _ base 5 1 v2 ((rowAt bs xs n j).map bv).length ((rowAt bs xs n j).map bv)
    rw [hlen2, hv]
    have e : ((rowAt bs xs n (j + 1)).map bv).set (bs.length + j) (.int .u8 z) = (rowAt bs xs n j).map bv := by
      rw [← rowAt_set bs xs n j hj, List.map_set, ← hm]
      congr 1
      exact (bv_of hz).symm
    rw [e] at hst
    exact hst.kept (row := none) (World.grownBy.mk rfl rfl rfl (Nat.le_refl _) (fun _ _ _ => rfl)) (by simp [Value.ownBlock])
  · exact (hu.setCell (.inl hg) _).drew
theorem errors_New_any {t : World} (sv : ByteArray) :
    Calls Tryz.prog 142 #[.string sv] t fun e w' => e = .returned (.iface 158 (.pointer (some ⟨t.heap.size, 0, none⟩))) ∧ Upd [] t w' := by
  go_enter Tryz.func142, Tryz.ntmps142
  go_wp2
  go_ret
  exact ⟨rfl, (Upd.refl _ _).alloc _⟩
def lpOut (n : Nat) (out : Option (List UInt8)) : Option (List UInt8) := match out with
  | some xs => if xs.length < 256 ^ n then some (be n xs.length ++ xs) else none
  | none => none
def FlP (w : World) (base p q : Nat) (v2 : Value) (off pl : Nat) (ic : Value) (st : Option (List UInt8)) (e : Ending) (w' : World) : Prop :=
  e = .returned (.tuple #[]) ∧ BS w' base p v2 off pl ic st ∧ Upd (p :: q :: v2.ownBlock.toList) w w'
theorem flush_end {w1 wr : World} {n nq : Nat} {u : Value} (hfit : xs.length < 256 ^ n) (hpr : Blk wr p 139 (bcs v (.pointer none) off pl ic)) (hbp : base ≤ p) (hq : Bld wr base q v2 bs.length n ic2 (rowAt bs xs n 0)) (hu1 : Upd [p] w w1) (hur : Upd v2.ownBlock.toList w1 wr)
    (hv : u = v2) : FlP w base p q v2 off pl ic (app (some bs) (lpOut n (some xs))) (.returned (.tuple #[])) ((wr.drewN nq).setCell ⟨p, 1, none⟩ u) := by
  subst hv
  refine ⟨rfl, ?_, ?_⟩
  · have h := Bld.stored (bs := rowAt bs xs n 0) (hpr.drewN nq) hbp (v' := u) (Own.upd hq.2.2 ((Upd.refl [] _).drewN nq) (by simp))
    rw [rowAt_zero] at h
    simp only [lpOut, if_pos hfit, app]
    rw [← List.append_assoc]
    exact h
  · refine (((hu1.mono (by simp)).trans hur (fun x hx => ?_)).drewN nq).setCell (by simp) _
    exact .inl (List.mem_cons_of_mem _ (List.mem_cons_of_mem _ hx))
theorem flush_long {w1 wr w2 : World} {n k : Nat} {t : TypeId} (hfit : ¬ xs.length < 256 ^ n) (hpr : Blk w2 p 139 (bcs v (.pointer none) off pl ic)) (hbp : base ≤ p) (hu1 : Upd [p] w w1) (hur : Upd v2.ownBlock.toList w1 wr) (hu2 : Upd [] wr w2) :
    FlP w base p q v2 off pl ic (app (some bs) (lpOut n (some xs))) (.returned (.tuple #[])) (w2.setCell ⟨p, 0, none⟩ (.iface t (.pointer (some ⟨k, 0, none⟩)))) := by
  refine ⟨rfl, ?_, ?_⟩
  · simp only [lpOut, if_neg hfit, app]
    refine ⟨hbp, _, t, .pointer (some ⟨k, 0, none⟩), hpr.set_ 0 _, ?_, ?_, ?_⟩
    · rfl
    · rfl
    · rfl
  · refine (((hu1.mono (by simp)).trans hur (fun x hx => ?_)).trans hu2 (by simp)).setCell (by simp) _
    exact .inl (List.mem_cons_of_mem _ (List.mem_cons_of_mem _ hx))
set_option maxHeartbeats 8000000 in
theorem flush_ok (hp : Blk w p 139 (bcs v (.pointer (some ⟨q, 0, none⟩)) off pl ic)) {n : Nat} (hq : Bld w base q v2 bs.length n ic2 (bs ++ List.replicate n 0 ++ xs)) (hpq : p ≠ q) (hbp : base ≤ p) (hn : 1 ≤ n) (hn3 : n ≤ 3)
    (hl : bs.length ≤ 17592186044416) (hx : xs.length ≤ 17592186044416) :
    Calls Tryz.prog 144 #[.pointer (some ⟨p, 0, none⟩)] w (FlP w base p q v2 off pl ic (app (some bs) (lpOut n (some xs)))) := by
  have q1 := neq_err_nil
  have q2 := neq_err_some
  obtain ⟨A, c, hve, c0, c1, c2, c3, c4, c5, c6, c7, fz, hlc, hcm⟩ := hq.open_
  obtain ⟨d0, d1, d2, d3, d4, d5, d6, d7⟩ := bcs_cells hp
  have g3 := hp.frozen 3
  have hpl := hp.lt
  have hql := hq.2.1.lt
  have hu1 : Upd [p] w (w.setCell ⟨p, 3, none⟩ (.pointer none)) := (Upd.refl _ _).setCell (by simp) _
  have hq1 : Bld (w.setCell ⟨p, 3, none⟩ (.pointer none)) base q v2 bs.length n ic2 (bs ++ List.replicate n 0 ++ xs) := BS.upd (st := some _) hq hu1 (by simpa using Ne.symm hpq) (fun g hg hm => by
    simp at hm
    exact hq.2.2.ne hp (by decide) g hg hm)
  have hp1 : Blk (w.setCell ⟨p, 3, none⟩ (.pointer none)) p 139 (bcs v (.pointer none) off pl ic) := by
    have := hp.set_ 3 (.pointer none)
    simpa [bcs] using this
  obtain ⟨w1, hw1⟩ : ∃ w1, w.setCell ⟨p, 3, none⟩ (.pointer none) = w1 := ⟨_, rfl⟩
  have HW := hid hw1
  rw [hw1] at hu1 hq1 hp1
  clear hw1
  obtain ⟨A', c', hve', e0, e1, e2, e3, e4, e5, e6, e7, fz', hlc', hcm'⟩ := hq1.open_
  rw [← rowAt_full] at hq1
  have hlen : (bs ++ List.replicate n 0 ++ xs).length = bs.length + n + xs.length := by simp; omega
  rw [hlen] at e1 hlc' hve' c1 hlc hve
  obtain ⟨k0, k1, k2, k3, k4, k5, k6, k7⟩ := bcs_cells hp1
  have hh : Hid (e0 = e0) := rfl
  clear hlc hcm c1 c4 c5 c6 c7 fz hlen hh
  go_enter Tryz.func144, Tryz.ntmps144
  go_wp2_with fail
  refine (flush_nil c3).mono ?_
  rintro e w0 ⟨rfl, rfl⟩
  go_wp2_with fail
  rw [HW.out]
  go_quiet (fail)
  rw [show ((bs.length : Int) + (n : Int) + (xs.length : Int) - (n : Int) - (bs.length : Int)) = (xs.length : Int) by omega]
  go_wp2_with fail
  go_loopg [8, 9] n (fun gk l i wr => FRel w1 base q v2 n ic2 bs xs gk l i wr)
  case atStart =>
    refine ⟨xs.length, Nat.le_refl _, rfl, rfl, ?_, BS.upd (S := []) (st := some _) hq1 ((Upd.refl _ _).drewN _) (by simp) (by simp), (Upd.refl _ _).drewN _⟩
    rw [Nat.sub_self, Nat.pow_zero, Nat.div_one]
  case round =>
    obtain ⟨m, hgk, rfl, rfl, hm, hqr, hur⟩ := hrel
    have hmx : m ≤ xs.length := by rw [hm]; exact Nat.div_le_self _ _
    have HM := hid hm
    clear hm
    obtain ⟨Ar, cr, hvr, r0, r1, r2, r3, r4, r5, r6, r7, rz, hlr, hcr⟩ := hqr.open_
    rw [rowAt_len bs xs n gk hgk] at hvr r1 hlr
    obtain ⟨g, cg, hvg⟩ := Own.some_ hqr.2.2 (by rw [List.length_map, rowAt_len _ _ _ _ hgk]; omega)
    rw [List.length_map, rowAt_len bs xs n gk hgk] at hvg
    rw [hvg] at hvr
    injection hvr with hA _ hc
    subst hA hc
    have hown := hqr.2.2
    rw [hvg] at hown
    have hownT : wr.ownsRow base 5 1 (.slice (some ⟨g, 0, none⟩) (bs.length + n + xs.length) cg) (bs.length + n + xs.length) ((rowAt bs xs n gk).map bv) := by
      have h := hown
      unfold Own at h
      rw [show ((rowAt bs xs n gk).map bv).length = bs.length + n + xs.length by rw [List.length_map, rowAt_len _ _ _ _ hgk]] at h
      exact h
    have Hvg := hid hvg
    clear hvg
    have hpv : p ∉ v2.ownBlock.toList := fun hm => hqr.2.2.ne (hp1.upd hur (fun hm' => hq1.2.2.ne hp1 (by decide) _ (Option.mem_toList.1 hm') rfl)) (by decide) _ (Option.mem_toList.1 hm) rfl
    have hpr := hp1.upd hur hpv
    obtain ⟨s0, s1, s2, s3, s4, s5, s6, s7⟩ := bcs_cells hpr
    have z0 := hpr.frozen 0
    have z1 := hpr.frozen 1
    by_cases hk : gk = 0
    · subst hk
      have hz : ¬ ((0 : Int) ≤ ((0 : Nat) : Int) - 1) := by omega
      by_cases hm0 : m = 0
      · have hmt : ((m : Int) != 0) = false := by simp [hm0]
        have HM0 := hid hm0
        clear hm0
        go_wp2_with fail
        go_quiet (fail)
        go_wp2
        go_end0
        have hfit : xs.length < 256 ^ n := by
          have h1 := HM.out
          rw [HM0.out] at h1
          exact (Nat.div_eq_zero_iff_lt (Nat.pow_pos (by omega))).1 h1.symm
        exact flush_end hfit hpr hbp hqr hu1 hur Hvg.out.symm
      · have hmt : ((m : Int) != 0) = true := by simp [hm0]
        have HM0 := hid hm0
        clear hm0
        go_wp2_with fail
        refine (errors_New_any _).mono ?_
        rintro e w2 ⟨rfl, hu2⟩
        have hpr2 := hpr.upd hu2 (by simp)
        obtain ⟨s0, s1, s2, s3, s4, s5, s6, s7⟩ := bcs_cells hpr2
        have z0 := hpr2.frozen 0
        go_wp2
        have hfit : ¬ xs.length < 256 ^ n := by
          intro h
          have h1 := HM.out
          exact HM0.out (h1.trans ((Nat.div_eq_zero_iff_lt (Nat.pow_pos (by omega))).2 h))
        exact bodyPost_ret (results_none rfl _ _ _) rfl (flush_long hfit hpr2 hbp hu1 hur hu2)
    · obtain ⟨j, rfl⟩ : ∃ j, gk = j + 1 := ⟨gk - 1, by omega⟩
      have e : (((j + 1 : Nat) : Int) - 1) = (j : Int) := by omega
      rw [e]
      clear e hk
      have hgz := hownT.frozenAt (bs.length + j)
      have hgc := hownT.cellAt (bs.length + j) (by omega)
      obtain ⟨y, hy⟩ : ∃ y, ((rowAt bs xs n (j + 1)).map bv)[bs.length + j]? = some y := ⟨_, List.getElem?_eq_getElem (by rw [List.length_map, rowAt_len _ _ _ _ hgk]; omega)⟩
      rw [hy] at hgc
      clear hy
      go_wp2_with fail
      go_still_tail 12, (by kernel_rfl)
      go_wp2
      go_roundg j
      case measure => omega
      case rel => exact frel_step hgk (by go_num) (by go_num) HM.out (by omega) hqr Hvg.out hur
set_option maxHeartbeats 4000000 in
theorem flush_err (hp : Blk w p 139 (bcs v (.pointer (some ⟨q, 0, none⟩)) off pl ic)) (hq : BErr w base q) (hpq : p ≠ q) (hbp : base ≤ p) :
    Calls Tryz.prog 144 #[.pointer (some ⟨p, 0, none⟩)] w (FlP w base p q v2 off pl ic none) := by
  have q1 := neq_err_nil
  have q2 := neq_err_some
  obtain ⟨t, x, c0, c3⟩ := hq.open_
  obtain ⟨d0, d1, d2, d3, d4, d5, d6, d7⟩ := bcs_cells hp
  have g3 := hp.frozen 3
  have hf0 := hp.frozen 0
  have hu1 : Upd [p] w (w.setCell ⟨p, 3, none⟩ (.pointer none)) := (Upd.refl _ _).setCell (by simp) _
  have hp1 : Blk (w.setCell ⟨p, 3, none⟩ (.pointer none)) p 139 (bcs v (.pointer none) off pl ic) := by
    have := hp.set_ 3 (.pointer none)
    simpa [bcs] using this
  have e0 : (w.setCell ⟨p, 3, none⟩ (.pointer none)).cell? ⟨q, 0, none⟩ = some (.iface t x) := hu1.cell c0 (by simpa using Ne.symm hpq)
  go_enter Tryz.func144, Tryz.ntmps144
  go_wp2_with fail
  refine (flush_nil c3).mono ?_
  rintro e w0 ⟨rfl, rfl⟩
  go_wp2
  refine bodyPost_ret (results_none rfl _ _ _) rfl ⟨rfl, ⟨hbp, _, t, x, hp1.set_ 0 _, rfl, rfl, rfl⟩, ?_⟩
  exact (hu1.mono (by simp)).setCell (by simp) _
end
end Go.Proofs.YtaajmfgplhfncaaGreat
namespace Go.Proofs.YtaajmfgplhfncaaGreat
open Go.RowKit
set_option maxRecDepth 100000
section
variable {w w' : World} {base p q off pl : Nat} {v v2 content ic ic2 : Value} {xs bs : List UInt8} {st : Option (List UInt8)} {S : List Nat}
set_option maxHeartbeats 2000000 in
theorem callCont_inner {c : Nat} {fid : FuncId} {cap : Array Value} {arg : Value} {R : Ending → World → Prop} (c7 : w.cell? ⟨p, 7, none⟩ = some (.pointer (some ⟨c, 0, none⟩))) (cc : w.cell? ⟨c, 0, none⟩ = some (.bool true))
    (hf : Calls Tryz.prog fid (#[arg] ++ cap) (w.alloc (.cells #[.pointer (some ⟨p, 0, none⟩)] 136)) R) (hR : ∀ e w', R e w' → e = .returned (.tuple #[])) (hen : ∀ (args : Array Value) (w : World), (callFunc fid args).run Tryz.prog w = .ok (.enter fid args) w) :
    Calls Tryz.prog 143 #[.pointer (some ⟨p, 0, none⟩), .func (.func fid) #[] cap, arg] w R := by
  have hpl : p < w.heap.size := World.block_lt_of_cell? w _ c7
  have hcl : c < w.heap.size := World.block_lt_of_cell? w _ cc
  have HF := hid hf
  have HR := hid hR
  clear hf hR
  go_enter_defers Tryz.func143, Tryz.ntmps143
  go_wp2_with fail
  refine HF.out.mono ?_
  intro e w1 hr
  have he := HR.out e w1 hr
  subst he
  go_wp2_with fail
  exact ⟨_, results_none rfl _ _ _, hr⟩
theorem catch_idle {bb c : Nat} {x : Value} (hb : w.cell? ⟨bb, 0, none⟩ = some (.pointer (some ⟨p, 0, none⟩))) (h7 : w.cell? ⟨p, 7, none⟩ = some (.pointer (some ⟨c, 0, none⟩))) (hc : w.cell? ⟨c, 0, none⟩ = some x) (hz : w.frozen? ⟨c, 0, none⟩ = false) :
    CallsD Tryz.prog 145 #[.pointer (some ⟨bb, 0, none⟩)] .returning w fun e u' w' => e = .returned (.tuple #[]) ∧ u' = .returning ∧ w' = w.setCell ⟨c, 0, none⟩ (.bool false) := by
  refine callsD_of_wpS Tryz.func145 rfl fun c₀ cs hu => ?_
  apply wpS_seq
  apply wpS_region
  simp [wpOpsS, go_sem, hb, h7, hc, hz, Tryz.ntmps145, Exit.thenS]
  apply wpS_seq
  apply wpS_region
  simp [wpOpsS, go_sem, recoverD, hu, Exit.thenS]
  apply wpS_seq
  apply wpS_seq
  apply wpS_region
  simp [wpOpsS, go_sem, Exit.thenS]
  refine wpS_cond (t := true) (by simp [Act.eval, Array.replicate]) ?_
  simp only [if_true]
  refine wpS_of_wp (wp_ret ?_)
  simp only [Exit.thenS]
  exact ⟨rfl, .returning, by rw [← hu], _, results_none rfl _ _ _, rfl, rfl, rfl⟩
def topWorld (w : World) (p c : Nat) : World := (w.setCell ⟨c, 0, none⟩ (.bool true)).alloc (.cells #[.pointer (some ⟨p, 0, none⟩)] 136)
set_option maxHeartbeats 2000000 in
theorem callCont_top {c : Nat} {fid : FuncId} {cap : Array Value} {arg : Value} {R : World → Prop} (c7 : w.cell? ⟨p, 7, none⟩ = some (.pointer (some ⟨c, 0, none⟩))) (cc : w.cell? ⟨c, 0, none⟩ = some (.bool false)) (cz : w.frozen? ⟨c, 0, none⟩ = false)
    (hf : Calls Tryz.prog fid (#[arg] ++ cap) (topWorld w p c) fun e w' => e = .returned (.tuple #[]) ∧ R w')
    (hR : ∀ w', R w' → w'.cell? ⟨w.heap.size, 0, none⟩ = some (.pointer (some ⟨p, 0, none⟩)) ∧ w'.cell? ⟨p, 7, none⟩ = some (.pointer (some ⟨c, 0, none⟩)) ∧ (∃ x, w'.cell? ⟨c, 0, none⟩ = some x) ∧ w'.frozen? ⟨c, 0, none⟩ = false)
    (hen : ∀ (args : Array Value) (w : World), (callFunc fid args).run Tryz.prog w = .ok (.enter fid args) w) :
    Calls Tryz.prog 143 #[.pointer (some ⟨p, 0, none⟩), .func (.func fid) #[] cap, arg] w fun e w' => e = .returned (.tuple #[]) ∧ ∃ w1, R w1 ∧ w' = w1.setCell ⟨c, 0, none⟩ (.bool false) := by
  have hmf : ∀ (fn : Fn) (first cap : Array Value) (w : World), (Instr.makeFunc fn first cap).run Tryz.prog w = .ok (.func fn first cap) w := fun _ _ _ _ => rfl
  have hpl : p < w.heap.size := World.block_lt_of_cell? w _ c7
  have hcl : c < w.heap.size := World.block_lt_of_cell? w _ cc
  have HF := hid hf
  have HR := hid hR
  clear hf hR
  go_enter_defers Tryz.func143, Tryz.ntmps143
  go_wp2_with fail
  refine HF.out.mono ?_
  rintro e w1 ⟨rfl, hr⟩
  obtain ⟨b0, b7, ⟨x, bc⟩, bz⟩ := HR.out w1 hr
  go_wp2_with fail
  refine leaves_cons (f := 145) (args := #[.pointer (some ⟨w.heap.size, 0, none⟩)]) (by simp) (by simp [go_sem]) ?_
  refine (catch_idle b0 b7 bc bz).mono ?_
  rintro e u' w'' ⟨rfl, rfl, rfl⟩
  exact ⟨_, results_none rfl _ _ _, rfl, w1, hr, rfl⟩
end
end Go.Proofs.YtaajmfgplhfncaaGreat
namespace Go.Proofs.YtaajmfgplhfncaaGreat
open Go.RowKit
set_option maxRecDepth 100000
def Inner (w : World) (ic : Value) : Prop := ∃ c, ic = .pointer (some ⟨c, 0, none⟩) ∧ Blk w c 4 #[.bool true]
def Enters (fid : FuncId) : Prop := ∀ (args : Array Value) (w : World), (callFunc fid args).run Tryz.prog w = .ok (.enter fid args) w
def Emits (fid : FuncId) (cap : Array Value) (S : List Nat) (w : World) (out : Option (List UInt8)) (need : Nat) : Prop :=
  ∀ w1, Upd S w w1 → ∀ base q v off pl ic bs, Bld w1 base q v off pl ic bs → Inner w1 ic → w.heap.size ≤ q → (∀ g, v.ownBlock = some g → g ∈ S ∨ w.heap.size ≤ g) → bs.length + need ≤ 17592186044416 →
    Calls Tryz.prog fid (#[.pointer (some ⟨q, 0, none⟩)] ++ cap) w1 (BSP w1 base q v off pl ic (app (some bs) out))
section
variable {w w' : World} {base p q off pl : Nat} {v v2 content ic ic2 : Value} {xs bs : List UInt8} {st out : Option (List UInt8)} {S : List Nat}
theorem Inner.upd (h : Inner w ic) (hu : Upd S w w') (hs : ∀ c, ic = .pointer (some ⟨c, 0, none⟩) → c ∉ S) : Inner w' ic := by
  obtain ⟨c, h1, h2⟩ := h
  exact ⟨c, h1, h2.upd hu (hs c h1)⟩
theorem FlP.ret {e : Ending} (h : FlP w base p q v2 off pl ic st e w') : e = .returned (.tuple #[]) := h.1
theorem flush_any {n : Nat} (hp : Blk w p 139 (bcs v (.pointer (some ⟨q, 0, none⟩)) off pl ic)) (hq : BS w base q v2 bs.length n ic2 (app (some (bs ++ List.replicate n 0)) out)) (hpq : p ≠ q) (hbp : base ≤ p) (hn : 1 ≤ n) (hn3 : n ≤ 3)
    (hl : bs.length ≤ 17592186044416) (hx : olen out ≤ 17592186044416) :
    Calls Tryz.prog 144 #[.pointer (some ⟨p, 0, none⟩)] w (FlP w base p q v2 off pl ic (app (some bs) (lpOut n out))) := by
  cases out with
  | none => exact flush_err hp hq hpq hbp
  | some xs => exact flush_ok hp hq hpq hbp hn hn3 hl hx
theorem BS.child (h : BS w base p v off pl ic st) : w.cell? ⟨p, 3, none⟩ = some (.pointer none) := by
  cases st with
  | none => exact (BErr.open_ h).choose_spec.choose_spec.2
  | some bs => exact (bcs_cells h.2.1).2.2.2.1
def w3of (w2 : World) (p : Nat) (v2 : Value) (lb n : Nat) (ic : Value) : World :=
  ((w2.setCell ⟨p, 3, none⟩ (.pointer (some ⟨w2.heap.size, 0, none⟩))).alloc (.cells (bcs v2 (.pointer none) lb n ic) 139)).drew
theorem lp_mid {w2 : World} {c n : Nat} (hb2 : Bld w2 base p v2 off pl (.pointer (some ⟨c, 0, none⟩)) bs) (lb : Nat) {x : Bool} (hc : Blk w2 c 4 #[.bool x]) :
    Blk (w3of w2 p v2 lb n (.pointer (some ⟨c, 0, none⟩))) p 139 (bcs v2 (.pointer (some ⟨w2.heap.size, 0, none⟩)) off pl (.pointer (some ⟨c, 0, none⟩))) ∧
    Bld (w3of w2 p v2 lb n (.pointer (some ⟨c, 0, none⟩))) base w2.heap.size v2 lb n (.pointer (some ⟨c, 0, none⟩)) bs ∧
    Blk (w3of w2 p v2 lb n (.pointer (some ⟨c, 0, none⟩))) c 4 #[.bool x] ∧ Upd [p] w2 (w3of w2 p v2 lb n (.pointer (some ⟨c, 0, none⟩))) ∧
    (w3of w2 p v2 lb n (.pointer (some ⟨c, 0, none⟩))).heap.size = w2.heap.size + 1 := by
  have hu1 : Upd [p] w2 (w2.setCell ⟨p, 3, none⟩ (.pointer (some ⟨w2.heap.size, 0, none⟩))) := (Upd.refl _ _).setCell (by simp) _
  have hsz : (w2.setCell ⟨p, 3, none⟩ (.pointer (some ⟨w2.heap.size, 0, none⟩))).heap.size = w2.heap.size := by simp [World.setCell]
  have hpc : c ≠ p := fun e => hc.ne_ hb2.2.1 (by decide) e
  have hpl := hb2.2.1.lt
  have hbp := hb2.1
  refine ⟨?_, ⟨by omega, ?_, ?_⟩, ?_, ?_, ?_⟩
  · have h := (hb2.2.1.set_ 3 (.pointer (some ⟨w2.heap.size, 0, none⟩))).alloc (.cells (bcs v2 (.pointer none) lb n (.pointer (some ⟨c, 0, none⟩))) 139)
    exact h.drew
  · have h := Blk.new (w2.setCell ⟨p, 3, none⟩ (.pointer (some ⟨w2.heap.size, 0, none⟩))) 139 (bcs v2 (.pointer none) lb n (.pointer (some ⟨c, 0, none⟩)))
    rw [hsz] at h
    exact h.drew
  · refine Own.upd (hb2.2.2.upd hu1 ?_) (((Upd.refl [] _).alloc _).drew) (by simp)
    intro g hg hm
    simp at hm
    exact hb2.2.2.ne hb2.2.1 (by decide) g hg hm
  · exact ((hc.far (p := ⟨p, 3, none⟩) hpc _).alloc _).drew
  · exact (hu1.alloc _).drew
  · show ((w2.setCell ⟨p, 3, none⟩ (.pointer (some ⟨w2.heap.size, 0, none⟩))).alloc _).heap.size = _
    simp [World.setCell]
theorem lp_end {w2 w3 w4 w5 : World} {v4 : Value} {q : Nat} (hu2 : Upd (p :: v.ownBlock.toList) w w2) (hv2 : v2.ownBlock = v.ownBlock ∨ ∃ g, v2.ownBlock = some g ∧ w.heap.size ≤ g)
    (hu3 : Upd [p] w2 w3) (hu4 : Upd (q :: v2.ownBlock.toList) w3 w4) (hv4 : v4.ownBlock = v2.ownBlock ∨ ∃ g, v4.ownBlock = some g ∧ w3.heap.size ≤ g) (hq : w2.heap.size ≤ q)
    (hfl : FlP w4 base p q v4 off pl ic st (.returned (.tuple #[])) w5) : BSP w base p v off pl ic st (.returned (.tuple #[])) w5 := by
  have s2 := hu2.size
  have s3 := hu3.size
  have hin2 : ∀ k ∈ v2.ownBlock.toList, k ∈ p :: v.ownBlock.toList ∨ w.heap.size ≤ k := by
    intro k hk
    rcases hv2 with h | ⟨g, hg, hge⟩
    · rw [h] at hk; exact .inl (List.mem_cons_of_mem _ hk)
    · rw [hg] at hk; simp at hk; right; omega
  have hin4 : ∀ k ∈ v4.ownBlock.toList, k ∈ p :: v.ownBlock.toList ∨ w.heap.size ≤ k := by
    intro k hk
    rcases hv4 with h | ⟨g, hg, hge⟩
    · rw [h] at hk; exact hin2 k hk
    · rw [hg] at hk; simp at hk; right; omega
  refine ⟨rfl, v4, hfl.2.1, ?_, ?_⟩
  · refine ((hu2.trans hu3 (by simp)).trans hu4 ?_).trans hfl.2.2 ?_
    · intro k hk
      rcases List.mem_cons.1 hk with rfl | hk
      · right; omega
      · exact hin2 k hk
    · intro k hk
      rcases List.mem_cons.1 hk with rfl | hk
      · left; simp
      · rcases List.mem_cons.1 hk with rfl | hk
        · right; omega
        · exact hin4 k hk
  · rcases hv4 with h | ⟨g, hg, hge⟩
    · rw [h]
      exact hv2
    · exact .inr ⟨g, hg, by omega⟩
theorem zeros_byt (n : Nat) : (madeCells #[.int .u8 0] n) = ((List.replicate n (0 : UInt8)).map bv).toArray := by
  apply Array.ext'
  rw [toList_madeCells_one, List.map_replicate]
  rfl
set_option maxHeartbeats 8000000 in
theorem addLP_inner {fid : FuncId} {cap : Array Value} {need n : Nat} (hb : BS w base p v off pl ic st) (hi : Inner w ic) (hf : st ≠ none → Emits fid cap (p :: v.ownBlock.toList) w out need) (hen : Enters fid) (hn : 1 ≤ n) (hn3 : n ≤ 3)
    (hl : olen st + need + 4 ≤ 17592186044416) (hx : olen out ≤ 17592186044416) :
    Calls Tryz.prog 139 #[.pointer (some ⟨p, 0, none⟩), .int .i64 n, .bool false, .func (.func fid) #[] cap] w (BSP w base p v off pl ic (app st (lpOut n out))) := by
  have q1 := neq_err_nil
  have q2 := neq_err_some
  cases st with
  | none =>
    obtain ⟨t, x, c0, -⟩ := BErr.open_ hb
    go_enter Tryz.func139, Tryz.ntmps139
    go_wp2
    exact bodyPost_ret (results_none rfl _ _ _) rfl ⟨rfl, v, hb, Upd.refl _ _, .inl rfl⟩
  | some bs =>
    have hb : Bld w base p v off pl ic bs := hb
    have hf := hf (by simp)
    have hl : bs.length + need + 4 ≤ 17592186044416 := hl
    obtain ⟨c, rfl, hci⟩ := hi
    obtain ⟨A, cv, hve, c0, c1, c2, c3, c4, c5, c6, c7, fz, hlc, hcm⟩ := hb.open_
    have hbp := hb.1
    have hpl := hb.2.1.lt
    have hcl := hci.lt
    have hpc : p ≠ c := hb.2.1.ne_ hci (by decide)
    have hmk : (Instr.makeSlice 23 (.int .i64 (n : Int)) (.int .i64 (n : Int))).run Tryz.prog w =
        .ok (.slice (some ⟨w.heap.size, 0, none⟩) n n) (w.alloc (.cells ((List.replicate n (0 : UInt8)).map bv).toArray 5)) := by
      obtain ⟨i0, hi, hz0, hz1, hz2⟩ := info_parts info_u8
      have h := run_make (P := Tryz.prog) w 23 5 i0 (.int .u8 0) Tryz.underlying23 hi hz0 .i64 .i64 (n : Int) (n : Int) (by omega) (Int.le_refl _) (by rw [hz2]; omega) (by omega)
      rw [Int.toNat_natCast] at h
      rw [← zeros_byt n]
      simpa [hz1, Value.cells] using h
    have hadd := add_lit_any (st := some bs) hb (by show bs.length ≤ _; omega) (List.replicate n 0) (by simp; omega) 5
    have ez : ((List.replicate n (0 : UInt8)).map bv).toArray = Array.replicate n (bv 0) := by simp
    rw [List.length_replicate, ez] at hadd
    rw [ez] at hmk
    clear ez
    have HADD := hid hadd
    have HF := hid hf
    have HEN := hid hen
    have HL := hid hl
    have HX := hid hx
    have HVE := hid hve
    clear hadd hf hen hl hx hve
    go_enter Tryz.func139, Tryz.ntmps139
    go_wp2_with fail
    refine HADD.out.mono ?_
    rintro e w2 ⟨rfl, v2, hb2, hu2, hv2⟩
    have hb2 : Bld w2 base p v2 off pl (.pointer (some ⟨c, 0, none⟩)) (bs ++ List.replicate n 0) := hb2
    obtain ⟨A2, cv2, hve2, d0, d1, d2, d3, d4, d5, d6, d7, dz, hlc2, hcm2⟩ := hb2.open_
    have dz3 := dz 3
    have hlen2 : (bs ++ List.replicate n (0 : UInt8)).length = bs.length + n := by simp
    rw [hlen2] at d1 hve2 hlc2
    have hci2 : Blk w2 c 4 #[.bool true] := hci.upd hu2 (by
      intro hm
      rcases List.mem_cons.1 hm with h | h
      · exact hpc h.symm
      · exact hb.2.2.ne hci (by decide) _ (Option.mem_toList.1 h) rfl)
    have hpl2 := hb2.2.1.lt
    have HVE2 := hid hve2
    clear hve2 hlen2 dz hlc2 hcm2 hlc hcm fz
    go_wp2_with fail
    go_region
    go_wp2_with fail
    obtain ⟨hp3, hq3, hc3, hu3, hsz3⟩ := lp_mid (n := n) hb2 bs.length hci2
    obtain ⟨w3, hw3⟩ : ∃ w3, w3of w2 p v2 bs.length n (.pointer (some ⟨c, 0, none⟩)) = w3 := ⟨_, rfl⟩
    have hw3' : ((w2.setCell ⟨p, 3, none⟩ (.pointer (some ⟨w2.heap.size, 0, none⟩))).alloc (.cells #[.nilIface, .slice A2 (bs.length + n) cv2, .bool false, .pointer none, .int .i64 (bs.length : Int), .int .i64 (n : Int), .bool false, .pointer (some ⟨c, 0, none⟩)] 139)).drew = w3 := by
      rw [← hw3, HVE2.out]; rfl
    rw [hw3']
    rw [hw3] at hp3 hq3 hc3 hu3 hsz3
    have hw3l : w2.heap.size < w3.heap.size := by omega
    clear hw3 hw3' hsz3
    have hub : Upd [] w3 (w3.alloc (.cells #[.pointer (some ⟨p, 0, none⟩)] 136)) := (Upd.refl _ _).alloc _
    have hin : Upd (p :: v.ownBlock.toList) w (w3.alloc (.cells #[.pointer (some ⟨p, 0, none⟩)] 136)) := (hu2.trans hu3 (by simp)).trans hub (by simp)
    have hcall := HF.out _ hin base w2.heap.size v2 bs.length n (.pointer (some ⟨c, 0, none⟩)) (bs ++ List.replicate n 0) (BS.upd (st := some _) hq3 hub (by simp) (by simp)) ⟨c, rfl, hc3.upd hub (by simp)⟩
      hu2.size (fun g hg => by
        rcases hv2 with h | ⟨g', hg', hge⟩
        · rw [h] at hg; exact .inl (List.mem_cons_of_mem _ (Option.mem_toList.2 hg))
        · rw [hg'] at hg; injection hg with hg; right; omega) (by have := HL.out; simp; omega)
    refine (callCont_inner (c := c) (by rw [hp3.cell]; rfl) (by rw [hc3.cell]; rfl) hcall (fun _ _ h => h.1) HEN.out).mono ?_
    rintro e w4 ⟨rfl, v4, hq4, hu4, hv4⟩
    have hu4' : Upd (w2.heap.size :: v2.ownBlock.toList) w3 w4 := (hub.mono (by simp)).trans hu4 (fun x hx => .inl hx)
    have hv4' : v4.ownBlock = v2.ownBlock ∨ ∃ g, v4.ownBlock = some g ∧ w3.heap.size ≤ g := hv4.imp id fun ⟨g, h1, h2⟩ => ⟨g, h1, Nat.le_trans hub.size h2⟩
    have hp4 := hp3.upd hu4' (by
      intro hm
      rcases List.mem_cons.1 hm with h | h
      · omega
      · exact hb2.2.2.ne hb2.2.1 (by decide) _ (Option.mem_toList.1 h) rfl)
    go_wp2_with fail
    refine (flush_any hp4 hq4 (by omega) hbp hn hn3 (by have := HL.out; omega) HX.out).mono ?_
    intro e w5 hfl
    have he := hfl.1
    subst he
    have k3 := hfl.2.1.child
    go_wp2
    go_end0
    exact lp_end hu2 hv2 hu3 hu4' hv4' (Nat.le_refl _) hfl
end
end Go.Proofs.YtaajmfgplhfncaaGreat
namespace Go.Proofs.YtaajmfgplhfncaaGreat
open Go.RowKit
set_option maxRecDepth 100000
def TopIc (w : World) (base : Nat) (ic : Value) : Prop := ic = .pointer none ∨ ∃ c, ic = .pointer (some ⟨c, 0, none⟩) ∧ base ≤ c ∧ Blk w c 4 #[.bool false]
def TopS (w0 w : World) (p : Nat) (st : Option (List UInt8)) : Prop :=
  ∃ v ic, BS w w0.heap.size p v 0 0 ic st ∧ TopIc w w0.heap.size ic ∧ Upd [] w0 w ∧ (∀ g, v.ownBlock = some g → w0.heap.size ≤ g ∧ g ≠ p ∧ ∀ c, ic = .pointer (some ⟨c, 0, none⟩) → g ≠ c)
def TopP (w0 : World) (p : Nat) (st : Option (List UInt8)) (e : Ending) (w' : World) : Prop := e = .returned (.tuple #[]) ∧ TopS w0 w' p st
section
variable {w w0 w' : World} {base p q off pl : Nat} {v v2 content ic ic2 : Value} {xs bs : List UInt8} {st out : Option (List UInt8)} {S : List Nat}
theorem TopIc.upd (h : TopIc w base ic) (hu : Upd S w w') (hs : ∀ c, ic = .pointer (some ⟨c, 0, none⟩) → c ∉ S) : TopIc w' base ic := by
  rcases h with h | ⟨c, rfl, h1, h2⟩
  · exact .inl h
  · exact .inr ⟨c, rfl, h1, h2.upd hu (hs c rfl)⟩
theorem BS.ge (h : BS w base p v off pl ic st) : base ≤ p := by
  cases st with
  | none => exact h.1
  | some bs => exact h.1
theorem BS.isBlk (h : BS w base p v off pl ic st) : ∃ cs, Blk w p 139 cs := by
  cases st with
  | none => obtain ⟨_, cs, t, x, h1, _⟩ := h; exact ⟨cs, h1⟩
  | some bs => exact ⟨_, h.2.1⟩
theorem TopS.nec (hb : BS w base p v off pl ic st) (hi : TopIc w base ic) : ∀ c, ic = .pointer (some ⟨c, 0, none⟩) → p ≠ c := by
  intro c hc
  rcases hi with h | ⟨c', h, _, hbl⟩
  · rw [h] at hc; cases hc
  · rw [h] at hc
    injection hc with hc
    injection hc with hc
    injection hc with hc
    subst hc
    obtain ⟨cs, h1⟩ := hb.isBlk
    exact h1.ne_ hbl (by decide)
theorem TopS.step (hi : TopIc w w0.heap.size ic) (hb : BS w w0.heap.size p v 0 0 ic st) (hu : Upd [] w0 w) (ho : ∀ g, v.ownBlock = some g → w0.heap.size ≤ g ∧ g ≠ p ∧ ∀ c, ic = .pointer (some ⟨c, 0, none⟩) → g ≠ c)
    {st' : Option (List UInt8)} {e : Ending} (h : BSP w w0.heap.size p v 0 0 ic st' e w') : TopP w0 p st' e w' := by
  obtain ⟨he, v', h1, h2, h3⟩ := h
  have hn := TopS.nec hb hi
  have hcl : ∀ c, ic = .pointer (some ⟨c, 0, none⟩) → c < w.heap.size := by
    intro c hc
    rcases hi with h | ⟨c', h, _, hbl⟩
    · rw [h] at hc; cases hc
    · rw [h] at hc
      injection hc with hc
      injection hc with hc
      injection hc with hc
      subst hc
      exact hbl.lt
  have hpl := hb.lt
  have hp := hb.ge
  refine ⟨he, v', ic, h1, hi.upd h2 ?_, hu.trans h2 ?_, ?_⟩
  · intro c hc hm
    rcases List.mem_cons.1 hm with h | hm
    · exact hn c hc h.symm
    · exact (ho c (Option.mem_toList.1 hm)).2.2 c hc rfl
  · intro x hx
    right
    rcases List.mem_cons.1 hx with h | hx
    · omega
    · exact (ho x (Option.mem_toList.1 hx)).1
  · intro g hg
    rcases h3 with h | ⟨g', hg', hge⟩
    · rw [h] at hg; exact ho g hg
    · rw [hg'] at hg
      injection hg with hg
      subst hg
      have := hu.size
      exact ⟨by omega, by omega, fun c hc => by have := hcl c hc; omega⟩
theorem TopS.new (w0 : World) : TopS w0 (w0.alloc (.cells (bcs (.slice none 0 0) (.pointer none) 0 0 (.pointer none)) 139)) w0.heap.size (some []) :=
  ⟨.slice none 0 0, .pointer none, ⟨Nat.le_refl _, Blk.new _ _ _, Own.nil_ _ _ _⟩, .inl rfl, (Upd.refl _ _).alloc _, fun g hg => by simp [Value.ownBlock] at hg⟩
theorem AddUint8_top (h : TopS w0 w p st) (hl : olen st ≤ 17592186044416) (n : Nat) (hn : n < 256) :
    Calls Tryz.prog 87 #[.pointer (some ⟨p, 0, none⟩), .int .u8 (n : Int)] w (TopP w0 p (app st (some [UInt8.ofNat n]))) := by
  obtain ⟨v, ic, hb, hi, hu, ho⟩ := h
  exact (AddUint8_any hb hl n hn).mono fun _ _ hp => TopS.step hi hb hu ho hp
theorem AddUint16_top (h : TopS w0 w p st) (hl : olen st ≤ 17592186044416) (n : Nat) (hn : n < 65536) :
    Calls Tryz.prog 83 #[.pointer (some ⟨p, 0, none⟩), .int .u16 (n : Int)] w (TopP w0 p (app st (some (be 2 n)))) := by
  obtain ⟨v, ic, hb, hi, hu, ho⟩ := h
  exact (AddUint16_any hb hl n hn).mono fun _ _ hp => TopS.step hi hb hu ho hp
theorem top_mid {w3 : World} {c n lb : Nat} {zs : List UInt8} (hp3 : Blk w3 p 139 (bcs v2 (.pointer (some ⟨q, 0, none⟩)) off pl (.pointer (some ⟨c, 0, none⟩)))) (hq3 : Bld w3 base q v2 lb n (.pointer (some ⟨c, 0, none⟩)) zs) (hc3 : Blk w3 c 4 #[.bool false]) :
    Blk (topWorld w3 p c) p 139 (bcs v2 (.pointer (some ⟨q, 0, none⟩)) off pl (.pointer (some ⟨c, 0, none⟩))) ∧ Bld (topWorld w3 p c) base q v2 lb n (.pointer (some ⟨c, 0, none⟩)) zs ∧ Blk (topWorld w3 p c) c 4 #[.bool true] ∧
    Blk (topWorld w3 p c) w3.heap.size 136 #[.pointer (some ⟨p, 0, none⟩)] ∧ Upd [c] w3 (topWorld w3 p c) ∧ (topWorld w3 p c).heap.size = w3.heap.size + 1 := by
  have hu1 : Upd [c] w3 (w3.setCell ⟨c, 0, none⟩ (.bool true)) := (Upd.refl _ _).setCell (by simp) _
  have hsz : (w3.setCell ⟨c, 0, none⟩ (.bool true)).heap.size = w3.heap.size := by simp [World.setCell]
  have hpc : p ≠ c := hp3.ne_ hc3 (by decide)
  have hqc : q ≠ c := hq3.2.1.ne_ hc3 (by decide)
  refine ⟨(hp3.far (p := ⟨c, 0, none⟩) hpc _).alloc _, ?_, ?_, ?_, hu1.alloc _, ?_⟩
  · refine BS.upd (S := []) (st := some zs) ?_ ((Upd.refl _ _).alloc _) (by simp) (by simp)
    refine BS.upd (st := some zs) hq3 hu1 (by simpa using hqc) ?_
    intro g hg hm
    simp at hm
    exact hq3.2.2.ne hc3 (by decide) g hg hm
  · exact (hc3.set_ 0 (.bool true)).alloc _
  · have h := Blk.new (w3.setCell ⟨c, 0, none⟩ (.bool true)) 136 #[.pointer (some ⟨p, 0, none⟩)]
    rw [hsz] at h
    exact h
  · show ((w3.setCell ⟨c, 0, none⟩ (.bool true)).alloc _).heap.size = _
    simp [World.setCell]
def TopR (T : World) (base q : Nat) (v2 : Value) (lb n c : Nat) (st : Option (List UInt8)) (w' : World) : Prop :=
  ∃ v4, BS w' base q v4 lb n (.pointer (some ⟨c, 0, none⟩)) st ∧ Upd (q :: v2.ownBlock.toList) T w' ∧ (v4.ownBlock = v2.ownBlock ∨ ∃ g, v4.ownBlock = some g ∧ T.heap.size ≤ g)
theorem top_cells {T w3 : World} {c lb n : Nat} (_hT : T.heap.size = w3.heap.size + 1) (hp : Blk T p 139 (bcs v2 (.pointer (some ⟨q, 0, none⟩)) off pl (.pointer (some ⟨c, 0, none⟩)))) (hc : Blk T c 4 #[.bool true])
    (hbb : Blk T w3.heap.size 136 #[.pointer (some ⟨p, 0, none⟩)]) (hpq : p ≠ q) (hqc : q ≠ c) (hq3 : q < w3.heap.size) (hv2 : ∀ g, v2.ownBlock = some g → g < w3.heap.size ∧ g ≠ p ∧ g ≠ c) (h : TopR T base q v2 lb n c st w') :
    w'.cell? ⟨w3.heap.size, 0, none⟩ = some (.pointer (some ⟨p, 0, none⟩)) ∧ w'.cell? ⟨p, 7, none⟩ = some (.pointer (some ⟨c, 0, none⟩)) ∧ (∃ x, w'.cell? ⟨c, 0, none⟩ = some x) ∧ w'.frozen? ⟨c, 0, none⟩ = false := by
  obtain ⟨v4, h1, hu, h3⟩ := h
  have k1 := hbb.upd hu (by
    intro hm
    rcases List.mem_cons.1 hm with h | h
    · omega
    · have := (hv2 _ (Option.mem_toList.1 h)).1; omega)
  have k2 := hp.upd hu (by
    intro hm
    rcases List.mem_cons.1 hm with h | h
    · exact hpq h
    · exact (hv2 _ (Option.mem_toList.1 h)).2.1 rfl)
  have k3 := hc.upd hu (by
    intro hm
    rcases List.mem_cons.1 hm with h | h
    · exact hqc h.symm
    · exact (hv2 _ (Option.mem_toList.1 h)).2.2 rfl)
  exact ⟨by rw [k1.cell]; rfl, by rw [k2.cell]; rfl, ⟨_, by rw [k3.cell]; rfl⟩, k3.frozen 0⟩
theorem top_down {T w4 : World} {c lb n : Nat} (hu0 : Upd [] w0 T) (hp0 : w0.heap.size ≤ p) (hq0 : w0.heap.size ≤ q) (hc0 : w0.heap.size ≤ c)
    (hp : Blk T p 139 (bcs v2 (.pointer (some ⟨q, 0, none⟩)) off pl (.pointer (some ⟨c, 0, none⟩)))) (hc : Blk T c 4 #[.bool true])
    (hpq : p ≠ q) (hqc : q ≠ c) (hpc : p ≠ c) (hv2 : ∀ g, v2.ownBlock = some g → w0.heap.size ≤ g ∧ g ≠ p ∧ g ≠ c) (h : TopR T w0.heap.size q v2 lb n c st w4) :
    ∃ v4, Blk (w4.setCell ⟨c, 0, none⟩ (.bool false)) p 139 (bcs v2 (.pointer (some ⟨q, 0, none⟩)) off pl (.pointer (some ⟨c, 0, none⟩))) ∧ BS (w4.setCell ⟨c, 0, none⟩ (.bool false)) w0.heap.size q v4 lb n (.pointer (some ⟨c, 0, none⟩)) st ∧
      Blk (w4.setCell ⟨c, 0, none⟩ (.bool false)) c 4 #[.bool false] ∧ Upd [] w0 (w4.setCell ⟨c, 0, none⟩ (.bool false)) ∧ (∀ g, v4.ownBlock = some g → w0.heap.size ≤ g ∧ g ≠ p ∧ g ≠ c) ∧ (∀ k, k < T.heap.size → k ≠ q → v2.ownBlock ≠ some k → k ≠ c → v4.ownBlock ≠ some k ∧ (w4.setCell ⟨c, 0, none⟩ (.bool false)).heap[k]? = T.heap[k]?) := by
  obtain ⟨v4, h1, hu, h3⟩ := h
  have hpl := hp.lt
  have hcl := hc.lt
  have hs0 := hu0.size
  have k2 := hp.upd hu (by
    intro hm
    rcases List.mem_cons.1 hm with h | h
    · exact hpq h
    · exact (hv2 _ (Option.mem_toList.1 h)).2.1 rfl)
  have k3 := hc.upd hu (by
    intro hm
    rcases List.mem_cons.1 hm with h | h
    · exact hqc h.symm
    · exact (hv2 _ (Option.mem_toList.1 h)).2.2 rfl)
  have hv4 : ∀ g, v4.ownBlock = some g → w0.heap.size ≤ g ∧ g ≠ p ∧ g ≠ c := by
    intro g hg
    rcases h3 with h | ⟨g', hg', hge⟩
    · rw [h] at hg; exact hv2 g hg
    · rw [hg'] at hg
      injection hg with hg
      subst hg
      exact ⟨by omega, by omega, by omega⟩
  refine ⟨v4, k2.far (p := ⟨c, 0, none⟩) hpc _, h1.upd ((Upd.refl [c] _).setCell (by simp) _) (by simpa using hqc) ?_, k3.set_ 0 (.bool false), (hu0.trans hu ?_).setCell (.inr hc0) _, hv4, fun k k1 k2 k3 k4 => ⟨fun h => ?_, ?_⟩⟩
  · intro g hg hm
    simp at hm
    exact (hv4 g hg).2.2 hm
  · intro x hx
    right
    rcases List.mem_cons.1 hx with h | hx
    · omega
    · exact (hv2 x (Option.mem_toList.1 hx)).1
  · rcases h3 with h5 | ⟨g', hg', hge⟩
    · rw [h5] at h; exact k3 h
    · rw [hg'] at h; injection h with h; omega
  · refine (Below.heap_setCell w4 ⟨c, 0, none⟩ _ k (fun e => k4 e)).trans (hu.block k k1 (fun hm => ?_))
    rcases List.mem_cons.1 hm with h | h
    · exact k2 h
    · exact k3 (Option.mem_toList.1 h)
def TopK (w : World) (p : Nat) (v ic : Value) (w' : World) : Prop := ∀ k, k < w.heap.size → k ≠ p → v.ownBlock ≠ some k → ic ≠ .pointer (some ⟨k, 0, none⟩) → w'.heap[k]? = w.heap[k]?
theorem top_fin {w4 w5 : World} {v4 : Value} {c : Nat} (hp0 : w0.heap.size ≤ p) (hq0 : w0.heap.size ≤ q) (hc0 : w0.heap.size ≤ c) (hpc : p ≠ c) (hqc : q ≠ c) (hc : Blk w4 c 4 #[.bool false]) (hu : Upd [] w0 w4)
    (hv4 : ∀ g, v4.ownBlock = some g → w0.heap.size ≤ g ∧ g ≠ p ∧ g ≠ c) (hfl : FlP w4 w0.heap.size p q v4 0 0 (.pointer (some ⟨c, 0, none⟩)) st (.returned (.tuple #[])) w5) : TopP w0 p st (.returned (.tuple #[])) w5 := by
  refine ⟨rfl, v4, .pointer (some ⟨c, 0, none⟩), hfl.2.1, .inr ⟨c, rfl, hc0, hc.upd hfl.2.2 ?_⟩, hu.trans hfl.2.2 ?_, ?_⟩
  · intro hm
    rcases List.mem_cons.1 hm with h | hm
    · exact hpc h.symm
    · rcases List.mem_cons.1 hm with h | hm
      · exact hqc h.symm
      · exact (hv4 c (Option.mem_toList.1 hm)).2.2 rfl
  · intro x hx
    right
    rcases List.mem_cons.1 hx with h | hx
    · omega
    · rcases List.mem_cons.1 hx with h | hx
      · omega
      · exact (hv4 x (Option.mem_toList.1 hx)).1
  · intro g hg
    refine ⟨(hv4 g hg).1, (hv4 g hg).2.1, fun c' hc' => ?_⟩
    injection hc' with hc'
    injection hc' with hc'
    injection hc' with hc'
    subst hc'
    exact (hv4 g hg).2.2
set_option maxHeartbeats 8000000 in
theorem addLP_top_ptr {fid : FuncId} {cap : Array Value} {need n : Nat} {c : Nat} (hb : Bld w w0.heap.size p v 0 0 (.pointer (some ⟨c, 0, none⟩)) bs) (hci : Blk w c 4 #[.bool false]) (hc0 : w0.heap.size ≤ c) (hu0 : Upd [] w0 w) (hf : Emits fid cap [] w0 out need) (hen : Enters fid) (hn : 1 ≤ n) (hn3 : n ≤ 3)
    (hl : bs.length + need + 4 ≤ 17592186044416) (hx : olen out ≤ 17592186044416) :
    Calls Tryz.prog 139 #[.pointer (some ⟨p, 0, none⟩), .int .i64 n, .bool false, .func (.func fid) #[] cap] w (fun e w' => TopP w0 p (app (some bs) (lpOut n out)) e w' ∧ TopK w p v (.pointer (some ⟨c, 0, none⟩)) w') := by
  have q1 := neq_err_nil
  have q2 := neq_err_some
  obtain ⟨A, cv, hve, c0, c1, c2, c3, c4, c5, c6, c7, fz, hlc, hcm⟩ := hb.open_
  have hbp := hb.1
  have hpc : p ≠ c := hb.2.1.ne_ hci (by decide)
  have hpl := hb.2.1.lt
  have hmk : (Instr.makeSlice 23 (.int .i64 (n : Int)) (.int .i64 (n : Int))).run Tryz.prog w =
      .ok (.slice (some ⟨w.heap.size, 0, none⟩) n n) (w.alloc (.cells ((List.replicate n (0 : UInt8)).map bv).toArray 5)) := by
    obtain ⟨i0, hi, hz0, hz1, hz2⟩ := info_parts info_u8
    have h := run_make (P := Tryz.prog) w 23 5 i0 (.int .u8 0) Tryz.underlying23 hi hz0 .i64 .i64 (n : Int) (n : Int) (by omega) (Int.le_refl _) (by rw [hz2]; omega) (by omega)
    rw [Int.toNat_natCast] at h
    rw [← zeros_byt n]
    simpa [hz1, Value.cells] using h
  have hadd := add_lit_any (st := some bs) hb (by show bs.length ≤ _; omega) (List.replicate n 0) (by simp; omega) 5
  have ez : ((List.replicate n (0 : UInt8)).map bv).toArray = Array.replicate n (bv 0) := by simp
  rw [List.length_replicate, ez] at hadd
  rw [ez] at hmk
  clear ez
  have HADD := hid hadd
  have HF := hid hf
  have HEN := hid hen
  have HL := hid hl
  have HX := hid hx
  have HVE := hid hve
  clear hadd hf hen hl hx hve
  go_enter Tryz.func139, Tryz.ntmps139
  go_wp2_with fail
  refine HADD.out.mono ?_
  rintro e w2 ⟨rfl, v2, hb2, hu2, hv2⟩
  have hb2 : Bld w2 w0.heap.size p v2 0 0 (.pointer (some ⟨c, 0, none⟩)) (bs ++ List.replicate n 0) := hb2
  obtain ⟨A2, cv2, hve2, d0, d1, d2, d3, d4, d5, d6, d7, dz, hlc2, hcm2⟩ := hb2.open_
  have dz3 := dz 3
  have hlen2 : (bs ++ List.replicate n (0 : UInt8)).length = bs.length + n := by simp
  rw [hlen2] at d1 hve2 hlc2
  have hpl2 := hb2.2.1.lt
  have HVE2 := hid hve2
  clear hlen2 hlc2 hcm2 hlc hcm fz
  have hci2 : Blk w2 c 4 #[.bool false] := hci.upd hu2 (by
    intro hm
    rcases List.mem_cons.1 hm with h | h
    · exact hpc h.symm
    · exact hb.2.2.ne hci (by decide) _ (Option.mem_toList.1 h) rfl)
  clear dz hve2
  have hu02 : Upd [] w0 w2 := hu0.trans hu2 (fun x hx => by
    rcases List.mem_cons.1 hx with h | hx
    · right; omega
    · right; exact (hb.2.2.ge (Option.mem_toList.1 hx)).1)
  go_wp2_with fail
  have hvg2 : ∀ g, v2.ownBlock = some g → w0.heap.size ≤ g ∧ g ≠ p ∧ g ≠ c := fun g hg => ⟨(hb2.2.2.ge hg).1, hb2.2.2.ne hb2.2.1 (by decide) g hg, hb2.2.2.ne hci2 (by decide) g hg⟩
  have hvl2 : ∀ g, v2.ownBlock = some g → g < w2.heap.size := fun g hg => (hb2.2.2.ge hg).2
  have Hvg2 := hid hvg2
  have Hvl2 := hid hvl2
  clear hvg2 hvl2
  go_region
  go_wp2_with fail
  obtain ⟨hp3, hq3, hc3, hu3, hsz3⟩ := lp_mid (n := n) hb2 bs.length hci2
  obtain ⟨w3, hw3⟩ : ∃ w3, w3of w2 p v2 bs.length n (.pointer (some ⟨c, 0, none⟩)) = w3 := ⟨_, rfl⟩
  have hw3' : ((w2.setCell ⟨p, 3, none⟩ (.pointer (some ⟨w2.heap.size, 0, none⟩))).alloc (.cells #[.nilIface, .slice A2 (bs.length + n) cv2, .bool false, .pointer none, .int .i64 (bs.length : Int), .int .i64 (n : Int), .bool false, .pointer (some ⟨c, 0, none⟩)] 139)).drew = w3 := by
    rw [← hw3, HVE2.out]; rfl
  rw [hw3']
  rw [hw3] at hp3 hq3 hc3 hu3 hsz3
  clear hw3 hw3'
  obtain ⟨hpT, hqT, hcT, hbT, huT, hszT⟩ := top_mid hp3 hq3 hc3
  obtain ⟨T, hT⟩ : ∃ T, topWorld w3 p c = T := ⟨_, rfl⟩
  rw [hT] at hpT hqT hcT hbT huT hszT
  have hu0T : Upd [] w0 T := (hu02.trans hu3 (by simp; omega)).trans huT (by simp; omega)
  have hcall := HF.out T hu0T w0.heap.size w2.heap.size v2 bs.length n (.pointer (some ⟨c, 0, none⟩)) (bs ++ List.replicate n 0) hqT ⟨c, rfl, hcT⟩ hu02.size (fun g hg => .inr (Hvg2.out g hg).1) (by have := HL.out; simp; omega)
  rw [← hT] at hcall
  have hpq : p ≠ w2.heap.size := by omega
  have hcl := hci2.lt
  have hqc : w2.heap.size ≠ c := by omega
  refine (callCont_top (c := c) (R := TopR (topWorld w3 p c) w0.heap.size w2.heap.size v2 bs.length n c (app (some (bs ++ List.replicate n 0)) out)) (by rw [hp3.cell]; rfl) (by rw [hc3.cell]; rfl) (hc3.frozen 0)
    (hcall.mono fun e w' h => ⟨h.1, h.2⟩) (fun w' h => by rw [hT] at h; exact top_cells hszT hpT hcT hbT hpq hqc (by omega) (fun g hg => ⟨by have := Hvl2.out g hg; omega, (Hvg2.out g hg).2⟩) h) HEN.out).mono ?_
  rintro e w4' ⟨rfl, w4, hR, rfl⟩
  rw [hT] at hR
  obtain ⟨v4, hp4, hq4, hc4, hu4, hv4, hk4⟩ := top_down hu0T hbp hu02.size hc0 hpT hcT hpq hqc hpc Hvg2.out hR
  have HK4 := hid hk4
  clear hk4
  go_wp2_with fail
  refine (flush_any hp4 hq4 hpq hbp hn hn3 (by have := HL.out; omega) HX.out).mono ?_
  intro e w5 hfl
  have he := hfl.1
  subst he
  have k3 := hfl.2.1.child
  go_wp2
  go_end0
  refine ⟨top_fin hbp hu02.size hc0 hpc hqc hc4 hu4 hv4 hfl, fun k k1 k2 k3 k4 => ?_⟩
  have hkc : k ≠ c := fun e => k4 (by rw [e])
  have hz2 := hu2.size
  have hz3 := hu3.size
  have hzT := huT.size
  have h2 : v2.ownBlock ≠ some k := by
    rcases hv2 with h | ⟨g', hg', hge⟩
    · rw [h]; exact k3
    · rw [hg']; intro h; injection h with h; omega
  obtain ⟨h4, h5⟩ := HK4.out k (by omega) (by omega) h2 hkc
  have e1 := hu2.block k k1 (fun hm => by
    rcases List.mem_cons.1 hm with h | h
    · exact k2 h
    · exact k3 (Option.mem_toList.1 h))
  have e2 := hu3.block k (by omega) (by simpa using k2)
  have e3 := huT.block k (by omega) (by simpa using hkc)
  have e5 := hfl.2.2.block k (by have := hc4.lt; simp [World.setCell]; have := hR; obtain ⟨_, _, hu, _⟩ := hR; have := hu.size; omega) (fun hm => by
    rcases List.mem_cons.1 hm with h | hm
    · exact k2 h
    · rcases List.mem_cons.1 hm with h | hm
      · omega
      · exact h4 (Option.mem_toList.1 hm))
  exact e5.trans (h5.trans (e3.trans (e2.trans e1)))
set_option maxHeartbeats 8000000 in
theorem addLP_top_nil {fid : FuncId} {cap : Array Value} {need n : Nat} (hb : Bld w w0.heap.size p v 0 0 (.pointer none) bs) (hu0 : Upd [] w0 w) (hf : Emits fid cap [] w0 out need) (hen : Enters fid) (hn : 1 ≤ n) (hn3 : n ≤ 3)
    (hl : bs.length + need + 4 ≤ 17592186044416) (hx : olen out ≤ 17592186044416) :
    Calls Tryz.prog 139 #[.pointer (some ⟨p, 0, none⟩), .int .i64 n, .bool false, .func (.func fid) #[] cap] w (fun e w' => TopP w0 p (app (some bs) (lpOut n out)) e w' ∧ TopK w p v (.pointer none) w') := by
  have q1 := neq_err_nil
  have q2 := neq_err_some
  obtain ⟨A, cv, hve, c0, c1, c2, c3, c4, c5, c6, c7, fz, hlc, hcm⟩ := hb.open_
  have hbp := hb.1
  have hpl := hb.2.1.lt
  have hmk : (Instr.makeSlice 23 (.int .i64 (n : Int)) (.int .i64 (n : Int))).run Tryz.prog w =
      .ok (.slice (some ⟨w.heap.size, 0, none⟩) n n) (w.alloc (.cells ((List.replicate n (0 : UInt8)).map bv).toArray 5)) := by
    obtain ⟨i0, hi, hz0, hz1, hz2⟩ := info_parts info_u8
    have h := run_make (P := Tryz.prog) w 23 5 i0 (.int .u8 0) Tryz.underlying23 hi hz0 .i64 .i64 (n : Int) (n : Int) (by omega) (Int.le_refl _) (by rw [hz2]; omega) (by omega)
    rw [Int.toNat_natCast] at h
    rw [← zeros_byt n]
    simpa [hz1, Value.cells] using h
  have hadd := add_lit_any (st := some bs) hb (by show bs.length ≤ _; omega) (List.replicate n 0) (by simp; omega) 5
  have ez : ((List.replicate n (0 : UInt8)).map bv).toArray = Array.replicate n (bv 0) := by simp
  rw [List.length_replicate, ez] at hadd
  rw [ez] at hmk
  clear ez
  have HADD := hid hadd
  have HF := hid hf
  have HEN := hid hen
  have HL := hid hl
  have HX := hid hx
  have HVE := hid hve
  clear hadd hf hen hl hx hve
  go_enter Tryz.func139, Tryz.ntmps139
  go_wp2_with fail
  refine HADD.out.mono ?_
  rintro e w2 ⟨rfl, v2, hb2, hu2, hv2⟩
  have hb2 : Bld w2 w0.heap.size p v2 0 0 (.pointer none) (bs ++ List.replicate n 0) := hb2
  obtain ⟨A2, cv2, hve2, d0, d1, d2, d3, d4, d5, d6, d7, dz, hlc2, hcm2⟩ := hb2.open_
  have dz3 := dz 3
  have hlen2 : (bs ++ List.replicate n (0 : UInt8)).length = bs.length + n := by simp
  rw [hlen2] at d1 hve2 hlc2
  have hpl2 := hb2.2.1.lt
  have HVE2 := hid hve2
  clear hlen2 hlc2 hcm2 hlc hcm fz
  have dz7 := dz 7
  clear dz hve2
  have hu20 : Upd [p] w2 ((w2.setCell ⟨p, 7, none⟩ (.pointer (some ⟨w2.heap.size, 0, none⟩))).alloc (.cells #[.bool false] 4)) := ((Upd.refl _ _).setCell (by simp) _).alloc _
  have hsz0 : (w2.setCell ⟨p, 7, none⟩ (.pointer (some ⟨w2.heap.size, 0, none⟩))).heap.size = w2.heap.size := by simp [World.setCell]
  have hci2 : Blk ((w2.setCell ⟨p, 7, none⟩ (.pointer (some ⟨w2.heap.size, 0, none⟩))).alloc (.cells #[.bool false] 4)) w2.heap.size 4 #[.bool false] := by
    have h := Blk.new (w2.setCell ⟨p, 7, none⟩ (.pointer (some ⟨w2.heap.size, 0, none⟩))) 4 #[.bool false]
    rw [hsz0] at h
    exact h
  have hb20 : Bld ((w2.setCell ⟨p, 7, none⟩ (.pointer (some ⟨w2.heap.size, 0, none⟩))).alloc (.cells #[.bool false] 4)) w0.heap.size p v2 0 0 (.pointer (some ⟨w2.heap.size, 0, none⟩)) (bs ++ List.replicate n 0) :=
    ⟨hbp, ((hb2.2.1.set_ 7 (.pointer (some ⟨w2.heap.size, 0, none⟩))).alloc _), hb2.2.2.upd hu20 (fun g hg hm => by
      simp at hm
      exact hb2.2.2.ne hb2.2.1 (by decide) g hg hm)⟩
  have hu02 : Upd [] w0 ((w2.setCell ⟨p, 7, none⟩ (.pointer (some ⟨w2.heap.size, 0, none⟩))).alloc (.cells #[.bool false] 4)) := (hu0.trans hu2 (fun x hx => by
    rcases List.mem_cons.1 hx with h | hx
    · right; omega
    · right; exact (hb.2.2.ge (Option.mem_toList.1 hx)).1)).trans hu20 (by simp; omega)
  have hs02 := hu0.size
  have hs22 := hu2.size
  have hc0 : w0.heap.size ≤ w2.heap.size := by omega
  go_wp2_with fail
  obtain ⟨c, hcc⟩ : ∃ c, w2.heap.size = c := ⟨_, rfl⟩
  obtain ⟨w2x, hw2x⟩ : ∃ w2x, (w2.setCell ⟨p, 7, none⟩ (.pointer (some ⟨w2.heap.size, 0, none⟩))).alloc (.cells #[.bool false] 4) = w2x := ⟨_, rfl⟩
  rw [hw2x] at hu20 hci2 hb20 hu02 ⊢
  clear hw2x d0 d1 d2 d3 d4 d5 d6 d7 dz3 dz7 hsz0 hb2 hpl2
  rw [hcc] at hci2 hb20 hc0 ⊢
  have hb2 := hb20
  obtain ⟨d0, d1, d2, d3, d4, d5, d6, d7⟩ := bcs_cells hb2.2.1
  rw [HVE2.out] at d1
  have dz3 := hb2.2.1.frozen 3
  have hpl2 := hb2.2.1.lt
  have hpc : p ≠ c := hb2.2.1.ne_ hci2 (by decide)
  have HCC := hid hcc
  clear hcc hb20
  have hvg2 : ∀ g, v2.ownBlock = some g → w0.heap.size ≤ g ∧ g ≠ p ∧ g ≠ c := fun g hg => ⟨(hb2.2.2.ge hg).1, hb2.2.2.ne hb2.2.1 (by decide) g hg, hb2.2.2.ne hci2 (by decide) g hg⟩
  have hvl2 : ∀ g, v2.ownBlock = some g → g < w2x.heap.size := fun g hg => (hb2.2.2.ge hg).2
  have Hvg2 := hid hvg2
  have Hvl2 := hid hvl2
  clear hvg2 hvl2
  go_region
  go_wp2_with fail
  obtain ⟨hp3, hq3, hc3, hu3, hsz3⟩ := lp_mid (n := n) hb2 bs.length hci2
  obtain ⟨w3, hw3⟩ : ∃ w3, w3of w2x p v2 bs.length n (.pointer (some ⟨c, 0, none⟩)) = w3 := ⟨_, rfl⟩
  have hw3' : ((w2x.setCell ⟨p, 3, none⟩ (.pointer (some ⟨w2x.heap.size, 0, none⟩))).alloc (.cells #[.nilIface, .slice A2 (bs.length + n) cv2, .bool false, .pointer none, .int .i64 (bs.length : Int), .int .i64 (n : Int), .bool false, .pointer (some ⟨c, 0, none⟩)] 139)).drew = w3 := by
    rw [← hw3, HVE2.out]; rfl
  rw [hw3']
  rw [hw3] at hp3 hq3 hc3 hu3 hsz3
  clear hw3 hw3'
  obtain ⟨hpT, hqT, hcT, hbT, huT, hszT⟩ := top_mid hp3 hq3 hc3
  obtain ⟨T, hT⟩ : ∃ T, topWorld w3 p c = T := ⟨_, rfl⟩
  rw [hT] at hpT hqT hcT hbT huT hszT
  have hu0T : Upd [] w0 T := (hu02.trans hu3 (by simp; omega)).trans huT (by simp; omega)
  have hcall := HF.out T hu0T w0.heap.size w2x.heap.size v2 bs.length n (.pointer (some ⟨c, 0, none⟩)) (bs ++ List.replicate n 0) hqT ⟨c, rfl, hcT⟩ hu02.size (fun g hg => .inr (Hvg2.out g hg).1) (by have := HL.out; simp; omega)
  rw [← hT] at hcall
  have hpq : p ≠ w2x.heap.size := by omega
  have hcl := hci2.lt
  have hqc : w2x.heap.size ≠ c := by omega
  refine (callCont_top (c := c) (R := TopR (topWorld w3 p c) w0.heap.size w2x.heap.size v2 bs.length n c (app (some (bs ++ List.replicate n 0)) out)) (by rw [hp3.cell]; rfl) (by rw [hc3.cell]; rfl) (hc3.frozen 0)
    (hcall.mono fun e w' h => ⟨h.1, h.2⟩) (fun w' h => by rw [hT] at h; exact top_cells hszT hpT hcT hbT hpq hqc (by omega) (fun g hg => ⟨by have := Hvl2.out g hg; omega, (Hvg2.out g hg).2⟩) h) HEN.out).mono ?_
  rintro e w4' ⟨rfl, w4, hR, rfl⟩
  rw [hT] at hR
  obtain ⟨v4, hp4, hq4, hc4, hu4, hv4, hk4⟩ := top_down hu0T hbp hu02.size hc0 hpT hcT hpq hqc hpc Hvg2.out hR
  have HK4 := hid hk4
  clear hk4
  go_wp2_with fail
  refine (flush_any hp4 hq4 hpq hbp hn hn3 (by have := HL.out; omega) HX.out).mono ?_
  intro e w5 hfl
  have he := hfl.1
  subst he
  have k3 := hfl.2.1.child
  go_wp2
  go_end0
  refine ⟨top_fin hbp hu02.size hc0 hpc hqc hc4 hu4 hv4 hfl, fun k k1 k2 k3 _ => ?_⟩
  have hz2 := hu2.size
  have hz20 := hu20.size
  have hz3 := hu3.size
  have hzT := huT.size
  have hzc := HCC.out
  have hkc : k ≠ c := by omega
  have h2 : v2.ownBlock ≠ some k := by
    rcases hv2 with h | ⟨g', hg', hge⟩
    · rw [h]; exact k3
    · rw [hg']; intro h; injection h with h; omega
  obtain ⟨h4, h5⟩ := HK4.out k (by omega) (by omega) h2 hkc
  have e1 := hu2.block k k1 (fun hm => by
    rcases List.mem_cons.1 hm with h | h
    · exact k2 h
    · exact k3 (Option.mem_toList.1 h))
  have e20 := hu20.block k (by omega) (by simpa using k2)
  have e2 := hu3.block k (by omega) (by simpa using k2)
  have e3 := huT.block k (by omega) (by simpa using hkc)
  have e5 := hfl.2.2.block k (by have := hc4.lt; simp [World.setCell]; obtain ⟨_, _, hu, _⟩ := hR; have := hu.size; omega) (fun hm => by
    rcases List.mem_cons.1 hm with h | hm
    · exact k2 h
    · rcases List.mem_cons.1 hm with h | hm
      · omega
      · exact h4 (Option.mem_toList.1 hm))
  exact e5.trans (h5.trans (e3.trans (e2.trans (e20.trans e1))))
theorem addLP_top {fid : FuncId} {cap : Array Value} {need n : Nat} (h : TopS w0 w p st) (hf : Emits fid cap [] w0 out need) (hen : Enters fid) (hn : 1 ≤ n) (hn3 : n ≤ 3) (hl : olen st + need + 4 ≤ 17592186044416) (hx : olen out ≤ 17592186044416) :
    Calls Tryz.prog 139 #[.pointer (some ⟨p, 0, none⟩), .int .i64 n, .bool false, .func (.func fid) #[] cap] w (TopP w0 p (app st (lpOut n out))) := by
  obtain ⟨v, ic, hb, hi, hu, ho⟩ := h
  cases st with
  | none =>
    have q1 := neq_err_nil
    have q2 := neq_err_some
    obtain ⟨t, x, c0, -⟩ := BErr.open_ hb
    go_enter Tryz.func139, Tryz.ntmps139
    go_wp2
    exact bodyPost_ret (results_none rfl _ _ _) rfl ⟨rfl, v, ic, hb, hi, hu, ho⟩
  | some bs =>
    rcases hi with rfl | ⟨c, rfl, hc0, hci⟩
    · exact (addLP_top_nil hb hu hf hen hn hn3 hl hx).mono fun _ _ h => h.1
    · exact (addLP_top_ptr hb hci hc0 hu hf hen hn hn3 hl hx).mono fun _ _ h => h.1
theorem addLP_topK {fid : FuncId} {cap : Array Value} {need n g : Nat} {T : TypeId} {c1 : Array Value} (h : TopS w0 w p st) (hg : Blk w g T c1) (hT : 5 ≠ T ∧ 139 ≠ T ∧ 4 ≠ T) (hf : Emits fid cap [] w0 out need) (hen : Enters fid) (hn : 1 ≤ n) (hn3 : n ≤ 3) (hl : olen st + need + 4 ≤ 17592186044416) (hx : olen out ≤ 17592186044416) :
    Calls Tryz.prog 139 #[.pointer (some ⟨p, 0, none⟩), .int .i64 n, .bool false, .func (.func fid) #[] cap] w (fun e w' => TopP w0 p (app st (lpOut n out)) e w' ∧ Blk w' g T c1) := by
  obtain ⟨v, ic, hb, hi, hu, ho⟩ := h
  have hpg : g ≠ p := by
    obtain ⟨cs, hpb⟩ := hb.isBlk
    exact fun e => hpb.ne_ hg hT.2.1 e.symm
  cases st with
  | none =>
    have q1 := neq_err_nil
    have q2 := neq_err_some
    obtain ⟨t, x, c0, -⟩ := BErr.open_ hb
    go_enter Tryz.func139, Tryz.ntmps139
    go_wp2
    exact bodyPost_ret (results_none rfl _ _ _) rfl ⟨⟨rfl, v, ic, hb, hi, hu, ho⟩, hg⟩
  | some bs =>
    have hvg : v.ownBlock ≠ some g := fun e => (Own.ne (hb : Bld w w0.heap.size p v 0 0 ic bs).2.2 hg hT.1 g e) rfl
    rcases hi with rfl | ⟨c, rfl, hc0, hci⟩
    · exact (addLP_top_nil hb hu hf hen hn hn3 hl hx).mono fun _ _ h => ⟨h.1, (h.2 g hg.lt hpg hvg (by simp)).trans hg⟩
    · refine (addLP_top_ptr hb hci hc0 hu hf hen hn hn3 hl hx).mono fun _ _ h => ⟨h.1, (h.2 g hg.lt hpg hvg ?_).trans hg⟩
      intro e
      injection e with e
      injection e with e
      injection e with e
      exact hci.ne_ hg hT.2.2 e
end
end Go.Proofs.YtaajmfgplhfncaaGreat
namespace Go.Proofs.YtaajmfgplhfncaaGreat
open Go.RowKit
set_option maxRecDepth 100000
section
variable {w w0 w' : World} {base p q off pl : Nat} {v v2 content ic ic2 : Value} {xs bs : List UInt8} {st out : Option (List UInt8)} {S : List Nat}
theorem AddLP8_inner {fid : FuncId} {cap : Array Value} {need : Nat} (hb : BS w base p v off pl ic st) (hi : Inner w ic) (hf : st ≠ none → Emits fid cap (p :: v.ownBlock.toList) w out need) (hen : Enters fid)
    (hl : olen st + need + 4 ≤ 17592186044416) (hx : olen out ≤ 17592186044416) :
    Calls Tryz.prog 91 #[.pointer (some ⟨p, 0, none⟩), .func (.func fid) #[] cap] w (BSP w base p v off pl ic (app st (lpOut 1 out))) := by
  have H := hid (addLP_inner hb hi hf hen (n := 1) (by omega) (by omega) hl hx)
  go_enter Tryz.func91, Tryz.ntmps91
  go_wp2_with fail
  refine H.out.mono ?_
  intro e w1 hp
  have he := hp.1
  subst he
  go_wp2
  go_end0
  exact hp
theorem AddLP16_inner {fid : FuncId} {cap : Array Value} {need : Nat} (hb : BS w base p v off pl ic st) (hi : Inner w ic) (hf : st ≠ none → Emits fid cap (p :: v.ownBlock.toList) w out need) (hen : Enters fid)
    (hl : olen st + need + 4 ≤ 17592186044416) (hx : olen out ≤ 17592186044416) :
    Calls Tryz.prog 84 #[.pointer (some ⟨p, 0, none⟩), .func (.func fid) #[] cap] w (BSP w base p v off pl ic (app st (lpOut 2 out))) := by
  have H := hid (addLP_inner hb hi hf hen (n := 2) (by omega) (by omega) hl hx)
  go_enter Tryz.func84, Tryz.ntmps84
  go_wp2_with fail
  refine H.out.mono ?_
  intro e w1 hp
  have he := hp.1
  subst he
  go_wp2
  go_end0
  exact hp
theorem AddLP16_top {fid : FuncId} {cap : Array Value} {need : Nat} (h : TopS w0 w p st) (hf : Emits fid cap [] w0 out need) (hen : Enters fid) (hl : olen st + need + 4 ≤ 17592186044416) (hx : olen out ≤ 17592186044416) :
    Calls Tryz.prog 84 #[.pointer (some ⟨p, 0, none⟩), .func (.func fid) #[] cap] w (TopP w0 p (app st (lpOut 2 out))) := by
  have H := hid (addLP_top h hf hen (n := 2) (by omega) (by omega) hl hx)
  go_enter Tryz.func84, Tryz.ntmps84
  go_wp2_with fail
  refine H.out.mono ?_
  intro e w1 hp
  have he := hp.1
  subst he
  go_wp2
  go_end0
  exact hp
theorem AddLP24_top {fid : FuncId} {cap : Array Value} {need : Nat} (h : TopS w0 w p st) (hf : Emits fid cap [] w0 out need) (hen : Enters fid) (hl : olen st + need + 4 ≤ 17592186044416) (hx : olen out ≤ 17592186044416) :
    Calls Tryz.prog 127 #[.pointer (some ⟨p, 0, none⟩), .func (.func fid) #[] cap] w (TopP w0 p (app st (lpOut 3 out))) := by
  have H := hid (addLP_top h hf hen (n := 3) (by omega) (by omega) hl hx)
  go_enter Tryz.func127, Tryz.ntmps127
  go_wp2_with fail
  refine H.out.mono ?_
  intro e w1 hp
  have he := hp.1
  subst he
  go_wp2
  go_end0
  exact hp
def BytesP (w0 : World) (st : Option (List UInt8)) (e : Ending) (w' : World) : Prop :=
  Upd [] w0 w' ∧ match st with
  | some bs => ∃ u, e = .returned (.tuple #[u, .nilIface]) ∧ Byt w' w'.heap.size u bs ∧ NewFrom w0.heap.size u ∧ isSlice u
  | none => ∃ t x, e = .returned (.tuple #[.slice none 0 0, .iface t x])
theorem Bytes_top (h : TopS w0 w p st) (hl : olen st ≤ 140737488355328) :
    Calls Tryz.prog 126 #[.pointer (some ⟨p, 0, none⟩)] w (BytesP w0 st) := by
  have q1 := neq_err_nil
  have q2 := neq_err_some
  obtain ⟨v, ic, hb, hi, hu, ho⟩ := h
  cases st with
  | none =>
    obtain ⟨t, x, c0, -⟩ := BErr.open_ hb
    go_enter Tryz.func126, Tryz.ntmps126
    go_wp2_with fail
    go_quiet (fail)
    go_wp2
    go_ret2
    exact ⟨hu.drewN _, t, x, rfl⟩
  | some bs =>
    have hb : Bld w w0.heap.size p v 0 0 ic bs := hb
    obtain ⟨A, c, hve, c0, c1, c2, c3, c4, c5, c6, c7, fz, hlc, hcm⟩ := hb.open_
    have hrow := hb.2.2.row
    rw [hve] at hrow
    have Hve := hid hve
    clear hve hl fz
    go_enter Tryz.func126, Tryz.ntmps126
    go_wp2_with fail
    go_quiet (fail)
    go_wp2
    go_ret2
    have hrow' : Byt w w.heap.size (.slice A bs.length c) bs := hrow
    refine ⟨hu.drewN _, .slice A bs.length c, rfl, Row.drewN hrow' _, fun k hk => ?_, ⟨_, _, _, rfl⟩⟩
    rw [← Hve.out] at hk
    exact (ho k hk).1
end
end Go.Proofs.YtaajmfgplhfncaaGreat
namespace Go.Proofs.YtaajmfgplhfncaaGreat
open Go.RowKit
set_option maxRecDepth 100000
section
variable {w w0 w' : World} {base p q off pl : Nat} {v v2 content ic ic2 : Value} {xs bs : List UInt8} {st out : Option (List UInt8)} {S : List Nat}
end
end Go.Proofs.YtaajmfgplhfncaaGreat
namespace Go.Proofs.YtaajmfgplhfncaaGreat
open Go.RowKit
set_option maxRecDepth 100000
section
variable {w w0 w' : World} {v v2 content : Value} {xs bs : List UInt8} {st : Option (List UInt8)} {S : List Nat} {e : Ending}
theorem eql_err_nil (w : World) : (binOp .eql 69 .nilIface .nilIface).run Tryz.prog w = .ok (.bool true) w := by kernel_rfl
theorem eql_err_some (w : World) (t : TypeId) (x : Value) : (binOp .eql 69 (.iface t x) .nilIface).run Tryz.prog w = .ok (.bool false) w := by kernel_rfl
def MadeP (w0 : World) (st : Option (List UInt8)) (e : Ending) (w' : World) : Prop :=
  Upd [] w0 w' ∧ match st with
  | some bs => ∃ u, e = .returned (.tuple #[u, .bool true]) ∧ Byt w' w'.heap.size u bs ∧ NewFrom w0.heap.size u ∧ isSlice u
  | none => e = .returned (.tuple #[.slice none 0 0, .bool false])
theorem BytesP.pair (h : BytesP w0 st e w') : ∃ A n c x, e = .returned (.tuple #[.slice A n c, x]) := by
  obtain ⟨hu, h⟩ := h
  cases st with
  | some bs => obtain ⟨u, he, -, -, A, n, c, rfl⟩ := h; exact ⟨A, n, c, _, he⟩
  | none => obtain ⟨t, x, he⟩ := h; exact ⟨none, 0, 0, _, he⟩
theorem BytesP.up (h : BytesP w0 st e w') (hu : Upd [] w w0) : BytesP w st e w' := by
  obtain ⟨h1, h⟩ := h
  refine ⟨hu.trans h1 (by simp), ?_⟩
  cases st with
  | some bs => obtain ⟨u, he, hb, hn, hs⟩ := h; exact ⟨u, he, hb, fun k hk => Nat.le_trans hu.size (hn k hk), hs⟩
  | none => exact h
theorem BytesP.two (h : BytesP w0 st e w') : ∃ A n c, (e = .returned (.tuple #[.slice A n c, .nilIface]) ∧ ∀ n', MadeP w0 st (.returned (.tuple #[.slice A n c, .bool true])) (w'.drewN n')) ∨
    ∃ t x, e = .returned (.tuple #[.slice A n c, .iface t x]) ∧ ∀ n', MadeP w0 st (.returned (.tuple #[.slice A n c, .bool false])) (w'.drewN n') := by
  obtain ⟨h1, h⟩ := h
  cases st with
  | some bs =>
    obtain ⟨u, he, hb, hn, A, n, c, rfl⟩ := h
    exact ⟨A, n, c, .inl ⟨he, fun n' => ⟨h1.drewN _, _, rfl, Row.drewN hb _, hn, ⟨A, n, c, rfl⟩⟩⟩⟩
  | none =>
    obtain ⟨t, x, he⟩ := h
    exact ⟨none, 0, 0, .inr ⟨t, x, he, fun n => ⟨h1.drewN _, rfl⟩⟩⟩
end
end Go.Proofs.YtaajmfgplhfncaaGreat
namespace Go.Proofs.YtaajmfgplhfncaaGreat
open Go.RowKit
set_option maxRecDepth 100000
section
variable {w w0 w' : World} {v v2 content : Value} {xs bs data : List UInt8} {st : Option (List UInt8)} {S : List Nat} {e : Ending} {m B : Nat}
end
end Go.Proofs.YtaajmfgplhfncaaGreat
namespace Go.Proofs.YtaajmfgplhfncaaGreat
open Go.RowKit
set_option maxRecDepth 100000
section
variable {w w0 w' : World} {base p q off pl : Nat} {v v2 content ic ic2 : Value} {xs bs data : List UInt8} {st out : Option (List UInt8)} {S : List Nat} {m B : Nat} {e : Ending}
theorem src_of (hc : Byt w B content xs) (hq : B ≤ q) (hg : ∀ g, v.ownBlock = some g → B ≤ g) : Src w base q v content xs := by
  obtain ⟨A, c, e, h1, h2, h3, h4⟩ := hc
  by_cases hx : xs = []
  · subst hx
    exact ⟨0, ⟨A, c, e, h1, h2, h3, fun h => absurd rfl h⟩, .inl (Nat.zero_le _)⟩
  · refine ⟨B, ⟨A, c, e, h1, h2, h3, h4⟩, .inr ?_⟩
    obtain ⟨b, o, rfl, hb, -⟩ := h4 (by simpa using hx)
    intro k hk
    rw [e] at hk
    have hkb : k = b := by
      unfold Value.ownBlock at hk
      simp at hk
      exact hk.symm
    subst hkb
    refine ⟨by omega, fun h => ?_⟩
    have := hg k h
    omega
theorem olen_lp (n : Nat) (hn : n ≤ 4) (out : Option (List UInt8)) : olen (lpOut n out) ≤ olen out + 4 := by
  cases out with
  | none => simp [lpOut, olen]
  | some xs =>
    unfold lpOut
    by_cases h : xs.length < 256 ^ n
    · simp only [if_pos h, olen, List.length_append, be_len]
      omega
    · simp only [if_neg h, olen]
      omega
end
end Go.Proofs.YtaajmfgplhfncaaGreat
namespace Go.Proofs.YtaajmfgplhfncaaGreat
open Go.RowKit
set_option maxRecDepth 100000
section
variable {w w0 w1 w2 w' : World} {base p q off pl n : Nat} {v v2 content ic ic2 : Value} {xs bs data : List UInt8} {st out : Option (List UInt8)} {S : List Nat} {m B : Nat} {e : Ending}
theorem Bld.icne (hb : Bld w base q v off pl ic bs) (hi : Inner w ic) : ∀ c, ic = .pointer (some ⟨c, 0, none⟩) → c ∉ q :: v.ownBlock.toList := by
  intro c hc hm
  obtain ⟨c', hc', hbl⟩ := hi
  rw [hc'] at hc
  injection hc with hc
  injection hc with hc
  injection hc with hc
  subst hc
  rcases List.mem_cons.1 hm with h | h
  · exact hb.2.1.ne_ hbl (by decide) h.symm
  · exact hb.2.2.ne hbl (by decide) c' (Option.mem_toList.1 h) rfl
end
end Go.Proofs.YtaajmfgplhfncaaGreat
namespace Go.Proofs.YtaajmfgplhfncaaGreat
open Go.RowKit
set_option maxRecDepth 100000
def Stable (B : Nat) (F : World → Prop) : Prop := ∀ w w' : World, Below B w w' → F w → F w'
theorem Stable.and {B : Nat} {F G : World → Prop} (h : Stable B F) (k : Stable B G) : Stable B fun w => F w ∧ G w := fun w w' hb hf => ⟨h w w' hb hf.1, k w w' hb hf.2⟩
theorem Stable.more {B B' : Nat} {F : World → Prop} (h : Stable B F) (hB : B ≤ B') : Stable B' F := fun w w' hb hf => h w w' ⟨hb.os, hb.tape, hb.output, hb.size, fun k hk => hb.block k (by omega)⟩ hf
def EmitsF (fid : FuncId) (cap : Array Value) (B : Nat) (F : World → Prop) (out : Option (List UInt8)) (need : Nat) : Prop :=
  olen out ≤ need ∧ Enters fid ∧ ∀ w S, F w → B ≤ w.heap.size → (∀ x ∈ S, B ≤ x) → Emits fid cap S w out need
structure Em (w1 : World) (q : Nat) (v : Value) (base off pl : Nat) (ic : Value) (B : Nat) (F : World → Prop) (st : Option (List UInt8)) (R : Nat) (w2 : World) : Prop where
  main : ∃ v2, BS w2 base q v2 off pl ic st ∧ Upd (q :: v.ownBlock.toList) w1 w2 ∧ (v2.ownBlock = v.ownBlock ∨ ∃ g, v2.ownBlock = some g ∧ w1.heap.size ≤ g)
  inner : Inner w1 ic
  icne : ∀ c, ic = .pointer (some ⟨c, 0, none⟩) → c ∉ q :: v.ownBlock.toList
  stab : Stable B F
  F : F w2
  B1 : B ≤ w1.heap.size
  hq : B ≤ q
  hv : ∀ g, v.ownBlock = some g → B ≤ g
  room : olen st + R ≤ 17592186044416
def EmP (w1 : World) (q : Nat) (v : Value) (base off pl : Nat) (ic : Value) (B : Nat) (F : World → Prop) (st : Option (List UInt8)) (R : Nat) (e : Ending) (w2 : World) : Prop :=
  e = .returned (.tuple #[]) ∧ Em w1 q v base off pl ic B F st R w2
section
variable {w w0 w1 w2 w' : World} {base q off pl : Nat} {v content ic : Value} {xs bs : List UInt8} {st out : Option (List UInt8)} {S : List Nat} {B R R' need : Nat} {F : World → Prop} {e : Ending} {fid : FuncId} {cap : Array Value}
theorem Em.ge (h : Em w1 q v base off pl ic B F st R w2) : ∀ x ∈ q :: v.ownBlock.toList, B ≤ x := by
  intro x hx
  rcases List.mem_cons.1 hx with hx | hx
  · rw [hx]; exact h.hq
  · exact h.hv x (Option.mem_toList.1 hx)
theorem Em.below (h : Em w1 q v base off pl ic B F st R w2) : Below B w1 w2 := by
  obtain ⟨v2, _, hu, _⟩ := h.main
  exact hu.below h.B1 h.ge
theorem Em.size (h : Em w1 q v base off pl ic B F st R w2) : w1.heap.size ≤ w2.heap.size := h.below.size
theorem Em.step (h : Em w1 q v base off pl ic B F st R w2) {v2 : Value} {st' : Option (List UInt8)} (hu : Upd (q :: v.ownBlock.toList) w1 w2) (hv2 : v2.ownBlock = v.ownBlock ∨ ∃ g, v2.ownBlock = some g ∧ w1.heap.size ≤ g)
    (hp : BSP w2 base q v2 off pl ic st' e w') (hr : olen st' + R' ≤ 17592186044416) : EmP w1 q v base off pl ic B F st' R' e w' := by
  have hp1 := BSP.after hu hv2 hp
  obtain ⟨he, v3, hb3, hu3, hv3⟩ := hp1
  refine ⟨he, ⟨v3, hb3, hu3, hv3⟩, h.inner, h.icne, h.stab, ?_, h.B1, h.hq, h.hv, hr⟩
  obtain ⟨_, v4, _, hu4, _⟩ := hp
  refine h.stab _ _ (hu4.below (Nat.le_trans h.B1 hu.size) ?_) h.F
  intro x hx
  rcases List.mem_cons.1 hx with hx | hx
  · rw [hx]; exact h.hq
  · rcases hv2 with h2 | ⟨g, h2, hg⟩
    · rw [h2] at hx; exact h.hv x (Option.mem_toList.1 hx)
    · rw [h2] at hx
      have : x = g := by simpa using hx
      have := h.B1
      omega
theorem Em.new (h : Em w1 q v base off pl ic B F st R w2) (hu : Upd [] w2 w') : Em w1 q v base off pl ic B F st R w' := by
  obtain ⟨v2, hb, hu2, hv2⟩ := h.main
  exact ⟨⟨v2, hb.upd hu (by simp) (by simp), hu2.trans hu (by simp), hv2⟩, h.inner, h.icne, h.stab, h.stab _ _ (hu.below (Nat.le_trans h.B1 hu2.size) (by simp)) h.F, h.B1, h.hq, h.hv, h.room⟩
theorem Em.word {F' : World → Prop} {B' : Nat} (h : Em w1 q v base off pl ic B F st R w2) (hs : Stable B' F') (hF : F' w2) (hB : B' ≤ w1.heap.size) (hq : B' ≤ q) (hv : ∀ g, v.ownBlock = some g → B' ≤ g) : Em w1 q v base off pl ic B' F' st R w2 :=
  ⟨h.main, h.inner, h.icne, hs, hF, hB, hq, hv, h.room⟩
theorem Em.cast {st' : Option (List UInt8)} (h : Em w1 q v base off pl ic B F st R w2) (hs : st = st') : Em w1 q v base off pl ic B F st' R w2 := hs ▸ h
theorem Em.less (h : Em w1 q v base off pl ic B F st R w2) (hr : R' ≤ R) : Em w1 q v base off pl ic B F st R' w2 :=
  ⟨h.main, h.inner, h.icne, h.stab, h.F, h.B1, h.hq, h.hv, by have := h.room; omega⟩
theorem EmitsF.mk (hst : Stable B F) (ho : olen out ≤ need) (hen : Enters fid)
    (h : ∀ (w1 : World) (q : Nat) (v : Value) (base off pl : Nat) (ic : Value) (bs : List UInt8), Em w1 q v base off pl ic B F (some bs) need w1 →
      Calls Tryz.prog fid (#[.pointer (some ⟨q, 0, none⟩)] ++ cap) w1 (EmP w1 q v base off pl ic B F (app (some bs) out) 0)) : EmitsF fid cap B F out need := by
  refine ⟨ho, hen, fun w S hF hBw hS w1 hu base q v off pl ic bs hb hi hq hv hl => ?_⟩
  refine (h w1 q v base off pl ic bs ⟨⟨v, hb, Upd.refl _ _, .inl rfl⟩, hi, hb.icne hi, hst, hst _ _ (hu.below hBw hS) hF, Nat.le_trans hBw hu.size, Nat.le_trans hBw hq, fun g hg => ?_, hl⟩).mono ?_
  · rcases hv g hg with h1 | h1
    · exact hS g h1
    · omega
  · rintro e w2 ⟨he, hm⟩
    exact ⟨he, hm.main⟩
theorem EmitsF.more {B' : Nat} {F' : World → Prop} (h : EmitsF fid cap B F out need) (hB : B ≤ B') (hF : ∀ w, F' w → F w) : EmitsF fid cap B' F' out need :=
  ⟨h.1, h.2.1, fun w S hf hb hS => h.2.2 w S (hF w hf) (by omega) fun x hx => Nat.le_trans hB (hS x hx)⟩
theorem Em.u8 (h : Em w1 q v base off pl ic B F st R w2) (n : Nat) (hn : n < 256) (hR : R' + 1 ≤ R) :
    Calls Tryz.prog 87 #[.pointer (some ⟨q, 0, none⟩), .int .u8 (n : Int)] w2 (EmP w1 q v base off pl ic B F (app st (some [UInt8.ofNat n])) R') := by
  obtain ⟨v2, hb, hu, hv2⟩ := h.main
  have hr := h.room
  have ho := olen_app st (some [UInt8.ofNat n])
  have h1 : olen (some [UInt8.ofNat n]) = 1 := rfl
  exact (AddUint8_any hb (by omega) n hn).mono fun e w' hp => h.step hu hv2 hp (by omega)
theorem Em.u16 (h : Em w1 q v base off pl ic B F st R w2) (n : Nat) (hn : n < 65536) (hR : R' + 2 ≤ R) :
    Calls Tryz.prog 83 #[.pointer (some ⟨q, 0, none⟩), .int .u16 (n : Int)] w2 (EmP w1 q v base off pl ic B F (app st (some (be 2 n))) R') := by
  obtain ⟨v2, hb, hu, hv2⟩ := h.main
  have hr := h.room
  have ho := olen_app st (some (be 2 n))
  have h1 : olen (some (be 2 n)) = 2 := be_len 2 n
  exact (AddUint16_any hb (by omega) n hn).mono fun e w' hp => h.step hu hv2 hp (by omega)
theorem Em.bytes (h : Em w1 q v base off pl ic B F st R w2) (hc : Byt w2 B content xs) (hR : R' + xs.length ≤ R) :
    Calls Tryz.prog 89 #[.pointer (some ⟨q, 0, none⟩), content] w2 (EmP w1 q v base off pl ic B F (app st (some xs)) R') := by
  obtain ⟨v2, hb, hu, hv2⟩ := h.main
  have hr := h.room
  have ho := olen_app st (some xs)
  have h1 : olen (some xs) = xs.length := rfl
  refine (AddBytes_any hb (src_of hc h.hq ?_) (by omega) (by omega)).mono fun e w' hp => h.step hu hv2 hp (by omega)
  intro g hg
  rcases hv2 with h2 | ⟨g', h2, hg'⟩
  · rw [h2] at hg; exact h.hv g hg
  · rw [h2] at hg
    injection hg with hg
    have := h.B1
    omega
theorem Em.emits (h : Em w1 q v base off pl ic B F st R w2) (hE : EmitsF fid cap B F out need) {v2 : Value} (hu : Upd (q :: v.ownBlock.toList) w1 w2) (hv2 : v2.ownBlock = v.ownBlock ∨ ∃ g, v2.ownBlock = some g ∧ w1.heap.size ≤ g) :
    Emits fid cap (q :: v2.ownBlock.toList) w2 out need := by
  refine hE.2.2 w2 _ h.F (Nat.le_trans h.B1 hu.size) fun x hx => ?_
  rcases List.mem_cons.1 hx with hx | hx
  · rw [hx]; exact h.hq
  · rcases hv2 with h2 | ⟨g, h2, hg⟩
    · rw [h2] at hx; exact h.hv x (Option.mem_toList.1 hx)
    · rw [h2] at hx
      have : x = g := by simpa using hx
      have := h.B1
      omega
theorem Em.inner2 (h : Em w1 q v base off pl ic B F st R w2) : Inner w2 ic := by
  obtain ⟨v2, hb, hu, hv2⟩ := h.main
  exact h.inner.upd hu h.icne
theorem Em.lp8 (h : Em w1 q v base off pl ic B F st R w2) (hE : EmitsF fid cap B F out need) (hR : R' + need + 4 ≤ R) :
    Calls Tryz.prog 91 #[.pointer (some ⟨q, 0, none⟩), .func (.func fid) #[] cap] w2 (EmP w1 q v base off pl ic B F (app st (lpOut 1 out)) R') := by
  obtain ⟨v2, hb, hu, hv2⟩ := h.main
  have hr := h.room
  have ho := olen_app st (lpOut 1 out)
  have h1 := olen_lp 1 (by omega) out
  have h2 := hE.1
  exact (AddLP8_inner hb h.inner2 (fun _ => h.emits hE hu hv2) hE.2.1 (by omega) (by omega)).mono fun e w' hp => h.step hu hv2 hp (by omega)
theorem Em.lp16 (h : Em w1 q v base off pl ic B F st R w2) (hE : EmitsF fid cap B F out need) (hR : R' + need + 4 ≤ R) :
    Calls Tryz.prog 84 #[.pointer (some ⟨q, 0, none⟩), .func (.func fid) #[] cap] w2 (EmP w1 q v base off pl ic B F (app st (lpOut 2 out)) R') := by
  obtain ⟨v2, hb, hu, hv2⟩ := h.main
  have hr := h.room
  have ho := olen_app st (lpOut 2 out)
  have h1 := olen_lp 2 (by omega) out
  have h2 := hE.1
  exact (AddLP16_inner hb h.inner2 (fun _ => h.emits hE hu hv2) hE.2.1 (by omega) (by omega)).mono fun e w' hp => h.step hu hv2 hp (by omega)
theorem AddLP24_topF {p : Nat} (h : TopS w0 w p st) (hE : EmitsF fid cap B F out need) (hF : F w0) (hB : B ≤ w0.heap.size) (hR : olen st + need + 4 ≤ 17592186044416) :
    Calls Tryz.prog 127 #[.pointer (some ⟨p, 0, none⟩), .func (.func fid) #[] cap] w (TopP w0 p (app st (lpOut 3 out))) :=
  AddLP24_top h (hE.2.2 w0 [] hF hB (by simp)) hE.2.1 hR (by have := hE.1; omega)
theorem AddLP16_topF {p : Nat} (h : TopS w0 w p st) (hE : EmitsF fid cap B F out need) (hF : F w0) (hB : B ≤ w0.heap.size) (hR : olen st + need + 4 ≤ 17592186044416) :
    Calls Tryz.prog 84 #[.pointer (some ⟨p, 0, none⟩), .func (.func fid) #[] cap] w (TopP w0 p (app st (lpOut 2 out))) :=
  AddLP16_top h (hE.2.2 w0 [] hF hB (by simp)) hE.2.1 hR (by have := hE.1; omega)
end
end Go.Proofs.YtaajmfgplhfncaaGreat
namespace Go.Proofs.YtaajmfgplhfncaaGreat
open Go.RowKit
set_option maxRecDepth 100000
def condOut (b : Bool) (o : Option (List UInt8)) : Option (List UInt8) := if b then o else some []
def extOut (k : Nat) (o : Option (List UInt8)) : Option (List UInt8) := app (some (be 2 k)) (lpOut 2 o)
theorem condOut_true (o : Option (List UInt8)) : condOut true o = o := rfl
theorem condOut_false (o : Option (List UInt8)) : condOut false o = some [] := rfl
theorem bcase (b : Bool) : b = true ∨ b = false := by cases b <;> simp
theorem lpOut_empty : lpOut 2 (some []) = some (be 2 0) := rfl
theorem olen_cond (b : Bool) (o : Option (List UInt8)) : olen (condOut b o) ≤ olen o := by cases b <;> simp [condOut, olen]
theorem olen_ext (k : Nat) (o : Option (List UInt8)) : olen (extOut k o) ≤ olen o + 6 := by
  have h1 := olen_app (some (be 2 k)) (lpOut 2 o)
  have h2 := olen_lp 2 (by omega) o
  have h3 : olen (some (be 2 k)) = 2 := be_len 2 _
  unfold extOut
  omega
section
variable {w w0 w1 w2 w3 w' : World} {base q off pl : Nat} {v content ic : Value} {xs bs : List UInt8} {st out : Option (List UInt8)} {S : List Nat} {B R R' need : Nat} {F : World → Prop} {e : Ending} {fid : FuncId} {cap : Array Value}
theorem MadeP.up {w0 : World} {st : Option (List UInt8)} (h : MadeP w0 st e w') (hu : Upd [] w w0) : MadeP w st e w' := by
  obtain ⟨hu', hm⟩ := h
  refine ⟨hu.trans hu' (by simp), ?_⟩
  cases st with
  | none => exact hm
  | some bs =>
    obtain ⟨u, he, hy, hn, hs⟩ := hm
    exact ⟨u, he, hy, fun k hk => Nat.le_trans hu.size (hn k hk), hs⟩
theorem conv_string (w : World) (src dst : TypeId) (hs : Tryz.prog.underlying src = some .string) (hd : Tryz.prog.underlying dst = some (.slice 5)) (xs : List UInt8) (hx : xs.length ≤ 9223372036854775807) :
    ∃ wN A c, (convert src dst (.string ⟨xs.toArray⟩)).run Tryz.prog w = .ok (.slice A xs.length c) wN ∧ Byt wN wN.heap.size (.slice A xs.length c) xs ∧ Upd [] w wN ∧ ∀ k, (Value.slice A xs.length c).ownBlock = some k → w.heap.size ≤ k ∧ k < wN.heap.size := by
  have hsz : (⟨xs.toArray⟩ : ByteArray).size = xs.length := by simp [ByteArray.size]
  refine ⟨Lib.bytesWorld w 5 ⟨xs.toArray⟩, some ⟨w.heap.size, 0, none⟩, grownCap w xs.length 0 5, ?_, ?_, ?_, ?_⟩
  · have := Lib.run_convert_string_bytes (P := Tryz.prog) w src dst 5 ⟨xs.toArray⟩ hs hd Tryz.underlying5
    rwa [hsz] at this
  · refine ⟨some ⟨w.heap.size, 0, none⟩, grownCap w xs.length 0 5, by simp, by simpa using grownCap_ge w xs.length 0 5, grownCap_le_maxLen w xs.length 0 5 (by unfold maxLen; omega), (by intro h; cases h), fun _ => ⟨w.heap.size, 0, rfl, by rw [Lib.bytesWorld_size]; omega, fun j u hj => ?_⟩⟩
    rw [List.getElem?_map] at hj
    obtain ⟨x, hx, rfl⟩ := Option.map_eq_some_iff.1 hj
    obtain ⟨hjl, hx⟩ := List.getElem?_eq_some_iff.1 hx
    rw [Nat.zero_add, Lib.bytesWorld_cell _ _ _ _ (by rw [hsz]; exact hjl)]
    simp [List.getD, hjl, hx]
  · exact ⟨rfl, rfl, rfl, by rw [Lib.bytesWorld_size]; omega, fun k hk _ => Lib.bytesWorld_at_old w _ _ k hk⟩
  · intro k hk
    have : w.heap.size = k := by simpa [Value.ownBlock] using hk
    rw [Lib.bytesWorld_size]
    omega
theorem own_none (w : World) (base : Nat) (e : TypeId) (hb : base ≤ w.heap.size) : Own (w.alloc (.cells #[] e)) base e (.slice (some ⟨w.heap.size, 0, none⟩) 0 0) [] :=
  ⟨rfl, .inr ⟨w.heap.size, 0, #[], rfl, hb, heap_alloc_new w _, Nat.le_refl _, Nat.zero_le _, rfl, rfl⟩⟩
theorem wpList_conv_string {ops : Array Oper} {rest : List Oper} {o : Oper} {a : Act} {Q : Exit → Act → World → Prop} (src dst : TypeId) (x : Operand) (ho : o.op = .convert src dst x) (hs : Tryz.prog.underlying src = some .string) (hd : Tryz.prog.underlying dst = some (.slice 5))
    (hx : a.eval x = .string ⟨xs.toArray⟩) (hw : Region.wanted o (yielded ops a.tmps) = true) (hl : xs.length ≤ 9223372036854775807)
    (hK : ∀ wN A c, Byt wN wN.heap.size (.slice A xs.length c) xs → Upd [] w wN → (∀ k, (Value.slice A xs.length c).ownBlock = some k → w.heap.size ≤ k ∧ k < wN.heap.size) → wpList Tryz.prog ops Q rest (a.put o.dst (.slice A xs.length c)) wN) : wpList Tryz.prog ops Q (o :: rest) a w := by
  obtain ⟨wN, A, c, hrun, h1, h2, h3⟩ := conv_string w src dst hs hd xs hl
  refine BigFrame.wpList_want hw fun K' hK' => ?_
  unfold Oper.wp execOp
  simp only [ho, hx, Sem.run_bind, Sem.run_pure, hrun, Result.andThen_ok]
  exact hK' _ _ (hK wN A c h1 h2 h3)
theorem Em.bytesOf (h : Em w1 q v base off pl ic B F st R w2) (hu : Upd [] w2 w3) (hc : Byt w3 w3.heap.size content xs) (hn : ∀ k, content.ownBlock = some k → w2.heap.size ≤ k) (hR : R' + xs.length ≤ R) :
    Calls Tryz.prog 89 #[.pointer (some ⟨q, 0, none⟩), content] w3 (EmP w1 q v base off pl ic B F (app st (some xs)) R') := by
  have h3 := h.new hu
  obtain ⟨v2, hb, hu2, hv2⟩ := h.main
  have hb3 : BS w3 base q v2 off pl ic st := hb.upd hu (by simp) (by simp)
  have hr := h.room
  have ho := olen_app st (some xs)
  have h1 : olen (some xs) = xs.length := rfl
  have hq : q < w2.heap.size := by obtain ⟨cs, hbl⟩ := hb.isBlk; exact hbl.lt
  cases st with
  | some bs =>
    refine (AddBytes_any hb3 ⟨_, hc, .inr fun k hk => ⟨?_, fun he => ?_⟩⟩ (by omega) (by omega)).mono fun e w' hp => h3.step (hu2.trans hu (by simp)) hv2 hp (by omega)
    · have := hn k hk; omega
    · have := hn k hk
      have := (Own.ge (hb : Bld w2 base q v2 off pl ic bs).2.2 he).2
      omega
  | none =>
    have hA := AddBytes_any (base := base) (p := q) (v := .slice none 0 0) (off := off) (pl := pl) (ic := ic) (st := none) hb3 ⟨_, hc, .inr fun k hk => ⟨by have := hn k hk; omega, by simp [Value.ownBlock]⟩⟩ (by simp [olen]) (by omega)
    refine hA.mono fun e w' hp => ?_
    obtain ⟨he, v', hb', hu', -⟩ := hp
    have hp : BSP w3 base q v2 off pl ic none e w' := ⟨he, v2, hb', hu'.mono (by simp [Value.ownBlock]), .inl rfl⟩
    exact h3.step (hu2.trans hu (by simp)) hv2 hp (by simp [app, olen] at *; omega)
end
end Go.Proofs.YtaajmfgplhfncaaGreat
namespace Go.Proofs.YtaajmfgplhfncaaGreat
open Go.RowKit
set_option maxRecDepth 100000
section
variable {w w' : World} {B : Nat} {v content : Value} {ls : List (List UInt8)} {e : Ending} {S : List Nat}
def LstN (w : World) (ls : List (List UInt8)) (e : Ending) (w' : World) : Prop := ∃ v, e = .returned v ∧ Lst w' w'.heap.size v ls ∧ Upd [] w w' ∧ ∀ k, v.ownBlock = some k → w.heap.size ≤ k
def OctRel (w : World) (ls : List (List UInt8)) (gk : Nat) (v i : Value) (wr : World) : Prop :=
  ∃ (j : Nat) (us : List Value), j + gk = ls.length ∧ i = .int .i64 (j : Int) ∧ Own wr w.heap.size 23 v us ∧ All2 (fun u l => Byt wr wr.heap.size u l ∧ ∀ g, u.ownBlock = some g → g < wr.heap.size ∧ v.ownBlock ≠ some g) us (ls.take j) ∧ Upd [] w wr
theorem oct_step {j : Nat} {us : List Value} {v v3 u : Value} {wr wN w3 : World} {o : Obj} (hj : j < ls.length) (hown : Own wr w.heap.size 23 v us) (hall : All2 (fun u l => Byt wr wr.heap.size u l ∧ ∀ g, u.ownBlock = some g → g < wr.heap.size ∧ v.ownBlock ≠ some g) us (ls.take j)) (hu : Upd [] w wr)
    (hy : Byt wN wN.heap.size u ls[j]) (huN : Upd [] wr wN) (hn : ∀ k, u.ownBlock = some k → wr.heap.size ≤ k ∧ k < wN.heap.size) (hap : Appended (wN.alloc o) w.heap.size 23 v (us ++ [u]) v3 w3) :
    OctRel w ls (ls.length - (j + 1)) v3 (.int .i64 ((j + 1 : Nat) : Int)) w3 := by
  obtain ⟨h1, h2, h3⟩ := hap.one
  have hvl : ∀ g, v.ownBlock = some g → g < wr.heap.size := fun g hg => (hown.ge hg).2
  have hsz := huN.size
  have hne : ∀ (x : Value), (∀ g, x.ownBlock = some g → g < wN.heap.size) → (∀ g, x.ownBlock = some g → v.ownBlock ≠ some g) → ∀ g, x.ownBlock = some g → v3.ownBlock ≠ some g := by
    intro x hx hxv g hg h
    rcases h3 with h3 | ⟨k, h3, hk⟩
    · rw [h3] at h; exact hxv g hg h
    · rw [h3] at h; injection h with h; have := hx g hg; omega
  have key : ∀ {x : Value} {l : List UInt8}, Byt wN wN.heap.size x l → (∀ g, x.ownBlock = some g → v.ownBlock ≠ some g) → Byt w3 w3.heap.size x l := by
    intro x l hb hxv
    exact (Row.apart hb h2 (fun g hg hm => hxv g hg (Option.mem_toList.1 hm))).shrink
  refine ⟨j + 1, us ++ [u], by omega, rfl, h1, ?_, (hu.trans huN (by simp)).trans h2 (fun x hx => .inr (hown.ge (Option.mem_toList.1 hx)).1)⟩
  rw [List.take_succ_eq_append_getElem hj]
  have hsz3 := h2.size
  refine All2.snoc (hall.imp fun x l hx => ⟨key (Row.upd hx.1 huN (by simp)).shrink (fun g hg => (hx.2 g hg).2), fun g hg => ⟨?_, hne x (fun g hg => Nat.lt_of_lt_of_le (hx.2 g hg).1 hsz) (fun g hg => (hx.2 g hg).2) g hg⟩⟩) ⟨key hy (fun g hg h => ?_), fun g hg => ⟨?_, hne u (fun g hg => (hn g hg).2) (fun g hg h => ?_) g hg⟩⟩
  · have := (hx.2 g hg).1; omega
  · have := (hn g hg).1; have := hvl g h; omega
  · have := (hn g hg).2; omega
  · have := (hn g hg).1; have := hvl g h; omega
set_option maxHeartbeats 1000000 in
theorem octets_any (hc : Row w B content (ls.map fun x => Value.string ⟨x.toArray⟩)) (hx : ls.length ≤ 1099511627776) (hxs : ∀ x ∈ ls, x.length ≤ 2147483647) : Calls Tryz.prog 21 #[content] w (LstN w ls) := by
  obtain ⟨A, c, rfl, hcr, hlc, hm⟩ := Row.formN (n := ls.length) (Row.shrink hc) (by simp)
  have HX := hid hx
  have HXS := hid hxs
  clear hx hc hxs
  go_enter Tryz.func21, Tryz.ntmps21
  go_wp2_with fail
  go_loopg [3, 8] ls.length (fun gk v i wr => OctRel w ls gk v i wr)
  case atStart => exact ⟨0, [], by omega, rfl, Own.nil_ _ _ _, trivial, Upd.refl _ _⟩
  case round =>
    obtain ⟨j, us, hj0, rfl, hown, hall, hu⟩ := hrel
    have hj : j ≤ ls.length := by omega
    have HJ := hid hj0
    clear hj0
    by_cases hlt : j < ls.length
    · have hcw := Row.upd hcr hu (by simp)
      obtain ⟨b, o, rfl, hb, hj', hcell⟩ := hcw.at_ hlt
      rw [List.getElem_map] at hcell
      have hxl := HXS.out _ (List.getElem_mem hlt)
      have hsz := hu.size
      have hul : us.length ≤ ls.length := by have := hall.length; rw [List.length_take] at this; omega
      have HA := hid hall
      clear hall hcw
      go_wp2_with (first
        | (refine wpList_conv_string 9 23 _ rfl Tryz.underlying9 Tryz.underlying23 rfl rfl (by omega) ?_; intro wN A9 c9 hyN huN hnN)
        | (at_builtin; go_must (refine wpList_append_row _ rfl _ _ _ rfl w.heap.size 23 (.slice none 0 0) 24 Tryz.underlying26 info_bytes rfl rfl ((Own.upd hown huN (by simp)).upd ((Upd.refl [] _).alloc _) (by simp)) rfl (Row.one _ _ _) (by intro u hu; simp at hu; subst hu; rfl) (by have := HX.out; simp; omega) (by have := HX.out; simp; omega) (by have := huN.size; simp; omega) ?_; intro v3 w3 hap)))
      go_roundg (ls.length - (j + 1))
      case measure => have := HJ.out; omega
      case rel =>
        have hap' : Appended (wN.alloc (.cells #[.slice A9 ls[j].length c9] 23)) w.heap.size 23 u3 (us ++ [.slice A9 ls[j].length c9]) v3 w3 := hap
        exact oct_step hlt hown HA.out hu hyN huN hnN hap'
    · obtain rfl : j = ls.length := by omega
      rw [List.take_length] at hall
      go_wp2
      go_ret
      exact ⟨_, rfl, ⟨us, hown.row, hall.imp fun _ _ h => h.1⟩, hu, fun k hk => (hown.ge hk).1⟩
end
end Go.Proofs.YtaajmfgplhfncaaGreat
namespace Go.Proofs.YtaajmfgplhfncaaGreat
set_option maxRecDepth 20000
namespace R
end R
theorem bodyR_of {kind : Nat} {data : List UInt8} (h4 : 4 ≤ data.length) (hk : beNat (data.take 1) = kind) (hl : beNat ((data.drop 1).take 3) = data.length - 4) : bodyR kind data = ⟨data.drop 4, 0⟩ := by
  have h1 : ¬ data.length < 1 := by omega
  have e1 : (R.mk data 0).num 1 = (beNat (data.take 1), ⟨data.drop 1, 0⟩) := by simp [R.num, R.take, h1]
  have e2 : (R.mk (data.drop 1) 0).num 3 = (beNat ((data.drop 1).take 3), ⟨data.drop 4, 0⟩) := by
    have : ¬ (data.drop 1).length < 3 := by simp; omega
    unfold R.num R.take
    simp only [if_neg this]
    simp
  have hl' : beNat ((data.drop 1).take 3) = (data.drop 4).length := by rw [hl]; simp
  unfold bodyR
  simp only [if_neg (show ¬ data.length < 4 by omega), e1, if_pos hk, e2, if_pos hl']
end Go.Proofs.YtaajmfgplhfncaaGreat
namespace Go.Proofs.YtaajmfgplhfncaaGreat
set_option maxRecDepth 20000
namespace R
theorem num_ok {bs : List UInt8} {k : Nat} (h : k ≤ bs.length) : (R.mk bs 0).num k = (beNat (bs.take k), ⟨bs.drop k, 0⟩) := by
  simp [num, take, show ¬ bs.length < k by omega]
theorem num_bad {bs : List UInt8} {k : Nat} (h : bs.length < k) : ((R.mk bs 0).num k).2 = ⟨[], 3⟩ := by
  simp [num, take, h, fail]
theorem vec_none {bs : List UInt8} {size : Nat} (h : lp size bs = none) (lo hi : Nat) : (R.mk bs 0).vec size lo hi = ([], ⟨[], 3⟩) := by
  unfold lp at h
  unfold vec
  by_cases h1 : size ≤ bs.length
  · rw [if_pos h1] at h
    rw [num_ok h1]
    by_cases h2 : beNat (bs.take size) ≤ (bs.drop size).length
    · rw [if_pos h2] at h; cases h
    · have e : (R.mk (bs.drop size) 0).long (beNat (bs.take size)) = ⟨[], 3⟩ := by
        unfold long
        rw [if_pos ⟨rfl, by show (bs.drop size).length < _; omega⟩]
        rfl
      simp only [e]
      rfl
  · have e := num_bad (bs := bs) (k := size) (by omega)
    have e2 : ((R.mk bs 0).num size).2.long ((R.mk bs 0).num size).1 = ⟨[], 3⟩ := by
      rw [e]
      unfold long
      rw [if_neg (by simp)]
    simp only [e2]
    rfl
theorem vec_some {bs x r : List UInt8} {size : Nat} (h : lp size bs = some (x, r)) (lo hi : Nat) : (R.mk bs 0).vec size lo hi = (x, (R.mk r 0).rng x.length lo hi) := by
  unfold lp at h
  by_cases h1 : size ≤ bs.length
  · rw [if_pos h1] at h
    by_cases h2 : beNat (bs.take size) ≤ (bs.drop size).length
    · rw [if_pos h2] at h
      injection h with h
      injection h with hx hr
      have e : (R.mk (bs.drop size) 0).long (beNat (bs.take size)) = ⟨bs.drop size, 0⟩ := by
        unfold long
        rw [if_neg (by simp at h2 ⊢; omega)]
      have hxl : x.length = beNat (bs.take size) := by rw [← hx, List.length_take]; omega
      unfold vec
      rw [num_ok h1]
      simp only [e]
      have et : (R.mk (bs.drop size) 0).take (beNat (bs.take size)) = (x, ⟨r, 0⟩) := by
        unfold take
        rw [if_neg (by simp at h2 ⊢; omega), hx, hr]
      rw [et, hxl]
      rfl
    · rw [if_neg h2] at h; cases h
  · rw [if_neg h1] at h; cases h
end R
theorem lp_len {bs x r : List UInt8} {size : Nat} (h : lp size bs = some (x, r)) : x.length < 256 ^ size ∧ size + x.length + r.length = bs.length := by
  unfold lp at h
  by_cases h1 : size ≤ bs.length
  · rw [if_pos h1] at h
    by_cases h2 : beNat (bs.take size) ≤ (bs.drop size).length
    · rw [if_pos h2] at h
      injection h with h
      injection h with hx hr
      have h3 := beNat_lt (bs.take size)
      have h4 : (bs.take size).length = size := by simp; omega
      rw [h4] at h3
      have h5 : x.length = beNat (bs.take size) := by rw [← hx, List.length_take]; omega
      have h6 : r.length = (bs.drop size).length - beNat (bs.take size) := by rw [← hr, List.length_drop]
      simp at h2 h6
      omega
    · rw [if_neg h2] at h; cases h
  · rw [if_neg h1] at h; cases h
end Go.Proofs.YtaajmfgplhfncaaGreat
namespace Go.Proofs.YtaajmfgplhfncaaGreat
set_option maxRecDepth 20000
abbrev Ex := UInt16 × List UInt8
def ext1 (bs : List UInt8) : Option (Ex × List UInt8) := match bs with
  | a :: b :: t => (lp 2 t).map fun p => ((UInt16.ofNat (a.toNat * 256 + b.toNat), p.1), p.2)
  | _ => none
theorem ext1_two (a b : UInt8) (t : List UInt8) : ext1 (a :: b :: t) = (lp 2 t).map fun p => ((UInt16.ofNat (a.toNat * 256 + b.toNat), p.1), p.2) := rfl
theorem ext1_len {bs : List UInt8} {e : Ex} {r : List UInt8} (h : ext1 bs = some (e, r)) : 4 + e.2.length + r.length = bs.length ∧ e.2.length < 65536 := by
  match bs, h with
  | a :: b :: t, h =>
    rw [ext1_two] at h
    rcases hL : lp 2 t with _ | ⟨x, r'⟩
    · rw [hL] at h; cases h
    · rw [hL] at h
      injection h with h
      injection h with h1 h2
      subst h1 h2
      have := lp_len hL
      simp only [List.length_cons]
      omega
def extsGo : Nat → List UInt8 → Option (List Ex)
  | 0, _ => none
  | f + 1, bs => if bs = [] then some [] else match ext1 bs with
    | some (e, r) => (extsGo f r).map (e :: ·)
    | none => none
def exts (bs : List UInt8) : Option (List Ex) := extsGo (bs.length + 1) bs
theorem extsGo_eq (f g : Nat) (d : List UInt8) (hf : d.length < f) (hg : d.length < g) : extsGo f d = extsGo g d := by
  induction f generalizing g d with
  | zero => omega
  | succ f ih =>
    cases g with
    | zero => omega
    | succ g =>
      unfold extsGo
      by_cases h0 : d = []
      · rw [if_pos h0, if_pos h0]
      · rw [if_neg h0, if_neg h0]
        rcases hL : ext1 d with _ | ⟨e, r⟩
        · rfl
        · have := (ext1_len hL).1
          show (extsGo f r).map (e :: ·) = (extsGo g r).map (e :: ·)
          rw [ih g r (by omega) (by omega)]
theorem exts_none {d : List UInt8} (hL : ext1 d = none) (h0 : d ≠ []) : exts d = none := by
  unfold exts extsGo
  rw [if_neg h0, hL]
theorem exts_step {d r : List UInt8} {e : Ex} (hL : ext1 d = some (e, r)) : exts d = (exts r).map (e :: ·) := by
  have hl := (ext1_len hL).1
  have h0 : d ≠ [] := by intro h; rw [h] at hL; cases hL
  unfold exts
  rw [show extsGo (d.length + 1) d = (extsGo d.length r).map (e :: ·) by
    conv => lhs; unfold extsGo
    rw [if_neg h0, hL]]
  rw [extsGo_eq d.length (r.length + 1) r (by omega) (by omega)]
section
variable {σ : Type} {stp : σ → Ex → Option σ}
end
def R.twice (x : R) : Bool → R
  | true => x.fail 4
  | false => x
theorem R.twice_three (c : Bool) : (R.mk [] 3).twice c = ⟨[], 3⟩ := by cases c <;> rfl
def R.extsGo : Nat → R → List Ex → List Ex × R
  | 0, x, out => (out, x)
  | f + 1, x, out => if x.bs = [] then (out, x) else
    R.extsGo f (((x.num 2).2.vec 2 0 65535).2.twice (out.any (·.1 == UInt16.ofNat (x.num 2).1))) (out ++ [(UInt16.ofNat (x.num 2).1, ((x.num 2).2.vec 2 0 65535).1)])
def R.block (s : R) : R := (s.vec 2 0 65535).2.within (s.vec 2 0 65535).1
def R.exts (s : R) : List Ex × R := ((R.extsGo s.block.bs.length s.block []).1, (s.vec 2 0 65535).2.done (R.extsGo s.block.bs.length s.block []).2)
theorem rng_all {r : List UInt8} {n c : Nat} (h : n ≤ 65535) : (R.mk r c).rng n 0 65535 = ⟨r, c⟩ := by
  unfold R.rng; rw [if_neg (by omega)]
theorem vec2_none {bs : List UInt8} (h : lp 2 bs = none) : (R.mk bs 0).vec 2 0 65535 = ([], ⟨[], 3⟩) := R.vec_none h _ _
theorem vec2_some {bs x r : List UInt8} (h : lp 2 bs = some (x, r)) : (R.mk bs 0).vec 2 0 65535 = (x, ⟨r, 0⟩) := by
  rw [R.vec_some h, rng_all (by have := (lp_len h).1; omega)]
theorem num2_two (a b : UInt8) (t : List UInt8) (c : Nat) : (R.mk (a :: b :: t) c).num 2 = (a.toNat * 256 + b.toNat, ⟨t, c⟩) := by
  unfold R.num R.take
  rw [if_neg (by simp)]
  simp [beNat]
theorem num2_one (a : UInt8) : (R.mk [a] 0).num 2 = (0, ⟨[], 3⟩) := rfl
theorem R.extsGo_law (f : Nat) (d : List UInt8) (out : List Ex) (hf : d.length ≤ f) (hn : (out.map (·.1)).Nodup) :
    (R.extsGo f ⟨d, 0⟩ out).2.bs = [] ∧
    (((R.extsGo f ⟨d, 0⟩ out).2.code = 0 ∧ ∃ l, Go.Proofs.YtaajmfgplhfncaaGreat.exts d = some l ∧ (R.extsGo f ⟨d, 0⟩ out).1 = out ++ l ∧ ((out ++ l).map (·.1)).Nodup) ∨
     ((R.extsGo f ⟨d, 0⟩ out).2.code = 3 ∧ Go.Proofs.YtaajmfgplhfncaaGreat.exts d = none) ∨
     ((R.extsGo f ⟨d, 0⟩ out).2.code = 4 ∧ ∀ l, Go.Proofs.YtaajmfgplhfncaaGreat.exts d = some l → ¬ ((out ++ l).map (·.1)).Nodup)) := by
  have hstop : ∀ (g : Nat) (c : Nat) (out : List Ex), R.extsGo g ⟨[], c⟩ out = (out, ⟨[], c⟩) := by
    intro g c out
    cases g with
    | zero => rfl
    | succ g => unfold R.extsGo; simp
  induction f generalizing d out with
  | zero =>
    have : d = [] := List.eq_nil_of_length_eq_zero (by omega)
    subst this
    exact ⟨rfl, .inl ⟨rfl, [], rfl, by simp [R.extsGo], by simpa using hn⟩⟩
  | succ f ih =>
    match d, hf with
    | [], _ =>
      rw [hstop]
      exact ⟨rfl, .inl ⟨rfl, [], rfl, by simp, by simpa using hn⟩⟩
    | [a], _ =>
      have hE : Go.Proofs.YtaajmfgplhfncaaGreat.exts [a] = none := exts_none rfl (by simp)
      unfold R.extsGo
      rw [if_neg (by simp)]
      simp only [num2_one]
      have hv : (R.mk [] 3).vec 2 0 65535 = ([], ⟨[], 3⟩) := rfl
      rw [hv]
      dsimp only; rw [R.twice_three, hstop]
      exact ⟨rfl, .inr (.inl ⟨rfl, hE⟩)⟩
    | a :: b :: t, hf =>
      unfold R.extsGo
      rw [if_neg (by simp)]
      simp only [num2_two]
      have h1 := ext1_two a b t
      rcases hL : lp 2 t with _ | ⟨x, r⟩
      · rw [hL] at h1
        have hE : Go.Proofs.YtaajmfgplhfncaaGreat.exts (a :: b :: t) = none := exts_none h1 (by simp)
        rw [vec2_none hL]
        dsimp only; rw [R.twice_three, hstop]
        exact ⟨rfl, .inr (.inl ⟨rfl, hE⟩)⟩
      · rw [hL] at h1
        have hlen := (lp_len hL).2
        rw [vec2_some hL]
        have hE : Go.Proofs.YtaajmfgplhfncaaGreat.exts (a :: b :: t) = (Go.Proofs.YtaajmfgplhfncaaGreat.exts r).map ((UInt16.ofNat (a.toNat * 256 + b.toNat), x) :: ·) := exts_step h1
        generalize UInt16.ofNat (a.toNat * 256 + b.toNat) = k at hE
        by_cases hany : out.any (·.1 == k) = true
        · have hx : (R.mk r 0).twice true = ⟨[], 4⟩ := rfl
          rw [hany, hx, hstop]
          refine ⟨rfl, .inr (.inr ⟨rfl, fun l hl => ?_⟩)⟩
          rw [hE] at hl
          rcases hr : Go.Proofs.YtaajmfgplhfncaaGreat.exts r with _ | l'
          · rw [hr] at hl; cases hl
          · rw [hr] at hl
            cases hl
            intro hnd
            rw [List.map_append, List.nodup_append] at hnd
            obtain ⟨e, he, hk⟩ := List.any_eq_true.1 hany
            have hk : e.1 = k := by simpa using hk
            exact hnd.2.2 k (by rw [← hk]; exact List.mem_map_of_mem he) k (by simp) rfl
        · have hany' : (out.any (·.1 == k)) = false := Bool.eq_false_iff.2 hany
          have hs : (R.mk r 0).twice false = ⟨r, 0⟩ := rfl
          rw [hany', hs]
          have hk : k ∉ out.map (·.1) := by
            intro hm
            obtain ⟨e, he, hk⟩ := List.mem_map.1 hm
            have := List.any_eq_false.1 hany' e he
            simp [hk] at this
          have hn' : ((out ++ [(k, x)]).map (·.1)).Nodup := by
            rw [List.map_append, List.nodup_append]
            refine ⟨hn, by simp, ?_⟩
            intro a ha b hb hab
            simp at hb
            subst hb hab
            exact hk ha
          obtain ⟨i1, i2⟩ := ih r (out ++ [(k, x)]) (by simp at hf hlen; omega) hn'
          refine ⟨i1, ?_⟩
          rcases i2 with ⟨c0, l, hl, ho, hnd⟩ | ⟨c3, hl⟩ | ⟨c4, hl⟩
          · exact .inl ⟨c0, (k, x) :: l, by rw [hE, hl]; rfl, by rw [ho]; simp, by simpa using hnd⟩
          · exact .inr (.inl ⟨c3, by rw [hE, hl]; rfl⟩)
          · refine .inr (.inr ⟨c4, fun l hl' => ?_⟩)
            rw [hE] at hl'
            rcases hr : Go.Proofs.YtaajmfgplhfncaaGreat.exts r with _ | l'
            · rw [hr] at hl'; cases hl'
            · rw [hr] at hl'
              cases hl'
              have := hl l' hr
              simpa using this
end Go.Proofs.YtaajmfgplhfncaaGreat

/- Contract of cryptobyte's Builder: flushChild. -/
import Derived.Test.YtcdjbciifnoajaaBuild
import Derived.Deep.DeepFit
namespace Go.Proofs.Ytcdjbciifnoajaa
open Go.RowKit
set_option maxRecDepth 100000

section
variable {w w' : World} {base p q off pl : Nat} {v v2 content ic ic2 : Value} {xs bs : List UInt8} {st : Option (List UInt8)} {S : List Nat}

theorem eql_child_nil (w : World) : (binOp .eql 125 (.pointer none) (.pointer none)).run Try.prog w = .ok (.bool true) w := by kernel_rfl

set_option maxHeartbeats 2000000 in
theorem flush_nil {t : World} (c3 : t.cell? ⟨q, 3, none⟩ = some (.pointer none)) :
    Calls Try.prog 107 #[.pointer (some ⟨q, 0, none⟩)] t fun e w' => e = .returned (.tuple #[]) ∧ t = w' := by
  go_enter Try.func107, Try.ntmps107
  go_wp2
  exact bodyPost_ret (results_none rfl _ _ _) rfl ⟨rfl, rfl⟩

/-- the row while the length is being written: gk bytes are still to come -/
def rowAt (bs xs : List UInt8) (n gk : Nat) : List UInt8 := bs ++ List.replicate gk 0 ++ be (n - gk) xs.length ++ xs
theorem rowAt_len (bs xs : List UInt8) (n gk : Nat) (h : gk ≤ n) : (rowAt bs xs n gk).length = bs.length + n + xs.length := by
  simp [rowAt, be_len]; omega
theorem rowAt_set (bs xs : List UInt8) (n j : Nat) (h : j + 1 ≤ n) : (rowAt bs xs n (j + 1)).set (bs.length + j) (UInt8.ofNat (xs.length / 256 ^ (n - (j + 1)))) = rowAt bs xs n j := by
  have e : n - j = (n - (j + 1)) + 1 := by omega
  unfold rowAt
  rw [e, be, List.replicate_succ']
  simp only [List.append_assoc]
  rw [List.set_append_right _ _ (by omega), show bs.length + j - bs.length = j by omega, List.set_append_right _ _ (by simp)]
  simp
theorem rowAt_zero (bs xs : List UInt8) (n : Nat) : rowAt bs xs n 0 = bs ++ be n xs.length ++ xs := by simp [rowAt]
theorem rowAt_full (bs xs : List UInt8) (n : Nat) : rowAt bs xs n n = bs ++ List.replicate n 0 ++ xs := by simp [rowAt, be]

/-- the cells of a builder with a child -/
theorem bcs_cells {t : World} {v child ic : Value} {off pl : Nat} (h : Blk t p 128 (bcs v child off pl ic)) :
    t.cell? ⟨p, 0, none⟩ = some .nilIface ∧ t.cell? ⟨p, 1, none⟩ = some v ∧ t.cell? ⟨p, 2, none⟩ = some (.bool false) ∧ t.cell? ⟨p, 3, none⟩ = some child ∧
    t.cell? ⟨p, 4, none⟩ = some (.int .i64 (off : Int)) ∧ t.cell? ⟨p, 5, none⟩ = some (.int .i64 (pl : Int)) ∧ t.cell? ⟨p, 6, none⟩ = some (.bool false) ∧ t.cell? ⟨p, 7, none⟩ = some ic := by
  refine ⟨?_, ?_, ?_, ?_, ?_, ?_, ?_, ?_⟩
  all_goals (rw [h.cell]; rfl)

theorem Own.some_ {t : World} {e : TypeId} {u : Value} {ys : List Value} (h : Own t base e u ys) (hp : 0 < ys.length) : ∃ g c, u = .slice (some ⟨g, 0, none⟩) ys.length c := by
  rcases h.2 with ⟨_, h0⟩ | ⟨g, cap, cur, hv, _⟩
  · omega
  · exact ⟨g, cap, hv⟩

def FRel (w1 : World) (base q : Nat) (v2 : Value) (n : Nat) (ic2 : Value) (bs xs : List UInt8) (gk : Nat) (l i : Value) (wr : World) : Prop :=
  ∃ m : Nat, gk ≤ n ∧ i = .int .i64 ((gk : Int) - 1) ∧ l = .int .i64 (m : Int) ∧ m = xs.length / 256 ^ (n - gk) ∧ Bld wr base q v2 bs.length n ic2 (rowAt bs xs n gk) ∧ Upd v2.ownBlock.toList w1 wr

theorem frel_step {w1 wr : World} {n j m g c : Nat} {l i : Value} {z : Int} (hj : j + 1 ≤ n) (hl : l = .int .i64 ((m / 256 : Nat) : Int)) (hi : i = .int .i64 ((j : Int) - 1)) (hm : m = xs.length / 256 ^ (n - (j + 1))) (hz : z = ((m % 256 : Nat) : Int))
    (hq : Bld wr base q v2 bs.length n ic2 (rowAt bs xs n (j + 1))) (hv : v2 = .slice (some ⟨g, 0, none⟩) (bs.length + n + xs.length) c) (hu : Upd v2.ownBlock.toList w1 wr) :
    FRel w1 base q v2 n ic2 bs xs j l i ((wr.setCell ⟨g, bs.length + j, none⟩ (.int .u8 z)).drew) := by
  have hlen : ((rowAt bs xs n (j + 1)).map bv).length = bs.length + n + xs.length := by rw [List.length_map, rowAt_len _ _ _ _ hj]
  have hlen2 : ((rowAt bs xs n j).map bv).length = bs.length + n + xs.length := by rw [List.length_map, rowAt_len _ _ _ _ (by omega)]
  have hown := hq.2.2
  unfold Own at hown
  rw [hlen, hv] at hown
  have hst := (hown.stored (bs.length + j) (.int .u8 z)).1
  have hg : g ∈ v2.ownBlock.toList := by rw [hv]; simp [Value.ownBlock]
  have hqg : q ≠ g := fun e => hq.2.2.ne hq.2.1 (by decide) g (Option.mem_toList.1 hg) e.symm
  refine ⟨m / 256, by omega, hi, hl, ?_, ⟨hq.1, ?_, ?_⟩, ?_⟩
  · rw [hm, Nat.div_div_eq_div_mul, ← Nat.pow_succ]
    congr 2
    omega
  · exact (hq.2.1.far (p := ⟨g, bs.length + j, none⟩) hqg _).drew
  · show World.ownsRow _ base 5 1 v2 ((rowAt bs xs n j).map bv).length ((rowAt bs xs n j).map bv)
    rw [hlen2, hv]
    have e : ((rowAt bs xs n (j + 1)).map bv).set (bs.length + j) (.int .u8 z) = (rowAt bs xs n j).map bv := by
      rw [← rowAt_set bs xs n j hj, List.map_set, ← hm]
      congr 1
      exact (bv_of hz).symm
    rw [e] at hst
    exact hst.kept (row := none) (World.grownBy.mk rfl rfl rfl (Nat.le_refl _) (fun _ _ _ => rfl)) (by simp [Value.ownBlock])
  · exact (hu.setCell (.inl hg) _).drew

theorem errors_New_any {t : World} (sv : ByteArray) :
    Calls Try.prog 105 #[.string sv] t fun e w' => e = .returned (.iface 145 (.pointer (some ⟨t.heap.size, 0, none⟩))) ∧ Upd [] t w' := by
  go_enter Try.func105, Try.ntmps105
  go_wp2
  go_ret
  exact ⟨rfl, (Upd.refl _ _).alloc _⟩

/-- the state behind a vector: its length's bytes and its content, or none where it is too long -/
def lpOut (n : Nat) (out : Option (List UInt8)) : Option (List UInt8) := match out with
  | some xs => if xs.length < 256 ^ n then some (be n xs.length ++ xs) else none
  | none => none

/-- what flushChild leaves of a parent -/
def FlP (w : World) (base p q : Nat) (v2 : Value) (off pl : Nat) (ic : Value) (st : Option (List UInt8)) (e : Ending) (w' : World) : Prop :=
  e = .returned (.tuple #[]) ∧ BS w' base p v2 off pl ic st ∧ Upd (p :: q :: v2.ownBlock.toList) w w'

theorem flush_end {w1 wr : World} {n nq : Nat} {u : Value} (hfit : xs.length < 256 ^ n) (hpr : Blk wr p 128 (bcs v (.pointer none) off pl ic)) (hbp : base ≤ p) (hq : Bld wr base q v2 bs.length n ic2 (rowAt bs xs n 0)) (hu1 : Upd [p] w w1) (hur : Upd v2.ownBlock.toList w1 wr)
    (hv : u = v2) : FlP w base p q v2 off pl ic (app (some bs) (lpOut n (some xs))) (.returned (.tuple #[])) ((wr.drewN nq).setCell ⟨p, 1, none⟩ u) := by
  subst hv
  refine ⟨rfl, ?_, ?_⟩
  · have h := Bld.stored (bs := rowAt bs xs n 0) (hpr.drewN nq) hbp (v' := u) (Own.upd hq.2.2 ((Upd.refl [] _).drewN nq) (by simp))
    rw [rowAt_zero] at h
    simp only [lpOut, if_pos hfit, app]
    rw [← List.append_assoc]
    exact h
  · refine (((hu1.mono (by simp)).trans hur (fun x hx => ?_)).drewN nq).setCell (by simp) _
    exact .inl (List.mem_cons_of_mem _ (List.mem_cons_of_mem _ hx))

theorem flush_long {w1 wr w2 : World} {n k : Nat} {t : TypeId} (hfit : ¬ xs.length < 256 ^ n) (hpr : Blk w2 p 128 (bcs v (.pointer none) off pl ic)) (hbp : base ≤ p) (hu1 : Upd [p] w w1) (hur : Upd v2.ownBlock.toList w1 wr) (hu2 : Upd [] wr w2) :
    FlP w base p q v2 off pl ic (app (some bs) (lpOut n (some xs))) (.returned (.tuple #[])) (w2.setCell ⟨p, 0, none⟩ (.iface t (.pointer (some ⟨k, 0, none⟩)))) := by
  refine ⟨rfl, ?_, ?_⟩
  · simp only [lpOut, if_neg hfit, app]
    refine ⟨hbp, _, t, .pointer (some ⟨k, 0, none⟩), hpr.set_ 0 _, ?_, ?_, ?_⟩
    · rfl
    · rfl
    · rfl
  · refine (((hu1.mono (by simp)).trans hur (fun x hx => ?_)).trans hu2 (by simp)).setCell (by simp) _
    exact .inl (List.mem_cons_of_mem _ (List.mem_cons_of_mem _ hx))

set_option maxHeartbeats 8000000 in
theorem flush_ok (hp : Blk w p 128 (bcs v (.pointer (some ⟨q, 0, none⟩)) off pl ic)) {n : Nat} (hq : Bld w base q v2 bs.length n ic2 (bs ++ List.replicate n 0 ++ xs)) (hpq : p ≠ q) (hbp : base ≤ p) (hn : 1 ≤ n) (hn3 : n ≤ 3)
    (hl : bs.length ≤ 17592186044416) (hx : xs.length ≤ 17592186044416) :
    Calls Try.prog 107 #[.pointer (some ⟨p, 0, none⟩)] w (FlP w base p q v2 off pl ic (app (some bs) (lpOut n (some xs)))) := by
  have q1 := neq_err_nil
  have q2 := neq_err_some
  obtain ⟨A, c, hve, c0, c1, c2, c3, c4, c5, c6, c7, fz, hlc, hcm⟩ := hq.open_
  obtain ⟨d0, d1, d2, d3, d4, d5, d6, d7⟩ := bcs_cells hp
  have g3 := hp.frozen 3
  have hpl := hp.lt
  have hql := hq.2.1.lt
  have hu1 : Upd [p] w (w.setCell ⟨p, 3, none⟩ (.pointer none)) := (Upd.refl _ _).setCell (by simp) _
  have hq1 : Bld (w.setCell ⟨p, 3, none⟩ (.pointer none)) base q v2 bs.length n ic2 (bs ++ List.replicate n 0 ++ xs) := BS.upd (st := some _) hq hu1 (by simpa using Ne.symm hpq) (fun g hg hm => by
    simp at hm
    exact hq.2.2.ne hp (by decide) g hg hm)
  have hp1 : Blk (w.setCell ⟨p, 3, none⟩ (.pointer none)) p 128 (bcs v (.pointer none) off pl ic) := by
    have := hp.set_ 3 (.pointer none)
    simpa [bcs] using this
  obtain ⟨w1, hw1⟩ : ∃ w1, w.setCell ⟨p, 3, none⟩ (.pointer none) = w1 := ⟨_, rfl⟩
  have HW := hid hw1
  rw [hw1] at hu1 hq1 hp1
  clear hw1
  obtain ⟨A', c', hve', e0, e1, e2, e3, e4, e5, e6, e7, fz', hlc', hcm'⟩ := hq1.open_
  rw [← rowAt_full] at hq1
  have hlen : (bs ++ List.replicate n 0 ++ xs).length = bs.length + n + xs.length := by simp; omega
  rw [hlen] at e1 hlc' hve' c1 hlc hve
  obtain ⟨k0, k1, k2, k3, k4, k5, k6, k7⟩ := bcs_cells hp1
  have hh : Hid (e0 = e0) := rfl
  clear hlc hcm c1 c4 c5 c6 c7 fz hlen hh
  go_enter Try.func107, Try.ntmps107
  go_wp2_with fail
  refine (flush_nil c3).mono ?_
  rintro e w0 ⟨rfl, rfl⟩
  go_wp2_with fail
  rw [HW.out]
  go_quiet (fail)
  rw [show ((bs.length : Int) + (n : Int) + (xs.length : Int) - (n : Int) - (bs.length : Int)) = (xs.length : Int) by omega]
  go_wp2_with fail
  go_loopg [8, 9] n (fun gk l i wr => FRel w1 base q v2 n ic2 bs xs gk l i wr)
  case atStart =>
    refine ⟨xs.length, Nat.le_refl _, rfl, rfl, ?_, BS.upd (S := []) (st := some _) hq1 ((Upd.refl _ _).drewN _) (by simp) (by simp), (Upd.refl _ _).drewN _⟩
    rw [Nat.sub_self, Nat.pow_zero, Nat.div_one]
  case round =>
    obtain ⟨m, hgk, rfl, rfl, hm, hqr, hur⟩ := hrel
    have hmx : m ≤ xs.length := by rw [hm]; exact Nat.div_le_self _ _
    have HM := hid hm
    clear hm
    obtain ⟨Ar, cr, hvr, r0, r1, r2, r3, r4, r5, r6, r7, rz, hlr, hcr⟩ := hqr.open_
    rw [rowAt_len bs xs n gk hgk] at hvr r1 hlr
    obtain ⟨g, cg, hvg⟩ := Own.some_ hqr.2.2 (by rw [List.length_map, rowAt_len _ _ _ _ hgk]; omega)
    rw [List.length_map, rowAt_len bs xs n gk hgk] at hvg
    rw [hvg] at hvr
    injection hvr with hA _ hc
    subst hA hc
    have hown := hqr.2.2
    rw [hvg] at hown
    have hownT : wr.ownsRow base 5 1 (.slice (some ⟨g, 0, none⟩) (bs.length + n + xs.length) cg) (bs.length + n + xs.length) ((rowAt bs xs n gk).map bv) := by
      have h := hown
      unfold Own at h
      rw [show ((rowAt bs xs n gk).map bv).length = bs.length + n + xs.length by rw [List.length_map, rowAt_len _ _ _ _ hgk]] at h
      exact h
    have Hvg := hid hvg
    clear hvg
    have hpv : p ∉ v2.ownBlock.toList := fun hm => hqr.2.2.ne (hp1.upd hur (fun hm' => hq1.2.2.ne hp1 (by decide) _ (Option.mem_toList.1 hm') rfl)) (by decide) _ (Option.mem_toList.1 hm) rfl
    have hpr := hp1.upd hur hpv
    obtain ⟨s0, s1, s2, s3, s4, s5, s6, s7⟩ := bcs_cells hpr
    have z0 := hpr.frozen 0
    have z1 := hpr.frozen 1
    by_cases hk : gk = 0
    · subst hk
      have hz : ¬ ((0 : Int) ≤ ((0 : Nat) : Int) - 1) := by omega
      by_cases hm0 : m = 0
      · have hmt : ((m : Int) != 0) = false := by simp [hm0]
        have HM0 := hid hm0
        clear hm0
        go_wp2_with fail
        go_quiet (fail)
        go_wp2
        go_end0
        have hfit : xs.length < 256 ^ n := by
          have h1 := HM.out
          rw [HM0.out] at h1
          exact (Nat.div_eq_zero_iff_lt (Nat.pow_pos (by omega))).1 h1.symm
        exact flush_end hfit hpr hbp hqr hu1 hur Hvg.out.symm
      · have hmt : ((m : Int) != 0) = true := by simp [hm0]
        have HM0 := hid hm0
        clear hm0
        go_wp2_with fail
        refine (errors_New_any _).mono ?_
        rintro e w2 ⟨rfl, hu2⟩
        have hpr2 := hpr.upd hu2 (by simp)
        obtain ⟨s0, s1, s2, s3, s4, s5, s6, s7⟩ := bcs_cells hpr2
        have z0 := hpr2.frozen 0
        go_wp2
        have hfit : ¬ xs.length < 256 ^ n := by
          intro h
          have h1 := HM.out
          exact HM0.out (h1.trans ((Nat.div_eq_zero_iff_lt (Nat.pow_pos (by omega))).2 h))
        exact bodyPost_ret (results_none rfl _ _ _) rfl (flush_long hfit hpr2 hbp hu1 hur hu2)
    · obtain ⟨j, rfl⟩ : ∃ j, gk = j + 1 := ⟨gk - 1, by omega⟩
      have e : (((j + 1 : Nat) : Int) - 1) = (j : Int) := by omega
      rw [e]
      clear e hk
      have hgz := hownT.frozenAt (bs.length + j)
      have hgc := hownT.cellAt (bs.length + j) (by omega)
      obtain ⟨y, hy⟩ : ∃ y, ((rowAt bs xs n (j + 1)).map bv)[bs.length + j]? = some y := ⟨_, List.getElem?_eq_getElem (by rw [List.length_map, rowAt_len _ _ _ _ hgk]; omega)⟩
      rw [hy] at hgc
      clear hy
      go_wp2_with fail
      go_still_tail 12, (by kernel_rfl)
      go_wp2
      go_roundg j
      case measure => omega
      case rel => exact frel_step hgk (by go_num) (by go_num) HM.out (by omega) hqr Hvg.out hur

set_option maxHeartbeats 4000000 in
/-- the child has an error: the parent has it, too -/
theorem flush_err (hp : Blk w p 128 (bcs v (.pointer (some ⟨q, 0, none⟩)) off pl ic)) (hq : BErr w base q) (hpq : p ≠ q) (hbp : base ≤ p) :
    Calls Try.prog 107 #[.pointer (some ⟨p, 0, none⟩)] w (FlP w base p q v2 off pl ic none) := by
  have q1 := neq_err_nil
  have q2 := neq_err_some
  obtain ⟨t, x, c0, c3⟩ := hq.open_
  obtain ⟨d0, d1, d2, d3, d4, d5, d6, d7⟩ := bcs_cells hp
  have g3 := hp.frozen 3
  have hf0 := hp.frozen 0
  have hu1 : Upd [p] w (w.setCell ⟨p, 3, none⟩ (.pointer none)) := (Upd.refl _ _).setCell (by simp) _
  have hp1 : Blk (w.setCell ⟨p, 3, none⟩ (.pointer none)) p 128 (bcs v (.pointer none) off pl ic) := by
    have := hp.set_ 3 (.pointer none)
    simpa [bcs] using this
  have e0 : (w.setCell ⟨p, 3, none⟩ (.pointer none)).cell? ⟨q, 0, none⟩ = some (.iface t x) := hu1.cell c0 (by simpa using Ne.symm hpq)
  go_enter Try.func107, Try.ntmps107
  go_wp2_with fail
  refine (flush_nil c3).mono ?_
  rintro e w0 ⟨rfl, rfl⟩
  go_wp2
  refine bodyPost_ret (results_none rfl _ _ _) rfl ⟨rfl, ⟨hbp, _, t, x, hp1.set_ 0 _, rfl, rfl, rfl⟩, ?_⟩
  exact (hu1.mono (by simp)).setCell (by simp) _
end
end Go.Proofs.Ytcdjbciifnoajaa

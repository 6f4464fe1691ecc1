/- CertificateRequest up to TLS 1.2: the package's 'Unmarshal'. -/
import Derived.Test.YtddkjhlngofkaaaRqU
import Derived.Test.YtddkjhlngofkaaaRqV
namespace Go.Proofs.Ytddkjhlngofkaaa
open Go.RowKit
set_option maxRecDepth 100000

theorem rqRead_size {has : Bool} {data : List UInt8} {t : Rq} (h : rqRead has data = some t) : t.sig.length ≤ data.length := by
  unfold rqRead at h
  split at h
  · cases h
  · split at h
    · rcases hL : lp 1 (data.drop 4) with _ | ⟨x, d⟩
      · rw [hL] at h; cases h
      · rw [hL] at h
        have hl := (lp_len hL).2
        cases x with
        | nil => cases h
        | cons y ts =>
          have h : rqRest has (y :: ts) d = some t := h
          have hd : d.length ≤ data.length := by
            have : (data.drop 4).length ≤ data.length := by simp
            omega
          cases has with
          | false =>
            have h : (rqCas (lp 2 d)).map _ = some t := h
            obtain ⟨l, -, rfl⟩ := Option.map_eq_some_iff.1 h
            simp
          | true =>
            have h : rqSig (y :: ts) (lp 2 d) = some t := h
            rcases hL2 : lp 2 d with _ | ⟨x2, r2⟩
            · rw [hL2] at h; cases h
            · rw [hL2, rqSig_some] at h
              split at h
              · cases h
              · obtain ⟨l, -, rfl⟩ := Option.map_eq_some_iff.1 h
                have h1 := wordsOf_len x2
                have h2 := (lp_len hL2).2
                show (wordsOf x2).length ≤ data.length
                omega
    · cases h
section
variable {w w' : World} {B m lo n : Nat} {v content : Value} {data : List UInt8} {e : Ending} {t : Rq}
theorem Rq.zero_firm (w : World) : Firm RqV B n w (.agg #[.bool false, .slice none 0 0, .slice none 0 0, .slice none 0 0]) Rq.zero := by
  have : ∀ w : World, RqV w w.heap.size (.agg #[.bool false, .slice none 0 0, .slice none 0 0, .slice none 0 0]) Rq.zero := fun w => ⟨none, 0, none, 0, none, 0, rfl, Row.nil_ _ _, Row.nil_ _ _, Lst.nil_ _ _, by simp [Rq.zero]⟩
  exact ⟨this w, fun w' _ _ _ => this w'⟩
theorem RqRows.val {has : Bool} {A1 A2 A3 : Option Addr} {c1 c2 c3 : Nat} (h : RqRows w (.slice A1 t.types.length c1) (.slice A2 t.sig.length c2) (.slice A3 t.cas.length c3) t) (hh : t.has = has) (hz : t.sig.length ≤ 1099511627776) :
    RqV w w.heap.size (.agg #[.bool has, .slice A1 t.types.length c1, .slice A2 t.sig.length c2, .slice A3 t.cas.length c3]) t := ⟨A1, c1, A2, c2, A3, c3, by rw [hh], h.1, h.2.1, h.2.2, hz⟩
set_option maxHeartbeats 4000000 in
theorem tls_UnRq (has : Bool) (hv : Byt w B v data) (hB : B ≤ w.heap.size) (hx : data.length ≤ 2147483647) : Calls Try.prog 46 #[.bool has, v] w (UnF RqV B w Rq.zero (rqRead has data)) := by
  obtain ⟨A, c, rfl, hv, hl, hc⟩ := Byt.form hv rfl
  obtain ⟨w1, hw1⟩ : ∃ w1, (w.alloc (.cells #[.bool false, .slice none 0 0, .slice none 0 0, .slice none 0 0] 74)).alloc (.cells #[.bool has, .slice none 0 0, .slice none 0 0, .slice none 0 0] 121) = w1 := ⟨_, rfl⟩
  obtain ⟨s, hs⟩ : ∃ s, w.heap.size = s := ⟨_, rfl⟩
  have hu1 : Upd [] w w1 := by rw [← hw1]; exact ((Upd.refl _ _).alloc _).alloc _
  have hb1 : Blk w1 s 74 #[.bool false, .slice none 0 0, .slice none 0 0, .slice none 0 0] := by rw [← hw1, ← hs]; exact (Blk.new _ _ _).alloc _
  have hm1 : Blk w1 (s + 1) 121 #[.bool has, .slice none 0 0, .slice none 0 0, .slice none 0 0] := by
    rw [← hw1, ← hs]
    have := Blk.new (w.alloc (.cells #[.bool false, .slice none 0 0, .slice none 0 0, .slice none 0 0] 74)) 121 #[.bool has, .slice none 0 0, .slice none 0 0, .slice none 0 0]
    rwa [show (w.alloc (.cells #[.bool false, .slice none 0 0, .slice none 0 0, .slice none 0 0] 74)).heap.size = w.heap.size + 1 by simp] at this
  have hs1 : w1.heap.size = s + 2 := by rw [← hw1, ← hs]; simp
  have H1 := hid (unmarshal_Rq has hm1 (Row.upd hv hu1 (by simp)) (by omega) hx)
  have hsz : ∀ t, rqRead has data = some t → t.sig.length ≤ 1099511627776 := fun t h => by have := rqRead_size h; omega
  have HW := hid hw1
  have HS1 := hid hs1
  have HSS := hid hs
  have hsw : w.heap.size ≤ s := by omega
  have hBs : B ≤ s := by omega
  clear hw1 hm1 hs1 hx
  generalize rqRead has data = o at H1 hsz ⊢
  go_enter Try.func46, Try.ntmps46
  go_wp2_with fail
  rw [HW.out]
  refine (H1.out).mono ?_
  rintro e w2 ⟨rfl, hu2, hx⟩
  have hu := hu1.trans hu2 (by simp; omega)
  have hb2 := hb1.upd hu2 (by simp)
  obtain ⟨r0, r1, r2, r3, f0, f1, f2, f3⟩ := rq_cells hb2
  rcases o with _ | t
  · have hz : Blk ((((w2.setCell ⟨s, 0, none⟩ (.bool false)).setCell ⟨s, 1, none⟩ (.slice none 0 0)).setCell ⟨s, 2, none⟩ (.slice none 0 0)).setCell ⟨s, 3, none⟩ (.slice none 0 0)) s 74 #[.bool false, .slice none 0 0, .slice none 0 0, .slice none 0 0] := by have := ((((hb2.set_ 0 (.bool false)).set_ 1 (.slice none 0 0)).set_ 2 (.slice none 0 0)).set_ 3 (.slice none 0 0)); simpa using this
    obtain ⟨z0, z1, z2, z3, -⟩ := rq_cells hz
    go_wp2
    exact bodyPost_ret (v := .tuple #[.agg #[.bool false, .slice none 0 0, .slice none 0 0, .slice none 0 0], .bool false]) (by simp [results, Try.results46, go_sem, z0, z1, z2, z3]) rfl ⟨_, rfl, Rq.zero_firm _, ((((hu.setCell (.inr (by omega)) _).setCell (.inr (by omega)) _).setCell (.inr (by omega)) _).setCell (.inr (by omega)) _)⟩
  · obtain ⟨hh, v1, v2, v3, hm2, hR⟩ := hx t rfl
    have hR0 := hR w2 [] (Upd.refl _ _) (by simp)
    obtain ⟨A1, c1, rfl, -⟩ := Byt.form hR0.1 rfl
    obtain ⟨A2, c2, rfl, -⟩ := Row.formN (n := t.sig.length) hR0.2.1 (by simp)
    obtain ⟨A3, c3, rfl, -⟩ := hR0.2.2.form
    obtain ⟨m0, m1, m2, m3, -⟩ := rq_cells hm2
    clear hx hR0
    have hz : Blk ((((w2.setCell ⟨s, 0, none⟩ (.bool has)).setCell ⟨s, 1, none⟩ (.slice A1 t.types.length c1)).setCell ⟨s, 2, none⟩ (.slice A2 t.sig.length c2)).setCell ⟨s, 3, none⟩ (.slice A3 t.cas.length c3)) s 74 #[.bool has, .slice A1 t.types.length c1, .slice A2 t.sig.length c2, .slice A3 t.cas.length c3] := by have := ((((hb2.set_ 0 (.bool has)).set_ 1 (.slice A1 t.types.length c1)).set_ 2 (.slice A2 t.sig.length c2)).set_ 3 (.slice A3 t.cas.length c3)); simpa using this
    obtain ⟨z0, z1, z2, z3, -⟩ := rq_cells hz
    have huf : Upd [s] w2 ((((w2.setCell ⟨s, 0, none⟩ (.bool has)).setCell ⟨s, 1, none⟩ (.slice A1 t.types.length c1)).setCell ⟨s, 2, none⟩ (.slice A2 t.sig.length c2)).setCell ⟨s, 3, none⟩ (.slice A3 t.cas.length c3)).drew := ((((((Upd.refl [s] w2).setCell (by simp) _).setCell (by simp) _).setCell (by simp) _).setCell (by simp) _)).drew
    have HUF := hid huf
    have HR := hid hR
    have HSZ := hid (hsz t rfl)
    have HH := hid hh
    clear hz huf hR hsz hh
    go_wp2_with fail
    go_still_tail 14, (by kernel_rfl)
    go_wp2
    have huf := HUF.out
    have hR := HR.out
    rw [HS1.out] at hR
    refine bodyPost_ret (v := .tuple #[.agg #[.bool has, .slice A1 t.types.length c1, .slice A2 t.sig.length c2, .slice A3 t.cas.length c3], .bool true]) (by simp [results, Try.results46, go_sem, z0, z1, z2, z3]) rfl
      ⟨_, rfl, ⟨(hR _ [s] huf (by simp)).val HH.out HSZ.out, fun w4 S hu4 hS4 => (hR w4 (s :: S) ((huf.mono (by simp)).trans hu4 (fun k hk => .inl (List.mem_cons_of_mem _ hk))) (fun k hk => ?_)).val HH.out HSZ.out⟩, hu.trans huf (by simp; omega)⟩
    rcases List.mem_cons.1 hk with hk | hk
    · omega
    · have := (hS4 k hk).2; omega
set_option maxHeartbeats 2000000 in
theorem un_Rq (has : Bool) (hv0 : Byt w B v data) (hx : data.length ≤ 2147483647) : Calls Try.prog 15 #[.bool has, v] w (UnG RqV w Rq.zero (rqRead has data)) := by
  have hv := hv0.shrink
  clear hv0
  obtain ⟨A, c, rfl, hv, hl, hc⟩ := Byt.form hv rfl
  obtain ⟨w1, hw1⟩ : ∃ w1, w.alloc (.cells #[.bool false, .slice none 0 0, .slice none 0 0, .slice none 0 0] 26) = w1 := ⟨_, rfl⟩
  obtain ⟨s, hs⟩ : ∃ s, w.heap.size = s := ⟨_, rfl⟩
  have hu1 : Upd [] w w1 := by rw [← hw1]; exact (Upd.refl _ _).alloc _
  have hb1 : Blk w1 s 26 #[.bool false, .slice none 0 0, .slice none 0 0, .slice none 0 0] := by rw [← hw1, ← hs]; exact Blk.new _ _ _
  have hs1 : s < w1.heap.size := hb1.lt
  have hsl : w.heap.size ≤ s := by omega
  have hy1 := Row.upd hv hu1 (by simp)
  rw [hs] at hy1
  have H1 := hid (tls_UnRq has hy1 (by omega) hx)
  have HW := hid hw1
  have HS := hid hs
  clear hw1 hs hx
  generalize rqRead has data = o at H1 ⊢
  go_enter Try.func15, Try.ntmps15
  go_wp2_with fail
  rw [HW.out, HS.out]
  refine (H1.out).mono ?_
  rintro e w2 ⟨v2, rfl, hv2, hu2⟩
  obtain ⟨cs2, rfl, hi2, hc2⟩ := RqV.okT.agg hv2.1
  have hi2' : (Try.prog.info? 26).map (·.size) = some cs2.size := by
    obtain ⟨cs3, e, hi3, -⟩ := RqV.ok.agg hv2.1
    injection e with e
    all_goals (subst e; exact hi3)
  have HZ2 := hid (RqV.size hv2.1)
  have hb2 := hb1.upd hu2 (by simp)
  have HI := hid hi2
  have HI' := hid hi2'
  have HC := hid hc2
  clear H1 HW hb1 hi2 hc2 hi2'
  go_wp2_with (first
    | (refine wpList_store_vb RqV.okT (Blk.new _ _ _) (RqV.okT.upd hv2.1 ((Upd.refl [] _).alloc _) (by simp)) (Nat.le_refl _) HZ2.out rfl _ _ rfl rfl rfl ?_; intro w3 hb3 hu3 hs3; have hU3 : Upd [] w2 w3 := ((Upd.refl [] _).alloc _).trans hu3 (by simp); have hb23 := hb2.upd hU3 (by simp))
    | (refine wpList_load_vb RqV.okT hb3 _ rfl rfl rfl ?_)
    | (refine wpList_store_any hb23 HI'.out HC.out HZ2.out rfl _ _ rfl rfl rfl ?_; intro w4 hb4 hu4 hs4))
  obtain ⟨d, hd1, hd2⟩ := RqV.ok.str
  refine bodyPost_ret (v := .tuple #[.agg cs2, .bool o.isSome]) (results_cell2 (T := 26) (p := 4) (q := 5) (g := s) rfl _ _ rfl rfl (blk_loadVar hb4 hd1 hd2 HI'.out)) rfl ⟨_, rfl, ?_, ?_⟩
  · exact hv2.2 _ [s] ((hU3.mono (S' := [s]) (by simp)).trans hu4 (by simp)) (by simp; omega)
  · exact ((hu1.trans hu2 (by simp)).trans hU3 (by simp)).trans hu4 (by simp; omega)
end
end Go.Proofs.Ytddkjhlngofkaaa

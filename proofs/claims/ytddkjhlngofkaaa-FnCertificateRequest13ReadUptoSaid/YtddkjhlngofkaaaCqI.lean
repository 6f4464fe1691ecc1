/- CertificateRequest of TLS 1.3: the package's 'Unmarshal' (printed by gen_cqi.py). -/
import Derived.Test.YtddkjhlngofkaaaCqU
import Derived.Test.YtddkjhlngofkaaaCqV
namespace Go.Proofs.Ytddkjhlngofkaaa
open Go.RowKit
set_option maxRecDepth 100000

section
variable {w w' : World} {B m lo n : Nat} {v content : Value} {data : List UInt8} {e : Ending} {t : Cq} {A2 A3 A4 : Option Addr} {c2 c3 c4 : Nat}
theorem CqF.val (h : CqF w B lo t (.slice A2 t.sig.length c2) (.slice A3 t.sigc.length c3) (.slice A4 t.cas.length c4)) (hB : B ≤ w.heap.size) (hz : t.sig.length ≤ 1099511627776 ∧ t.sigc.length ≤ 1099511627776) : CqV w w.heap.size (.agg #[.bool t.ocsp, .bool t.scts, .slice A2 t.sig.length c2, .slice A3 t.sigc.length c3, .slice A4 t.cas.length c4]) t := by
  refine ⟨A2, c2, A3, c3, A4, c4, rfl, h.o2.row, h.o3.row, ?_, hz.1, hz.2⟩
  obtain ⟨us, h1, h2⟩ := h.o4
  exact ⟨us, h1.row, h2.imp fun _ _ hb => hb.more hB⟩
theorem CqF.firm (h : CqF w B lo t (.slice A2 t.sig.length c2) (.slice A3 t.sigc.length c3) (.slice A4 t.cas.length c4)) (hB : B ≤ w.heap.size) (hn : n ≤ lo) (hz : t.sig.length ≤ 1099511627776 ∧ t.sigc.length ≤ 1099511627776) : Firm CqV B n w (.agg #[.bool t.ocsp, .bool t.scts, .slice A2 t.sig.length c2, .slice A3 t.sigc.length c3, .slice A4 t.cas.length c4]) t := by
  refine ⟨h.val hB hz, fun w' S hu hS => ?_⟩
  obtain ⟨l2, l3, l4⟩ := h.lt
  refine CqF.val (h.upd hu (fun k hk => (hS k hk).1) fun k hk => ?_) (Nat.le_trans hB hu.size) hz
  have := (hS k hk).2
  exact ⟨fun h => by have := l2 k h; omega, fun h => by have := l3 k h; omega, fun h => by have := l4 k h; omega⟩
theorem Cq.zero_firm (w : World) : Firm CqV B n w (.agg #[.bool false, .bool false, .slice none 0 0, .slice none 0 0, .slice none 0 0]) Cq.zero := by
  have : ∀ w : World, CqV w w.heap.size (.agg #[.bool false, .bool false, .slice none 0 0, .slice none 0 0, .slice none 0 0]) Cq.zero := fun w => ⟨none, 0, none, 0, none, 0, rfl, Row.nil_ _ _, Row.nil_ _ _, Lst.nil_ _ _, by simp [Cq.zero], by simp [Cq.zero]⟩
  exact ⟨this w, fun w' _ _ _ => this w'⟩
set_option maxHeartbeats 4000000 in
theorem tls_UnCq (hv : Byt w B v data) (hB : B ≤ w.heap.size) : Calls Try.prog 61 #[v] w (UnF CqV B w Cq.zero (cqRead data)) := by
  obtain ⟨A, c, rfl, hv, hl, hc⟩ := Byt.form hv rfl
  obtain ⟨w1, hw1⟩ : ∃ w1, (w.alloc (.cells #[.bool false, .bool false, .slice none 0 0, .slice none 0 0, .slice none 0 0] 97)).alloc (.cells #[.bool false, .bool false, .slice none 0 0, .slice none 0 0, .slice none 0 0] 129) = w1 := ⟨_, rfl⟩
  obtain ⟨s, hs⟩ : ∃ s, w.heap.size = s := ⟨_, rfl⟩
  have hu1 : Upd [] w w1 := by rw [← hw1]; exact ((Upd.refl _ _).alloc _).alloc _
  have hb1 : Blk w1 s 97 #[.bool false, .bool false, .slice none 0 0, .slice none 0 0, .slice none 0 0] := by rw [← hw1, ← hs]; exact (Blk.new _ _ _).alloc _
  have hm1 : Blk w1 (s + 1) 129 #[.bool false, .bool false, .slice none 0 0, .slice none 0 0, .slice none 0 0] := by
    rw [← hw1, ← hs]
    have := Blk.new (w.alloc (.cells #[.bool false, .bool false, .slice none 0 0, .slice none 0 0, .slice none 0 0] 97)) 129 #[.bool false, .bool false, .slice none 0 0, .slice none 0 0, .slice none 0 0]
    rwa [show (w.alloc (.cells #[.bool false, .bool false, .slice none 0 0, .slice none 0 0, .slice none 0 0] 97)).heap.size = w.heap.size + 1 by simp] at this
  have hs1 : w1.heap.size = s + 2 := by rw [← hw1, ← hs]; simp
  have H1 := hid (unmarshal_Cq hm1 (Row.upd hv hu1 (by simp)) (by omega))
  have hsz := @cqRead_sizes data
  have HW := hid hw1
  have HS1 := hid hs1
  have HSS := hid hs
  have hsw : w.heap.size ≤ s := by omega
  have hBs : B ≤ s := by omega
  clear hw1 hm1 hs1
  generalize cqRead data = o at H1 hsz ⊢
  go_enter Try.func61, Try.ntmps61
  go_wp2_with fail
  rw [HW.out]
  refine (H1.out).mono ?_
  rintro e w2 ⟨rfl, hu2, hx⟩
  have hu := hu1.trans hu2 (by simp; omega)
  have hb2 := hb1.upd hu2 (by simp)
  obtain ⟨r0, r1, r2, r3, r4, f0, f1, f2, f3, f4⟩ := cq_cells hb2
  rcases o with _ | t
  · have hz : Blk (((((w2.setCell ⟨s, 0, none⟩ (.bool false)).setCell ⟨s, 1, none⟩ (.bool false)).setCell ⟨s, 2, none⟩ (.slice none 0 0)).setCell ⟨s, 3, none⟩ (.slice none 0 0)).setCell ⟨s, 4, none⟩ (.slice none 0 0)) s 97 #[.bool false, .bool false, .slice none 0 0, .slice none 0 0, .slice none 0 0] := by have := (((((hb2.set_ 0 (.bool false)).set_ 1 (.bool false)).set_ 2 (.slice none 0 0)).set_ 3 (.slice none 0 0)).set_ 4 (.slice none 0 0)); simpa using this
    obtain ⟨z0, z1, z2, z3, z4, -⟩ := cq_cells hz
    go_wp2
    exact bodyPost_ret (v := .tuple #[.agg #[.bool false, .bool false, .slice none 0 0, .slice none 0 0, .slice none 0 0], .bool false]) (by simp [results, Try.results61, go_sem, z0, z1, z2, z3, z4]) rfl ⟨_, rfl, Cq.zero_firm _, (((((hu.setCell (.inr (by omega)) _).setCell (.inr (by omega)) _).setCell (.inr (by omega)) _).setCell (.inr (by omega)) _).setCell (.inr (by omega)) _)⟩
  · obtain ⟨v2, v3, v4, hm2, hF⟩ := hx t rfl
    obtain ⟨us4, ho4, hall⟩ := hF.o4
    obtain ⟨A2, c2, rfl⟩ := hF.o2.formN (n := t.sig.length) (by simp)
    obtain ⟨A3, c3, rfl⟩ := hF.o3.formN (n := t.sigc.length) (by simp)
    obtain ⟨A4, c4, rfl⟩ := ho4.formN (n := t.cas.length) hall.length
    obtain ⟨m0, m1, m2, m3, m4, -⟩ := cq_cells hm2
    clear hx ho4 hall
    have hz : Blk (((((w2.setCell ⟨s, 0, none⟩ (.bool t.ocsp)).setCell ⟨s, 1, none⟩ (.bool t.scts)).setCell ⟨s, 2, none⟩ (.slice A2 t.sig.length c2)).setCell ⟨s, 3, none⟩ (.slice A3 t.sigc.length c3)).setCell ⟨s, 4, none⟩ (.slice A4 t.cas.length c4)) s 97 #[.bool t.ocsp, .bool t.scts, .slice A2 t.sig.length c2, .slice A3 t.sigc.length c3, .slice A4 t.cas.length c4] := by have := (((((hb2.set_ 0 (.bool t.ocsp)).set_ 1 (.bool t.scts)).set_ 2 (.slice A2 t.sig.length c2)).set_ 3 (.slice A3 t.sigc.length c3)).set_ 4 (.slice A4 t.cas.length c4)); simpa using this
    obtain ⟨z0, z1, z2, z3, z4, -⟩ := cq_cells hz
    have huf : Upd [s] w2 (((((w2.setCell ⟨s, 0, none⟩ (.bool t.ocsp)).setCell ⟨s, 1, none⟩ (.bool t.scts)).setCell ⟨s, 2, none⟩ (.slice A2 t.sig.length c2)).setCell ⟨s, 3, none⟩ (.slice A3 t.sigc.length c3)).setCell ⟨s, 4, none⟩ (.slice A4 t.cas.length c4)).drew := (((((((Upd.refl [s] w2).setCell (by simp) _).setCell (by simp) _).setCell (by simp) _).setCell (by simp) _).setCell (by simp) _)).drew
    have HUF := hid huf
    have HF := hid hF
    clear hz huf hF
    go_wp2_with fail
    go_still_tail 21, (by kernel_rfl)
    go_wp2
    have huf := HUF.out
    have hF := HF.out
    obtain ⟨l2, l3, l4⟩ := hF.lt
    rw [HS1.out] at hF l2 l3 l4
    have hsz2 := hu2.size
    rw [HS1.out] at hsz2
    have hFf := hF.upd huf (by simp; omega) (by simp; exact ⟨fun h => by have := l2 s h; omega, fun h => by have := l3 s h; omega, fun h => by have := l4 s h; omega⟩)
    refine bodyPost_ret (v := .tuple #[.agg #[.bool t.ocsp, .bool t.scts, .slice A2 t.sig.length c2, .slice A3 t.sigc.length c3, .slice A4 t.cas.length c4], .bool true]) (by simp [results, Try.results61, go_sem, z0, z1, z2, z3, z4]) rfl
      ⟨_, rfl, CqF.firm hFf (by have := huf.size; omega) (by omega) (hsz rfl), hu.trans huf (by simp; omega)⟩
end
section
variable {w w' : World} {B : Nat} {v : Value} {data : List UInt8}
set_option maxHeartbeats 2000000 in
theorem un_Cq (hv0 : Byt w B v data) : Calls Try.prog 24 #[v] w (UnG CqV w Cq.zero (cqRead data)) := by
  have hv := hv0.shrink
  clear hv0
  obtain ⟨A, c, rfl, hv, hl, hc⟩ := Byt.form hv rfl
  obtain ⟨w1, hw1⟩ : ∃ w1, w.alloc (.cells #[.bool false, .bool false, .slice none 0 0, .slice none 0 0, .slice none 0 0] 35) = w1 := ⟨_, rfl⟩
  obtain ⟨s, hs⟩ : ∃ s, w.heap.size = s := ⟨_, rfl⟩
  have hu1 : Upd [] w w1 := by rw [← hw1]; exact (Upd.refl _ _).alloc _
  have hb1 : Blk w1 s 35 #[.bool false, .bool false, .slice none 0 0, .slice none 0 0, .slice none 0 0] := by rw [← hw1, ← hs]; exact Blk.new _ _ _
  have hs1 : s < w1.heap.size := hb1.lt
  have hsl : w.heap.size ≤ s := by omega
  have hy1 := Row.upd hv hu1 (by simp)
  rw [hs] at hy1
  have H1 := hid (tls_UnCq hy1 (by omega))
  have HW := hid hw1
  have HS := hid hs
  clear hw1 hs
  generalize cqRead data = o at H1 ⊢
  go_enter Try.func24, Try.ntmps24
  go_wp2_with fail
  rw [HW.out, HS.out]
  refine (H1.out).mono ?_
  rintro e w2 ⟨v2, rfl, hv2, hu2⟩
  obtain ⟨cs2, rfl, hi2, hc2⟩ := CqV.okT.agg hv2.1
  have hi2' : (Try.prog.info? 35).map (·.size) = some cs2.size := by
    obtain ⟨cs3, e, hi3, -⟩ := CqV.ok.agg hv2.1
    injection e with e
    all_goals (subst e; exact hi3)
  have HZ2 := hid (CqV.size hv2.1)
  have hb2 := hb1.upd hu2 (by simp)
  have HI := hid hi2
  have HI' := hid hi2'
  have HC := hid hc2
  clear H1 HW hb1 hi2 hc2 hi2'
  go_wp2_with (first
    | (refine wpList_store_vb CqV.okT (Blk.new _ _ _) (CqV.okT.upd hv2.1 ((Upd.refl [] _).alloc _) (by simp)) (Nat.le_refl _) HZ2.out rfl _ _ rfl rfl rfl ?_; intro w3 hb3 hu3 hs3; have hU3 : Upd [] w2 w3 := ((Upd.refl [] _).alloc _).trans hu3 (by simp); have hb23 := hb2.upd hU3 (by simp))
    | (refine wpList_load_vb CqV.okT hb3 _ rfl rfl rfl ?_)
    | (refine wpList_store_any hb23 HI'.out HC.out HZ2.out rfl _ _ rfl rfl rfl ?_; intro w4 hb4 hu4 hs4))
  obtain ⟨d, hd1, hd2⟩ := CqV.ok.str
  refine bodyPost_ret (v := .tuple #[.agg cs2, .bool o.isSome]) (results_cell2 (T := 35) (p := 2) (q := 3) (g := s) rfl _ _ rfl rfl (blk_loadVar hb4 hd1 hd2 HI'.out)) rfl ⟨_, rfl, ?_, ?_⟩
  · exact hv2.2 _ [s] ((hU3.mono (S' := [s]) (by simp)).trans hu4 (by simp)) (by simp; omega)
  · exact ((hu1.trans hu2 (by simp)).trans hU3 (by simp)).trans hu4 (by simp; omega)
end

end Go.Proofs.Ytddkjhlngofkaaa

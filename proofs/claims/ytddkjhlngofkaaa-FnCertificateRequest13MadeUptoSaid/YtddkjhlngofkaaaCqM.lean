/- CertificateRequest of TLS 1.3: made by the package (printed by gen_cqm.py). -/
import Derived.Test.YtddkjhlngofkaaaEmL
import Derived.Test.YtddkjhlngofkaaaCqV
namespace Go.Proofs.Ytddkjhlngofkaaa
open Go.RowKit
set_option maxRecDepth 100000

/-- what the continuations read -/
def CqE (B m k : Nat) (A2 A3 A4 : Option Addr) (c2 c3 c4 : Nat) (t : Cq) (w : World) : Prop :=
  Blk w m 129 #[.bool t.ocsp, .bool t.scts, .slice A2 t.sig.length c2, .slice A3 t.sigc.length c3, .slice A4 t.cas.length c4] ∧ Blk w k 127 #[.pointer (some ⟨m, 0, none⟩)] ∧
    Row w B (.slice A2 t.sig.length c2) (t.sig.map wv) ∧ Row w B (.slice A3 t.sigc.length c3) (t.sigc.map wv) ∧ Lst w B (.slice A4 t.cas.length c4) t.cas
section
variable {w w' : World} {B m k : Nat} {A2 A3 A4 : Option Addr} {c2 c3 c4 : Nat} {t : Cq}
theorem Lst.below {v : Value} {ls : List (List UInt8)} (h : Lst w B v ls) (hb : Below B w w') : Lst w' B v ls := by
  obtain ⟨vs, h1, h2⟩ := h
  exact ⟨vs, Row.below h1 hb, h2.imp fun _ _ hy => Row.below hy hb⟩
theorem CqE.stable (hm : m < B) (hk : k < B) : Stable B (CqE B m k A2 A3 A4 c2 c3 c4 t) := fun _ _ hb hf =>
  ⟨hf.1.below hb hm, hf.2.1.below hb hk, Row.below hf.2.2.1 hb, Row.below hf.2.2.2.1 hb, Lst.below hf.2.2.2.2 hb⟩
/-- what the package writes -/
def cqOut (t : Cq) : Option (List UInt8) := app (condOut (t.ocsp) (extOut 5 (some ([])))) (app (condOut (t.scts) (extOut 18 (some ([])))) (app (condOut (decide (0 < t.sig.length)) (extOut 13 (lpOut 2 (some (wordsB t.sig))))) (app (condOut (decide (0 < t.sigc.length)) (extOut 50 (lpOut 2 (some (wordsB t.sigc))))) (condOut (decide (0 < t.cas.length)) (extOut 47 (lpOut 2 (ofW (vecsW 2 t.cas))))))))
theorem olen_cqOut (hx2 : t.sig.length ≤ 1099511627776) (hx3 : t.sigc.length ≤ 1099511627776) (hx4 : (vecsB 2 t.cas).length ≤ 1099511627776) : olen (cqOut t) ≤ 6597069766758 := by
  unfold cqOut
  have := olen_app (condOut (t.ocsp) (extOut 5 (some ([])))) (app (condOut (t.scts) (extOut 18 (some ([])))) (app (condOut (decide (0 < t.sig.length)) (extOut 13 (lpOut 2 (some (wordsB t.sig))))) (app (condOut (decide (0 < t.sigc.length)) (extOut 50 (lpOut 2 (some (wordsB t.sigc))))) (condOut (decide (0 < t.cas.length)) (extOut 47 (lpOut 2 (ofW (vecsW 2 t.cas))))))))
  have := olen_cond (t.ocsp) (extOut 5 (some ([])))
  have := olen_ext 5 (some ([]))
  have : olen (some []) = 0 := rfl
  have := olen_app (condOut (t.scts) (extOut 18 (some ([])))) (app (condOut (decide (0 < t.sig.length)) (extOut 13 (lpOut 2 (some (wordsB t.sig))))) (app (condOut (decide (0 < t.sigc.length)) (extOut 50 (lpOut 2 (some (wordsB t.sigc))))) (condOut (decide (0 < t.cas.length)) (extOut 47 (lpOut 2 (ofW (vecsW 2 t.cas)))))))
  have := olen_cond (t.scts) (extOut 18 (some ([])))
  have := olen_ext 18 (some ([]))
  have : olen (some []) = 0 := rfl
  have := olen_app (condOut (decide (0 < t.sig.length)) (extOut 13 (lpOut 2 (some (wordsB t.sig))))) (app (condOut (decide (0 < t.sigc.length)) (extOut 50 (lpOut 2 (some (wordsB t.sigc))))) (condOut (decide (0 < t.cas.length)) (extOut 47 (lpOut 2 (ofW (vecsW 2 t.cas))))))
  have := olen_cond (decide (0 < t.sig.length)) (extOut 13 (lpOut 2 (some (wordsB t.sig))))
  have := olen_ext 13 (lpOut 2 (some (wordsB t.sig)))
  have := olen_lp 2 (by omega) (some (wordsB t.sig))
  have : olen (some (wordsB t.sig)) = (wordsB t.sig).length := rfl
  have := wordsB_len t.sig
  have := olen_app (condOut (decide (0 < t.sigc.length)) (extOut 50 (lpOut 2 (some (wordsB t.sigc))))) (condOut (decide (0 < t.cas.length)) (extOut 47 (lpOut 2 (ofW (vecsW 2 t.cas)))))
  have := olen_cond (decide (0 < t.sigc.length)) (extOut 50 (lpOut 2 (some (wordsB t.sigc))))
  have := olen_ext 50 (lpOut 2 (some (wordsB t.sigc)))
  have := olen_lp 2 (by omega) (some (wordsB t.sigc))
  have : olen (some (wordsB t.sigc)) = (wordsB t.sigc).length := rfl
  have := wordsB_len t.sigc
  have := olen_cond (decide (0 < t.cas.length)) (extOut 47 (lpOut 2 (ofW (vecsW 2 t.cas))))
  have := olen_ext 47 (lpOut 2 (ofW (vecsW 2 t.cas)))
  have := olen_lp 2 (by omega) (ofW (vecsW 2 t.cas))
  have := olen_vecs 2 t.cas
  omega
set_option maxHeartbeats 2000000 in
theorem cq_w2 (hm : m < B) (hk : k < B) (hx2 : t.sig.length ≤ 1099511627776) : EmitsF 99 #[.pointer (some ⟨k, 0, none⟩)] B (CqE B m k A2 A3 A4 c2 c3 c4 t) (some (wordsB t.sig)) 2199023255552 := by
  refine EmitsF.mk (CqE.stable hm hk) (by have : olen (some (wordsB t.sig)) = (wordsB t.sig).length := rfl; have := wordsB_len t.sig; omega) (by intro args w; kernel_rfl) ?_
  intro w1 q v base off pl ic bs hem
  obtain ⟨hm1, hk1, hq2, hq3, hq4⟩ := hem.F
  have d0 := hk1.cell 0
  have cc := hm1.cell 2
  simp at d0 cc
  have HM := hid hem
  have HX := hid hx2
  clear hem hm1 hk1 hq2 hq3 hq4
  go_enter Try.func99, Try.ntmps99
  go_wp2_with fail
  go_loopg [10] t.sig.length (fun gk i wr => ∃ j : Nat, j + gk = t.sig.length ∧ i = .int .i64 (j : Int) ∧ Em w1 q v base off pl ic B (CqE B m k A2 A3 A4 c2 c3 c4 t) (app (some bs) (some (wordsB (t.sig.take j)))) (2199023255552 - 2 * j) wr)
  case atStart => exact ⟨0, by omega, rfl, by simpa [wordsB, app_nil] using HM.out⟩
  case round =>
    obtain ⟨j, hj0, rfl, hem⟩ := hrel
    have HJ := hid hj0
    have HE := hid hem
    have hj : j ≤ t.sig.length := by omega
    clear hj0
    by_cases hlt : j < t.sig.length
    · obtain ⟨b, o, rfl, hb, hj', hcell⟩ := hem.F.2.2.1.at_ hlt
      rw [List.getElem_map] at hcell
      have H := hid (hem.u16 (R' := 2199023255552 - 2 * (j + 1)) (t.sig[j]).toNat (t.sig[j]).toNat_lt (by have := HX.out; omega))
      have HS := hid (show app (app (some bs) (some (wordsB (t.sig.take j)))) (some (be 2 (t.sig[j]).toNat)) = app (some bs) (some (wordsB (t.sig.take (j + 1)))) by rw [app_assoc, List.take_succ_eq_append_getElem hlt, wordsB_snoc]; rfl)
      have hu := (t.sig[j]).toNat_lt
      clear hem
      go_wp2_with fail
      refine H.out.mono ?_
      rintro e w2 ⟨rfl, hem⟩
      clear H
      go_wp2
      have hj0 := HJ.out
      go_roundg (t.sig.length - (j + 1))
      case measure => omega
      case rel => exact ⟨j + 1, by omega, by go_num, hem.cast HS.out⟩
    · obtain rfl : j = t.sig.length := by have := HJ.out; omega
      clear hem
      go_wp2
      go_end0
      exact ⟨rfl, (HE.out.cast (by rw [List.take_length])).less (by omega)⟩

set_option maxHeartbeats 2000000 in
theorem cq_w3 (hm : m < B) (hk : k < B) (hx3 : t.sigc.length ≤ 1099511627776) : EmitsF 101 #[.pointer (some ⟨k, 0, none⟩)] B (CqE B m k A2 A3 A4 c2 c3 c4 t) (some (wordsB t.sigc)) 2199023255552 := by
  refine EmitsF.mk (CqE.stable hm hk) (by have : olen (some (wordsB t.sigc)) = (wordsB t.sigc).length := rfl; have := wordsB_len t.sigc; omega) (by intro args w; kernel_rfl) ?_
  intro w1 q v base off pl ic bs hem
  obtain ⟨hm1, hk1, hq2, hq3, hq4⟩ := hem.F
  have d0 := hk1.cell 0
  have cc := hm1.cell 3
  simp at d0 cc
  have HM := hid hem
  have HX := hid hx3
  clear hem hm1 hk1 hq2 hq3 hq4
  go_enter Try.func101, Try.ntmps101
  go_wp2_with fail
  go_loopg [10] t.sigc.length (fun gk i wr => ∃ j : Nat, j + gk = t.sigc.length ∧ i = .int .i64 (j : Int) ∧ Em w1 q v base off pl ic B (CqE B m k A2 A3 A4 c2 c3 c4 t) (app (some bs) (some (wordsB (t.sigc.take j)))) (2199023255552 - 2 * j) wr)
  case atStart => exact ⟨0, by omega, rfl, by simpa [wordsB, app_nil] using HM.out⟩
  case round =>
    obtain ⟨j, hj0, rfl, hem⟩ := hrel
    have HJ := hid hj0
    have HE := hid hem
    have hj : j ≤ t.sigc.length := by omega
    clear hj0
    by_cases hlt : j < t.sigc.length
    · obtain ⟨b, o, rfl, hb, hj', hcell⟩ := hem.F.2.2.2.1.at_ hlt
      rw [List.getElem_map] at hcell
      have H := hid (hem.u16 (R' := 2199023255552 - 2 * (j + 1)) (t.sigc[j]).toNat (t.sigc[j]).toNat_lt (by have := HX.out; omega))
      have HS := hid (show app (app (some bs) (some (wordsB (t.sigc.take j)))) (some (be 2 (t.sigc[j]).toNat)) = app (some bs) (some (wordsB (t.sigc.take (j + 1)))) by rw [app_assoc, List.take_succ_eq_append_getElem hlt, wordsB_snoc]; rfl)
      have hu := (t.sigc[j]).toNat_lt
      clear hem
      go_wp2_with fail
      refine H.out.mono ?_
      rintro e w2 ⟨rfl, hem⟩
      clear H
      go_wp2
      have hj0 := HJ.out
      go_roundg (t.sigc.length - (j + 1))
      case measure => omega
      case rel => exact ⟨j + 1, by omega, by go_num, hem.cast HS.out⟩
    · obtain rfl : j = t.sigc.length := by have := HJ.out; omega
      clear hem
      go_wp2
      go_end0
      exact ⟨rfl, (HE.out.cast (by rw [List.take_length])).less (by omega)⟩

set_option maxHeartbeats 2000000 in
/-- a vector of the list: the continuation reads the round's own variable -/
theorem cq_item {S : List Nat} {u : Value} {x : List UInt8} (hk : Blk w k 22 #[u]) (hy : Byt w B u x) (hB : B ≤ w.heap.size) (hS : ∀ y ∈ S, B ≤ y ∧ y ≠ k) (hx : x.length ≤ 1099511627776) :
    Emits 104 #[.pointer (some ⟨k, 0, none⟩)] S w (some x) x.length := by
  intro w1 hu base q v off pl ic bs hb hi hq hv hl
  have hk1 := hk.upd hu (fun h => (hS _ h).2 rfl)
  have hy1 : Byt w1 B u x := Row.upd hy hu fun y hy => (hS y hy).1
  obtain ⟨A, c, rfl, hy1, -, -⟩ := Byt.form hy1 rfl
  have H := hid (AddBytes_any (st := some bs) hb (src_of hy1 (by omega) fun g hg => by rcases hv g hg with h | h; exact (hS g h).1; omega) (by show bs.length ≤ _; omega) (by omega))
  have d0 := hk1.cell 0
  simp at d0
  clear hk hk1 hy hy1 hu hv hS hb hi
  go_enter Try.func104, Try.ntmps104
  go_wp2_with fail
  refine H.out.mono ?_
  intro e w2 hp
  obtain ⟨he, hp⟩ := hp
  subst he
  go_wp2
  go_end0
  exact ⟨rfl, hp⟩
set_option maxHeartbeats 2000000 in
theorem cq_l4 (hm : m < B) (hk : k < B) (hx4 : (vecsB 2 t.cas).length ≤ 1099511627776) : EmitsF 103 #[.pointer (some ⟨k, 0, none⟩)] B (CqE B m k A2 A3 A4 c2 c3 c4 t) (ofW (vecsW 2 t.cas)) 2199023255552 := by
  have hmf : ∀ (fn : Fn) (first cap : Array Value) (w : World), (Instr.makeFunc fn first cap).run Try.prog w = .ok (.func fn first cap) w := fun _ _ _ _ => rfl
  refine EmitsF.mk (CqE.stable hm hk) (by have := olen_vecs 2 t.cas; omega) (by intro args w; kernel_rfl) ?_
  intro w1 q v base off pl ic bs hem
  obtain ⟨hm1, hk1, hq2, hq3, hq4⟩ := hem.F
  have d0 := hk1.cell 0
  have cc := hm1.cell 4
  simp at d0 cc
  have HM := hid hem
  have HX := hid hx4
  have hlen : t.cas.length ≤ 9223372036854775807 := by obtain ⟨_, _, _, _, a, b⟩ := hq4.form; omega
  clear hem hm1 hk1 hq2 hq3 hq4 hx4
  go_enter Try.func103, Try.ntmps103
  go_wp2_with fail
  go_loopg [10] t.cas.length (fun gk i wr => ∃ j : Nat, j + gk = t.cas.length ∧ i = .int .i64 (j : Int) ∧ Em w1 q v base off pl ic B (CqE B m k A2 A3 A4 c2 c3 c4 t) (app (some bs) (ofW (vecsW 2 (t.cas.take j)))) (2199023255552 - 2 * (vecsB 2 (t.cas.take j)).length) wr)
  case atStart => exact ⟨0, by omega, rfl, by have h : ofW (vecsW 2 (t.cas.take 0)) = some [] := rfl; rw [h, app_nil]; exact HM.out⟩
  case round =>
    obtain ⟨j, hj0, rfl, hem⟩ := hrel
    have HJ := hid hj0
    have HE := hid hem
    have hj : j ≤ t.cas.length := by omega
    clear hj0
    by_cases hlt : j < t.cas.length
    · obtain ⟨b, o, rfl, hb, hj', A', c', hcell, hy, hl1, hl2⟩ := hem.F.2.2.2.2.at_ hlt
      have hB := Nat.le_trans hem.B1 hem.size
      have hg := vecsB_get 2 t.cas j hlt
      have hsn := vecsB_snoc 2 (t.cas.take j) t.cas[j]
      rw [← List.take_succ_eq_append_getElem hlt] at hsn
      have ht1 := vecsB_take 2 t.cas (j + 1)
      have hln : (vecsB 2 (t.cas.take (j + 1))).length = (vecsB 2 (t.cas.take j)).length + (2 + (t.cas[j]).length) := by rw [hsn]; simp [be_len]
      have HS := hid (show app (app (some bs) (ofW (vecsW 2 (t.cas.take j)))) (lpOut 2 (some t.cas[j])) = app (some bs) (ofW (vecsW 2 (t.cas.take (j + 1)))) by rw [app_assoc, app_vecs, ← List.take_succ_eq_append_getElem hlt])
      have hX := HX.out
      have H := hid (hem.item16 (R' := 2199023255552 - 2 * (vecsB 2 (t.cas.take (j + 1))).length) (u := .slice A' (t.cas[j]).length c') (T := 22) (fid := 104) (out := some t.cas[j]) (need := (t.cas[j]).length) (by decide) (by intro args w; kernel_rfl) (Nat.le_refl _)
        (fun S hS => cq_item (Blk.new _ _ _) (Row.upd hy ((Upd.refl [] _).alloc _) (by simp)) (by simp; omega) hS (by omega)) (by omega))
      clear hem hy hsn ht1 hln hg hX
      go_wp2_with fail
      refine H.out.mono ?_
      rintro e w2 ⟨rfl, hem⟩
      clear H
      go_wp2
      have hj0 := HJ.out
      go_roundg (t.cas.length - (j + 1))
      case measure => omega
      case rel => exact ⟨j + 1, by omega, by go_num, hem.cast HS.out⟩
    · obtain rfl : j = t.cas.length := by have := HJ.out; omega
      clear hem
      go_wp2
      go_end0
      exact ⟨rfl, (HE.out.cast (by rw [List.take_length])).less (by omega)⟩

set_option maxHeartbeats 2000000 in
theorem cq_p2 (hm : m < B) (hk : k < B) (hx2 : t.sig.length ≤ 1099511627776) : EmitsF 98 #[.pointer (some ⟨k, 0, none⟩)] B (CqE B m k A2 A3 A4 c2 c3 c4 t) (lpOut 2 (some (wordsB t.sig))) 2199023255556 := by
  have HE0 := hid (cq_w2 (t := t) (A2 := A2) (A3 := A3) (A4 := A4) (c2 := c2) (c3 := c3) (c4 := c4) hm hk hx2)
  have hmf : ∀ (fn : Fn) (first cap : Array Value) (w : World), (Instr.makeFunc fn first cap).run Try.prog w = .ok (.func fn first cap) w := fun _ _ _ _ => rfl
  refine EmitsF.mk (CqE.stable hm hk) (by have := olen_lp 2 (by omega) (some (wordsB t.sig)); have : olen (some (wordsB t.sig)) = (wordsB t.sig).length := rfl; have := wordsB_len t.sig; omega) (by intro args w; kernel_rfl) ?_
  intro w1 q v base off pl ic bs hem
  obtain ⟨hm1, hk1, hq2, hq3, hq4⟩ := hem.F
  have H := hid (hem.lp16 (R' := 0) HE0.out (by omega))
  clear hem hm1 hk1 hq2 hq3 hq4
  go_enter Try.func98, Try.ntmps98
  go_wp2_with fail
  refine H.out.mono ?_
  rintro e w2 ⟨rfl, hem⟩
  clear H
  have HM := hid hem
  clear hem
  go_wp2
  go_end0
  exact ⟨rfl, (HM.out.cast (by rfl)).less (by omega)⟩
set_option maxHeartbeats 2000000 in
theorem cq_p3 (hm : m < B) (hk : k < B) (hx3 : t.sigc.length ≤ 1099511627776) : EmitsF 100 #[.pointer (some ⟨k, 0, none⟩)] B (CqE B m k A2 A3 A4 c2 c3 c4 t) (lpOut 2 (some (wordsB t.sigc))) 2199023255556 := by
  have HE0 := hid (cq_w3 (t := t) (A2 := A2) (A3 := A3) (A4 := A4) (c2 := c2) (c3 := c3) (c4 := c4) hm hk hx3)
  have hmf : ∀ (fn : Fn) (first cap : Array Value) (w : World), (Instr.makeFunc fn first cap).run Try.prog w = .ok (.func fn first cap) w := fun _ _ _ _ => rfl
  refine EmitsF.mk (CqE.stable hm hk) (by have := olen_lp 2 (by omega) (some (wordsB t.sigc)); have : olen (some (wordsB t.sigc)) = (wordsB t.sigc).length := rfl; have := wordsB_len t.sigc; omega) (by intro args w; kernel_rfl) ?_
  intro w1 q v base off pl ic bs hem
  obtain ⟨hm1, hk1, hq2, hq3, hq4⟩ := hem.F
  have H := hid (hem.lp16 (R' := 0) HE0.out (by omega))
  clear hem hm1 hk1 hq2 hq3 hq4
  go_enter Try.func100, Try.ntmps100
  go_wp2_with fail
  refine H.out.mono ?_
  rintro e w2 ⟨rfl, hem⟩
  clear H
  have HM := hid hem
  clear hem
  go_wp2
  go_end0
  exact ⟨rfl, (HM.out.cast (by rfl)).less (by omega)⟩
set_option maxHeartbeats 2000000 in
theorem cq_p4 (hm : m < B) (hk : k < B) (hx4 : (vecsB 2 t.cas).length ≤ 1099511627776) : EmitsF 102 #[.pointer (some ⟨k, 0, none⟩)] B (CqE B m k A2 A3 A4 c2 c3 c4 t) (lpOut 2 (ofW (vecsW 2 t.cas))) 2199023255556 := by
  have HE0 := hid (cq_l4 (t := t) (A2 := A2) (A3 := A3) (A4 := A4) (c2 := c2) (c3 := c3) (c4 := c4) hm hk hx4)
  have hmf : ∀ (fn : Fn) (first cap : Array Value) (w : World), (Instr.makeFunc fn first cap).run Try.prog w = .ok (.func fn first cap) w := fun _ _ _ _ => rfl
  refine EmitsF.mk (CqE.stable hm hk) (by have := olen_lp 2 (by omega) (ofW (vecsW 2 t.cas)); have := olen_vecs 2 t.cas; omega) (by intro args w; kernel_rfl) ?_
  intro w1 q v base off pl ic bs hem
  obtain ⟨hm1, hk1, hq2, hq3, hq4⟩ := hem.F
  have H := hid (hem.lp16 (R' := 0) HE0.out (by omega))
  clear hem hm1 hk1 hq2 hq3 hq4
  go_enter Try.func102, Try.ntmps102
  go_wp2_with fail
  refine H.out.mono ?_
  rintro e w2 ⟨rfl, hem⟩
  clear H
  have HM := hid hem
  clear hem
  go_wp2
  go_end0
  exact ⟨rfl, (HM.out.cast (by rfl)).less (by omega)⟩
set_option maxHeartbeats 2000000 in
theorem cq_exts (hm : m < B) (hk : k < B) (hx2 : t.sig.length ≤ 1099511627776) (hx3 : t.sigc.length ≤ 1099511627776) (hx4 : (vecsB 2 t.cas).length ≤ 1099511627776) : EmitsF 96 #[.pointer (some ⟨k, 0, none⟩)] B (CqE B m k A2 A3 A4 c2 c3 c4 t) (cqOut t) 6597069766758 := by
  have HE0 := hid (cq_p2 (t := t) (A2 := A2) (A3 := A3) (A4 := A4) (c2 := c2) (c3 := c3) (c4 := c4) hm hk hx2)
  have HE1 := hid (cq_p3 (t := t) (A2 := A2) (A3 := A3) (A4 := A4) (c2 := c2) (c3 := c3) (c4 := c4) hm hk hx3)
  have HE2 := hid (cq_p4 (t := t) (A2 := A2) (A3 := A3) (A4 := A4) (c2 := c2) (c3 := c3) (c4 := c4) hm hk hx4)
  have hmf : ∀ (fn : Fn) (first cap : Array Value) (w : World), (Instr.makeFunc fn first cap).run Try.prog w = .ok (.func fn first cap) w := fun _ _ _ _ => rfl
  refine EmitsF.mk (CqE.stable hm hk) (Nat.le_trans (olen_cqOut hx2 hx3 hx4) (by omega)) (by intro args w; kernel_rfl) ?_
  intro w1 q v base off pl ic bs hem
  obtain ⟨hm1, hk1, hq2, hq3, hq4⟩ := hem.F
  have d0 := hk1.cell 0
  have cc0 := hm1.cell 0
  simp at d0 cc0
  have HM := hid hem
  clear hem hm1 hk1 hq2 hq3 hq4
  go_enter Try.func96, Try.ntmps96
  go_upto_if 6 with fail
  go_cut [] (fun wx => Em w1 q v base off pl ic B (CqE B m k A2 A3 A4 c2 c3 c4 t) (app (some bs) (condOut (t.ocsp) (extOut 5 (some [])))) 6597069766754 wx)
  case first =>
    rcases bcase (t.ocsp) with hz | hz
    · try rw [hz]
      have hem := HM.out
      clear HM
      obtain ⟨hm1, hk1, hq2, hq3, hq4⟩ := hem.F
      have H := hid (hem.u16 (R' := 6597069766756) 5 (by omega) (by omega))
      clear hem hm1 hk1 hq2 hq3 hq4
      go_wp2_with fail
      refine H.out.mono ?_
      rintro e w2 ⟨rfl, hem⟩
      clear H
      obtain ⟨hm1, hk1, hq2, hq3, hq4⟩ := hem.F
      have H := hid (hem.u16 (R' := 6597069766754) 0 (by omega) (by omega))
      clear hem hm1 hk1 hq2 hq3 hq4
      go_wp2_with fail
      refine H.out.mono ?_
      rintro e w2 ⟨rfl, hem⟩
      clear H
      have HM := hid hem
      clear hem
      go_wp2_with fail
      go_meet
      exact HM.out.cast (by rw [hz]; simp only [condOut_true, extOut, lpOut_empty, app_assoc])
    · try rw [hz]
      go_wp2_with fail
      go_meet
      exact (HM.out.cast (by rw [hz, condOut_false, app_nil])).less (by omega)
  have hem := hcut
  clear hcut HM
  obtain ⟨hm1, hk1, hq2, hq3, hq4⟩ := hem.F
  have d0 := hk1.cell 0
  have cc1 := hm1.cell 1
  simp at d0 cc1
  have HM := hid hem
  clear hem hm1 hk1 hq2 hq3 hq4
  go_upto_if 14 with fail
  go_cut [] (fun wx => Em w1 q v base off pl ic B (CqE B m k A2 A3 A4 c2 c3 c4 t) (app (app (some bs) (condOut (t.ocsp) (extOut 5 (some [])))) (condOut (t.scts) (extOut 18 (some [])))) 6597069766750 wx)
  case first =>
    rcases bcase (t.scts) with hz | hz
    · try rw [hz]
      have hem := HM.out
      clear HM
      obtain ⟨hm1, hk1, hq2, hq3, hq4⟩ := hem.F
      have H := hid (hem.u16 (R' := 6597069766752) 18 (by omega) (by omega))
      clear hem hm1 hk1 hq2 hq3 hq4
      go_wp2_with fail
      refine H.out.mono ?_
      rintro e w2 ⟨rfl, hem⟩
      clear H
      obtain ⟨hm1, hk1, hq2, hq3, hq4⟩ := hem.F
      have H := hid (hem.u16 (R' := 6597069766750) 0 (by omega) (by omega))
      clear hem hm1 hk1 hq2 hq3 hq4
      go_wp2_with fail
      refine H.out.mono ?_
      rintro e w2 ⟨rfl, hem⟩
      clear H
      have HM := hid hem
      clear hem
      go_wp2_with fail
      go_meet
      exact HM.out.cast (by rw [hz]; simp only [condOut_true, extOut, lpOut_empty, app_assoc])
    · try rw [hz]
      go_wp2_with fail
      go_meet
      exact (HM.out.cast (by rw [hz, condOut_false, app_nil])).less (by omega)
  have hem := hcut
  clear hcut HM
  obtain ⟨hm1, hk1, hq2, hq3, hq4⟩ := hem.F
  have d0 := hk1.cell 0
  have cc2 := hm1.cell 2
  simp at d0 cc2
  have HM := hid hem
  clear hem hm1 hk1 hq2 hq3 hq4
  go_upto_if 24 with fail
  go_cut [] (fun wx => Em w1 q v base off pl ic B (CqE B m k A2 A3 A4 c2 c3 c4 t) (app (app (app (some bs) (condOut (t.ocsp) (extOut 5 (some [])))) (condOut (t.scts) (extOut 18 (some [])))) (condOut (decide (0 < t.sig.length)) (extOut 13 (lpOut 2 (some (wordsB t.sig)))))) 4398046511188 wx)
  case first =>
    rcases bcase (decide (0 < t.sig.length)) with hz | hz
    · try rw [hz]
      have hem := HM.out
      clear HM
      obtain ⟨hm1, hk1, hq2, hq3, hq4⟩ := hem.F
      have H := hid (hem.u16 (R' := 6597069766748) 13 (by omega) (by omega))
      clear hem hm1 hk1 hq2 hq3 hq4
      go_wp2_with fail
      refine H.out.mono ?_
      rintro e w2 ⟨rfl, hem⟩
      clear H
      obtain ⟨hm1, hk1, hq2, hq3, hq4⟩ := hem.F
      have H := hid (hem.lp16 (R' := 4398046511188) HE0.out (by omega))
      clear hem hm1 hk1 hq2 hq3 hq4
      go_wp2_with fail
      refine H.out.mono ?_
      rintro e w2 ⟨rfl, hem⟩
      clear H
      have HM := hid hem
      clear hem
      go_wp2_with fail
      go_meet
      exact HM.out.cast (by rw [hz]; simp only [condOut_true, extOut, lpOut_empty, app_assoc])
    · try rw [hz]
      go_wp2_with fail
      go_meet
      exact (HM.out.cast (by rw [hz, condOut_false, app_nil])).less (by omega)
  have hem := hcut
  clear hcut HM
  obtain ⟨hm1, hk1, hq2, hq3, hq4⟩ := hem.F
  have d0 := hk1.cell 0
  have cc3 := hm1.cell 3
  simp at d0 cc3
  have HM := hid hem
  clear hem hm1 hk1 hq2 hq3 hq4
  go_upto_if 35 with fail
  go_cut [] (fun wx => Em w1 q v base off pl ic B (CqE B m k A2 A3 A4 c2 c3 c4 t) (app (app (app (app (some bs) (condOut (t.ocsp) (extOut 5 (some [])))) (condOut (t.scts) (extOut 18 (some [])))) (condOut (decide (0 < t.sig.length)) (extOut 13 (lpOut 2 (some (wordsB t.sig)))))) (condOut (decide (0 < t.sigc.length)) (extOut 50 (lpOut 2 (some (wordsB t.sigc)))))) 2199023255626 wx)
  case first =>
    rcases bcase (decide (0 < t.sigc.length)) with hz | hz
    · try rw [hz]
      have hem := HM.out
      clear HM
      obtain ⟨hm1, hk1, hq2, hq3, hq4⟩ := hem.F
      have H := hid (hem.u16 (R' := 4398046511186) 50 (by omega) (by omega))
      clear hem hm1 hk1 hq2 hq3 hq4
      go_wp2_with fail
      refine H.out.mono ?_
      rintro e w2 ⟨rfl, hem⟩
      clear H
      obtain ⟨hm1, hk1, hq2, hq3, hq4⟩ := hem.F
      have H := hid (hem.lp16 (R' := 2199023255626) HE1.out (by omega))
      clear hem hm1 hk1 hq2 hq3 hq4
      go_wp2_with fail
      refine H.out.mono ?_
      rintro e w2 ⟨rfl, hem⟩
      clear H
      have HM := hid hem
      clear hem
      go_wp2_with fail
      go_meet
      exact HM.out.cast (by rw [hz]; simp only [condOut_true, extOut, lpOut_empty, app_assoc])
    · try rw [hz]
      go_wp2_with fail
      go_meet
      exact (HM.out.cast (by rw [hz, condOut_false, app_nil])).less (by omega)
  have hem := hcut
  clear hcut HM
  obtain ⟨hm1, hk1, hq2, hq3, hq4⟩ := hem.F
  have d0 := hk1.cell 0
  have cc4 := hm1.cell 4
  simp at d0 cc4
  have HM := hid hem
  clear hem hm1 hk1 hq2 hq3 hq4
  go_upto_if 46 with fail
  rcases bcase (decide (0 < t.cas.length)) with hz | hz
  · try rw [hz]
    have hem := HM.out
    clear HM
    obtain ⟨hm1, hk1, hq2, hq3, hq4⟩ := hem.F
    have H := hid (hem.u16 (R' := 2199023255624) 47 (by omega) (by omega))
    clear hem hm1 hk1 hq2 hq3 hq4
    go_wp2_with fail
    refine H.out.mono ?_
    rintro e w2 ⟨rfl, hem⟩
    clear H
    obtain ⟨hm1, hk1, hq2, hq3, hq4⟩ := hem.F
    have H := hid (hem.lp16 (R' := 64) HE2.out (by omega))
    clear hem hm1 hk1 hq2 hq3 hq4
    go_wp2_with fail
    refine H.out.mono ?_
    rintro e w2 ⟨rfl, hem⟩
    clear H
    have HM := hid hem
    clear hem
    go_wp2
    go_end0
    exact ⟨rfl, (HM.out.cast (by unfold cqOut; rw [hz]; simp only [condOut_true, extOut, lpOut_empty, app_assoc])).less (by omega)⟩
  · try rw [hz]
    go_wp2
    go_end0
    exact ⟨rfl, (HM.out.cast (by unfold cqOut; rw [hz]; simp only [condOut_false, app_nil, app_assoc])).less (by omega)⟩
set_option maxHeartbeats 2000000 in
theorem cq_1 (hm : m < B) (hk : k < B) (hx2 : t.sig.length ≤ 1099511627776) (hx3 : t.sigc.length ≤ 1099511627776) (hx4 : (vecsB 2 t.cas).length ≤ 1099511627776) : EmitsF 94 #[.pointer (some ⟨k, 0, none⟩)] B (CqE B m k A2 A3 A4 c2 c3 c4 t) (app (some ([UInt8.ofNat 0])) (lpOut 2 (cqOut t))) 6597069766822 := by
  have HE0 := hid (cq_exts (t := t) (A2 := A2) (A3 := A3) (A4 := A4) (c2 := c2) (c3 := c3) (c4 := c4) hm hk hx2 hx3 hx4)
  have hmf : ∀ (fn : Fn) (first cap : Array Value) (w : World), (Instr.makeFunc fn first cap).run Try.prog w = .ok (.func fn first cap) w := fun _ _ _ _ => rfl
  refine EmitsF.mk (CqE.stable hm hk) (by have := olen_app (some ([UInt8.ofNat 0])) (lpOut 2 (cqOut t)); have : olen (some ([UInt8.ofNat 0])) = ([UInt8.ofNat 0]).length := rfl; have : [UInt8.ofNat 0].length = 1 := rfl; have := olen_lp 2 (by omega) (cqOut t); have := olen_cqOut hx2 hx3 hx4; omega) (by intro args w; kernel_rfl) ?_
  intro w1 q v base off pl ic bs hem
  obtain ⟨hm1, hk1, hq2, hq3, hq4⟩ := hem.F
  have H := hid (hem.u8 (R' := 6597069766821) 0 (by omega) (by omega))
  clear hem hm1 hk1 hq2 hq3 hq4
  go_enter Try.func94, Try.ntmps94
  go_wp2_with fail
  refine H.out.mono ?_
  rintro e w2 ⟨rfl, hem⟩
  clear H
  obtain ⟨hm1, hk1, hq2, hq3, hq4⟩ := hem.F
  have H := hid (hem.lp16 (R' := 59) HE0.out (by omega))
  clear hem hm1 hk1 hq2 hq3 hq4
  go_wp2_with fail
  refine H.out.mono ?_
  rintro e w2 ⟨rfl, hem⟩
  clear H
  have HM := hid hem
  clear hem
  go_wp2
  go_end0
  exact ⟨rfl, (HM.out.cast (by rw [app_assoc])).less (by omega)⟩
end
end Go.Proofs.Ytddkjhlngofkaaa

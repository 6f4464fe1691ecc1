/- Certificate of TLS 1.3: the continuations of the package's 'marshal' (printed by gen_ctm.py). -/
import Derived.Test.YtddkjhlngofkaaaEmQ
import Derived.Test.YtddkjhlngofkaaaCtMade
import Derived.Test.YtddkjhlngofkaaaCtV
import Derived.WalkSpells
import Derived.Deep.LoopGhost
namespace Go.Proofs.Ytddkjhlngofkaaa
open Go.RowKit
set_option maxRecDepth 100000

/-- what the continuations read: the certificate in block cv -/
def CrE (B cv : Nat) (A1 A2 A3 : Option Addr) (c1 c2 c3 : Nat) (t : Ct) (w : World) : Prop :=
  Blk w cv 133 #[.slice A1 t.certs.length c1, .slice A2 t.staple.length c2, .slice A3 t.stamps.length c3] ∧ Lst w B (.slice A1 t.certs.length c1) t.certs ∧ Byt w B (.slice A2 t.staple.length c2) t.staple ∧ Lst w B (.slice A3 t.stamps.length c3) t.stamps
/-- the sizes -/
structure CtN (t : Ct) : Prop where
  c8 : (vecsB 8 t.certs).length ≤ 1099511627776
  st : t.staple.length ≤ 1099511627776
  s4 : (vecsB 4 t.stamps).length ≤ 1099511627776
theorem ct_takeS (n : Nat) (ls : List (List UInt8)) (j : Nat) (h : j < ls.length) : (vecsB n (ls.take (j + 1))).length = (vecsB n (ls.take j)).length + (n + (ls[j]).length) := by
  have e : vecsB n (ls.take (j + 1)) = vecsB n (ls.take j) ++ vecsB n [ls[j]] := by
    rw [List.take_succ_eq_append_getElem h]; unfold vecsB; rw [List.flatMap_append]
  rw [e, List.length_append]; simp [vecsB, be_len]
theorem ct_takeL (n : Nat) (ls : List (List UInt8)) (j : Nat) : (vecsB n (ls.take j)).length ≤ (vecsB n ls).length := by
  have : vecsB n ls = vecsB n (ls.take j) ++ vecsB n (ls.drop j) := by
    unfold vecsB; rw [← List.flatMap_append, List.take_append_drop]
  rw [this, List.length_append]
  omega
theorem vecsB_len2 (n : Nat) (ls : List (List UInt8)) : (vecsB n ls).length = n * ls.length + (ls.map List.length).sum := by
  induction ls with
  | nil => simp [vecsB]
  | cons x ls ih =>
    have e : vecsB n (x :: ls) = (be n x.length ++ x) ++ vecsB n ls := rfl
    rw [e, List.length_append, List.length_append, be_len, ih, List.length_cons, Nat.mul_succ, List.map_cons, List.sum_cons]
    omega
theorem staple_out (x : List UInt8) : app (some [UInt8.ofNat 1]) (lpOut 3 (some x)) = ofW (stapleW x) := by
  rw [show (some x : Option (List UInt8)) = ofW (Wr.plain x) from rfl, lpOut_ofW, show (some [UInt8.ofNat 1] : Option (List UInt8)) = ofW ⟨[UInt8.ofNat 1], false⟩ from rfl, app_ofW]
  simp [behindW, Wr.vector, Wr.inner, Wr.vec, Wr.nil, Wr.plain, stapleW, Wr.num, be]
  rfl
theorem ctX_zero (t : Ct) : ctX t 0 = app (condOut t.ocsp (extOut 5 (ofW (stapleW t.staple)))) (condOut t.scts (extOut 18 (lpOut 2 (ofW (vecsW 2 t.stamps))))) := by
  show outL (ctExtL t) = _
  unfold ctExtL
  rw [outL_add, outL_add, outL_nil, lpOut_ofW]
  have h0 : ∀ o : Option (List UInt8), app (some []) o = o := by intro o; cases o <;> simp [app]
  rw [h0]
  rfl
theorem ctX_succ (t : Ct) (j : Nat) (h : 0 < j) : ctX t j = some [] := by unfold ctX; rw [if_neg (by omega)]
/-- what the i-th certificate's extensions need -/
def ctNX (j : Nat) : Nat := if j = 0 then 2199023255573 else 0
def ctNX2 (j : Nat) : Nat := if j = 0 then 0 else 2199023255573
theorem olen_ctX (t : Ct) (h : CtN t) (j : Nat) : olen (ctX t j) ≤ ctNX j := by
  unfold ctNX
  split
  · rename_i h0
    subst h0
    rw [ctX_zero]
    have h1 := olen_app (condOut t.ocsp (extOut 5 (ofW (stapleW t.staple)))) (condOut t.scts (extOut 18 (lpOut 2 (ofW (vecsW 2 t.stamps)))))
    have h2 := olen_cond t.ocsp (extOut 5 (ofW (stapleW t.staple)))
    have h3 := olen_cond t.scts (extOut 18 (lpOut 2 (ofW (vecsW 2 t.stamps))))
    have h4 := olen_ext 5 (ofW (stapleW t.staple))
    have h5 := olen_ext 18 (lpOut 2 (ofW (vecsW 2 t.stamps)))
    have h6 := olen_lp 2 (by omega) (ofW (vecsW 2 t.stamps))
    have h7 := olen_vecs 2 t.stamps
    have h8 := olen_ofW (stapleW t.staple)
    have h9 : (stapleW t.staple).b.length = 4 + t.staple.length := by rw [stapleW_eq]; simp [be_len]; omega
    have h10 := vecsB_len2 2 t.stamps
    have h11 := vecsB_len2 4 t.stamps
    have := h.st
    have := h.s4
    omega
  · rw [ctX_succ t j (by omega)]; exact Nat.le_refl _
theorem olen_ctOut (t : Ct) (h : CtN t) (j : Nat) (hj : j ≤ t.certs.length) : olen (ctOut t j) ≤ (vecsB 8 (t.certs.take j)).length + ctNX2 j := by
  induction j with
  | zero => exact Nat.zero_le _
  | succ j ih =>
    have ih := ih (by omega)
    have hlt : j < t.certs.length := by omega
    have e : ctOut t (j + 1) = app (ctOut t j) (app (lpOut 3 (some t.certs[j])) (lpOut 2 (ctX t j))) := by
      show app (ctOut t j) (app (lpOut 3 (some (t.certs[j]?.getD []))) (lpOut 2 (ctX t j))) = _
      rw [List.getElem?_eq_getElem hlt]; rfl
    rw [e, ct_takeS 8 _ _ hlt]
    have h1 := olen_app (ctOut t j) (app (lpOut 3 (some t.certs[j])) (lpOut 2 (ctX t j)))
    have h2 := olen_app (lpOut 3 (some t.certs[j])) (lpOut 2 (ctX t j))
    have h3 := olen_lp 3 (by omega) (some t.certs[j])
    have h4 := olen_lp 2 (by omega) (ctX t j)
    have h5 := olen_ctX t h j
    have h6 : olen (some t.certs[j]) = (t.certs[j]).length := rfl
    have h7 : ctNX2 (j + 1) = 2199023255573 := rfl
    have h8 : ctNX j + ctNX2 j = 2199023255573 := by unfold ctNX ctNX2; split <;> rfl
    omega
section
variable {w w' : World} {B cv : Nat} {A1 A2 A3 : Option Addr} {c1 c2 c3 : Nat} {t : Ct}
theorem CrE.stab {P : Nat → Prop} (hP : ∀ y, P y → B ≤ y ∧ y ≠ cv) : StabP P (CrE B cv A1 A2 A3 c1 c2 c3 t) := fun _ _ _ hu hS hf =>
  ⟨hf.1.upd hu (fun hk => (hP _ (hS _ hk)).2 rfl), hf.2.1.upd hu (fun k hk => (hP _ (hS k hk)).1), Row.upd hf.2.2.1 hu (fun k hk => (hP _ (hS k hk)).1), hf.2.2.2.upd hu (fun k hk => (hP _ (hS k hk)).1)⟩
set_option maxHeartbeats 2000000 in
theorem ct_cert {P : Nat → Prop} {F : World → Prop} {g c : Nat} {A : Option Addr} {x : List UInt8} (hPB : ∀ y, P y → B ≤ y) (hst : StabP P F) (hF : ∀ w, F w → Blk w g 22 #[.slice A x.length c] ∧ Byt w B (.slice A x.length c) x) :
    EmitsP 119 #[.pointer (some ⟨g, 0, none⟩)] P F (some x) x.length := by
  refine EmitsP.mk hst (Nat.le_refl _) (by intro args w; kernel_rfl) ?_
  intro w1 q v base off pl ic bs hem
  obtain ⟨hg1, hy1⟩ := hF _ hem.F
  have d0 := hg1.cell 0
  simp at d0
  have H := hid (hem.bytes (R' := 0) hPB hy1 (by omega))
  clear hem hg1 hy1
  go_enter Try.func119, Try.ntmps119
  go_wp2_with fail
  refine H.out.mono ?_
  rintro e w2 ⟨rfl, hem⟩
  have HM := hid hem
  clear hem H
  go_wp2
  go_end0
  exact ⟨rfl, HM.out⟩
set_option maxHeartbeats 2000000 in
theorem ct_stamp {P : Nat → Prop} {F : World → Prop} {g c : Nat} {A : Option Addr} {x : List UInt8} (hPB : ∀ y, P y → B ≤ y) (hst : StabP P F) (hF : ∀ w, F w → Blk w g 22 #[.slice A x.length c] ∧ Byt w B (.slice A x.length c) x) :
    EmitsP 125 #[.pointer (some ⟨g, 0, none⟩)] P F (some x) x.length := by
  refine EmitsP.mk hst (Nat.le_refl _) (by intro args w; kernel_rfl) ?_
  intro w1 q v base off pl ic bs hem
  obtain ⟨hg1, hy1⟩ := hF _ hem.F
  have d0 := hg1.cell 0
  simp at d0
  have H := hid (hem.bytes (R' := 0) hPB hy1 (by omega))
  clear hem hg1 hy1
  go_enter Try.func125, Try.ntmps125
  go_wp2_with fail
  refine H.out.mono ?_
  rintro e w2 ⟨rfl, hem⟩
  have HM := hid hem
  clear hem H
  go_wp2
  go_end0
  exact ⟨rfl, HM.out⟩
set_option maxHeartbeats 2000000 in
theorem ct_c5b {P : Nat → Prop} {F : World → Prop} (hPB : ∀ y, P y → B ≤ y) (hst : StabP P F) (hF : ∀ w, F w → CrE B cv A1 A2 A3 c1 c2 c3 t w) (hN : CtN t) : EmitsP 122 #[.pointer (some ⟨cv, 0, none⟩)] P F (some t.staple) 1099511627776 := by
  refine EmitsP.mk hst hN.st (by intro args w; kernel_rfl) ?_
  intro w1 q v base off pl ic bs hem
  obtain ⟨hg1, -, hy1, -⟩ := hF _ hem.F
  have d0 := hg1.cell 1
  simp at d0
  have H := hid (hem.bytes (R' := 0) hPB hy1 (by have := hN.st; omega))
  clear hem hg1 hy1 hN
  go_enter Try.func122, Try.ntmps122
  go_wp2_with fail
  refine H.out.mono ?_
  rintro e w2 ⟨rfl, hem⟩
  have HM := hid hem
  clear hem H
  go_wp2
  go_end0
  exact ⟨rfl, HM.out⟩
set_option maxHeartbeats 2000000 in
theorem ct_c5 {P : Nat → Prop} {F : World → Prop} (hPB : ∀ y, P y → B ≤ y) (hst : StabP P F) (hF : ∀ w, F w → CrE B cv A1 A2 A3 c1 c2 c3 t w) (hN : CtN t) : EmitsP 121 #[.pointer (some ⟨cv, 0, none⟩)] P F (ofW (stapleW t.staple)) 1099511627781 := by
  have hmf : ∀ (fn : Fn) (first cap : Array Value) (w : World), (Instr.makeFunc fn first cap).run Try.prog w = .ok (.func fn first cap) w := fun _ _ _ _ => rfl
  have HE := hid (ct_c5b hPB hst hF hN)
  refine EmitsP.mk hst (by rw [← staple_out]; have h1 := olen_app (some [UInt8.ofNat 1]) (lpOut 3 (some t.staple)); have h2 := olen_lp 3 (by omega) (some t.staple); have h3 : olen (some t.staple) = t.staple.length := rfl; have h4 : olen (some [UInt8.ofNat 1]) = 1 := rfl; have := hN.st; omega) (by intro args w; kernel_rfl) ?_
  intro w1 q v base off pl ic bs hem
  have H := hid (hem.u8 (R' := 1099511627780) 1 (by omega) (by omega))
  clear hem hN
  go_enter Try.func121, Try.ntmps121
  go_wp2_with fail
  refine H.out.mono ?_
  rintro e w2 ⟨rfl, hem⟩
  have H := hid (hem.lp24 (R' := 0) HE.out (by omega))
  clear hem
  go_wp2_with fail
  refine H.out.mono ?_
  rintro e w3 ⟨rfl, hem⟩
  have HM := hid hem
  clear hem H
  go_wp2
  go_end0
  exact ⟨rfl, HM.out.cast (by rw [app_assoc, staple_out])⟩
set_option maxHeartbeats 2000000 in
theorem ct_c18b {P : Nat → Prop} {F : World → Prop} (hPB : ∀ y, P y → B ≤ y) (hst : StabP P F) (hF : ∀ w, F w → CrE B cv A1 A2 A3 c1 c2 c3 t w) (hN : CtN t) : EmitsP 124 #[.pointer (some ⟨cv, 0, none⟩)] P F (ofW (vecsW 2 t.stamps)) 1099511627776 := by
  have hmf : ∀ (fn : Fn) (first cap : Array Value) (w : World), (Instr.makeFunc fn first cap).run Try.prog w = .ok (.func fn first cap) w := fun _ _ _ _ => rfl
  refine EmitsP.mk hst (by have := olen_vecs 2 t.stamps; have h1 := vecsB_len2 2 t.stamps; have h2 := vecsB_len2 4 t.stamps; have := hN.s4; omega) (by intro args w; kernel_rfl) ?_
  intro w1 q v base off pl ic bs hem
  obtain ⟨hg1, -, -, hl1⟩ := hF _ hem.F
  have d0 := hg1.cell 2
  simp at d0
  have HM := hid hem
  have HX := hid hN.s4
  have hlen : t.stamps.length ≤ 9223372036854775807 := by obtain ⟨_, _, _, _, a, b⟩ := hl1.form; omega
  clear hem hg1 hl1 hN
  go_enter Try.func124, Try.ntmps124
  go_wp2_with fail
  go_loopg [8] t.stamps.length (fun gk i wr => ∃ j : Nat, j + gk = t.stamps.length ∧ i = .int .i64 (j : Int) ∧ EmQ w1 q v base off pl ic P F (app (some bs) (ofW (vecsW 2 (t.stamps.take j)))) (1099511627776 - (vecsB 4 (t.stamps.take j)).length) wr)
  case atStart => exact ⟨0, by omega, rfl, by have h : ofW (vecsW 2 (t.stamps.take 0)) = some [] := rfl; rw [h, app_nil]; exact HM.out⟩
  case round =>
    obtain ⟨j, hj0, rfl, hem⟩ := hrel
    have HJ := hid hj0
    have HE := hid hem
    have hj : j ≤ t.stamps.length := by omega
    clear hj0
    by_cases hlt : j < t.stamps.length
    · obtain ⟨b, o, rfl, hb, hj', A', c', hcell, hy, hl1, hl2⟩ := (hF _ hem.F).2.2.2.at_ hlt
      have hts := ct_takeS 4 t.stamps j hlt
      have htl := ct_takeL 4 t.stamps (j + 1)
      have HS := hid (show app (app (some bs) (ofW (vecsW 2 (t.stamps.take j)))) (lpOut 2 (some t.stamps[j])) = app (some bs) (ofW (vecsW 2 (t.stamps.take (j + 1)))) by rw [app_assoc, app_vecs, ← List.take_succ_eq_append_getElem hlt])
      have hX := HX.out
      obtain ⟨g, hg⟩ : ∃ g, wr.heap.size = g := ⟨_, rfl⟩
      have hql := hem.lt
      have hA := hem.new ((Upd.refl [] wr).alloc (.cells #[.slice A' (t.stamps[j]).length c'] 22))
      have hbk : Blk (wr.alloc (.cells #[.slice A' (t.stamps[j]).length c'] 22)) g 22 #[.slice A' (t.stamps[j]).length c'] := by rw [← hg]; exact Blk.new _ _ _
      have H := hid (hA.lp16v (R' := 1099511627776 - (vecsB 4 (t.stamps.take (j + 1))).length) (F' := fun w => Blk w g 22 #[.slice A' (t.stamps[j]).length c'] ∧ Byt w B (.slice A' (t.stamps[j]).length c') t.stamps[j]) (fid := 125) (cap := #[.pointer (some ⟨g, 0, none⟩)]) (out := some t.stamps[j]) (need := (t.stamps[j]).length) hbk (by decide) hbk (by decide) (by omega) (by omega)
        (ct_stamp (fun y hy => hPB y hy.1) (fun S w w' hu hS hf => ⟨hf.1.upd hu (fun hk => (hS _ hk).2.1 rfl), Row.upd hf.2 hu (fun k hk => hPB k (hS k hk).1)⟩) (fun w hf => hf)) ⟨hbk, Row.alloc hy _⟩ (by omega))
      clear hem hy hts htl hX hA hbk
      go_wp2_with fail
      refine H.out.mono ?_
      rintro e w2 ⟨⟨rfl, hem⟩, -⟩
      clear H
      go_wp2
      have hj0 := HJ.out
      go_roundg (t.stamps.length - (j + 1))
      case measure => omega
      case rel => exact ⟨j + 1, by omega, by go_num, hem.cast HS.out⟩
    · obtain rfl : j = t.stamps.length := by have := HJ.out; omega
      clear hem
      go_wp2
      go_end0
      exact ⟨rfl, (HE.out.cast (by rw [List.take_length])).less (by omega)⟩
set_option maxHeartbeats 2000000 in
theorem ct_c18 {P : Nat → Prop} {F : World → Prop} (hPB : ∀ y, P y → B ≤ y) (hst : StabP P F) (hF : ∀ w, F w → CrE B cv A1 A2 A3 c1 c2 c3 t w) (hN : CtN t) : EmitsP 123 #[.pointer (some ⟨cv, 0, none⟩)] P F (lpOut 2 (ofW (vecsW 2 t.stamps))) 1099511627780 := by
  have hmf : ∀ (fn : Fn) (first cap : Array Value) (w : World), (Instr.makeFunc fn first cap).run Try.prog w = .ok (.func fn first cap) w := fun _ _ _ _ => rfl
  have HE := hid (ct_c18b hPB hst hF hN)
  refine EmitsP.mk hst (by have h1 := olen_lp 2 (by omega) (ofW (vecsW 2 t.stamps)); have := HE.out.1; omega) (by intro args w; kernel_rfl) ?_
  intro w1 q v base off pl ic bs hem
  have H := hid (hem.lp16 (R' := 0) HE.out (by omega))
  clear hem hN
  go_enter Try.func123, Try.ntmps123
  go_wp2_with fail
  refine H.out.mono ?_
  rintro e w3 ⟨rfl, hem⟩
  have HM := hid hem
  clear hem H
  go_wp2
  go_end0
  exact ⟨rfl, HM.out⟩
set_option maxHeartbeats 4000000 in
theorem ct_cx {P : Nat → Prop} {F : World → Prop} (hPB : ∀ y, P y → B ≤ y) (hst : StabP P F) (hF : ∀ w, F w → CrE B cv A1 A2 A3 c1 c2 c3 t w) {gi j : Nat} (hG : ∀ w, F w → Blk w gi 3 #[.int .i64 (j : Int)]) (hN : CtN t) (h2 : A2.isSome = t.ocsp) (h3 : A3.isSome = t.scts) : EmitsP 120 #[.pointer (some ⟨gi, 0, none⟩), .pointer (some ⟨cv, 0, none⟩)] P F (ctX t j) (ctNX j) := by
  have hmf : ∀ (fn : Fn) (first cap : Array Value) (w : World), (Instr.makeFunc fn first cap).run Try.prog w = .ok (.func fn first cap) w := fun _ _ _ _ => rfl
  have q1 : ∀ (w : World) (a : Option Addr) (n c n' c' : Nat), (binOp .neq 24 (.slice a n c) (.slice none n' c')).run Try.prog w = .ok (.bool a.isSome) w := fun w a n c n' c' => by rw [run_neq_slice_nil_any w _ _ a n c n' c' Try.underlying24]; cases a <;> rfl
  have q2 : ∀ (w : World) (a : Option Addr) (n c n' c' : Nat), (binOp .neq 22 (.slice a n c) (.slice none n' c')).run Try.prog w = .ok (.bool a.isSome) w := fun w a n c n' c' => by rw [run_neq_slice_nil_any w _ _ a n c n' c' Try.underlying22]; cases a <;> rfl
  have HE5 := hid (ct_c5 hPB hst hF hN)
  have HE18 := hid (ct_c18 hPB hst hF hN)
  have HH2 := hid h2
  have HH3 := hid h3
  refine EmitsP.mk hst (olen_ctX t hN j) (by intro args w; kernel_rfl) ?_
  intro w1 q v base off pl ic bs hem
  have hb := (hG _ hem.F).cell 0
  simp at hb
  have HM := hid hem
  by_cases hj : 0 < j
  · have hd : decide ((0 : Int) < (j : Int)) = true := decide_eq_true (by omega)
    have HX := hid (ctX_succ t j hj)
    clear hem hN h2 h3
    go_enter Try.func120, Try.ntmps120
    go_wp2
    go_end0
    exact ⟨rfl, (HM.out.cast (by rw [HX.out, app_nil])).less (by omega)⟩
  · obtain rfl : j = 0 := by omega
    have hn0 : ctNX 0 = 2199023255573 := rfl
    rw [hn0] at HM
    have hcv := (hF _ hem.F).1
    have cc1 := hcv.cell 1
    simp at cc1
    clear hem hj hN h2 h3 hcv
    go_enter Try.func120, Try.ntmps120
    go_upto_if 8 with fail
    go_cut [] (fun wx => EmQ w1 q v base off pl ic P F (app (some bs) (condOut t.ocsp (extOut 5 (ofW (stapleW t.staple))))) 1099511627786 wx)
    case first =>
      rcases bcase t.ocsp with hz | hz
      · have hA := HH2.out
        rw [hz] at hA
        rw [hA]
        have HZ := hid hz
        have H := hid (HM.out.u16 (R' := 2199023255571) 5 (by omega) (by omega))
        clear hA hz
        go_wp2_with fail
        refine H.out.mono ?_
        rintro e w2 ⟨rfl, hem⟩
        have H := hid (hem.lp16 (R' := 1099511627786) HE5.out (by omega))
        clear hem
        go_wp2_with fail
        refine H.out.mono ?_
        rintro e w3 ⟨rfl, hem⟩
        have HM := hid hem
        clear hem H
        go_wp2
        go_meet
        exact HM.out.cast (by rw [HZ.out, condOut_true, extOut, app_assoc])
      · have hA := HH2.out
        rw [hz] at hA
        rw [hA]
        have HZ := hid hz
        clear hA hz
        go_wp2
        go_meet
        exact (HM.out.cast (by rw [HZ.out, condOut_false, app_nil])).less (by omega)
    have hem := hcut
    have hcv := (hF _ hem.F).1
    have cc2 := hcv.cell 2
    simp at cc2
    have HM2 := hid hem
    clear hem hcut hcv HM HE5 cc1
    go_upto_if 16 with fail
    rcases bcase t.scts with hz | hz
    · have hA := HH3.out
      rw [hz] at hA
      rw [hA]
      have HZ := hid hz
      have H := hid (HM2.out.u16 (R' := 1099511627784) 18 (by omega) (by omega))
      clear hA hz
      go_wp2_with fail
      refine H.out.mono ?_
      rintro e w2 ⟨rfl, hem⟩
      have H := hid (hem.lp16 (R' := 0) HE18.out (by omega))
      clear hem
      go_wp2_with fail
      refine H.out.mono ?_
      rintro e w3 ⟨rfl, hem⟩
      have HM := hid hem
      clear hem H
      go_wp2
      go_end0
      exact ⟨rfl, HM.out.cast (by rw [ctX_zero, HZ.out]; simp only [condOut_true, extOut, app_assoc])⟩
    · have hA := HH3.out
      rw [hz] at hA
      rw [hA]
      have HZ := hid hz
      clear hA hz
      go_wp2
      go_end0
      exact ⟨rfl, (HM2.out.cast (by rw [ctX_zero, HZ.out, condOut_false, app_nil])).less (by omega)⟩
end
end Go.Proofs.Ytddkjhlngofkaaa

/- EncryptedExtensions: made by the package (printed by gen_eem.py). -/
import Derived.Test.YtcdjbciifnoajaaEmit
import Derived.Test.YtcdjbciifnoajaaEeI
namespace Go.Proofs.Ytcdjbciifnoajaa
open Go.RowKit
set_option maxRecDepth 100000

/-- what the continuations read -/
def EeF (B m k : Nat) (A1 A2 : Option Addr) (c1 c2 : Nat) (t : Ee) (w : World) : Prop :=
  Blk w m 114 #[strv t.alpn, .slice A1 t.quic.length c1, .bool t.early, .slice A2 t.ech.length c2, .bool t.ack] ∧ Blk w k 112 #[.pointer (some ⟨m, 0, none⟩)] ∧
    Byt w B (.slice A1 t.quic.length c1) t.quic ∧ Byt w B (.slice A2 t.ech.length c2) t.ech
section
variable {w w' : World} {B m k : Nat} {A1 A2 : Option Addr} {c1 c2 : Nat} {t : Ee}
theorem EeF.stable (hm : m < B) (hk : k < B) : Stable B (EeF B m k A1 A2 c1 c2 t) := fun _ _ hb hf =>
  ⟨hf.1.below hb hm, hf.2.1.below hb hk, Row.below hf.2.2.1 hb, Row.below hf.2.2.2 hb⟩
/-- what the package writes -/
def eeOut (t : Ee) : Option (List UInt8) := app (condOut (decide (0 < t.alpn.length)) (extOut 16 (lpOut 2 (lpOut 1 (some (t.alpn)))))) (app (condOut (t.has) (extOut 57 (some (t.quic)))) (app (condOut (t.early) (extOut 42 (some ([])))) (app (condOut (decide (0 < t.ech.length)) (extOut 65037 (some (t.ech)))) (condOut (t.ack) (extOut 0 (some ([])))))))
theorem olen_eeOut (hx : t.alpn.length ≤ 2147483647) (hx2 : t.quic.length ≤ 2147483647) (hx3 : t.ech.length ≤ 2147483647) : olen (eeOut t) ≤ 6442451039 := by
  unfold eeOut
  have := olen_app (condOut (decide (0 < t.alpn.length)) (extOut 16 (lpOut 2 (lpOut 1 (some (t.alpn)))))) (app (condOut (t.has) (extOut 57 (some (t.quic)))) (app (condOut (t.early) (extOut 42 (some ([])))) (app (condOut (decide (0 < t.ech.length)) (extOut 65037 (some (t.ech)))) (condOut (t.ack) (extOut 0 (some ([])))))))
  have := olen_cond (decide (0 < t.alpn.length)) (extOut 16 (lpOut 2 (lpOut 1 (some (t.alpn)))))
  have := olen_ext 16 (lpOut 2 (lpOut 1 (some (t.alpn))))
  have := olen_lp 2 (by omega) (lpOut 1 (some (t.alpn)))
  have := olen_lp 1 (by omega) (some (t.alpn))
  have : olen (some (t.alpn)) = (t.alpn).length := rfl
  have := olen_app (condOut (t.has) (extOut 57 (some (t.quic)))) (app (condOut (t.early) (extOut 42 (some ([])))) (app (condOut (decide (0 < t.ech.length)) (extOut 65037 (some (t.ech)))) (condOut (t.ack) (extOut 0 (some ([]))))))
  have := olen_cond (t.has) (extOut 57 (some (t.quic)))
  have := olen_ext 57 (some (t.quic))
  have : olen (some (t.quic)) = (t.quic).length := rfl
  have := olen_app (condOut (t.early) (extOut 42 (some ([])))) (app (condOut (decide (0 < t.ech.length)) (extOut 65037 (some (t.ech)))) (condOut (t.ack) (extOut 0 (some ([])))))
  have := olen_cond (t.early) (extOut 42 (some ([])))
  have := olen_ext 42 (some ([]))
  have : olen (some []) = 0 := rfl
  have := olen_app (condOut (decide (0 < t.ech.length)) (extOut 65037 (some (t.ech)))) (condOut (t.ack) (extOut 0 (some ([]))))
  have := olen_cond (decide (0 < t.ech.length)) (extOut 65037 (some (t.ech)))
  have := olen_ext 65037 (some (t.ech))
  have : olen (some (t.ech)) = (t.ech).length := rfl
  have := olen_cond (t.ack) (extOut 0 (some ([])))
  have := olen_ext 0 (some ([]))
  have : olen (some []) = 0 := rfl
  omega
set_option maxHeartbeats 2000000 in
theorem ee_e5 (hm : m < B) (hk : k < B) (hx : t.alpn.length ≤ 2147483647) : EmitsF 97 #[.pointer (some ⟨k, 0, none⟩)] B (EeF B m k A1 A2 c1 c2 t) (some (t.alpn)) 2147483647 := by
  have hmf : ∀ (fn : Fn) (first cap : Array Value) (w : World), (Instr.makeFunc fn first cap).run Try.prog w = .ok (.func fn first cap) w := fun _ _ _ _ => rfl
  refine EmitsF.mk (EeF.stable hm hk) (by have : olen (some (t.alpn)) = (t.alpn).length := rfl; omega) (by intro args w; kernel_rfl) ?_
  intro w1 q v base off pl ic bs hem
  obtain ⟨hm1, hk1, hq, he⟩ := hem.F
  have d0 := hk1.cell 0
  have cc0 := hm1.cell 0
  simp at d0 cc0
  have HM := hid hem
  clear hem hm1 hk1 hq he
  go_enter Try.func97, Try.ntmps97
  go_wp2_with (refine wpList_conv_string 9 23 _ rfl Try.underlying9 Try.underlying23 rfl rfl (by omega) ?_; intro wN A9 c9 hyN huN hnN)
  refine (HM.out.bytesOf (R' := 0) huN hyN (fun k hk => (hnN k hk).1) (by omega)).mono ?_
  rintro e w2 ⟨rfl, hem⟩
  clear HM
  have HM := hid hem
  clear hem
  go_wp2
  go_end0
  exact ⟨rfl, (HM.out.cast (by rfl)).less (by omega)⟩
set_option maxHeartbeats 2000000 in
theorem ee_e4 (hm : m < B) (hk : k < B) (hx : t.alpn.length ≤ 2147483647) : EmitsF 96 #[.pointer (some ⟨k, 0, none⟩)] B (EeF B m k A1 A2 c1 c2 t) (lpOut 1 (some (t.alpn))) 2147483651 := by
  have HE0 := hid (ee_e5 (t := t) (A1 := A1) (A2 := A2) (c1 := c1) (c2 := c2) hm hk hx)
  have hmf : ∀ (fn : Fn) (first cap : Array Value) (w : World), (Instr.makeFunc fn first cap).run Try.prog w = .ok (.func fn first cap) w := fun _ _ _ _ => rfl
  refine EmitsF.mk (EeF.stable hm hk) (by have := olen_lp 1 (by omega) (some (t.alpn)); have : olen (some (t.alpn)) = (t.alpn).length := rfl; omega) (by intro args w; kernel_rfl) ?_
  intro w1 q v base off pl ic bs hem
  obtain ⟨hm1, hk1, hq, he⟩ := hem.F
  have H := hid (hem.lp8 (R' := 0) HE0.out (by omega))
  clear hem hm1 hk1 hq he
  go_enter Try.func96, Try.ntmps96
  go_wp2_with fail
  refine H.out.mono ?_
  rintro e w2 ⟨rfl, hem⟩
  clear H
  have HM := hid hem
  clear hem
  go_wp2
  go_end0
  exact ⟨rfl, (HM.out.cast (by rfl)).less (by omega)⟩
set_option maxHeartbeats 2000000 in
theorem ee_e3 (hm : m < B) (hk : k < B) (hx : t.alpn.length ≤ 2147483647) : EmitsF 95 #[.pointer (some ⟨k, 0, none⟩)] B (EeF B m k A1 A2 c1 c2 t) (lpOut 2 (lpOut 1 (some (t.alpn)))) 2147483655 := by
  have HE0 := hid (ee_e4 (t := t) (A1 := A1) (A2 := A2) (c1 := c1) (c2 := c2) hm hk hx)
  have hmf : ∀ (fn : Fn) (first cap : Array Value) (w : World), (Instr.makeFunc fn first cap).run Try.prog w = .ok (.func fn first cap) w := fun _ _ _ _ => rfl
  refine EmitsF.mk (EeF.stable hm hk) (by have := olen_lp 2 (by omega) (lpOut 1 (some (t.alpn))); have := olen_lp 1 (by omega) (some (t.alpn)); have : olen (some (t.alpn)) = (t.alpn).length := rfl; omega) (by intro args w; kernel_rfl) ?_
  intro w1 q v base off pl ic bs hem
  obtain ⟨hm1, hk1, hq, he⟩ := hem.F
  have H := hid (hem.lp16 (R' := 0) HE0.out (by omega))
  clear hem hm1 hk1 hq he
  go_enter Try.func95, Try.ntmps95
  go_wp2_with fail
  refine H.out.mono ?_
  rintro e w2 ⟨rfl, hem⟩
  clear H
  have HM := hid hem
  clear hem
  go_wp2
  go_end0
  exact ⟨rfl, (HM.out.cast (by rfl)).less (by omega)⟩
set_option maxHeartbeats 2000000 in
theorem ee_q (hm : m < B) (hk : k < B) (hx2 : t.quic.length ≤ 2147483647) : EmitsF 98 #[.pointer (some ⟨k, 0, none⟩)] B (EeF B m k A1 A2 c1 c2 t) (some (t.quic)) 2147483647 := by
  have hmf : ∀ (fn : Fn) (first cap : Array Value) (w : World), (Instr.makeFunc fn first cap).run Try.prog w = .ok (.func fn first cap) w := fun _ _ _ _ => rfl
  refine EmitsF.mk (EeF.stable hm hk) (by have : olen (some (t.quic)) = (t.quic).length := rfl; omega) (by intro args w; kernel_rfl) ?_
  intro w1 q v base off pl ic bs hem
  obtain ⟨hm1, hk1, hq, he⟩ := hem.F
  have d0 := hk1.cell 0
  have cc1 := hm1.cell 1
  simp at d0 cc1
  have H := hid (hem.bytes (R' := 0) hq (by omega))
  clear hem hm1 hk1 hq he
  go_enter Try.func98, Try.ntmps98
  go_wp2_with fail
  refine H.out.mono ?_
  rintro e w2 ⟨rfl, hem⟩
  clear H
  have HM := hid hem
  clear hem
  go_wp2
  go_end0
  exact ⟨rfl, (HM.out.cast (by rfl)).less (by omega)⟩
set_option maxHeartbeats 2000000 in
theorem ee_c (hm : m < B) (hk : k < B) (hx3 : t.ech.length ≤ 2147483647) : EmitsF 99 #[.pointer (some ⟨k, 0, none⟩)] B (EeF B m k A1 A2 c1 c2 t) (some (t.ech)) 2147483647 := by
  have hmf : ∀ (fn : Fn) (first cap : Array Value) (w : World), (Instr.makeFunc fn first cap).run Try.prog w = .ok (.func fn first cap) w := fun _ _ _ _ => rfl
  refine EmitsF.mk (EeF.stable hm hk) (by have : olen (some (t.ech)) = (t.ech).length := rfl; omega) (by intro args w; kernel_rfl) ?_
  intro w1 q v base off pl ic bs hem
  obtain ⟨hm1, hk1, hq, he⟩ := hem.F
  have d0 := hk1.cell 0
  have cc3 := hm1.cell 3
  simp at d0 cc3
  have H := hid (hem.bytes (R' := 0) he (by omega))
  clear hem hm1 hk1 hq he
  go_enter Try.func99, Try.ntmps99
  go_wp2_with fail
  refine H.out.mono ?_
  rintro e w2 ⟨rfl, hem⟩
  clear H
  have HM := hid hem
  clear hem
  go_wp2
  go_end0
  exact ⟨rfl, (HM.out.cast (by rfl)).less (by omega)⟩
set_option maxHeartbeats 2000000 in
theorem ee_exts (hm : m < B) (hk : k < B) (hx : t.alpn.length ≤ 2147483647) (hx2 : t.quic.length ≤ 2147483647) (hx3 : t.ech.length ≤ 2147483647) (hA : (t.has = true ∧ ∃ a, A1 = some a) ∨ (t.has = false ∧ A1 = none)) : EmitsF 94 #[.pointer (some ⟨k, 0, none⟩)] B (EeF B m k A1 A2 c1 c2 t) (eeOut t) 6442451039 := by
  have HE0 := hid (ee_e3 (t := t) (A1 := A1) (A2 := A2) (c1 := c1) (c2 := c2) hm hk hx)
  have HE1 := hid (ee_q (t := t) (A1 := A1) (A2 := A2) (c1 := c1) (c2 := c2) hm hk hx2)
  have HE2 := hid (ee_c (t := t) (A1 := A1) (A2 := A2) (c1 := c1) (c2 := c2) hm hk hx3)
  have hmf : ∀ (fn : Fn) (first cap : Array Value) (w : World), (Instr.makeFunc fn first cap).run Try.prog w = .ok (.func fn first cap) w := fun _ _ _ _ => rfl
  have q : ∀ (w : World) (a : Option Addr) (n c n' c' : Nat), (binOp .neq 23 (.slice a n c) (.slice none n' c')).run Try.prog w = .ok (.bool (!a.isNone)) w := fun w a n c n' c' => run_neq_slice_nil_any w _ _ a n c n' c' Try.underlying23
  refine EmitsF.mk (EeF.stable hm hk) (Nat.le_trans (olen_eeOut hx hx2 hx3) (by omega)) (by intro args w; kernel_rfl) ?_
  intro w1 q v base off pl ic bs hem
  obtain ⟨hm1, hk1, hq, he⟩ := hem.F
  have d0 := hk1.cell 0
  have cc0 := hm1.cell 0
  simp at d0 cc0
  have HM := hid hem
  clear hem hm1 hk1 hq he
  go_enter Try.func94, Try.ntmps94
  go_upto_if 8 with fail
  go_cut [] (fun wx => Em w1 q v base off pl ic B (EeF B m k A1 A2 c1 c2 t) (app (some bs) (condOut (decide (0 < t.alpn.length)) (extOut 16 (lpOut 2 (lpOut 1 (some (t.alpn))))))) 4294967378 wx)
  case first =>
    rcases bcase (decide (0 < t.alpn.length)) with hz | hz
    · try rw [hz]
      have hem := HM.out
      clear HM
      obtain ⟨hm1, hk1, hq, he⟩ := hem.F
      have H := hid (hem.u16 (R' := 6442451037) 16 (by omega) (by omega))
      clear hem hm1 hk1 hq he
      go_wp2_with fail
      refine H.out.mono ?_
      rintro e w2 ⟨rfl, hem⟩
      clear H
      obtain ⟨hm1, hk1, hq, he⟩ := hem.F
      have H := hid (hem.lp16 (R' := 4294967378) HE0.out (by omega))
      clear hem hm1 hk1 hq he
      go_wp2_with fail
      refine H.out.mono ?_
      rintro e w2 ⟨rfl, hem⟩
      clear H
      have HM := hid hem
      clear hem
      go_wp2_with fail
      go_meet
      exact HM.out.cast (by rw [hz]; simp only [condOut_true, extOut, lpOut_empty, app_assoc])
    · try rw [hz]
      go_wp2_with fail
      go_meet
      exact (HM.out.cast (by rw [hz, condOut_false, app_nil])).less (by omega)
  have hem := hcut
  clear hcut HM
  obtain ⟨hm1, hk1, hq, he⟩ := hem.F
  have d0 := hk1.cell 0
  have cc1 := hm1.cell 1
  simp at d0 cc1
  have HM := hid hem
  clear hem hm1 hk1 hq he
  go_upto_if 18 with fail
  go_cut [] (fun wx => Em w1 q v base off pl ic B (EeF B m k A1 A2 c1 c2 t) (app (app (some bs) (condOut (decide (0 < t.alpn.length)) (extOut 16 (lpOut 2 (lpOut 1 (some (t.alpn))))))) (condOut (t.has) (extOut 57 (some (t.quic))))) 2147483725 wx)
  case first =>
    rcases hA with ⟨hz, a9, rfl⟩ | ⟨hz, rfl⟩
    · try rw [hz]
      have hem := HM.out
      clear HM
      obtain ⟨hm1, hk1, hq, he⟩ := hem.F
      have H := hid (hem.u16 (R' := 4294967376) 57 (by omega) (by omega))
      clear hem hm1 hk1 hq he
      go_wp2_with fail
      refine H.out.mono ?_
      rintro e w2 ⟨rfl, hem⟩
      clear H
      obtain ⟨hm1, hk1, hq, he⟩ := hem.F
      have H := hid (hem.lp16 (R' := 2147483725) HE1.out (by omega))
      clear hem hm1 hk1 hq he
      go_wp2_with fail
      refine H.out.mono ?_
      rintro e w2 ⟨rfl, hem⟩
      clear H
      have HM := hid hem
      clear hem
      go_wp2_with fail
      go_meet
      exact HM.out.cast (by rw [hz]; simp only [condOut_true, extOut, lpOut_empty, app_assoc])
    · try rw [hz]
      go_wp2_with fail
      go_meet
      exact (HM.out.cast (by rw [hz, condOut_false, app_nil])).less (by omega)
  have hem := hcut
  clear hcut HM
  obtain ⟨hm1, hk1, hq, he⟩ := hem.F
  have d0 := hk1.cell 0
  have cc2 := hm1.cell 2
  simp at d0 cc2
  have HM := hid hem
  clear hem hm1 hk1 hq he
  go_upto_if 27 with fail
  go_cut [] (fun wx => Em w1 q v base off pl ic B (EeF B m k A1 A2 c1 c2 t) (app (app (app (some bs) (condOut (decide (0 < t.alpn.length)) (extOut 16 (lpOut 2 (lpOut 1 (some (t.alpn))))))) (condOut (t.has) (extOut 57 (some (t.quic))))) (condOut (t.early) (extOut 42 (some [])))) 2147483721 wx)
  case first =>
    rcases bcase (t.early) with hz | hz
    · try rw [hz]
      have hem := HM.out
      clear HM
      obtain ⟨hm1, hk1, hq, he⟩ := hem.F
      have H := hid (hem.u16 (R' := 2147483723) 42 (by omega) (by omega))
      clear hem hm1 hk1 hq he
      go_wp2_with fail
      refine H.out.mono ?_
      rintro e w2 ⟨rfl, hem⟩
      clear H
      obtain ⟨hm1, hk1, hq, he⟩ := hem.F
      have H := hid (hem.u16 (R' := 2147483721) 0 (by omega) (by omega))
      clear hem hm1 hk1 hq he
      go_wp2_with fail
      refine H.out.mono ?_
      rintro e w2 ⟨rfl, hem⟩
      clear H
      have HM := hid hem
      clear hem
      go_wp2_with fail
      go_meet
      exact HM.out.cast (by rw [hz]; simp only [condOut_true, extOut, lpOut_empty, app_assoc])
    · try rw [hz]
      go_wp2_with fail
      go_meet
      exact (HM.out.cast (by rw [hz, condOut_false, app_nil])).less (by omega)
  have hem := hcut
  clear hcut HM
  obtain ⟨hm1, hk1, hq, he⟩ := hem.F
  have d0 := hk1.cell 0
  have cc3 := hm1.cell 3
  simp at d0 cc3
  have HM := hid hem
  clear hem hm1 hk1 hq he
  go_upto_if 37 with fail
  go_cut [] (fun wx => Em w1 q v base off pl ic B (EeF B m k A1 A2 c1 c2 t) (app (app (app (app (some bs) (condOut (decide (0 < t.alpn.length)) (extOut 16 (lpOut 2 (lpOut 1 (some (t.alpn))))))) (condOut (t.has) (extOut 57 (some (t.quic))))) (condOut (t.early) (extOut 42 (some [])))) (condOut (decide (0 < t.ech.length)) (extOut 65037 (some (t.ech))))) 68 wx)
  case first =>
    rcases bcase (decide (0 < t.ech.length)) with hz | hz
    · try rw [hz]
      have hem := HM.out
      clear HM
      obtain ⟨hm1, hk1, hq, he⟩ := hem.F
      have H := hid (hem.u16 (R' := 2147483719) 65037 (by omega) (by omega))
      clear hem hm1 hk1 hq he
      go_wp2_with fail
      refine H.out.mono ?_
      rintro e w2 ⟨rfl, hem⟩
      clear H
      obtain ⟨hm1, hk1, hq, he⟩ := hem.F
      have H := hid (hem.lp16 (R' := 68) HE2.out (by omega))
      clear hem hm1 hk1 hq he
      go_wp2_with fail
      refine H.out.mono ?_
      rintro e w2 ⟨rfl, hem⟩
      clear H
      have HM := hid hem
      clear hem
      go_wp2_with fail
      go_meet
      exact HM.out.cast (by rw [hz]; simp only [condOut_true, extOut, lpOut_empty, app_assoc])
    · try rw [hz]
      go_wp2_with fail
      go_meet
      exact (HM.out.cast (by rw [hz, condOut_false, app_nil])).less (by omega)
  have hem := hcut
  clear hcut HM
  obtain ⟨hm1, hk1, hq, he⟩ := hem.F
  have d0 := hk1.cell 0
  have cc4 := hm1.cell 4
  simp at d0 cc4
  have HM := hid hem
  clear hem hm1 hk1 hq he
  go_upto_if 46 with fail
  rcases bcase (t.ack) with hz | hz
  · try rw [hz]
    have hem := HM.out
    clear HM
    obtain ⟨hm1, hk1, hq, he⟩ := hem.F
    have H := hid (hem.u16 (R' := 66) 0 (by omega) (by omega))
    clear hem hm1 hk1 hq he
    go_wp2_with fail
    refine H.out.mono ?_
    rintro e w2 ⟨rfl, hem⟩
    clear H
    obtain ⟨hm1, hk1, hq, he⟩ := hem.F
    have H := hid (hem.u16 (R' := 64) 0 (by omega) (by omega))
    clear hem hm1 hk1 hq he
    go_wp2_with fail
    refine H.out.mono ?_
    rintro e w2 ⟨rfl, hem⟩
    clear H
    have HM := hid hem
    clear hem
    go_wp2
    go_end0
    exact ⟨rfl, (HM.out.cast (by unfold eeOut; rw [hz]; simp only [condOut_true, extOut, lpOut_empty, app_assoc])).less (by omega)⟩
  · try rw [hz]
    go_wp2
    go_end0
    exact ⟨rfl, (HM.out.cast (by unfold eeOut; rw [hz]; simp only [condOut_false, app_nil, app_assoc])).less (by omega)⟩
set_option maxHeartbeats 2000000 in
theorem ee_1 (hm : m < B) (hk : k < B) (hx : t.alpn.length ≤ 2147483647) (hx2 : t.quic.length ≤ 2147483647) (hx3 : t.ech.length ≤ 2147483647) (hA : (t.has = true ∧ ∃ a, A1 = some a) ∨ (t.has = false ∧ A1 = none)) : EmitsF 93 #[.pointer (some ⟨k, 0, none⟩)] B (EeF B m k A1 A2 c1 c2 t) (lpOut 2 (eeOut t)) 6442451043 := by
  have HE0 := hid (ee_exts (t := t) (A1 := A1) (A2 := A2) (c1 := c1) (c2 := c2) hm hk hx hx2 hx3 hA)
  have hmf : ∀ (fn : Fn) (first cap : Array Value) (w : World), (Instr.makeFunc fn first cap).run Try.prog w = .ok (.func fn first cap) w := fun _ _ _ _ => rfl
  refine EmitsF.mk (EeF.stable hm hk) (by have := olen_lp 2 (by omega) (eeOut t); have := olen_eeOut hx hx2 hx3; omega) (by intro args w; kernel_rfl) ?_
  intro w1 q v base off pl ic bs hem
  obtain ⟨hm1, hk1, hq, he⟩ := hem.F
  have H := hid (hem.lp16 (R' := 0) HE0.out (by omega))
  clear hem hm1 hk1 hq he
  go_enter Try.func93, Try.ntmps93
  go_wp2_with fail
  refine H.out.mono ?_
  rintro e w2 ⟨rfl, hem⟩
  clear H
  have HM := hid hem
  clear hem
  go_wp2
  go_end0
  exact ⟨rfl, (HM.out.cast (by rfl)).less (by omega)⟩
end
end Go.Proofs.Ytcdjbciifnoajaa

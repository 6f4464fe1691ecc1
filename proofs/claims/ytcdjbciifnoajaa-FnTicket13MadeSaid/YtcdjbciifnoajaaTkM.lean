/- NewSessionTicket of TLS 1.3: made by the package. -/
import Derived.Test.YtcdjbciifnoajaaTkBytes
namespace Go.Proofs.Ytcdjbciifnoajaa
open Go.RowKit
set_option maxRecDepth 100000

/-- what the package writes -/
def tkEarlyOut (n : UInt32) : Option (List UInt8) := if 0 < n.toNat then app (some (be 2 42)) (lpOut 2 (some (be 4 n.toNat))) else some []
def tkOut (t : Tk) : Option (List UInt8) := app (some (be 4 t.life.toNat)) (app (some (be 4 t.age.toNat)) (app (lpOut 1 (some t.nonce)) (app (lpOut 2 (some t.label)) (lpOut 2 (tkEarlyOut t.early)))))
def tkMake (t : Tk) : Option (List UInt8) := app (some [UInt8.ofNat 4]) (lpOut 3 (tkOut t))
/-- what the continuations read -/
def TkF (B m k : Nat) (s1 s2 : Value) (t : Tk) (w : World) : Prop :=
  Blk w m 107 #[uv t.life, uv t.age, s1, s2, uv t.early] ∧ Blk w k 105 #[.pointer (some ⟨m, 0, none⟩)] ∧ Byt w B s1 t.nonce ∧ Byt w B s2 t.label
theorem TkF.stable {B m k : Nat} {s1 s2 : Value} {t : Tk} (hm : m < B) (hk : k < B) : Stable B (TkF B m k s1 s2 t) := fun _ _ hb hf =>
  ⟨hf.1.below hb hm, hf.2.1.below hb hk, Row.below hf.2.2.1 hb, Row.below hf.2.2.2 hb⟩
theorem olen_early (n : UInt32) : olen (tkEarlyOut n) ≤ 10 := by
  unfold tkEarlyOut
  split
  · have h1 := olen_app (some (be 2 42)) (lpOut 2 (some (be 4 n.toNat)))
    have h2 := olen_lp 2 (by omega) (some (be 4 n.toNat))
    have h3 : olen (some (be 4 n.toNat)) = 4 := be_len 4 _
    have h4 : olen (some (be 2 42)) = 2 := be_len 2 _
    omega
  · exact Nat.zero_le _

section
variable {w w' : World} {B m k : Nat} {v u content s1 s2 : Value} {xs data : List UInt8} {e : Ending} {t : Tk}

theorem MadeP.up {w0 : World} {st : Option (List UInt8)} (h : MadeP w0 st e w') (hu : Upd [] w w0) : MadeP w st e w' := by
  obtain ⟨hu', hm⟩ := h
  refine ⟨hu.trans hu' (by simp), ?_⟩
  cases st with
  | none => exact hm
  | some bs =>
    obtain ⟨u, he, hy, hn, hs⟩ := hm
    exact ⟨u, he, hy, fun k hk => Nat.le_trans hu.size (hn k hk), hs⟩
theorem emF_nonce (hm : m < B) (hk : k < B) (hx : t.nonce.length ≤ 2147483647) : EmitsF 82 #[.pointer (some ⟨k, 0, none⟩)] B (TkF B m k s1 s2 t) (some t.nonce) 2147483647 := by
  refine EmitsF.mk (TkF.stable hm hk) hx (by intro args w; kernel_rfl) ?_
  intro w1 q v base off pl ic bs hem
  obtain ⟨hm, hk, h1, h2⟩ := hem.F
  obtain ⟨A1, c1, rfl, h1, -⟩ := Byt.form h1 rfl
  have d0 := hk.cell 0
  have c2 := hm.cell 2
  simp at d0 c2
  have H := hid (hem.bytes (R' := 0) h1 (by omega))
  clear hx hem
  go_enter Try.func82, Try.ntmps82
  go_wp2_with fail
  refine H.out.mono ?_
  rintro e w2 ⟨rfl, hem2⟩
  go_wp2
  go_end0
  exact ⟨rfl, hem2⟩
theorem emF_label (hm : m < B) (hk : k < B) (hx : t.label.length ≤ 2147483647) : EmitsF 85 #[.pointer (some ⟨k, 0, none⟩)] B (TkF B m k s1 s2 t) (some t.label) 2147483647 := by
  refine EmitsF.mk (TkF.stable hm hk) hx (by intro args w; kernel_rfl) ?_
  intro w1 q v base off pl ic bs hem
  obtain ⟨hm, hk, h1, h2⟩ := hem.F
  obtain ⟨A1, c1, rfl, h2, -⟩ := Byt.form h2 rfl
  have d0 := hk.cell 0
  have c2 := hm.cell 3
  simp at d0 c2
  have H := hid (hem.bytes (R' := 0) h2 (by omega))
  clear hx hem
  go_enter Try.func85, Try.ntmps85
  go_wp2_with fail
  refine H.out.mono ?_
  rintro e w2 ⟨rfl, hem2⟩
  go_wp2
  go_end0
  exact ⟨rfl, hem2⟩
theorem emF_early1 (hm : m < B) (hk : k < B) : EmitsF 88 #[.pointer (some ⟨k, 0, none⟩)] B (TkF B m k s1 s2 t) (some (be 4 t.early.toNat)) 4 := by
  refine EmitsF.mk (TkF.stable hm hk) (Nat.le_of_eq (be_len 4 _)) (by intro args w; kernel_rfl) ?_
  intro w1 q v base off pl ic bs hem
  obtain ⟨hm, hk, h1, h2⟩ := hem.F
  have d0 := hk.cell 0
  have c2 := hm.cell 4
  simp at d0 c2
  have H := hid (hem.u32 (R' := 0) t.early.toNat t.early.toNat_lt (by omega))
  clear hem
  go_enter Try.func88, Try.ntmps88
  go_wp2_with fail
  refine H.out.mono ?_
  rintro e w2 ⟨rfl, hem2⟩
  go_wp2
  go_end0
  exact ⟨rfl, hem2⟩
theorem emF_early (hm : m < B) (hk : k < B) : EmitsF 86 #[.pointer (some ⟨k, 0, none⟩)] B (TkF B m k s1 s2 t) (tkEarlyOut t.early) 20 := by
  have HE := hid (emF_early1 (t := t) (s1 := s1) (s2 := s2) hm hk)
  have hmf : ∀ (fn : Fn) (first cap : Array Value) (w : World), (Instr.makeFunc fn first cap).run Try.prog w = .ok (.func fn first cap) w := fun _ _ _ _ => rfl
  refine EmitsF.mk (TkF.stable hm hk) (Nat.le_trans (olen_early _) (by omega)) (by intro args w; kernel_rfl) ?_
  intro w1 q v base off pl ic bs hem
  obtain ⟨hm1, hk1, -, -⟩ := hem.F
  have d0 := hk1.cell 0
  have c2 := hm1.cell 4
  simp at d0 c2
  by_cases hz : 0 < t.early.toNat
  · have hz' : decide (0 < t.early.toNat) = true := decide_eq_true hz
    have ho : tkEarlyOut t.early = app (some (be 2 42)) (lpOut 2 (some (be 4 t.early.toNat))) := if_pos hz
    have H := hid (hem.u16 (R' := 18) 42 (by omega) (by omega))
    have HO := hid ho
    clear hem ho hz
    go_enter Try.func86, Try.ntmps86
    go_wp2_with fail
    refine H.out.mono ?_
    rintro e w2 ⟨rfl, hem2⟩
    have H2 := hid (hem2.lp16 (R' := 0) HE.out (by omega))
    clear hem2
    go_wp2_with fail
    refine H2.out.mono ?_
    rintro e w3 ⟨rfl, hem3⟩
    go_wp2
    go_end0
    rw [HO.out]
    exact ⟨rfl, hem3.cast (app_assoc _ _ _)⟩
  · have hz' : decide (0 < t.early.toNat) = false := decide_eq_false hz
    have ho : tkEarlyOut t.early = some [] := if_neg hz
    have HO := hid ho
    have HM := hid hem
    clear hem ho hz
    go_enter Try.func86, Try.ntmps86
    go_wp2
    go_end0
    rw [HO.out, app_nil]
    exact ⟨rfl, HM.out.less (by omega)⟩
theorem olen_tkOut (h1 : t.nonce.length ≤ 2147483647) (h2 : t.label.length ≤ 2147483647) : olen (tkOut t) ≤ 4294967400 := by
  unfold tkOut
  have a1 := olen_app (some (be 4 t.life.toNat)) (app (some (be 4 t.age.toNat)) (app (lpOut 1 (some t.nonce)) (app (lpOut 2 (some t.label)) (lpOut 2 (tkEarlyOut t.early)))))
  have a2 := olen_app (some (be 4 t.age.toNat)) (app (lpOut 1 (some t.nonce)) (app (lpOut 2 (some t.label)) (lpOut 2 (tkEarlyOut t.early))))
  have a3 := olen_app (lpOut 1 (some t.nonce)) (app (lpOut 2 (some t.label)) (lpOut 2 (tkEarlyOut t.early)))
  have a4 := olen_app (lpOut 2 (some t.label)) (lpOut 2 (tkEarlyOut t.early))
  have b1 : olen (some (be 4 t.life.toNat)) = 4 := be_len 4 _
  have b2 : olen (some (be 4 t.age.toNat)) = 4 := be_len 4 _
  have b3 := olen_lp 1 (by omega) (some t.nonce)
  have b4 := olen_lp 2 (by omega) (some t.label)
  have b5 := olen_lp 2 (by omega) (tkEarlyOut t.early)
  have b6 := olen_early t.early
  have b7 : olen (some t.nonce) = t.nonce.length := rfl
  have b8 : olen (some t.label) = t.label.length := rfl
  omega
theorem emF_Tk (hm : m < B) (hk : k < B) (hx1 : t.nonce.length ≤ 2147483647) (hx2 : t.label.length ≤ 2147483647) : EmitsF 79 #[.pointer (some ⟨k, 0, none⟩)] B (TkF B m k s1 s2 t) (tkOut t) 4294967500 := by
  have HE1 := hid (emF_nonce (t := t) (s1 := s1) (s2 := s2) hm hk hx1)
  have HE2 := hid (emF_label (t := t) (s1 := s1) (s2 := s2) hm hk hx2)
  have HE3 := hid (emF_early (t := t) (s1 := s1) (s2 := s2) hm hk)
  have hmf : ∀ (fn : Fn) (first cap : Array Value) (w : World), (Instr.makeFunc fn first cap).run Try.prog w = .ok (.func fn first cap) w := fun _ _ _ _ => rfl
  refine EmitsF.mk (TkF.stable hm hk) (Nat.le_trans (olen_tkOut hx1 hx2) (by omega)) (by intro args w; kernel_rfl) ?_
  clear hx1 hx2
  intro w1 q v base off pl ic bs hem
  obtain ⟨hm1, hk1, -, -⟩ := hem.F
  have d0 := hk1.cell 0
  have c0 := hm1.cell 0
  simp at d0 c0
  have H := hid (hem.u32 (R' := 4294967480) t.life.toNat t.life.toNat_lt (by omega))
  clear hem hm1 hk1
  go_enter Try.func79, Try.ntmps79
  go_wp2_with fail
  refine H.out.mono ?_
  rintro e w2 ⟨rfl, hem⟩
  clear H d0 c0
  obtain ⟨hm1, hk1, -, -⟩ := hem.F
  have d0 := hk1.cell 0
  have c0 := hm1.cell 1
  simp at d0 c0
  have H := hid (hem.u32 (R' := 4294967470) t.age.toNat t.age.toNat_lt (by omega))
  clear hem hm1 hk1
  go_wp2_with fail
  refine H.out.mono ?_
  rintro e w3 ⟨rfl, hem⟩
  clear H d0 c0
  have H := hid (hem.lp8 (R' := 2147483800) HE1.out (by omega))
  clear hem
  go_wp2_with fail
  refine H.out.mono ?_
  rintro e w4 ⟨rfl, hem⟩
  clear H
  have H := hid (hem.lp16 (R' := 100) HE2.out (by omega))
  clear hem
  go_wp2_with fail
  refine H.out.mono ?_
  rintro e w5 ⟨rfl, hem⟩
  clear H
  have H := hid (hem.lp16 (R' := 0) HE3.out (by omega))
  clear hem
  go_wp2_with fail
  refine H.out.mono ?_
  rintro e w6 ⟨rfl, hem⟩
  clear H
  go_wp2
  go_end0
  exact ⟨rfl, hem.cast (by unfold tkOut; simp only [app_assoc])⟩

theorem marshal_Tk (hm : Blk w m 107 #[uv t.life, uv t.age, s1, s2, uv t.early]) (h1 : Byt w w.heap.size s1 t.nonce) (h2 : Byt w w.heap.size s2 t.label) (hx1 : t.nonce.length ≤ 2147483647) (hx2 : t.label.length ≤ 2147483647) :
    Calls Try.prog 65 #[.pointer (some ⟨m, 0, none⟩)] w (BytesP w (tkMake t)) := by
  obtain ⟨w0, hw0⟩ : ∃ w0, w.alloc (.cells #[.pointer (some ⟨m, 0, none⟩)] 105) = w0 := ⟨_, rfl⟩
  have hs0 : w0.heap.size = w.heap.size + 1 := by rw [← hw0]; simp
  have hu0 : Upd [] w w0 := by rw [← hw0]; exact (Upd.refl _ _).alloc _
  have hF : TkF w0.heap.size m w.heap.size s1 s2 t w0 := by
    refine ⟨hm.upd hu0 (by simp), ?_, (Row.upd h1 hu0 (by simp)).shrink, (Row.upd h2 hu0 (by simp)).shrink⟩
    rw [← hw0]; exact Blk.new _ _ _
  have hml := hm.lt
  have hE := emF_Tk (t := t) (s1 := s1) (s2 := s2) (B := w0.heap.size) (m := m) (k := w.heap.size) (by omega) (by omega) hx1 hx2
  have hmf : ∀ (fn : Fn) (first cap : Array Value) (w : World), (Instr.makeFunc fn first cap).run Try.prog w = .ok (.func fn first cap) w := fun _ _ _ _ => rfl
  have h1 := AddUint8_top (TopS.new w0) (by show 0 ≤ _; omega) 4 (by omega)
  rw [hs0, ← hw0] at h1
  have H1 := hid h1
  have HW := hid hw0
  have Hs := hid hs0
  have HL := hid (olen_tkOut hx1 hx2)
  have HE := hid hE
  clear h1 hw0 hs0 hE hx1 hx2
  go_enter Try.func65, Try.ntmps65
  go_wp2_with fail
  refine H1.out.mono ?_
  intro e w2 hp
  rw [HW.out] at hp
  obtain ⟨he, h2⟩ := hp
  subst he
  have H2 := hid (AddLP24_topF h2 HE.out hF (Nat.le_refl _) (by show 1 + 4294967500 + 4 ≤ _; omega))
  go_wp2_with fail
  refine (H2.out).mono ?_
  intro e w3 hp
  obtain ⟨he, h3⟩ := hp
  subst he
  have H3 := hid (Bytes_top h3 (by
    have := HL.out
    have h := olen_app (app (some []) (some [UInt8.ofNat 4])) (lpOut 3 (tkOut t))
    have h1 : olen (app (some []) (some [UInt8.ofNat 4])) = 1 := rfl
    have h2 := olen_lp 3 (by omega) (tkOut t)
    omega))
  go_wp2_with fail
  refine (H3.out).mono ?_
  intro e w4 hp
  obtain ⟨A1, n1, c1, x1, rfl⟩ := hp.pair
  go_wp2
  go_ret2
  exact hp.up hu0
theorem tls_MarshalTicket13 (hv : TkV w B v t) (hx1 : t.nonce.length ≤ 2147483647) (hx2 : t.label.length ≤ 2147483647) : Calls Try.prog 43 #[v] w (BytesP w (tkMake t)) := by
  obtain ⟨A1, c1, A2, c2, rfl, y1, y2⟩ := hv
  obtain ⟨w1, hw1⟩ : ∃ w1, (w.alloc (.cells #[uv t.life, uv t.age, .slice A1 t.nonce.length c1, .slice A2 t.label.length c2, uv t.early] 71)).alloc (.cells #[uv t.life, uv t.age, .slice A1 t.nonce.length c1, .slice A2 t.label.length c2, uv t.early] 107) = w1 := ⟨_, rfl⟩
  have hu1 : Upd [] w w1 := by rw [← hw1]; exact ((Upd.refl _ _).alloc _).alloc _
  have hm1 : Blk w1 (w.heap.size + 1) 107 #[uv t.life, uv t.age, .slice A1 t.nonce.length c1, .slice A2 t.label.length c2, uv t.early] := by
    rw [← hw1]
    have := Blk.new (w.alloc (.cells #[uv t.life, uv t.age, .slice A1 t.nonce.length c1, .slice A2 t.label.length c2, uv t.early] 71)) 107 #[uv t.life, uv t.age, .slice A1 t.nonce.length c1, .slice A2 t.label.length c2, uv t.early]
    rwa [show (w.alloc (.cells #[uv t.life, uv t.age, .slice A1 t.nonce.length c1, .slice A2 t.label.length c2, uv t.early] 71)).heap.size = w.heap.size + 1 by simp] at this
  have H1 := hid (marshal_Tk hm1 (Row.upd y1.shrink hu1 (by simp)).shrink (Row.upd y2.shrink hu1 (by simp)).shrink hx1 hx2)
  have HW := hid hw1
  clear hx1 hx2 hw1
  go_enter Try.func43, Try.ntmps43
  go_wp2_with fail
  rw [HW.out]
  refine (H1.out).mono ?_
  intro e w1 hp
  obtain ⟨A1, n1, c1, x1, rfl⟩ := hp.pair
  go_wp2
  go_ret2
  exact hp.up hu1
theorem impl_MarshalTicket13 (hv : TkV w B v t) (hx1 : t.nonce.length ≤ 2147483647) (hx2 : t.label.length ≤ 2147483647) : Calls Try.prog 22 #[v] w (MadeP w (tkMake t)) := by
  obtain ⟨A1, c1, A2, c2, rfl, y1, y2⟩ := hv
  have hu0 : Upd [] w (w.alloc (.cells #[uv t.life, uv t.age, .slice A1 t.nonce.length c1, .slice A2 t.label.length c2, uv t.early] 25)) := (Upd.refl _ _).alloc _
  have H1 := hid (tls_MarshalTicket13 (w := w.alloc (.cells #[uv t.life, uv t.age, .slice A1 t.nonce.length c1, .slice A2 t.label.length c2, uv t.early] 25)) (B := w.heap.size) (t := t) ⟨A1, c1, A2, c2, rfl, Row.upd y1.shrink hu0 (by simp), Row.upd y2.shrink hu0 (by simp)⟩ hx1 hx2)
  clear hx1 hx2
  go_enter Try.func22, Try.ntmps22
  go_wp2_with fail
  refine (H1.out).mono ?_
  intro e w1 hp
  have q1 := eql_err_nil
  have q2 := eql_err_some
  obtain ⟨A, n, c, ⟨rfl, hr⟩ | ⟨t, x, rfl, hr⟩⟩ := hp.two
  all_goals
    have HR := hid hr
    clear hr
    go_wp2_with fail
    go_quiet (fail)
    go_wp2
    go_ret2
    exact (HR.out _).up hu0
end
end Go.Proofs.Ytcdjbciifnoajaa

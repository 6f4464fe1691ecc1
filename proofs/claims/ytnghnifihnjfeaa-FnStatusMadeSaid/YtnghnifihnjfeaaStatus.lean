/- The CertificateStatus message: made by the package and by the reference. -/
import Derived.Test.YtnghnifihnjfeaaEmit2
import Derived.Test.YtnghnifihnjfeaaMsg
namespace Go.Proofs.Ytnghnifihnjfeaa
open Go.RowKit
set_option maxRecDepth 100000

section
variable {w w0 w' : World} {base p q off pl : Nat} {v v2 content ic ic2 : Value} {xs bs data : List UInt8} {st out : Option (List UInt8)} {S : List Nat} {m B : Nat} {e : Ending}

theorem enters_Status1 : Enters 107 := by intro args w; kernel_rfl
theorem emits_Status1 {m k B : Nat} {cs : Array Value} (hm : Blk w m 113 cs) (hci : cs[0]? = some content) (hk : Blk w k 111 #[.pointer (some ⟨m, 0, none⟩)]) (hmS : m ∉ S) (hkS : k ∉ S)
    (hc : Byt w B content xs) (hB : ∀ x ∈ S, B ≤ x) (hBw : B ≤ w.heap.size) (hx : xs.length ≤ 17592186044416) :
    Emits 107 #[.pointer (some ⟨k, 0, none⟩)] S w (some xs) xs.length := by
  intro w1 hu base q v off pl ic bs hb hi hq hv hl
  have hm1 := hm.upd hu hmS
  have hk1 := hk.upd hu hkS
  have d0 := hk1.cell 0
  simp at d0
  have hc1 := Row.upd hc hu hB
  obtain ⟨A, c, rfl, hc1, -⟩ := Byt.form hc1 rfl
  have c0 := (hm1.cell 0).trans hci
  have H := hid (AddBytes_any (st := some bs) hb (src_of hc1 (by omega) (fun g hg => (hv g hg).elim (hB g) (fun h => Nat.le_trans hBw h))) (by show bs.length ≤ _; omega) hx)
  clear hl hx hBw hq
  go_enter Try.func107, Try.ntmps107
  go_wp2_with fail
  refine H.out.mono ?_
  intro e w2 hp
  have he := hp.1
  subst he
  go_wp2
  go_end0
  exact hp
theorem enters_CertificateStatus : Enters 106 := by intro args w; kernel_rfl
theorem emits_CertificateStatus {m k B : Nat} {cs : Array Value} (hm : Blk w m 113 cs) (hci : cs[0]? = some content) (hk : Blk w k 111 #[.pointer (some ⟨m, 0, none⟩)]) (hmS : m ∉ S) (hkS : k ∉ S)
    (hc : Byt w B content xs) (hB : ∀ x ∈ S, B ≤ x) (hBw : B ≤ w.heap.size) (hx : xs.length ≤ 4294967296) :
    Emits 106 #[.pointer (some ⟨k, 0, none⟩)] S w (app (some [UInt8.ofNat 1]) (lpOut 3 (some xs))) (xs.length + 8) := by
  intro w1 hu base q v off pl ic bs hb hi hq hv hl
  have hm1 := hm.upd hu hmS
  have hk1 := hk.upd hu hkS
  have hc1 := Row.upd hc hu hB
  have hml := hm.lt
  have hkl := hk.lt
  have hws := hu.size
  have hmf : ∀ (fn : Fn) (first cap : Array Value) (w : World), (Instr.makeFunc fn first cap).run Try.prog w = .ok (.func fn first cap) w := fun _ _ _ _ => rfl
  have H1 := hid (AddUint8_any (st := some bs) hb (by show bs.length ≤ _; omega) 1 (by omega))
  have HL := hid hl
  have HX := hid hx
  have HBw := hid hBw
  clear hl hx hBw
  go_enter Try.func106, Try.ntmps106
  go_wp2_with fail
  refine H1.out.mono ?_
  intro e w2 hp
  obtain ⟨he, v2, hb2, hu2, hv2⟩ := hp
  subst he
  have hfm := own_far hv hq hml hmS
  have hfk := own_far hv hq hkl hkS
  have hge := own_ge hv hq hB HBw.out
  have hnx := own_next hv hv2 hws
  have hE : Emits 107 #[.pointer (some ⟨k, 0, none⟩)] (q :: v2.ownBlock.toList) w2 (some xs) xs.length :=
    emits_Status1 (hm1.upd hu2 hfm) hci (hk1.upd hu2 hfk) (own_far hnx hq hml hmS) (own_far hnx hq hkl hkS) (Row.upd hc1 hu2 hge) (own_ge hnx hq hB HBw.out) (Nat.le_trans HBw.out (Nat.le_trans hws hu2.size)) (by have := HX.out; omega)
  have H2 := hid (AddLP24_inner hb2 (hi.upd hu2 (hb.icne hi)) (fun _ => hE) enters_Status1 (by have := HL.out; show (bs ++ [_]).length + xs.length + 4 ≤ _; simp; omega) (by have := HX.out; show xs.length ≤ _; omega))
  go_wp2_with fail
  refine H2.out.mono ?_
  intro e w3 hp
  have he := hp.1
  subst he
  go_wp2
  go_end0
  rw [← app_assoc]
  exact BSP.after hu2 hv2 hp
theorem olen_CertificateStatus (hx : xs.length ≤ 2147483647) : olen (app (some [UInt8.ofNat 1]) (lpOut 3 (some xs))) ≤ 4294967296 := by
  have h1 := olen_app (some [UInt8.ofNat 1]) (lpOut 3 (some xs))
  have h2 := olen_lp 3 (by omega) (some xs)
  have h3 : olen (some xs) = xs.length := rfl
  have h4 : olen (some [UInt8.ofNat 1]) = 1 := rfl
  omega
theorem marshal_CertificateStatus {m B : Nat}  (hm : Blk w m 113 #[content]) (hc : Byt w B content xs) (hx : xs.length ≤ 2147483647) :
    Calls Try.prog 88 #[.pointer (some ⟨m, 0, none⟩)] w (BytesP w (app (some [UInt8.ofNat 22]) (lpOut 3 (app (some [UInt8.ofNat 1]) (lpOut 3 (some xs)))))) := by
  obtain ⟨A, c, rfl, hc, -⟩ := Byt.form hc rfl
  have hc := Row.shrink hc
  obtain ⟨w0, hw0⟩ : ∃ w0, w.alloc (.cells #[.pointer (some ⟨m, 0, none⟩)] 111) = w0 := ⟨_, rfl⟩
  have hk0 : Blk w0 w.heap.size 111 #[.pointer (some ⟨m, 0, none⟩)] := by rw [← hw0]; exact Blk.new _ _ _
  have hm0 : Blk w0 m 113 #[.slice A xs.length c] := by rw [← hw0]; exact hm.alloc _
  have hu0 : Upd [] w w0 := by rw [← hw0]; exact (Upd.refl _ _).alloc _
  have hs0 : w0.heap.size = w.heap.size + 1 := by rw [← hw0]; simp
  have hc0 := Row.upd hc hu0 (by simp)
  have hE := emits_CertificateStatus (S := []) hm0 rfl hk0 (by simp) (by simp) hc0 (by simp) (by omega) (by omega)
  have hmf : ∀ (fn : Fn) (first cap : Array Value) (w : World), (Instr.makeFunc fn first cap).run Try.prog w = .ok (.func fn first cap) w := fun _ _ _ _ => rfl
  have h1 := AddUint8_top (TopS.new w0) (by show 0 ≤ _; omega) 22 (by omega)
  rw [hs0, ← hw0] at h1
  have H1 := hid h1
  have HW := hid hw0
  have Hs := hid hs0
  have hlo : olen (app (some [UInt8.ofNat 1]) (lpOut 3 (some xs))) ≤ 4294967296 := olen_CertificateStatus hx
  have hll : olen (lpOut 3 (app (some [UInt8.ofNat 1]) (lpOut 3 (some xs)))) ≤ 4294967300 := Nat.le_trans (olen_lp 3 (by omega) _) (by omega)
  have HX := hid hx
  have HL := hid hlo
  have HLL := hid hll
  clear h1 hw0 hs0 hlo hll hx
  go_enter Try.func88, Try.ntmps88
  go_wp2_with fail
  refine H1.out.mono ?_
  intro e w2 hp
  rw [HW.out] at hp
  obtain ⟨he, h2⟩ := hp
  subst he
  have H2 := hid (AddLP24_top h2 hE enters_CertificateStatus (by have := HX.out; show 1 + (xs.length + 8) + 4 ≤ _; omega) (by have := HL.out; omega))
  go_wp2_with fail
  refine (H2.out).mono ?_
  intro e w3 hp
  obtain ⟨he, h3⟩ := hp
  subst he
  have H3 := hid (Bytes_top h3 (by have := HLL.out; have h := olen_app (app (some []) (some [UInt8.ofNat 22])) (lpOut 3 (app (some [UInt8.ofNat 1]) (lpOut 3 (some xs)))); have h1 : olen (app (some []) (some [UInt8.ofNat 22])) = 1 := rfl; omega))
  go_wp2_with fail
  refine (H3.out).mono ?_
  intro e w4 hp
  obtain ⟨A1, n1, c1, x1, rfl⟩ := hp.pair
  go_wp2
  go_ret2
  exact hp.up hu0
theorem tls_MarshalCertificateStatus {B : Nat}  (hc : Byt w B content xs) (hx : xs.length ≤ 2147483647) :
    Calls Try.prog 63 #[content] w (BytesP w (app (some [UInt8.ofNat 22]) (lpOut 3 (app (some [UInt8.ofNat 1]) (lpOut 3 (some xs)))))) := by
  obtain ⟨A, c, rfl, hc, -⟩ := Byt.form hc rfl
  have hm0 := Blk.new w 113 #[.slice A xs.length c]
  have H1 := hid (marshal_CertificateStatus hm0 (Row.alloc hc _) hx)
  have hu0 : Upd [] w _ := (Upd.refl [] w).alloc (.cells #[.slice A xs.length c] 113)
  clear hx
  go_enter Try.func63, Try.ntmps63
  go_wp2_with fail
  refine (H1.out).mono ?_
  intro e w1 hp
  obtain ⟨A1, n1, c1, x1, rfl⟩ := hp.pair
  go_wp2
  go_ret2
  exact hp.up hu0
theorem impl_MarshalCertificateStatus {B : Nat}  (hc : Byt w B content xs) (hx : xs.length ≤ 2147483647) :
    Calls Try.prog 33 #[content] w (MadeP w (app (some [UInt8.ofNat 22]) (lpOut 3 (app (some [UInt8.ofNat 1]) (lpOut 3 (some xs)))))) := by
  obtain ⟨A, c, rfl, hc, -⟩ := Byt.form hc rfl
  have H1 := hid (tls_MarshalCertificateStatus (w := w)  hc hx)
  clear hx
  go_enter Try.func33, Try.ntmps33
  go_wp2_with fail
  refine (H1.out).mono ?_
  intro e w1 hp
  have q1 := eql_err_nil
  have q2 := eql_err_some
  obtain ⟨A, n, c, ⟨rfl, hr⟩ | ⟨t, x, rfl, hr⟩⟩ := hp.two
  all_goals
    have HR := hid hr
    clear hr
    go_wp2_with fail
    go_quiet (fail)
    go_wp2
    go_ret2
    exact HR.out _

theorem WriteStatus_any (hc : Byt w B content xs) (hx : xs.length ≤ 2147483647) :
    Calls Try.prog 32 #[content] w (MsgP w (messageW 22 (stapleW xs))) := by
  obtain ⟨A, c, rfl, hc, -⟩ := Byt.form hc rfl
  have H1 := hid (staple_any hc (by omega))
  have hsl : (stapleW xs).b.length ≤ 1099511627776 := by simp [stapleW, Wr.vec, Wr.num, Wr.nil, be_len]; omega
  have HX := hid hsl
  clear hx hsl
  go_enter Try.func32, Try.ntmps32
  go_wp2_with fail
  refine H1.out.mono ?_
  rintro e w1 ⟨v1, rfl, hb1, hn1, ⟨A1, n1, c1, rfl⟩, hu1⟩
  have H2 := hid (message_any 22 (stapleW xs).bad hb1 HX.out)
  go_wp2_with fail
  refine H2.out.mono ?_
  rintro e w2 ⟨v2, rfl, hb2, hn2, ⟨A2, n2, c2, rfl⟩, hu2⟩
  go_wp2
  go_ret2
  exact ⟨_, rfl, hb2, fun k hk => Nat.le_trans hu1.size (hn2 k hk), ⟨_, _, _, rfl⟩, hu1.trans hu2 (by simp)⟩
end
end Go.Proofs.Ytnghnifihnjfeaa

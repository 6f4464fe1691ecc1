/- The CertificateVerify message: made by the package and by the reference. -/
import Derived.Test.YtnghnifihnjfeaaVerifyU
namespace Go.Proofs.Ytnghnifihnjfeaa
open Go.ChangeShapes Go.WideShapes Go.ChangeAt Go.RowKit
set_option maxRecDepth 100000

section
variable {w w0 w' : World} {base p q off pl : Nat} {v v2 content ic ic2 : Value} {xs bs data : List UInt8} {st out : Option (List UInt8)} {S : List Nat} {m B : Nat} {e : Ending}

theorem enters_Verify1 : Enters 113 := by intro args w; kernel_rfl
theorem emits_Verify1 {m k B : Nat} {cs : Array Value} (hm : Blk w m 116 cs) (hci : cs[2]? = some content) (hk : Blk w k 114 #[.pointer (some ⟨m, 0, none⟩)]) (hmS : m ∉ S) (hkS : k ∉ S)
    (hc : Byt w B content xs) (hB : ∀ x ∈ S, B ≤ x) (hBw : B ≤ w.heap.size) (hx : xs.length ≤ 17592186044416) :
    Emits 113 #[.pointer (some ⟨k, 0, none⟩)] S w (some xs) xs.length := by
  intro w1 hu base q v off pl ic bs hb hi hq hv hl
  have hm1 := hm.upd hu hmS
  have hk1 := hk.upd hu hkS
  have d0 := hk1.cell 0
  simp at d0
  have hc1 := Row.upd hc hu hB
  obtain ⟨A, c, rfl, hc1, -⟩ := Byt.form hc1 rfl
  have c0 := (hm1.cell 2).trans hci
  have H := hid (AddBytes_any (st := some bs) hb (src_of hc1 (by omega) (fun g hg => (hv g hg).elim (hB g) (fun h => Nat.le_trans hBw h))) (by show bs.length ≤ _; omega) hx)
  clear hl hx hBw hq
  go_enter Try.func113, Try.ntmps113
  go_wp2_with fail
  refine H.out.mono ?_
  intro e w2 hp
  have he := hp.1
  subst he
  go_wp2
  go_end0
  exact hp
theorem enters_CertificateVerify : Enters 110 := by intro args w; kernel_rfl
/-- the algorithm's bytes, where there is one -/
def algB (has : Bool) (n : Nat) : List UInt8 := if has then be 2 n else []
theorem emits_CertificateVerify {m k B : Nat} {has : Bool} {n : Nat} (hn : n < 65536) (hm : Blk w m 116 #[.bool has, .int .u16 (n : Int), content]) (hk : Blk w k 114 #[.pointer (some ⟨m, 0, none⟩)]) (hmS : m ∉ S) (hkS : k ∉ S)
    (hc : Byt w B content xs) (hB : ∀ x ∈ S, B ≤ x) (hBw : B ≤ w.heap.size) (hx : xs.length ≤ 4294967296) :
    Emits 110 #[.pointer (some ⟨k, 0, none⟩)] S w (app (some (algB has n)) (lpOut 2 (some xs))) (xs.length + 8) := by
  intro w1 hu base q v off pl ic bs hb hi hq hv hl
  have hm1 := hm.upd hu hmS
  have hk1 := hk.upd hu hkS
  have hc1 := Row.upd hc hu hB
  have hml := hm.lt
  have hkl := hk.lt
  have hws := hu.size
  have hmf : ∀ (fn : Fn) (first cap : Array Value) (w : World), (Instr.makeFunc fn first cap).run Try.prog w = .ok (.func fn first cap) w := fun _ _ _ _ => rfl
  have d0 := hk1.cell 0
  have c0 := hm1.cell 0
  have c1 := hm1.cell 1
  simp at d0 c0 c1
  have HL := hid hl
  have HX := hid hx
  have HBw := hid hBw
  have hB0 : Bld w1 base q v off pl ic bs := hb
  cases has
  · have hE : Emits 113 #[.pointer (some ⟨k, 0, none⟩)] (q :: v.ownBlock.toList) w1 (some xs) xs.length :=
      emits_Verify1 hm1 rfl hk1 (own_far hv hq hml hmS) (own_far hv hq hkl hkS) hc1 (own_ge hv hq hB hBw) (Nat.le_trans hBw hws) (by omega)
    have H2 := hid (AddLP16_inner (st := some bs) hb hi (fun _ => hE) enters_Verify1 (by show bs.length + xs.length + 4 ≤ _; omega) (by show xs.length ≤ _; omega))
    clear hl hx hBw
    go_enter Try.func110, Try.ntmps110
    go_wp2_with fail
    refine H2.out.mono ?_
    intro e w3 hp
    have he := hp.1
    subst he
    go_wp2
    go_end0
    have e1 : app (some (algB false n)) (lpOut 2 (some xs)) = lpOut 2 (some xs) := by
      unfold algB; cases lpOut 2 (some xs) <;> simp [app]
    rw [e1]
    exact hp
  · have H1 := hid (AddUint16_any (st := some bs) hb (by show bs.length ≤ _; omega) n hn)
    clear hl hx hBw
    go_enter Try.func110, Try.ntmps110
    go_wp2_with fail
    refine H1.out.mono ?_
    intro e w2 hp
    obtain ⟨he, v2, hb2, hu2, hv2⟩ := hp
    subst he
    have hfm := own_far hv hq hml hmS
    have hfk := own_far hv hq hkl hkS
    have hge := own_ge hv hq hB HBw.out
    have hnx := own_next hv hv2 hws
    have hE : Emits 113 #[.pointer (some ⟨k, 0, none⟩)] (q :: v2.ownBlock.toList) w2 (some xs) xs.length :=
      emits_Verify1 (hm1.upd hu2 hfm) rfl (hk1.upd hu2 hfk) (own_far hnx hq hml hmS) (own_far hnx hq hkl hkS) (Row.upd hc1 hu2 hge) (own_ge hnx hq hB HBw.out) (Nat.le_trans HBw.out (Nat.le_trans hws hu2.size)) (by have := HX.out; omega)
    have H2 := hid (AddLP16_inner hb2 (hi.upd hu2 (hB0.icne hi)) (fun _ => hE) enters_Verify1 (by have := HL.out; show (bs ++ be 2 n).length + xs.length + 4 ≤ _; rw [List.length_append, be_len]; omega) (by have := HX.out; show xs.length ≤ _; omega))
    go_wp2_with fail
    refine H2.out.mono ?_
    intro e w3 hp
    have he := hp.1
    subst he
    go_wp2
    go_end0
    have e1 : algB true n = be 2 n := rfl
    rw [← app_assoc, e1]
    exact BSP.after hu2 hv2 hp
theorem olen_CertificateVerify {has : Bool} {n : Nat} (hx : xs.length ≤ 2147483647) : olen (app (some (algB has n)) (lpOut 2 (some xs))) ≤ 4294967296 := by
  have h1 := olen_app (some (algB has n)) (lpOut 2 (some xs))
  have h2 := olen_lp 2 (by omega) (some xs)
  have h3 : olen (some xs) = xs.length := rfl
  have h4 : olen (some (algB has n)) ≤ 2 := by
    unfold algB; split
    · show (be 2 n).length ≤ 2; rw [be_len]; omega
    · show 0 ≤ 2; omega
  omega
theorem marshal_CertificateVerify {m B : Nat} {has : Bool} {n : Nat} (hn : n < 65536) (hm : Blk w m 116 #[.bool has, .int .u16 (n : Int), content]) (hc : Byt w B content xs) (hx : xs.length ≤ 2147483647) :
    Calls Try.prog 90 #[.pointer (some ⟨m, 0, none⟩)] w (BytesP w (app (some [UInt8.ofNat 15]) (lpOut 3 (app (some (algB has n)) (lpOut 2 (some xs)))))) := by
  obtain ⟨A, c, rfl, hc, -⟩ := Byt.form hc rfl
  have hc := Row.shrink hc
  obtain ⟨w0, hw0⟩ : ∃ w0, w.alloc (.cells #[.pointer (some ⟨m, 0, none⟩)] 114) = w0 := ⟨_, rfl⟩
  have hk0 : Blk w0 w.heap.size 114 #[.pointer (some ⟨m, 0, none⟩)] := by rw [← hw0]; exact Blk.new _ _ _
  have hm0 : Blk w0 m 116 #[.bool has, .int .u16 (n : Int), .slice A xs.length c] := by rw [← hw0]; exact hm.alloc _
  have hu0 : Upd [] w w0 := by rw [← hw0]; exact (Upd.refl _ _).alloc _
  have hs0 : w0.heap.size = w.heap.size + 1 := by rw [← hw0]; simp
  have hc0 := Row.upd hc hu0 (by simp)
  have hE := emits_CertificateVerify (S := []) hn hm0 hk0 (by simp) (by simp) hc0 (by simp) (by omega) (by omega)
  have hmf : ∀ (fn : Fn) (first cap : Array Value) (w : World), (Instr.makeFunc fn first cap).run Try.prog w = .ok (.func fn first cap) w := fun _ _ _ _ => rfl
  have h1 := AddUint8_top (TopS.new w0) (by show 0 ≤ _; omega) 15 (by omega)
  rw [hs0, ← hw0] at h1
  have H1 := hid h1
  have HW := hid hw0
  have Hs := hid hs0
  have hlo : olen (app (some (algB has n)) (lpOut 2 (some xs))) ≤ 4294967296 := olen_CertificateVerify hx
  have hll : olen (lpOut 3 (app (some (algB has n)) (lpOut 2 (some xs)))) ≤ 4294967300 := Nat.le_trans (olen_lp 3 (by omega) _) (by omega)
  have HX := hid hx
  have HL := hid hlo
  have HLL := hid hll
  clear h1 hw0 hs0 hlo hll hx
  go_enter Try.func90, Try.ntmps90
  go_wp2_with fail
  refine H1.out.mono ?_
  intro e w2 hp
  rw [HW.out] at hp
  obtain ⟨he, h2⟩ := hp
  subst he
  have H2 := hid (AddLP24_top h2 hE enters_CertificateVerify (by have := HX.out; show 1 + (xs.length + 8) + 4 ≤ _; omega) (by have := HL.out; omega))
  go_wp2_with fail
  refine (H2.out).mono ?_
  intro e w3 hp
  obtain ⟨he, h3⟩ := hp
  subst he
  have H3 := hid (Bytes_top h3 (by have := HLL.out; have h := olen_app (app (some []) (some [UInt8.ofNat 15])) (lpOut 3 (app (some (algB has n)) (lpOut 2 (some xs)))); have h1 : olen (app (some []) (some [UInt8.ofNat 15])) = 1 := rfl; omega))
  go_wp2_with fail
  refine (H3.out).mono ?_
  intro e w4 hp
  obtain ⟨A1, n1, c1, x1, rfl⟩ := hp.pair
  go_wp2
  go_ret2
  exact hp.up hu0
theorem tls_MarshalCertificateVerify {B : Nat} {has : Bool} {n : Nat} (hn : n < 65536) (hc : Byt w B content xs) (hx : xs.length ≤ 2147483647) :
    Calls Try.prog 67 #[.bool has, .int .u16 (n : Int), content] w (BytesP w (app (some [UInt8.ofNat 15]) (lpOut 3 (app (some (algB has n)) (lpOut 2 (some xs)))))) := by
  obtain ⟨A, c, rfl, hc, -⟩ := Byt.form hc rfl
  have hm0 := Blk.new w 116 #[.bool has, .int .u16 (n : Int), .slice A xs.length c]
  have H1 := hid (marshal_CertificateVerify hn hm0 (Row.alloc hc _) hx)
  have hu0 : Upd [] w _ := (Upd.refl [] w).alloc (.cells #[.bool has, .int .u16 (n : Int), .slice A xs.length c] 116)
  clear hx
  go_enter Try.func67, Try.ntmps67
  go_wp2_with fail
  refine (H1.out).mono ?_
  intro e w1 hp
  obtain ⟨A1, n1, c1, x1, rfl⟩ := hp.pair
  go_wp2
  go_ret2
  exact hp.up hu0
theorem impl_MarshalCertificateVerify {B : Nat} {has : Bool} {n : Nat} (hn : n < 65536) (hc : Byt w B content xs) (hx : xs.length ≤ 2147483647) :
    Calls Try.prog 37 #[.bool has, .int .u16 (n : Int), content] w (MadeP w (app (some [UInt8.ofNat 15]) (lpOut 3 (app (some (algB has n)) (lpOut 2 (some xs)))))) := by
  obtain ⟨A, c, rfl, hc, -⟩ := Byt.form hc rfl
  have H1 := hid (tls_MarshalCertificateVerify (w := w) (has := has) (n := n) hn hc hx)
  clear hx
  go_enter Try.func37, Try.ntmps37
  go_wp2_with fail
  refine (H1.out).mono ?_
  intro e w1 hp
  have q1 := eql_err_nil
  have q2 := eql_err_some
  obtain ⟨A, n, c, ⟨rfl, hr⟩ | ⟨t, x, rfl, hr⟩⟩ := hp.two
  all_goals
    have HR := hid hr
    clear hr
    go_wp2_with fail
    go_quiet (fail)
    go_wp2
    go_ret2
    exact HR.out _

/-- the reference's body of a CertificateVerify -/
def verW (has : Bool) (n : Nat) (xs : List UInt8) : Wr := (Wr.mk (algB has n) false).vec 2 xs
theorem WriteVerify_any (has : Bool) {n : Nat} (hn : n < 65536) (hc : Byt w B content xs) (hx : xs.length ≤ 2147483647) :
    Calls Try.prog 36 #[.bool has, .int .u16 (n : Int), content] w (MsgP w (messageW 15 (verW has n xs))) := by
  obtain ⟨A, c, rfl, hc, -⟩ := Byt.form hc rfl
  have hc := Row.shrink hc
  obtain ⟨w0, hw0⟩ : ∃ w0, w.alloc (.cells #[.slice none 0 0, .bool false] 76) = w0 := ⟨_, rfl⟩
  have hwr : Wrt w0 w.heap.size w.heap.size (.slice none 0 0) Wr.nil := by rw [← hw0]; exact wrt_new w
  have hu0 : Upd [] w w0 := by rw [← hw0]; exact (Upd.refl _ _).alloc _
  have hc0 : Byt w0 w.heap.size (.slice A xs.length c) xs := Row.upd hc hu0 (by simp)
  have hmsg : ∀ w2 v2 (bad : Bool), bad = (verW has n xs).bad → Byt w2 w2.heap.size v2 (verW has n xs).b → Calls Try.prog 51 #[.int .i64 (15 : Nat), .agg #[v2, .bool bad]] w2 (MsgP w2 (messageW 15 (verW has n xs))) := by
    intro w2 v2 bad hb hy
    subst hb
    refine message_any 15 (verW has n xs).bad hy ?_
    have h1 : (algB has n).length ≤ 2 := by
      unfold algB; split
      · rw [be_len]; omega
      · exact Nat.zero_le _
    show (algB has n ++ be 2 xs.length ++ xs).length ≤ _
    rw [List.length_append, List.length_append, be_len]
    omega
  have HM := hid hmsg
  have HX := hid hx
  have HW := hid hw0
  clear hmsg hx hw0
  cases has
  · have H1 := hid (wvec_any2 hwr ⟨_, hc0, .inl (Nat.le_refl _)⟩ (by simp [Wr.nil]) (by have := HX.out; omega))
    go_enter Try.func36, Try.ntmps36
    go_wp2_with fail
    rw [HW.out]
    refine H1.out.mono ?_
    intro e w1 hp
    obtain ⟨v1, hb1, hy1, ⟨A1, n1, c1, rfl⟩, hn1, hu1, -⟩ := WrtP.ends (Nat.le_refl _) rfl hu0 hp
    have he := hp.1
    subst he
    have c0 := hb1.cell 0
    have d0 := hb1.cell 1
    simp at c0 d0
    have H2 := hid (HM.out w1 _ _ rfl hy1)
    go_wp2_with fail
    refine H2.out.mono ?_
    rintro e w2 ⟨v2, rfl, hb2, hn2, ⟨A2, n2, c2, rfl⟩, hu2⟩
    go_wp2
    go_ret2
    exact ⟨_, rfl, hb2, fun k hk => Nat.le_trans hu1.size (hn2 k hk), ⟨_, _, _, rfl⟩, hu1.trans hu2 (by simp)⟩
  · have H0 := hid (wnum_any hwr 2 n (by omega) (by simp [Wr.nil]))
    go_enter Try.func36, Try.ntmps36
    go_wp2_with fail
    rw [HW.out]
    refine H0.out.mono ?_
    rintro e wa ⟨rfl, va, ka, hua, hva⟩
    have hca : Byt wa w.heap.size (.slice A xs.length c) xs := Row.upd hc0 hua (by simp [Value.ownBlock])
    have H1 := hid (wvec_any2 ka ⟨_, hca, .inl (Nat.le_refl _)⟩ (by simp [Wr.num, Wr.nil, be_len]) (by have := HX.out; omega))
    go_wp2_with fail
    refine H1.out.mono ?_
    intro e w1 hp
    obtain ⟨v1, hb1, hy1, ⟨A1, n1, c1, rfl⟩, hn1, hu1, -⟩ := WrtP.ends (Nat.le_refl _) rfl hu0 (WrtP.after hua hva hp)
    have he := hp.1
    subst he
    have c0 := hb1.cell 0
    have d0 := hb1.cell 1
    simp at c0 d0
    have H2 := hid (HM.out w1 _ _ rfl hy1)
    go_wp2_with fail
    refine H2.out.mono ?_
    rintro e w2 ⟨v2, rfl, hb2, hn2, ⟨A2, n2, c2, rfl⟩, hu2⟩
    go_wp2
    go_ret2
    exact ⟨_, rfl, hb2, fun k hk => Nat.le_trans hu1.size (hn2 k hk), ⟨_, _, _, rfl⟩, hu1.trans hu2 (by simp)⟩
end
end Go.Proofs.Ytnghnifihnjfeaa

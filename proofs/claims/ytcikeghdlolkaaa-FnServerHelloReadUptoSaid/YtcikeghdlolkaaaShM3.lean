/- ServerHello: the package's makers (printed by gen_shm3.py). -/
import Derived.Test.YtcikeghdlolkaaaShM2
namespace Go.Proofs.Ytcikeghdlolkaaa
open Go.RowKit
set_option maxRecDepth 100000

section
variable {w w' : World} {B : Nat} {v : Value} {t : Sh}
theorem wp_build {o : Oper} {a : Act} {K : Act → World → Prop} {Q : Exit → Act → World → Prop} (T : TypeId) (parts : Array (Nat × Operand)) (ho : o.op = .build T parts)
    (cells : Array Value) (hf : Try.prog.built T (parts.map fun (i, x) => (i, a.eval x)).toList = some cells) (h : K (a.put o.dst (.agg cells)) w) : Oper.wp Try.prog o a w K Q := by
  unfold Oper.wp execOp
  simp only [ho, Sem.run_bind, run_build w T _ cells hf, Result.andThen_ok]
  exact h
set_option maxHeartbeats 4000000 in
theorem tls_MarshalSh (hv : ShV w B v t) (hZ : ShSz t) : Calls Try.prog 46 #[v] w (BytesP w (shMakeM t)) := by
  obtain ⟨A1, c1, A2, c2, A8, c8, A11, c11, A14, c14, A17, c17, A18, c18, A20, c20, rfl, y1, y2, y8, y11, y14, y17, y18, y20⟩ := hv
  obtain ⟨wa, hwa⟩ : ∃ wa, w.alloc (.cells #[wv t.vers, .slice A1 t.random.length c1, .slice A2 t.sid.length c2, wv t.suite, bv t.comp, .bool t.ocsp, .bool t.ticket, .bool t.rns, .slice A8 t.rn.length c8, .bool t.ems, strv t.alpn, .slice A11 t.scts.length c11, wv t.sv, wv t.sg, .slice A14 t.sd.length c14, .bool t.sip, wv t.si, .slice A17 t.pts.length c17, .slice A18 t.ech.length c18, .bool t.ack, .slice A20 t.cookie.length c20, wv t.selg] 79) = wa := ⟨_, rfl⟩
  obtain ⟨s, hs⟩ : ∃ s, w.heap.size = s := ⟨_, rfl⟩
  obtain ⟨w1, hw1⟩ : ∃ w1, wa.alloc (.cells #[.slice none 0 0, wv t.vers, .slice A1 t.random.length c1, .slice A2 t.sid.length c2, wv t.suite, bv t.comp, .bool t.ocsp, .bool t.ticket, .bool t.rns, .slice A8 t.rn.length c8, .bool t.ems, strv t.alpn, .slice A11 t.scts.length c11, wv t.sv, wv t.sg, .slice A14 t.sd.length c14, .bool t.sip, wv t.si, .slice A17 t.pts.length c17, .slice A18 t.ech.length c18, .bool t.ack, .slice A20 t.cookie.length c20, wv t.selg] 121) = w1 := ⟨_, rfl⟩
  have hsa : wa.heap.size = s + 1 := by rw [← hwa, ← hs]; simp
  have hu1 : Upd [] w w1 := by rw [← hw1, ← hwa]; exact ((Upd.refl _ _).alloc _).alloc _
  have hba : Blk wa s 79 #[wv t.vers, .slice A1 t.random.length c1, .slice A2 t.sid.length c2, wv t.suite, bv t.comp, .bool t.ocsp, .bool t.ticket, .bool t.rns, .slice A8 t.rn.length c8, .bool t.ems, strv t.alpn, .slice A11 t.scts.length c11, wv t.sv, wv t.sg, .slice A14 t.sd.length c14, .bool t.sip, wv t.si, .slice A17 t.pts.length c17, .slice A18 t.ech.length c18, .bool t.ack, .slice A20 t.cookie.length c20, wv t.selg] := by rw [← hwa, ← hs]; exact Blk.new _ _ _
  have hm1 : Blk w1 (s + 1) 121 #[.slice none 0 0, wv t.vers, .slice A1 t.random.length c1, .slice A2 t.sid.length c2, wv t.suite, bv t.comp, .bool t.ocsp, .bool t.ticket, .bool t.rns, .slice A8 t.rn.length c8, .bool t.ems, strv t.alpn, .slice A11 t.scts.length c11, wv t.sv, wv t.sg, .slice A14 t.sd.length c14, .bool t.sip, wv t.si, .slice A17 t.pts.length c17, .slice A18 t.ech.length c18, .bool t.ack, .slice A20 t.cookie.length c20, wv t.selg] := by rw [← hw1, ← hsa]; exact Blk.new _ _ _
  have HWA := hid hwa
  have HW := hid hw1
  have HS := hid hs
  have HSA := hid hsa
  have H1 := hid (marshal_Sh hm1 (Row.upd y1.shrink hu1 (by simp)).shrink (Row.upd y2.shrink hu1 (by simp)).shrink (Row.upd y8.shrink hu1 (by simp)).shrink (Lst.upd y11.shrink hu1 (by simp)).shrink (Row.upd y14.shrink hu1 (by simp)).shrink (Row.upd y17.shrink hu1 (by simp)).shrink (Row.upd y18.shrink hu1 (by simp)).shrink (Row.upd y20.shrink hu1 (by simp)).shrink hZ)
  have d0 := hba.cell 0
  simp at d0
  have d1 := hba.cell 1
  simp at d1
  have d2 := hba.cell 2
  simp at d2
  have d3 := hba.cell 3
  simp at d3
  have d4 := hba.cell 4
  simp at d4
  have d5 := hba.cell 5
  simp at d5
  have d6 := hba.cell 6
  simp at d6
  have d7 := hba.cell 7
  simp at d7
  have d8 := hba.cell 8
  simp at d8
  have d9 := hba.cell 9
  simp at d9
  have d10 := hba.cell 10
  simp at d10
  have d11 := hba.cell 11
  simp at d11
  have d12 := hba.cell 12
  simp at d12
  have d13 := hba.cell 13
  simp at d13
  have d14 := hba.cell 14
  simp at d14
  have d15 := hba.cell 15
  simp at d15
  have d16 := hba.cell 16
  simp at d16
  have d17 := hba.cell 17
  simp at d17
  have d18 := hba.cell 18
  simp at d18
  have d19 := hba.cell 19
  simp at d19
  have d20 := hba.cell 20
  simp at d20
  have d21 := hba.cell 21
  simp at d21
  clear hwa hw1 hs hsa hm1 hba y1 y2 y8 y11 y14 y17 y18 y20 hZ
  go_enter Try.func46, Try.ntmps46
  go_upto_region 1 with fail
  rw [HWA.out, HS.out]
  go_wp2_with fail
  refine wp_build 121 _ rfl #[.slice none 0 0, wv t.vers, .slice A1 t.random.length c1, .slice A2 t.sid.length c2, wv t.suite, bv t.comp, .bool t.ocsp, .bool t.ticket, .bool t.rns, .slice A8 t.rn.length c8, .bool t.ems, strv t.alpn, .slice A11 t.scts.length c11, wv t.sv, wv t.sg, .slice A14 t.sd.length c14, .bool t.sip, wv t.si, .slice A17 t.pts.length c17, .slice A18 t.ech.length c18, .bool t.ack, .slice A20 t.cookie.length c20, wv t.selg] (by kernel_rfl) ?_
  rename_i hK
  refine hK _ _ ?_
  clear d0 d1 d2 d3 d4 d5 d6 d7 d8 d9 d10 d11 d12 d13 d14 d15 d16 d17 d18 d19 d20 d21
  go_wp2_with fail
  rw [HW.out, HSA.out]
  refine H1.out.mono ?_
  intro e w4 hp
  obtain ⟨A1, n1, c1, x1, rfl⟩ := hp.pair
  go_wp2
  go_ret2
  exact hp.up hu1
set_option maxHeartbeats 2000000 in
theorem impl_MarshalSh (hv : ShV w B v t) (hZ : ShSz t) : Calls Try.prog 17 #[v] w (MadeP w (shMakeM t)) := by
  obtain ⟨cs, rfl, -⟩ := ShV.ok.agg hv
  have hb0 := ShV.ok.box hv
  obtain ⟨w1, hw1⟩ : ∃ w1, w.alloc (.cells cs 26) = w1 := ⟨_, rfl⟩
  obtain ⟨g, hg⟩ : ∃ g, w.heap.size = g := ⟨_, rfl⟩
  have hu0 : Upd [] w w1 := by rw [← hw1]; exact (Upd.refl _ _).alloc _
  rw [hw1, hg] at hb0
  have H1 := hid (tls_MarshalSh hb0.2 hZ)
  have HW := hid hw1
  have HG := hid hg
  clear hw1 hg hv hZ
  go_enter Try.func17, Try.ntmps17
  go_upto_region 1 with fail
  rw [HW.out, HG.out]
  go_wp2_with (refine wpList_load_vb ShV.ok hb0 _ rfl rfl rfl ?_)
  refine (H1.out).mono ?_
  intro e w1 hp
  have q1 := eql_err_nil
  have q2 := eql_err_some
  obtain ⟨A, n, c, ⟨rfl, hr⟩ | ⟨t, x, rfl, hr⟩⟩ := hp.two
  all_goals
    have HR := hid hr
    clear hr
    go_wp2_with fail
    go_quiet (fail)
    go_wp2
    go_ret2
    exact (HR.out _).up hu0
end
/-- what the package makes, plainly -/
theorem shOutM_eq (t : Sh) : shOutM t = shOut t := by
  unfold shOut itemsOut
  simp only [shPkg, shI1, shI2, shI3, shSel, List.cons_append, List.nil_append, List.foldl_cons, List.foldl_nil, app_assoc, app_lnil]
  have e1 : ofW (Wr.vector 1 (Wr.plain t.rn)) = lpOut 1 (some t.rn) := by rw [← lpOut_ofW]; rfl
  have e2 : ofW (Wr.vector 2 (vecsW 1 [t.alpn])) = lpOut 2 (lpOut 1 (some t.alpn)) := by rw [← lpOut_ofW, ofW_vecs_one]
  have e3 : ofW (Wr.vector 2 (vecsW 2 t.scts)) = lpOut 2 (ofW (vecsW 2 t.scts)) := by rw [← lpOut_ofW]
  have e4 : ∀ n, ofW (numberW 2 n) = some (be 2 n) := fun n => by simp [ofW, numberW, Wr.num, Wr.nil]
  have e5 : ofW (shareW t.sg t.sd) = app (some (be 2 t.sg.toNat)) (lpOut 2 (some t.sd)) := by
    have h : lpOut 2 (some t.sd) = ofW (Wr.vector 2 (Wr.plain t.sd)) := by rw [← lpOut_ofW]; rfl
    have h2 : (some (be 2 t.sg.toNat) : Option (List UInt8)) = ofW ⟨be 2 t.sg.toNat, false⟩ := rfl
    rw [h, h2, app_ofW]
    simp [behindW, Wr.vector, Wr.inner, Wr.vec, Wr.nil, Wr.plain, shareW, Wr.num]
    rfl
  have e6 : ofW (Wr.vector 2 (Wr.plain t.cookie)) = lpOut 2 (some t.cookie) := by rw [← lpOut_ofW]; rfl
  have e7 : ofW (Wr.vector 1 (Wr.plain t.pts)) = lpOut 1 (some t.pts) := by rw [← lpOut_ofW]; rfl
  rw [e1, e2, e3, e4, e4, e4, e5, e6, e7, ← pos_isEmpty]
  rfl
theorem shMakeM_eq {t : Sh} (h : ShOk t) : shMakeM t = shMake t := by
  unfold shMakeM shMake
  rw [shOutM_eq]
  congr 1
  funext xs
  congr 2
  unfold shBodyA shBodyO
  rw [ablOut_ok h.r]
end Go.Proofs.Ytcikeghdlolkaaa

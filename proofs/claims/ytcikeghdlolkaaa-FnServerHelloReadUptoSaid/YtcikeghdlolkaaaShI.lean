/- ServerHello: the package's 'Unmarshal' (printed by gen_shi.py). -/
import Derived.Test.YtcikeghdlolkaaaShU
import Derived.Test.YtcikeghdlolkaaaShV
import Derived.Test.YtcikeghdlolkaaaLex
namespace Go.Proofs.Ytcikeghdlolkaaa
open Go.RowKit
set_option maxRecDepth 100000

section
variable {w w' : World} {B m lo hi n : Nat} {v v0 content : Value} {data : List UInt8} {e : Ending} {t : Sh} {cs : Array Value} {he : Bool} {A1 : Option Addr} {c1 : Nat} {A2 : Option Addr} {c2 : Nat} {A8 : Option Addr} {c8 : Nat} {A11 : Option Addr} {c11 : Nat} {A14 : Option Addr} {c14 : Nat} {A17 : Option Addr} {c17 : Nat} {A18 : Option Addr} {c18 : Nat} {A20 : Option Addr} {c20 : Nat}
theorem ShM.val (h : MSt w B lo hi m 121 cs (shF v0 t he)) (hB : B ≤ w.heap.size) (h1 : cs[2]? = some (.slice A1 t.random.length c1)) (h2 : cs[3]? = some (.slice A2 t.sid.length c2)) (h8 : cs[9]? = some (.slice A8 t.rn.length c8)) (h11 : cs[12]? = some (.slice A11 t.scts.length c11)) (h14 : cs[15]? = some (.slice A14 t.sd.length c14)) (h17 : cs[18]? = some (.slice A17 t.pts.length c17)) (h18 : cs[19]? = some (.slice A18 t.ech.length c18)) (h20 : cs[21]? = some (.slice A20 t.cookie.length c20)) : ShV w w.heap.size (.agg #[wv t.vers, .slice A1 t.random.length c1, .slice A2 t.sid.length c2, wv t.suite, bv t.comp, .bool t.ocsp, .bool t.ticket, .bool t.rns, .slice A8 t.rn.length c8, .bool t.ems, strv t.alpn, .slice A11 t.scts.length c11, wv t.sv, wv t.sg, .slice A14 t.sd.length c14, .bool t.sip, wv t.si, .slice A17 t.pts.length c17, .slice A18 t.ech.length c18, .bool t.ack, .slice A20 t.cookie.length c20, wv t.selg]) t := by
  have lst_11 : Lst w w.heap.size (.slice A11 t.scts.length c11) t.scts := by
    obtain ⟨us, k1, k2⟩ := show Vecs w lo B (.slice A11 t.scts.length c11) t.scts from h.ok 12 _ _ h11 rfl
    exact ⟨us, k1.row, k2.imp fun _ _ hb => hb.more hB⟩
  exact ⟨A1, c1, A2, c2, A8, c8, A11, c11, A14, c14, A17, c17, A18, c18, A20, c20, rfl, Row.more (show Byt _ _ _ _ from h.ok 2 _ _ h1 rfl) hB, Row.more (show Byt _ _ _ _ from h.ok 3 _ _ h2 rfl) hB, Row.more (show Byt _ _ _ _ from h.ok 9 _ _ h8 rfl) hB, lst_11, Row.more (show Byt _ _ _ _ from h.ok 15 _ _ h14 rfl) hB, Row.more (show Byt _ _ _ _ from h.ok 18 _ _ h17 rfl) hB, CpN.byt (show CpN _ _ _ _ _ from h.ok 19 _ _ h18 rfl), Row.more (show Byt _ _ _ _ from h.ok 21 _ _ h20 rfl) hB⟩
theorem ShM.firm (h : MSt w B lo hi m 121 cs (shF v0 t he)) (hB : B ≤ w.heap.size) (hn : n ≤ lo) (hm : n ≤ m) (h1 : cs[2]? = some (.slice A1 t.random.length c1)) (h2 : cs[3]? = some (.slice A2 t.sid.length c2)) (h8 : cs[9]? = some (.slice A8 t.rn.length c8)) (h11 : cs[12]? = some (.slice A11 t.scts.length c11)) (h14 : cs[15]? = some (.slice A14 t.sd.length c14)) (h17 : cs[18]? = some (.slice A17 t.pts.length c17)) (h18 : cs[19]? = some (.slice A18 t.ech.length c18)) (h20 : cs[21]? = some (.slice A20 t.cookie.length c20)) : Firm ShV B n w (.agg #[wv t.vers, .slice A1 t.random.length c1, .slice A2 t.sid.length c2, wv t.suite, bv t.comp, .bool t.ocsp, .bool t.ticket, .bool t.rns, .slice A8 t.rn.length c8, .bool t.ems, strv t.alpn, .slice A11 t.scts.length c11, wv t.sv, wv t.sg, .slice A14 t.sd.length c14, .bool t.sip, wv t.si, .slice A17 t.pts.length c17, .slice A18 t.ech.length c18, .bool t.ack, .slice A20 t.cookie.length c20, wv t.selg]) t := by
  refine ⟨ShM.val h hB h1 h2 h8 h11 h14 h17 h18 h20, fun w' S hu hS => ?_⟩
  exact ShM.val (h.upd hu (fun k hk => by have := hS k hk; omega)) (Nat.le_trans hB hu.size) h1 h2 h8 h11 h14 h17 h18 h20
theorem Sh.zero_firm (w : World) : Firm ShV B n w (.agg #[.int .u16 0, .slice none 0 0, .slice none 0 0, .int .u16 0, .int .u8 0, .bool false, .bool false, .bool false, .slice none 0 0, .bool false, strv [], .slice none 0 0, .int .u16 0, .int .u16 0, .slice none 0 0, .bool false, .int .u16 0, .slice none 0 0, .slice none 0 0, .bool false, .slice none 0 0, .int .u16 0]) Sh.zero := by
  have : ∀ w : World, ShV w w.heap.size (.agg #[.int .u16 0, .slice none 0 0, .slice none 0 0, .int .u16 0, .int .u8 0, .bool false, .bool false, .bool false, .slice none 0 0, .bool false, strv [], .slice none 0 0, .int .u16 0, .int .u16 0, .slice none 0 0, .bool false, .int .u16 0, .slice none 0 0, .slice none 0 0, .bool false, .slice none 0 0, .int .u16 0]) Sh.zero := fun w => ⟨none, 0, none, 0, none, 0, none, 0, none, 0, none, 0, none, 0, none, 0, rfl, Row.nil_ _ _, Row.nil_ _ _, Row.nil_ _ _, Lst.nil_ _ _, Row.nil_ _ _, Row.nil_ _ _, Row.nil_ _ _, Row.nil_ _ _⟩
  exact ⟨this w, fun w' _ _ _ => this w'⟩
theorem wpStill_build {ops : Array Oper} {Q : Act → Prop} {a : Act} {o : Oper} {rest : List Oper} (t : TypeId) (parts : Array (Nat × Operand)) (ho : o.op = .build t parts) (hw : Region.wanted o (yielded ops a.tmps) = true)
    (cells : Array Value) (hf : Try.prog.built t (parts.map fun (i, x) => (i, a.eval x)).toList = some cells) (h : wpStill Try.prog ops w Q rest (a.put o.dst (.agg cells))) : wpStill Try.prog ops w Q (o :: rest) a := by
  refine wpStill_step (fun K hK => ?_)
  rw [if_pos hw]
  unfold Oper.still execOp
  simp only [ho, Sem.run_bind, run_build w t _ cells hf, Result.andThen_ok]
  exact ⟨rfl, hK _ h⟩
set_option maxHeartbeats 64000000 in
theorem tls_UnSh (hv : Byt w B v data) (hB : B ≤ w.heap.size) : Calls Try.prog 43 #[v] w (UnF ShV B w Sh.zero (shRead data)) := by
  obtain ⟨A, c, rfl, hv, hl, hc⟩ := Byt.form hv rfl
  obtain ⟨w1, hw1⟩ : ∃ w1, (w.alloc (.cells #[.int .u16 0, .slice none 0 0, .slice none 0 0, .int .u16 0, .int .u8 0, .bool false, .bool false, .bool false, .slice none 0 0, .bool false, strv [], .slice none 0 0, .int .u16 0, .int .u16 0, .slice none 0 0, .bool false, .int .u16 0, .slice none 0 0, .slice none 0 0, .bool false, .slice none 0 0, .int .u16 0] 79)).alloc (.cells #[.slice none 0 0, .int .u16 0, .slice none 0 0, .slice none 0 0, .int .u16 0, .int .u8 0, .bool false, .bool false, .bool false, .slice none 0 0, .bool false, strv [], .slice none 0 0, .int .u16 0, .int .u16 0, .slice none 0 0, .bool false, .int .u16 0, .slice none 0 0, .slice none 0 0, .bool false, .slice none 0 0, .int .u16 0] 121) = w1 := ⟨_, rfl⟩
  obtain ⟨s, hs⟩ : ∃ s, w.heap.size = s := ⟨_, rfl⟩
  have hu1 : Upd [] w w1 := by rw [← hw1]; exact ((Upd.refl _ _).alloc _).alloc _
  have hb1 : Blk w1 s 79 #[.int .u16 0, .slice none 0 0, .slice none 0 0, .int .u16 0, .int .u8 0, .bool false, .bool false, .bool false, .slice none 0 0, .bool false, strv [], .slice none 0 0, .int .u16 0, .int .u16 0, .slice none 0 0, .bool false, .int .u16 0, .slice none 0 0, .slice none 0 0, .bool false, .slice none 0 0, .int .u16 0] := by rw [← hw1, ← hs]; exact (Blk.new _ _ _).alloc _
  have hm1 : Blk w1 (s + 1) 121 #[.slice none 0 0, .int .u16 0, .slice none 0 0, .slice none 0 0, .int .u16 0, .int .u8 0, .bool false, .bool false, .bool false, .slice none 0 0, .bool false, strv [], .slice none 0 0, .int .u16 0, .int .u16 0, .slice none 0 0, .bool false, .int .u16 0, .slice none 0 0, .slice none 0 0, .bool false, .slice none 0 0, .int .u16 0] := by
    rw [← hw1, ← hs]
    have := Blk.new (w.alloc (.cells #[.int .u16 0, .slice none 0 0, .slice none 0 0, .int .u16 0, .int .u8 0, .bool false, .bool false, .bool false, .slice none 0 0, .bool false, strv [], .slice none 0 0, .int .u16 0, .int .u16 0, .slice none 0 0, .bool false, .int .u16 0, .slice none 0 0, .slice none 0 0, .bool false, .slice none 0 0, .int .u16 0] 79)) 121 #[.slice none 0 0, .int .u16 0, .slice none 0 0, .slice none 0 0, .int .u16 0, .int .u8 0, .bool false, .bool false, .bool false, .slice none 0 0, .bool false, strv [], .slice none 0 0, .int .u16 0, .int .u16 0, .slice none 0 0, .bool false, .int .u16 0, .slice none 0 0, .slice none 0 0, .bool false, .slice none 0 0, .int .u16 0]
    rwa [show (w.alloc (.cells #[.int .u16 0, .slice none 0 0, .slice none 0 0, .int .u16 0, .int .u8 0, .bool false, .bool false, .bool false, .slice none 0 0, .bool false, strv [], .slice none 0 0, .int .u16 0, .int .u16 0, .slice none 0 0, .bool false, .int .u16 0, .slice none 0 0, .slice none 0 0, .bool false, .slice none 0 0, .int .u16 0] 79)).heap.size = w.heap.size + 1 by simp] at this
  have hs1 : w1.heap.size = s + 2 := by rw [← hw1, ← hs]; simp
  have H1 := hid (unmarshal_Sh hm1 (Row.upd hv hu1 (by simp)) (by omega))
  have HW := hid hw1
  have HS1 := hid hs1
  have hsw : w.heap.size ≤ s := by omega
  have hBs : B ≤ s := by omega
  have hi79 : (Try.prog.info? 79).map (·.size) = some 22 := by kernel_rfl
  have HI := hid hi79
  obtain ⟨dd, hd1, hd2⟩ := ShV.okT.str
  have HD1 := hid hd1
  clear hw1 hm1 hs1 hi79 hd1
  generalize shRead data = o at H1 ⊢
  go_enter Try.func43, Try.ntmps43
  go_wp2_with fail
  rw [HW.out]
  refine (H1.out).mono ?_
  rintro e w2 ⟨rfl, hu2, hx⟩
  have hu := hu1.trans hu2 (by simp; omega)
  have hb2 := hb1.upd hu2 (by simp)
  clear H1 HW hb1
  rcases o with _ | t
  · clear hx
    have HC := hid (show (#[.int .u16 0, .slice none 0 0, .slice none 0 0, .int .u16 0, .int .u8 0, .bool false, .bool false, .bool false, .slice none 0 0, .bool false, strv [], .slice none 0 0, .int .u16 0, .int .u16 0, .slice none 0 0, .bool false, .int .u16 0, .slice none 0 0, .slice none 0 0, .bool false, .slice none 0 0, .int .u16 0] : Array Value).all (·.oneCell') = true by simp [Value.oneCell'])
    go_wp2_with (refine wpList_store_any (cs := #[.int .u16 0, .slice none 0 0, .slice none 0 0, .int .u16 0, .int .u8 0, .bool false, .bool false, .bool false, .slice none 0 0, .bool false, strv [], .slice none 0 0, .int .u16 0, .int .u16 0, .slice none 0 0, .bool false, .int .u16 0, .slice none 0 0, .slice none 0 0, .bool false, .slice none 0 0, .int .u16 0]) hb2 HI.out HC.out rfl rfl _ _ rfl rfl rfl ?_; intro w3 hb3 hu3 hs3)
    exact bodyPost_ret (v := .tuple #[.agg #[.int .u16 0, .slice none 0 0, .slice none 0 0, .int .u16 0, .int .u8 0, .bool false, .bool false, .bool false, .slice none 0 0, .bool false, strv [], .slice none 0 0, .int .u16 0, .int .u16 0, .slice none 0 0, .bool false, .int .u16 0, .slice none 0 0, .slice none 0 0, .bool false, .slice none 0 0, .int .u16 0], .bool false]) (results_cell2 (T := 79) (p := 2) (q := 3) (g := s) rfl _ _ rfl rfl (blk_loadVar hb3 HD1.out hd2 HI.out)) rfl ⟨_, rfl, Sh.zero_firm _, hu.trans hu3 (by simp; omega)⟩
  · obtain ⟨v0, he, cs, lo, hi, hlo, hml, hM⟩ := hx t rfl
    clear hx
    have hwd : w1.heap.size = s + 2 := HS1.out
    obtain ⟨x0, e0, k0⟩ := hM.get (i := 1) rfl
    obtain rfl : x0 = wv t.vers := k0
    have f0 := hM.cell e0
    obtain ⟨x1, e1, k1⟩ := hM.get (i := 2) rfl
    obtain ⟨A1, c1, rfl, -⟩ := Byt.form (show Byt _ _ _ _ from k1) rfl
    clear k1
    have f1 := hM.cell e1
    obtain ⟨x2, e2, k2⟩ := hM.get (i := 3) rfl
    obtain ⟨A2, c2, rfl, -⟩ := Byt.form (show Byt _ _ _ _ from k2) rfl
    clear k2
    have f2 := hM.cell e2
    obtain ⟨x3, e3, k3⟩ := hM.get (i := 4) rfl
    obtain rfl : x3 = wv t.suite := k3
    have f3 := hM.cell e3
    obtain ⟨x4, e4, k4⟩ := hM.get (i := 5) rfl
    obtain rfl : x4 = bv t.comp := k4
    have f4 := hM.cell e4
    obtain ⟨x5, e5, k5⟩ := hM.get (i := 6) rfl
    obtain rfl : x5 = .bool t.ocsp := k5
    have f5 := hM.cell e5
    obtain ⟨x6, e6, k6⟩ := hM.get (i := 7) rfl
    obtain rfl : x6 = .bool t.ticket := k6
    have f6 := hM.cell e6
    obtain ⟨x7, e7, k7⟩ := hM.get (i := 8) rfl
    obtain rfl : x7 = .bool t.rns := k7
    have f7 := hM.cell e7
    obtain ⟨x8, e8, k8⟩ := hM.get (i := 9) rfl
    obtain ⟨A8, c8, rfl, -⟩ := Byt.form (show Byt _ _ _ _ from k8) rfl
    clear k8
    have f8 := hM.cell e8
    obtain ⟨x9, e9, k9⟩ := hM.get (i := 10) rfl
    obtain rfl : x9 = .bool t.ems := k9
    have f9 := hM.cell e9
    obtain ⟨x10, e10, k10⟩ := hM.get (i := 11) rfl
    obtain rfl : x10 = strv t.alpn := k10
    have f10 := hM.cell e10
    obtain ⟨x11, e11, k11⟩ := hM.get (i := 12) rfl
    obtain ⟨us11, ho11, hall11⟩ := (show Vecs _ _ _ _ _ from k11)
    obtain ⟨A11, c11, rfl⟩ := ho11.formN (n := t.scts.length) hall11.length
    clear ho11 hall11
    clear k11
    have f11 := hM.cell e11
    obtain ⟨x12, e12, k12⟩ := hM.get (i := 13) rfl
    obtain rfl : x12 = wv t.sv := k12
    have f12 := hM.cell e12
    obtain ⟨x13, e13, k13⟩ := hM.get (i := 14) rfl
    obtain rfl : x13 = wv t.sg := k13
    have f13 := hM.cell e13
    obtain ⟨x14, e14, k14⟩ := hM.get (i := 15) rfl
    obtain ⟨A14, c14, rfl, -⟩ := Byt.form (show Byt _ _ _ _ from k14) rfl
    clear k14
    have f14 := hM.cell e14
    obtain ⟨x15, e15, k15⟩ := hM.get (i := 16) rfl
    obtain rfl : x15 = .bool t.sip := k15
    have f15 := hM.cell e15
    obtain ⟨x16, e16, k16⟩ := hM.get (i := 17) rfl
    obtain rfl : x16 = wv t.si := k16
    have f16 := hM.cell e16
    obtain ⟨x17, e17, k17⟩ := hM.get (i := 18) rfl
    obtain ⟨A17, c17, rfl, -⟩ := Byt.form (show Byt _ _ _ _ from k17) rfl
    clear k17
    have f17 := hM.cell e17
    obtain ⟨x18, e18, k18⟩ := hM.get (i := 19) rfl
    obtain ⟨A18, c18, rfl, -⟩ := CpN.nil (show CpN _ _ _ _ _ from k18)
    clear k18
    have f18 := hM.cell e18
    obtain ⟨x19, e19, k19⟩ := hM.get (i := 20) rfl
    obtain rfl : x19 = .bool t.ack := k19
    have f19 := hM.cell e19
    obtain ⟨x20, e20, k20⟩ := hM.get (i := 21) rfl
    obtain ⟨A20, c20, rfl, -⟩ := Byt.form (show Byt _ _ _ _ from k20) rfl
    clear k20
    have f20 := hM.cell e20
    obtain ⟨x21, e21, k21⟩ := hM.get (i := 22) rfl
    obtain rfl : x21 = wv t.selg := k21
    have f21 := hM.cell e21
    have hF := hid hM
    have hB2 : B ≤ w2.heap.size := by have := hu2.size; omega
    have HC := hid (show (#[wv t.vers, .slice A1 t.random.length c1, .slice A2 t.sid.length c2, wv t.suite, bv t.comp, .bool t.ocsp, .bool t.ticket, .bool t.rns, .slice A8 t.rn.length c8, .bool t.ems, strv t.alpn, .slice A11 t.scts.length c11, wv t.sv, wv t.sg, .slice A14 t.sd.length c14, .bool t.sip, wv t.si, .slice A17 t.pts.length c17, .slice A18 t.ech.length c18, .bool t.ack, .slice A20 t.cookie.length c20, wv t.selg] : Array Value).all (·.oneCell') = true by simp [Value.oneCell'])
    clear hM
    go_wp2_with fail
    simp only [List.append_eq, List.cons_append, List.nil_append]
    refine wp_region_still_lex 91 (by kernel_rfl) (by kernel_rfl) (by kernel_rfl) (by kernel_rfl) (by kernel_rfl) (by kernel_rfl) ?_
    simp only [List.take_succ_cons, List.take_zero, List.drop_succ_cons, List.drop_zero]
    repeat still_step
    refine wpStill_build _ _ rfl rfl #[wv t.vers, .slice A1 t.random.length c1, .slice A2 t.sid.length c2, wv t.suite, bv t.comp, .bool t.ocsp, .bool t.ticket, .bool t.rns, .slice A8 t.rn.length c8, .bool t.ems, strv t.alpn, .slice A11 t.scts.length c11, wv t.sv, wv t.sg, .slice A14 t.sd.length c14, .bool t.sip, wv t.si, .slice A17 t.pts.length c17, .slice A18 t.ech.length c18, .bool t.ack, .slice A20 t.cookie.length c20, wv t.selg] (by kernel_rfl) ?_
    refine wpStill_nil ?_
    go_simp
    go_wp2_with (refine wpList_store_any (cs := #[wv t.vers, .slice A1 t.random.length c1, .slice A2 t.sid.length c2, wv t.suite, bv t.comp, .bool t.ocsp, .bool t.ticket, .bool t.rns, .slice A8 t.rn.length c8, .bool t.ems, strv t.alpn, .slice A11 t.scts.length c11, wv t.sv, wv t.sg, .slice A14 t.sd.length c14, .bool t.sip, wv t.si, .slice A17 t.pts.length c17, .slice A18 t.ech.length c18, .bool t.ack, .slice A20 t.cookie.length c20, wv t.selg]) (Blk.drew hb2) HI.out HC.out rfl rfl _ _ rfl rfl rfl ?_; intro w3 hb3 hu3 hs3)
    have hu4 : Upd [s] w2 w3 := ((Upd.refl [s] w2).drew).trans hu3 (by simp)
    have hM3 := hF.out.upd hu4 (by simp; omega)
    refine bodyPost_ret (v := .tuple #[.agg #[wv t.vers, .slice A1 t.random.length c1, .slice A2 t.sid.length c2, wv t.suite, bv t.comp, .bool t.ocsp, .bool t.ticket, .bool t.rns, .slice A8 t.rn.length c8, .bool t.ems, strv t.alpn, .slice A11 t.scts.length c11, wv t.sv, wv t.sg, .slice A14 t.sd.length c14, .bool t.sip, wv t.si, .slice A17 t.pts.length c17, .slice A18 t.ech.length c18, .bool t.ack, .slice A20 t.cookie.length c20, wv t.selg], .bool true]) (results_cell2 (T := 79) (p := 2) (q := 3) (g := s) rfl _ _ rfl rfl (blk_loadVar hb3 HD1.out hd2 HI.out)) rfl
      ⟨_, rfl, ShM.firm hM3 (by have := hu4.size; omega) (by omega) (by omega) e1 e2 e8 e11 e14 e17 e18 e20, hu.trans hu4 (by simp; omega)⟩
end
section
variable {w w' : World} {B : Nat} {v : Value} {data : List UInt8}
set_option maxHeartbeats 2000000 in
theorem un_Sh (hv0 : Byt w B v data) : Calls Try.prog 15 #[v] w (UnG ShV w Sh.zero (shRead data)) := by
  have hv := hv0.shrink
  clear hv0
  obtain ⟨A, c, rfl, hv, hl, hc⟩ := Byt.form hv rfl
  obtain ⟨w1, hw1⟩ : ∃ w1, w.alloc (.cells #[.int .u16 0, .slice none 0 0, .slice none 0 0, .int .u16 0, .int .u8 0, .bool false, .bool false, .bool false, .slice none 0 0, .bool false, strv [], .slice none 0 0, .int .u16 0, .int .u16 0, .slice none 0 0, .bool false, .int .u16 0, .slice none 0 0, .slice none 0 0, .bool false, .slice none 0 0, .int .u16 0] 26) = w1 := ⟨_, rfl⟩
  obtain ⟨s, hs⟩ : ∃ s, w.heap.size = s := ⟨_, rfl⟩
  have hu1 : Upd [] w w1 := by rw [← hw1]; exact (Upd.refl _ _).alloc _
  have hb1 : Blk w1 s 26 #[.int .u16 0, .slice none 0 0, .slice none 0 0, .int .u16 0, .int .u8 0, .bool false, .bool false, .bool false, .slice none 0 0, .bool false, strv [], .slice none 0 0, .int .u16 0, .int .u16 0, .slice none 0 0, .bool false, .int .u16 0, .slice none 0 0, .slice none 0 0, .bool false, .slice none 0 0, .int .u16 0] := by rw [← hw1, ← hs]; exact Blk.new _ _ _
  have hs1 : s < w1.heap.size := hb1.lt
  have hsl : w.heap.size ≤ s := by omega
  have hy1 := Row.upd hv hu1 (by simp)
  rw [hs] at hy1
  have H1 := hid (tls_UnSh hy1 (by omega))
  have HW := hid hw1
  have HS := hid hs
  clear hw1 hs
  generalize shRead data = o at H1 ⊢
  go_enter Try.func15, Try.ntmps15
  go_wp2_with fail
  rw [HW.out, HS.out]
  refine (H1.out).mono ?_
  rintro e w2 ⟨v2, rfl, hv2, hu2⟩
  obtain ⟨cs2, rfl, hi2, hc2⟩ := ShV.okT.agg hv2.1
  have hi2' : (Try.prog.info? 26).map (·.size) = some cs2.size := by
    obtain ⟨cs3, e, hi3, -⟩ := ShV.ok.agg hv2.1
    injection e with e
    all_goals (subst e; exact hi3)
  have HZ2 := hid (ShV.size hv2.1)
  have hb2 := hb1.upd hu2 (by simp)
  have HI := hid hi2
  have HI' := hid hi2'
  have HC := hid hc2
  clear H1 HW hb1 hi2 hc2 hi2'
  go_wp2_with (first
    | (refine wpList_store_vb ShV.okT (Blk.new _ _ _) (ShV.okT.upd hv2.1 ((Upd.refl [] _).alloc _) (by simp)) (Nat.le_refl _) HZ2.out rfl _ _ rfl rfl rfl ?_; intro w3 hb3 hu3 hs3; have hU3 : Upd [] w2 w3 := ((Upd.refl [] _).alloc _).trans hu3 (by simp); have hb23 := hb2.upd hU3 (by simp))
    | (refine wpList_load_vb ShV.okT hb3 _ rfl rfl rfl ?_)
    | (refine wpList_store_any hb23 HI'.out HC.out HZ2.out rfl _ _ rfl rfl rfl ?_; intro w4 hb4 hu4 hs4))
  obtain ⟨d, hd1, hd2⟩ := ShV.ok.str
  refine bodyPost_ret (v := .tuple #[.agg cs2, .bool o.isSome]) (results_cell2 (T := 26) (p := 2) (q := 3) (g := s) rfl _ _ rfl rfl (blk_loadVar hb4 hd1 hd2 HI'.out)) rfl ⟨_, rfl, ?_, ?_⟩
  · exact hv2.2 _ [s] ((hU3.mono (S' := [s]) (by simp)).trans hu4 (by simp)) (by simp; omega)
  · exact ((hu1.trans hu2 (by simp)).trans hU3 (by simp)).trans hu4 (by simp; omega)
end

end Go.Proofs.Ytcikeghdlolkaaa

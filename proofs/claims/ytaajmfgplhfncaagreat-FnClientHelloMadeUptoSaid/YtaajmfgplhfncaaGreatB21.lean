/- Texts joined: ChSame. -/
import Derived.Test.YtaajmfgplhfncaaGreatB20
import Derived.Test.YtaajmfgplhfncaaGreatB17
import Derived.Test.YtaajmfgplhfncaaGreatB07
namespace Go.Proofs.YtaajmfgplhfncaaGreat
open Go.RowKit
set_option maxRecDepth 100000
noncomputable def sameL : List Oper := regOf 1 (Tryz.f12.body.getD .skip)
theorem sameL_ok : SmL sameL := ⟨lexFast_ok _ _ _ (by kernel_rfl), by kernel_rfl⟩
theorem fn2_same : FnRun2 39 := fun x y u => by kernel_rfl
theorem fn2_words : FnRun2 40 := fun x y u => by kernel_rfl
theorem fn2_lists : FnRun2 41 := fun x y u => by kernel_rfl
theorem fn2_keys : FnRun2 42 := fun x y u => by kernel_rfl
theorem fn1_oct : FnRun1 21 := fun x u => by kernel_rfl
theorem sml_all (w : World) (g : Nat) (cs : Array Value) (hn : cs.size = 31) (hb : Blk w g 29 cs) : (Instr.loadAt 29 (.pointer (some ⟨g, 0, none⟩))).run Tryz.prog w = .ok (.agg cs) w := by
  simp only [Instr.loadAt, Instr.sureAddr, Sem.run_bind, Sem.run_pure, Result.andThen_ok]
  exact blk_loadVar hb Tryz.underlying29 rfl (by rw [hn]; kernel_rfl)
theorem results_one {fn : Func} {q : Nat} {v : Value} {a : Act} {w : World} (h : fn.results = #[.tmp q]) (hq : AtS a q v) : (results fn a.tmps).run Tryz.prog w = .ok v w := by
  have hq' : a.tmps[q]?.getD undef = v := by rw [show a.tmps[q]? = some v from hq]; rfl
  simp [results, h, hq']
section
variable {w w' : World} {B C : Nat} {v u : Value} {t : Ch}
set_option maxHeartbeats 8000000 in
theorem SameCh_eq {E : List UInt16} (hv : ChV w B v { t with exs := E }) (hu : ChV w C u t) (hZ : ChSz t) (hl : t.pl.length = t.pa.length) : Calls Tryz.prog 12 #[v, u] w (LawP w) := by
  obtain ⟨cs1, rfl, -⟩ := ChV.ok.agg hv
  obtain ⟨cs2, rfl, -⟩ := ChV.ok.agg hu
  have n1 : cs1.size = 31 := (ChV.size hv).symm
  have n2 : cs2.size = 31 := (ChV.size hu).symm
  obtain ⟨w1, hw1⟩ : ∃ w1, (w.alloc (.cells cs1 29)).alloc (.cells cs2 29) = w1 := ⟨_, rfl⟩
  obtain ⟨s, hs⟩ : ∃ s, w.heap.size = s := ⟨_, rfl⟩
  have hu1 : Upd [] w w1 := by rw [← hw1]; exact ((Upd.refl _ _).alloc _).alloc _
  have hb1 : Blk w1 s 29 cs1 := by rw [← hw1, ← hs]; exact (Blk.new _ _ _).alloc _
  have hm1 : Blk w1 (s + 1) 29 cs2 := by
    rw [← hw1, ← hs]
    have := Blk.new (w.alloc (.cells cs1 29)) 29 cs2
    rwa [show (w.alloc (.cells cs1 29)).heap.size = w.heap.size + 1 by simp] at this
  have HK := fun (wx : World) (h0 : Upd [] w wx) => sameKeys_eq (GV.upd hv.shrink h0 (by simp)) (GV.upd hu.shrink h0 (by simp)) hl (by have := identsB_cost (chPs t); have := hZ.vps; omega)
  have a0 := GV.val hv (i := 0) (u := wv t.vers) rfl
  have b0 := GV.val hu (i := 0) (u := wv t.vers) rfl
  obtain ⟨A1, Ac1, a1, k⟩ := GV.byt hv (i := 1) (l := t.random) rfl
  have X1 := fun (wx : World) (h0 : Upd [] w wx) => Row.upd k.shrink h0 (by simp)
  clear k
  obtain ⟨B1, Bc1, b1, k⟩ := GV.byt hu (i := 1) (l := t.random) rfl
  have Y1 := fun (wx : World) (h0 : Upd [] w wx) => Row.upd k.shrink h0 (by simp)
  clear k
  obtain ⟨A2, Ac2, a2, k⟩ := GV.byt hv (i := 2) (l := t.sid) rfl
  have X2 := fun (wx : World) (h0 : Upd [] w wx) => Row.upd k.shrink h0 (by simp)
  clear k
  obtain ⟨B2, Bc2, b2, k⟩ := GV.byt hu (i := 2) (l := t.sid) rfl
  have Y2 := fun (wx : World) (h0 : Upd [] w wx) => Row.upd k.shrink h0 (by simp)
  clear k
  obtain ⟨A3, Ac3, a3, k⟩ := GV.row hv (i := 3) (us := t.suites.map wv) rfl (n := t.suites.length) (by simp)
  have X3 := fun (wx : World) (h0 : Upd [] w wx) => Row.upd k.shrink h0 (by simp)
  clear k
  obtain ⟨B3, Bc3, b3, k⟩ := GV.row hu (i := 3) (us := t.suites.map wv) rfl (n := t.suites.length) (by simp)
  have Y3 := fun (wx : World) (h0 : Upd [] w wx) => Row.upd k.shrink h0 (by simp)
  clear k
  obtain ⟨A4, Ac4, a4, k⟩ := GV.byt hv (i := 4) (l := t.comps) rfl
  have X4 := fun (wx : World) (h0 : Upd [] w wx) => Row.upd k.shrink h0 (by simp)
  clear k
  obtain ⟨B4, Bc4, b4, k⟩ := GV.byt hu (i := 4) (l := t.comps) rfl
  have Y4 := fun (wx : World) (h0 : Upd [] w wx) => Row.upd k.shrink h0 (by simp)
  clear k
  have a5 := GV.val hv (i := 5) (u := strv t.host) rfl
  have b5 := GV.val hu (i := 5) (u := strv t.host) rfl
  have a6 := GV.val hv (i := 6) (u := .bool t.ocsp) rfl
  have b6 := GV.val hu (i := 6) (u := .bool t.ocsp) rfl
  obtain ⟨A7, Ac7, a7, k⟩ := GV.row hv (i := 7) (us := t.curves.map wv) rfl (n := t.curves.length) (by simp)
  have X7 := fun (wx : World) (h0 : Upd [] w wx) => Row.upd k.shrink h0 (by simp)
  clear k
  obtain ⟨B7, Bc7, b7, k⟩ := GV.row hu (i := 7) (us := t.curves.map wv) rfl (n := t.curves.length) (by simp)
  have Y7 := fun (wx : World) (h0 : Upd [] w wx) => Row.upd k.shrink h0 (by simp)
  clear k
  obtain ⟨A8, Ac8, a8, k⟩ := GV.byt hv (i := 8) (l := t.pts) rfl
  have X8 := fun (wx : World) (h0 : Upd [] w wx) => Row.upd k.shrink h0 (by simp)
  clear k
  obtain ⟨B8, Bc8, b8, k⟩ := GV.byt hu (i := 8) (l := t.pts) rfl
  have Y8 := fun (wx : World) (h0 : Upd [] w wx) => Row.upd k.shrink h0 (by simp)
  clear k
  have a9 := GV.val hv (i := 9) (u := .bool t.ticket) rfl
  have b9 := GV.val hu (i := 9) (u := .bool t.ticket) rfl
  obtain ⟨A10, Ac10, a10, k⟩ := GV.byt hv (i := 10) (l := t.tick) rfl
  have X10 := fun (wx : World) (h0 : Upd [] w wx) => Row.upd k.shrink h0 (by simp)
  clear k
  obtain ⟨B10, Bc10, b10, k⟩ := GV.byt hu (i := 10) (l := t.tick) rfl
  have Y10 := fun (wx : World) (h0 : Upd [] w wx) => Row.upd k.shrink h0 (by simp)
  clear k
  obtain ⟨A11, Ac11, a11, k⟩ := GV.row hv (i := 11) (us := t.sig.map wv) rfl (n := t.sig.length) (by simp)
  have X11 := fun (wx : World) (h0 : Upd [] w wx) => Row.upd k.shrink h0 (by simp)
  clear k
  obtain ⟨B11, Bc11, b11, k⟩ := GV.row hu (i := 11) (us := t.sig.map wv) rfl (n := t.sig.length) (by simp)
  have Y11 := fun (wx : World) (h0 : Upd [] w wx) => Row.upd k.shrink h0 (by simp)
  clear k
  obtain ⟨A12, Ac12, a12, k⟩ := GV.row hv (i := 12) (us := t.sigc.map wv) rfl (n := t.sigc.length) (by simp)
  have X12 := fun (wx : World) (h0 : Upd [] w wx) => Row.upd k.shrink h0 (by simp)
  clear k
  obtain ⟨B12, Bc12, b12, k⟩ := GV.row hu (i := 12) (us := t.sigc.map wv) rfl (n := t.sigc.length) (by simp)
  have Y12 := fun (wx : World) (h0 : Upd [] w wx) => Row.upd k.shrink h0 (by simp)
  clear k
  have a13 := GV.val hv (i := 13) (u := .bool t.rns) rfl
  have b13 := GV.val hu (i := 13) (u := .bool t.rns) rfl
  obtain ⟨A14, Ac14, a14, k⟩ := GV.byt hv (i := 14) (l := t.rn) rfl
  have X14 := fun (wx : World) (h0 : Upd [] w wx) => Row.upd k.shrink h0 (by simp)
  clear k
  obtain ⟨B14, Bc14, b14, k⟩ := GV.byt hu (i := 14) (l := t.rn) rfl
  have Y14 := fun (wx : World) (h0 : Upd [] w wx) => Row.upd k.shrink h0 (by simp)
  clear k
  have a15 := GV.val hv (i := 15) (u := .bool t.ems) rfl
  have b15 := GV.val hu (i := 15) (u := .bool t.ems) rfl
  obtain ⟨A16, Ac16, a16, k⟩ := GV.row hv (i := 16) (us := t.alpn.map strv) rfl (n := t.alpn.length) (by simp)
  have X16 := fun (wx : World) (h0 : Upd [] w wx) => Row.upd k.shrink h0 (by simp)
  clear k
  obtain ⟨B16, Bc16, b16, k⟩ := GV.row hu (i := 16) (us := t.alpn.map strv) rfl (n := t.alpn.length) (by simp)
  have Y16 := fun (wx : World) (h0 : Upd [] w wx) => Row.upd k.shrink h0 (by simp)
  clear k
  have a17 := GV.val hv (i := 17) (u := .bool t.scts) rfl
  have b17 := GV.val hu (i := 17) (u := .bool t.scts) rfl
  obtain ⟨A18, Ac18, a18, k⟩ := GV.row hv (i := 18) (us := t.sv.map wv) rfl (n := t.sv.length) (by simp)
  have X18 := fun (wx : World) (h0 : Upd [] w wx) => Row.upd k.shrink h0 (by simp)
  clear k
  obtain ⟨B18, Bc18, b18, k⟩ := GV.row hu (i := 18) (us := t.sv.map wv) rfl (n := t.sv.length) (by simp)
  have Y18 := fun (wx : World) (h0 : Upd [] w wx) => Row.upd k.shrink h0 (by simp)
  clear k
  obtain ⟨A19, Ac19, a19, k⟩ := GV.byt hv (i := 19) (l := t.cookie) rfl
  have X19 := fun (wx : World) (h0 : Upd [] w wx) => Row.upd k.shrink h0 (by simp)
  clear k
  obtain ⟨B19, Bc19, b19, k⟩ := GV.byt hu (i := 19) (l := t.cookie) rfl
  have Y19 := fun (wx : World) (h0 : Upd [] w wx) => Row.upd k.shrink h0 (by simp)
  clear k
  obtain ⟨A20, Ac20, a20, k⟩ := GV.row hv (i := 20) (us := t.kg.map wv) rfl (n := t.kg.length) (by simp)
  have X20 := fun (wx : World) (h0 : Upd [] w wx) => Row.upd k.shrink h0 (by simp)
  clear k
  obtain ⟨B20, Bc20, b20, k⟩ := GV.row hu (i := 20) (us := t.kg.map wv) rfl (n := t.kg.length) (by simp)
  have Y20 := fun (wx : World) (h0 : Upd [] w wx) => Row.upd k.shrink h0 (by simp)
  clear k
  obtain ⟨A21, Ac21, a21, k⟩ := GV.lst hv (i := 21) (ls := t.kd) rfl
  have X21 := fun (wx : World) (h0 : Upd [] w wx) => Lst.upd k.shrink h0 (by simp)
  clear k
  obtain ⟨B21, Bc21, b21, k⟩ := GV.lst hu (i := 21) (ls := t.kd) rfl
  have Y21 := fun (wx : World) (h0 : Upd [] w wx) => Lst.upd k.shrink h0 (by simp)
  clear k
  have a22 := GV.val hv (i := 22) (u := .bool t.early) rfl
  have b22 := GV.val hu (i := 22) (u := .bool t.early) rfl
  obtain ⟨A23, Ac23, a23, k⟩ := GV.byt hv (i := 23) (l := t.modes) rfl
  have X23 := fun (wx : World) (h0 : Upd [] w wx) => Row.upd k.shrink h0 (by simp)
  clear k
  obtain ⟨B23, Bc23, b23, k⟩ := GV.byt hu (i := 23) (l := t.modes) rfl
  have Y23 := fun (wx : World) (h0 : Upd [] w wx) => Row.upd k.shrink h0 (by simp)
  clear k
  have a27 := GV.val hv (i := 27) (u := .bool t.quic) rfl
  have b27 := GV.val hu (i := 27) (u := .bool t.quic) rfl
  obtain ⟨A28, Ac28, a28, k⟩ := GV.byt hv (i := 28) (l := t.qtp) rfl
  have X28 := fun (wx : World) (h0 : Upd [] w wx) => Row.upd k.shrink h0 (by simp)
  clear k
  obtain ⟨B28, Bc28, b28, k⟩ := GV.byt hu (i := 28) (l := t.qtp) rfl
  have Y28 := fun (wx : World) (h0 : Upd [] w wx) => Row.upd k.shrink h0 (by simp)
  clear k
  obtain ⟨A29, Ac29, a29, k⟩ := GV.byt hv (i := 29) (l := t.ech) rfl
  have X29 := fun (wx : World) (h0 : Upd [] w wx) => Row.upd k.shrink h0 (by simp)
  clear k
  obtain ⟨B29, Bc29, b29, k⟩ := GV.byt hu (i := 29) (l := t.ech) rfl
  have Y29 := fun (wx : World) (h0 : Upd [] w wx) => Row.upd k.shrink h0 (by simp)
  clear k
  have HW := hid hw1
  have HS0 := hid hs
  have HST := hid (show SmS s cs1 cs2 (World.drew w1) from ⟨hb1.drew, hm1.drew⟩)
  have HU1 := hid (show Upd [] w (World.drew w1) from hu1.drew)
  clear hw1 hs hb1 hm1 hu1 hv hu
  go_enter Tryz.func12, Tryz.ntmps12
  go_upto_region 1 with fail
  rw [HW.out, HS0.out]
  refine wp_region_cast (ops' := sameL.toArray) (by kernel_rfl) ?_
  refine wp_normal2 (R := fun a' w' => a'.tmps.size = 199 ∧ AtS a' 4 (.bool true) ∧ a'.defers = [] ∧ Upd [] w w') (fun K hK => ?_) ?_
  rotate_left
  · rintro a' w' ⟨h1, h2, h3, h4⟩
    rename_i K0 hK0
    refine hK0 _ _ ?_
    go_wp2
    exact bodyPost_ret (v := .bool true) (results_one rfl h2) h3 ⟨rfl, h4⟩
  refine wp_region_HC (S := SmS s cs1 cs2) (Q := PQ K) (by kernel_rfl) ?_
  change SmH sameL s cs1 cs2 K 0 _ (World.drew w1)
  have H := sameL_ok
  refine st_first (b := 5) rfl H (f := 0) (T := 22) (v := wv t.vers) (.mk (by kernel_rfl)) (.mk (by kernel_rfl)) (.mk (by kernel_rfl)) (.mk (by kernel_rfl)) (.mk (by kernel_rfl)) (.mk (by kernel_rfl)) smf0 sml_u16 a0 b0 (fun w p q => sme_u16 w t.vers p q) (by kernel_rfl) (.mk (by kernel_rfl)) (.mk (by kernel_rfl)) rfl HST.out ?_
  intro f5 F5
  have U5 := HU1.out
  have S5 := HST.out
  have hc : Calls Tryz.prog 39 #[.slice A1 t.random.length Ac1, .slice B1 t.random.length Bc1] _ (YesP _) := (same_any (X1 _ U5) (Y1 _ U5)).mono fun e w' he => by obtain ⟨h1, h2⟩ := he; rw [beq_self_eq_true] at h1; first | exact ⟨h1, h2⟩ | (subst h2; exact ⟨h1, Upd.refl _ _⟩)
  refine st_call (j := 5) (f := 1) (ts := #[23, 23]) H (.mk (by kernel_rfl)) (.mk (by kernel_rfl)) (.mk (by kernel_rfl)) (.mk (by kernel_rfl)) (.mk (by kernel_rfl)) (.mk (by kernel_rfl)) (.mk (by kernel_rfl)) (by kernel_rfl) (by kernel_rfl) (by decide) smf1 sml_bytes fn2_same a1 b1 F5 S5 hc ?_
  intro f12 w12 F12 hx S12
  have U12 := U5.trans hx (by simp)
  clear hc hx F5 S5 U5
  have hc : Calls Tryz.prog 39 #[.slice A2 t.sid.length Ac2, .slice B2 t.sid.length Bc2] _ (YesP _) := (same_any (X2 _ U12) (Y2 _ U12)).mono fun e w' he => by obtain ⟨h1, h2⟩ := he; rw [beq_self_eq_true] at h1; first | exact ⟨h1, h2⟩ | (subst h2; exact ⟨h1, Upd.refl _ _⟩)
  refine st_call (j := 12) (f := 2) (ts := #[23, 23]) H (.mk (by kernel_rfl)) (.mk (by kernel_rfl)) (.mk (by kernel_rfl)) (.mk (by kernel_rfl)) (.mk (by kernel_rfl)) (.mk (by kernel_rfl)) (.mk (by kernel_rfl)) (by kernel_rfl) (by kernel_rfl) (by decide) smf2 sml_bytes fn2_same a2 b2 F12 S12 hc ?_
  intro f19 w19 F19 hx S19
  have U19 := U12.trans hx (by simp)
  clear hc hx F12 S12 U12
  have hc : Calls Tryz.prog 40 #[.slice A3 t.suites.length Ac3, .slice B3 t.suites.length Bc3] _ (YesP _) := (sameWords_any (X3 _ U19) (Y3 _ U19) (by have := hZ.suites; omega) (by have := hZ.suites; omega)).mono fun e w' he => by obtain ⟨h1, h2⟩ := he; rw [beq_self_eq_true] at h1; first | exact ⟨h1, h2⟩ | (subst h2; exact ⟨h1, Upd.refl _ _⟩)
  refine st_call (j := 19) (f := 3) (ts := #[24, 24]) H (.mk (by kernel_rfl)) (.mk (by kernel_rfl)) (.mk (by kernel_rfl)) (.mk (by kernel_rfl)) (.mk (by kernel_rfl)) (.mk (by kernel_rfl)) (.mk (by kernel_rfl)) (by kernel_rfl) (by kernel_rfl) (by decide) smf3 sml_words fn2_words a3 b3 F19 S19 hc ?_
  intro f26 w26 F26 hx S26
  have U26 := U19.trans hx (by simp)
  clear hc hx F19 S19 U19
  have hc : Calls Tryz.prog 39 #[.slice A4 t.comps.length Ac4, .slice B4 t.comps.length Bc4] _ (YesP _) := (same_any (X4 _ U26) (Y4 _ U26)).mono fun e w' he => by obtain ⟨h1, h2⟩ := he; rw [beq_self_eq_true] at h1; first | exact ⟨h1, h2⟩ | (subst h2; exact ⟨h1, Upd.refl _ _⟩)
  refine st_call (j := 26) (f := 4) (ts := #[23, 23]) H (.mk (by kernel_rfl)) (.mk (by kernel_rfl)) (.mk (by kernel_rfl)) (.mk (by kernel_rfl)) (.mk (by kernel_rfl)) (.mk (by kernel_rfl)) (.mk (by kernel_rfl)) (by kernel_rfl) (by kernel_rfl) (by decide) smf4 sml_bytes fn2_same a4 b4 F26 S26 hc ?_
  intro f33 w33 F33 hx S33
  have U33 := U26.trans hx (by simp)
  clear hc hx F26 S26 U26
  refine st_eq (j := 33) (f := 5) H (.mk (by kernel_rfl)) (.mk (by kernel_rfl)) (.mk (by kernel_rfl)) (.mk (by kernel_rfl)) (.mk (by kernel_rfl)) (.mk (by kernel_rfl)) (.mk (by kernel_rfl)) (by kernel_rfl) (by decide) smf5 sml_str a5 b5 (fun w p q => sme_str w t.host p q) F33 S33 ?_
  intro f40 F40
  have U40 := U33
  have S40 := S33
  clear F33 S33 U33
  refine st_eq (j := 40) (f := 6) H (.mk (by kernel_rfl)) (.mk (by kernel_rfl)) (.mk (by kernel_rfl)) (.mk (by kernel_rfl)) (.mk (by kernel_rfl)) (.mk (by kernel_rfl)) (.mk (by kernel_rfl)) (by kernel_rfl) (by decide) smf6 sml_bool a6 b6 (fun w p q => sme_bool w t.ocsp p q) F40 S40 ?_
  intro f47 F47
  have U47 := U40
  have S47 := S40
  clear F40 S40 U40
  have hc : Calls Tryz.prog 40 #[.slice A7 t.curves.length Ac7, .slice B7 t.curves.length Bc7] _ (YesP _) := (sameWords_any (X7 _ U47) (Y7 _ U47) (by have := hZ.curves; omega) (by have := hZ.curves; omega)).mono fun e w' he => by obtain ⟨h1, h2⟩ := he; rw [beq_self_eq_true] at h1; first | exact ⟨h1, h2⟩ | (subst h2; exact ⟨h1, Upd.refl _ _⟩)
  refine st_call (j := 47) (f := 7) (ts := #[24, 24]) H (.mk (by kernel_rfl)) (.mk (by kernel_rfl)) (.mk (by kernel_rfl)) (.mk (by kernel_rfl)) (.mk (by kernel_rfl)) (.mk (by kernel_rfl)) (.mk (by kernel_rfl)) (by kernel_rfl) (by kernel_rfl) (by decide) smf7 sml_words fn2_words a7 b7 F47 S47 hc ?_
  intro f54 w54 F54 hx S54
  have U54 := U47.trans hx (by simp)
  clear hc hx F47 S47 U47
  have hc : Calls Tryz.prog 39 #[.slice A8 t.pts.length Ac8, .slice B8 t.pts.length Bc8] _ (YesP _) := (same_any (X8 _ U54) (Y8 _ U54)).mono fun e w' he => by obtain ⟨h1, h2⟩ := he; rw [beq_self_eq_true] at h1; first | exact ⟨h1, h2⟩ | (subst h2; exact ⟨h1, Upd.refl _ _⟩)
  refine st_call (j := 54) (f := 8) (ts := #[23, 23]) H (.mk (by kernel_rfl)) (.mk (by kernel_rfl)) (.mk (by kernel_rfl)) (.mk (by kernel_rfl)) (.mk (by kernel_rfl)) (.mk (by kernel_rfl)) (.mk (by kernel_rfl)) (by kernel_rfl) (by kernel_rfl) (by decide) smf8 sml_bytes fn2_same a8 b8 F54 S54 hc ?_
  intro f61 w61 F61 hx S61
  have U61 := U54.trans hx (by simp)
  clear hc hx F54 S54 U54
  refine st_eq (j := 61) (f := 9) H (.mk (by kernel_rfl)) (.mk (by kernel_rfl)) (.mk (by kernel_rfl)) (.mk (by kernel_rfl)) (.mk (by kernel_rfl)) (.mk (by kernel_rfl)) (.mk (by kernel_rfl)) (by kernel_rfl) (by decide) smf9 sml_bool a9 b9 (fun w p q => sme_bool w t.ticket p q) F61 S61 ?_
  intro f68 F68
  have U68 := U61
  have S68 := S61
  clear F61 S61 U61
  have hc : Calls Tryz.prog 39 #[.slice A10 t.tick.length Ac10, .slice B10 t.tick.length Bc10] _ (YesP _) := (same_any (X10 _ U68) (Y10 _ U68)).mono fun e w' he => by obtain ⟨h1, h2⟩ := he; rw [beq_self_eq_true] at h1; first | exact ⟨h1, h2⟩ | (subst h2; exact ⟨h1, Upd.refl _ _⟩)
  refine st_call (j := 68) (f := 10) (ts := #[23, 23]) H (.mk (by kernel_rfl)) (.mk (by kernel_rfl)) (.mk (by kernel_rfl)) (.mk (by kernel_rfl)) (.mk (by kernel_rfl)) (.mk (by kernel_rfl)) (.mk (by kernel_rfl)) (by kernel_rfl) (by kernel_rfl) (by decide) smf10 sml_bytes fn2_same a10 b10 F68 S68 hc ?_
  intro f75 w75 F75 hx S75
  have U75 := U68.trans hx (by simp)
  clear hc hx F68 S68 U68
  have hc : Calls Tryz.prog 40 #[.slice A11 t.sig.length Ac11, .slice B11 t.sig.length Bc11] _ (YesP _) := (sameWords_any (X11 _ U75) (Y11 _ U75) (by have := hZ.sig; omega) (by have := hZ.sig; omega)).mono fun e w' he => by obtain ⟨h1, h2⟩ := he; rw [beq_self_eq_true] at h1; first | exact ⟨h1, h2⟩ | (subst h2; exact ⟨h1, Upd.refl _ _⟩)
  refine st_call (j := 75) (f := 11) (ts := #[24, 24]) H (.mk (by kernel_rfl)) (.mk (by kernel_rfl)) (.mk (by kernel_rfl)) (.mk (by kernel_rfl)) (.mk (by kernel_rfl)) (.mk (by kernel_rfl)) (.mk (by kernel_rfl)) (by kernel_rfl) (by kernel_rfl) (by decide) smf11 sml_words fn2_words a11 b11 F75 S75 hc ?_
  intro f82 w82 F82 hx S82
  have U82 := U75.trans hx (by simp)
  clear hc hx F75 S75 U75
  have hc : Calls Tryz.prog 40 #[.slice A12 t.sigc.length Ac12, .slice B12 t.sigc.length Bc12] _ (YesP _) := (sameWords_any (X12 _ U82) (Y12 _ U82) (by have := hZ.sigc; omega) (by have := hZ.sigc; omega)).mono fun e w' he => by obtain ⟨h1, h2⟩ := he; rw [beq_self_eq_true] at h1; first | exact ⟨h1, h2⟩ | (subst h2; exact ⟨h1, Upd.refl _ _⟩)
  refine st_call (j := 82) (f := 12) (ts := #[24, 24]) H (.mk (by kernel_rfl)) (.mk (by kernel_rfl)) (.mk (by kernel_rfl)) (.mk (by kernel_rfl)) (.mk (by kernel_rfl)) (.mk (by kernel_rfl)) (.mk (by kernel_rfl)) (by kernel_rfl) (by kernel_rfl) (by decide) smf12 sml_words fn2_words a12 b12 F82 S82 hc ?_
  intro f89 w89 F89 hx S89
  have U89 := U82.trans hx (by simp)
  clear hc hx F82 S82 U82
  refine st_eq (j := 89) (f := 13) H (.mk (by kernel_rfl)) (.mk (by kernel_rfl)) (.mk (by kernel_rfl)) (.mk (by kernel_rfl)) (.mk (by kernel_rfl)) (.mk (by kernel_rfl)) (.mk (by kernel_rfl)) (by kernel_rfl) (by decide) smf13 sml_bool a13 b13 (fun w p q => sme_bool w t.rns p q) F89 S89 ?_
  intro f96 F96
  have U96 := U89
  have S96 := S89
  clear F89 S89 U89
  have hc : Calls Tryz.prog 39 #[.slice A14 t.rn.length Ac14, .slice B14 t.rn.length Bc14] _ (YesP _) := (same_any (X14 _ U96) (Y14 _ U96)).mono fun e w' he => by obtain ⟨h1, h2⟩ := he; rw [beq_self_eq_true] at h1; first | exact ⟨h1, h2⟩ | (subst h2; exact ⟨h1, Upd.refl _ _⟩)
  refine st_call (j := 96) (f := 14) (ts := #[23, 23]) H (.mk (by kernel_rfl)) (.mk (by kernel_rfl)) (.mk (by kernel_rfl)) (.mk (by kernel_rfl)) (.mk (by kernel_rfl)) (.mk (by kernel_rfl)) (.mk (by kernel_rfl)) (by kernel_rfl) (by kernel_rfl) (by decide) smf14 sml_bytes fn2_same a14 b14 F96 S96 hc ?_
  intro f103 w103 F103 hx S103
  have U103 := U96.trans hx (by simp)
  clear hc hx F96 S96 U96
  refine st_eq (j := 103) (f := 15) H (.mk (by kernel_rfl)) (.mk (by kernel_rfl)) (.mk (by kernel_rfl)) (.mk (by kernel_rfl)) (.mk (by kernel_rfl)) (.mk (by kernel_rfl)) (.mk (by kernel_rfl)) (by kernel_rfl) (by decide) smf15 sml_bool a15 b15 (fun w p q => sme_bool w t.ems p q) F103 S103 ?_
  intro f110 F110
  have U110 := U103
  have S110 := S103
  clear F103 S103 U103
  have hax : ∀ x ∈ t.alpn, x.length ≤ 2147483647 := fun x hx => by have := lstSz_mem hx; have := hZ.alpn; omega
  have hal : t.alpn.length ≤ 1099511627776 := by have := lstSz_len t.alpn; have := hZ.alpn; omega
  refine st_octs (j := 110) (f := 16) (tq := #[25]) (ts := #[26, 26]) H (.mk (by kernel_rfl)) (.mk (by kernel_rfl)) (.mk (by kernel_rfl)) (.mk (by kernel_rfl)) (.mk (by kernel_rfl)) (.mk (by kernel_rfl)) (.mk (by kernel_rfl)) (.mk (by kernel_rfl)) (.mk (by kernel_rfl)) (by kernel_rfl) (by kernel_rfl) (by kernel_rfl) (by kernel_rfl) (by decide) smf16 sml_strs fn1_oct fn2_lists a16 b16 F110 S110
    (R := fun v w' => Lst w' w'.heap.size v t.alpn) ((octets_any (X16 _ U110) hal hax).mono fun e w' he => by obtain ⟨v0, e0, h1, h2, -⟩ := he; exact ⟨v0, e0, h1.shrink, h2⟩)
    (R2 := fun u v w' => Lst w' w'.heap.size u t.alpn ∧ Lst w' w'.heap.size v t.alpn) (fun u w1 hr hu => (octets_any (Y16 _ (U110.trans hu (by simp))) hal hax).mono fun e w' he => by obtain ⟨v0, e0, h1, h2, -⟩ := he; exact ⟨v0, e0, ⟨(hr.upd h2 (by simp)).shrink, h1.shrink⟩, h2⟩)
    (fun u v w2 hr => (SameLists_any hr.1 hr.2).mono fun e w' he => by obtain ⟨h1, h2⟩ := he; rw [beq_self_eq_true] at h1; first | exact ⟨h1, h2⟩ | (subst h2; exact ⟨h1, Upd.refl _ _⟩)) ?_
  intro f119 w119 F119 hx S119
  have U119 := U110.trans hx (by simp)
  clear hx F110 S110 U110
  refine st_eq (j := 119) (f := 17) H (.mk (by kernel_rfl)) (.mk (by kernel_rfl)) (.mk (by kernel_rfl)) (.mk (by kernel_rfl)) (.mk (by kernel_rfl)) (.mk (by kernel_rfl)) (.mk (by kernel_rfl)) (by kernel_rfl) (by decide) smf17 sml_bool a17 b17 (fun w p q => sme_bool w t.scts p q) F119 S119 ?_
  intro f126 F126
  have U126 := U119
  have S126 := S119
  clear F119 S119 U119
  have hc : Calls Tryz.prog 40 #[.slice A18 t.sv.length Ac18, .slice B18 t.sv.length Bc18] _ (YesP _) := (sameWords_any (X18 _ U126) (Y18 _ U126) (by have := hZ.sv; omega) (by have := hZ.sv; omega)).mono fun e w' he => by obtain ⟨h1, h2⟩ := he; rw [beq_self_eq_true] at h1; first | exact ⟨h1, h2⟩ | (subst h2; exact ⟨h1, Upd.refl _ _⟩)
  refine st_call (j := 126) (f := 18) (ts := #[24, 24]) H (.mk (by kernel_rfl)) (.mk (by kernel_rfl)) (.mk (by kernel_rfl)) (.mk (by kernel_rfl)) (.mk (by kernel_rfl)) (.mk (by kernel_rfl)) (.mk (by kernel_rfl)) (by kernel_rfl) (by kernel_rfl) (by decide) smf18 sml_words fn2_words a18 b18 F126 S126 hc ?_
  intro f133 w133 F133 hx S133
  have U133 := U126.trans hx (by simp)
  clear hc hx F126 S126 U126
  have hc : Calls Tryz.prog 39 #[.slice A19 t.cookie.length Ac19, .slice B19 t.cookie.length Bc19] _ (YesP _) := (same_any (X19 _ U133) (Y19 _ U133)).mono fun e w' he => by obtain ⟨h1, h2⟩ := he; rw [beq_self_eq_true] at h1; first | exact ⟨h1, h2⟩ | (subst h2; exact ⟨h1, Upd.refl _ _⟩)
  refine st_call (j := 133) (f := 19) (ts := #[23, 23]) H (.mk (by kernel_rfl)) (.mk (by kernel_rfl)) (.mk (by kernel_rfl)) (.mk (by kernel_rfl)) (.mk (by kernel_rfl)) (.mk (by kernel_rfl)) (.mk (by kernel_rfl)) (by kernel_rfl) (by kernel_rfl) (by decide) smf19 sml_bytes fn2_same a19 b19 F133 S133 hc ?_
  intro f140 w140 F140 hx S140
  have U140 := U133.trans hx (by simp)
  clear hc hx F133 S133 U133
  have hc : Calls Tryz.prog 40 #[.slice A20 t.kg.length Ac20, .slice B20 t.kg.length Bc20] _ (YesP _) := (sameWords_any (X20 _ U140) (Y20 _ U140) (by have := hZ.kg; omega) (by have := hZ.kg; omega)).mono fun e w' he => by obtain ⟨h1, h2⟩ := he; rw [beq_self_eq_true] at h1; first | exact ⟨h1, h2⟩ | (subst h2; exact ⟨h1, Upd.refl _ _⟩)
  refine st_call (j := 140) (f := 20) (ts := #[24, 24]) H (.mk (by kernel_rfl)) (.mk (by kernel_rfl)) (.mk (by kernel_rfl)) (.mk (by kernel_rfl)) (.mk (by kernel_rfl)) (.mk (by kernel_rfl)) (.mk (by kernel_rfl)) (by kernel_rfl) (by kernel_rfl) (by decide) smf20 sml_words fn2_words a20 b20 F140 S140 hc ?_
  intro f147 w147 F147 hx S147
  have U147 := U140.trans hx (by simp)
  clear hc hx F140 S140 U140
  have hc : Calls Tryz.prog 41 #[.slice A21 t.kd.length Ac21, .slice B21 t.kd.length Bc21] _ (YesP _) := (SameLists_any (X21 _ U147) (Y21 _ U147)).mono fun e w' he => by obtain ⟨h1, h2⟩ := he; rw [beq_self_eq_true] at h1; first | exact ⟨h1, h2⟩ | (subst h2; exact ⟨h1, Upd.refl _ _⟩)
  refine st_call (j := 147) (f := 21) (ts := #[26, 26]) H (.mk (by kernel_rfl)) (.mk (by kernel_rfl)) (.mk (by kernel_rfl)) (.mk (by kernel_rfl)) (.mk (by kernel_rfl)) (.mk (by kernel_rfl)) (.mk (by kernel_rfl)) (by kernel_rfl) (by kernel_rfl) (by decide) smf21 sml_lists fn2_lists a21 b21 F147 S147 hc ?_
  intro f154 w154 F154 hx S154
  have U154 := U147.trans hx (by simp)
  clear hc hx F147 S147 U147
  refine st_eq (j := 154) (f := 22) H (.mk (by kernel_rfl)) (.mk (by kernel_rfl)) (.mk (by kernel_rfl)) (.mk (by kernel_rfl)) (.mk (by kernel_rfl)) (.mk (by kernel_rfl)) (.mk (by kernel_rfl)) (by kernel_rfl) (by decide) smf22 sml_bool a22 b22 (fun w p q => sme_bool w t.early p q) F154 S154 ?_
  intro f161 F161
  have U161 := U154
  have S161 := S154
  clear F154 S154 U154
  have hc : Calls Tryz.prog 39 #[.slice A23 t.modes.length Ac23, .slice B23 t.modes.length Bc23] _ (YesP _) := (same_any (X23 _ U161) (Y23 _ U161)).mono fun e w' he => by obtain ⟨h1, h2⟩ := he; rw [beq_self_eq_true] at h1; first | exact ⟨h1, h2⟩ | (subst h2; exact ⟨h1, Upd.refl _ _⟩)
  refine st_call (j := 161) (f := 23) (ts := #[23, 23]) H (.mk (by kernel_rfl)) (.mk (by kernel_rfl)) (.mk (by kernel_rfl)) (.mk (by kernel_rfl)) (.mk (by kernel_rfl)) (.mk (by kernel_rfl)) (.mk (by kernel_rfl)) (by kernel_rfl) (by kernel_rfl) (by decide) smf23 sml_bytes fn2_same a23 b23 F161 S161 hc ?_
  intro f168 w168 F168 hx S168
  have U168 := U161.trans hx (by simp)
  clear hc hx F161 S161 U161
  have hc : Calls Tryz.prog 42 #[.agg cs1, .agg cs2] _ (YesP _) := (HK _ U168).mono fun e w' he => ⟨he.1, he.2⟩
  refine st_keys (j := 168) (ts := #[29, 29]) H (.mk (by kernel_rfl)) (.mk (by kernel_rfl)) (.mk (by kernel_rfl)) (.mk (by kernel_rfl)) (.mk (by kernel_rfl)) (by kernel_rfl) (by kernel_rfl) (by decide) sml_all fn2_keys n1 n2 F168 S168 hc ?_
  intro f173 w173 F173 hx S173
  have U173 := U168.trans hx (by simp)
  clear hc hx F168 S168 U168
  refine st_eq (j := 173) (f := 27) H (.mk (by kernel_rfl)) (.mk (by kernel_rfl)) (.mk (by kernel_rfl)) (.mk (by kernel_rfl)) (.mk (by kernel_rfl)) (.mk (by kernel_rfl)) (.mk (by kernel_rfl)) (by kernel_rfl) (by decide) smf27 sml_bool a27 b27 (fun w p q => sme_bool w t.quic p q) F173 S173 ?_
  intro f180 F180
  have U180 := U173
  have S180 := S173
  clear F173 S173 U173
  have hc : Calls Tryz.prog 39 #[.slice A28 t.qtp.length Ac28, .slice B28 t.qtp.length Bc28] _ (YesP _) := (same_any (X28 _ U180) (Y28 _ U180)).mono fun e w' he => by obtain ⟨h1, h2⟩ := he; rw [beq_self_eq_true] at h1; first | exact ⟨h1, h2⟩ | (subst h2; exact ⟨h1, Upd.refl _ _⟩)
  refine st_call (j := 180) (f := 28) (ts := #[23, 23]) H (.mk (by kernel_rfl)) (.mk (by kernel_rfl)) (.mk (by kernel_rfl)) (.mk (by kernel_rfl)) (.mk (by kernel_rfl)) (.mk (by kernel_rfl)) (.mk (by kernel_rfl)) (by kernel_rfl) (by kernel_rfl) (by decide) smf28 sml_bytes fn2_same a28 b28 F180 S180 hc ?_
  intro f187 w187 F187 hx S187
  have U187 := U180.trans hx (by simp)
  clear hc hx F180 S180 U180
  have hc : Calls Tryz.prog 39 #[.slice A29 t.ech.length Ac29, .slice B29 t.ech.length Bc29] _ (YesP _) := (same_any (X29 _ U187) (Y29 _ U187)).mono fun e w' he => by obtain ⟨h1, h2⟩ := he; rw [beq_self_eq_true] at h1; first | exact ⟨h1, h2⟩ | (subst h2; exact ⟨h1, Upd.refl _ _⟩)
  refine st_last (j := 187) (f := 29) (ts := #[23, 23]) H (.mk (by kernel_rfl)) (.mk (by kernel_rfl)) (.mk (by kernel_rfl)) (.mk (by kernel_rfl)) (.mk (by kernel_rfl)) (.mk (by kernel_rfl)) (.mk (by kernel_rfl)) (by kernel_rfl) (by kernel_rfl) (by decide) smf29 sml_bytes fn2_same a29 b29 F187 S187 hc ?_

  intro a' w' h1 h2 h3 h4
  refine HC.done (by kernel_rfl) ?_
  exact hK _ _ ⟨h1, h2, h3, U187.trans h4 (by simp)⟩
end
end Go.Proofs.YtaajmfgplhfncaaGreat

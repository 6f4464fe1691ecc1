/- ServerHello: sizes; the argument opened (printed by gen_shl3.py). -/
import Derived.Test.YtcikeghdlolkaaaShL
import Derived.Test.YtcikeghdlolkaaaShL2
import Derived.Test.YtcikeghdlolkaaaLift
import Derived.Test.YtcikeghdlolkaaaBulk
namespace Go.Proofs.Ytcikeghdlolkaaa
open Go.Joins Go.ChangeShapes Go.WideShapes Go.RowKit Go.Deep
set_option maxRecDepth 100000
theorem bz_sum (l : List Item) : (l.map fun i => bz i.1 (4 + i.2.2.b.length)).sum ≤ (l.map fun i => 4 + i.2.2.b.length).sum := by
  induction l with
  | nil => exact Nat.le_refl _
  | cons i l ih =>
    simp only [List.map_cons, List.sum_cons]
    have := bz_le i.1 (4 + i.2.2.b.length)
    omega
theorem shExts_size (t : Sh) (hz : ShSz t) : (exsB (shExtL t).l).length ≤ 900000000000 := by
  have e : (shExtL t).l = itemsE (shItems t) := shE_eq t
  rw [e, itemsE_size]
  refine Nat.le_trans (bz_sum _) ?_
  have h1 := hz.rn
  have h2 := hz.alpn
  have h3 := hz.sd
  have h4 := hz.pts
  have h5 := hz.ech
  have h6 := hz.cookie
  have h7 := hz.scts
  have e1 : (Wr.vector 1 (Wr.plain t.rn)).b.length = 1 + t.rn.length := by simp [Wr.vector, Wr.inner, Wr.vec, Wr.nil, Wr.plain, be_len]
  have e2 : (Wr.vector 2 (vecsW 1 [t.alpn])).b.length = 3 + t.alpn.length := by simp [Wr.vector, Wr.inner, Wr.vec, Wr.nil, vecsW, vecsB, be_len]; omega
  have e3 : (Wr.vector 2 (vecsW 2 t.scts)).b.length = 2 + (vecsB 2 t.scts).length := by simp [Wr.vector, Wr.inner, Wr.vec, Wr.nil, vecsW, be_len]
  have e4 : ∀ n, (numberW 2 n).b.length = 2 := fun n => by simp [numberW, Wr.num, Wr.nil, be_len]
  have e5 : (shareW t.sg t.sd).b.length = 4 + t.sd.length := by rw [shareW_b]; simp [be_len]; omega
  have e6 : (Wr.vector 2 (Wr.plain t.cookie)).b.length = 2 + t.cookie.length := by simp [Wr.vector, Wr.inner, Wr.vec, Wr.nil, Wr.plain, be_len]
  have e7 : (Wr.vector 1 (Wr.plain t.pts)).b.length = 1 + t.pts.length := by simp [Wr.vector, Wr.inner, Wr.vec, Wr.nil, Wr.plain, be_len]
  have e8 : (Wr.plain t.ech).b.length = t.ech.length := rfl
  have e9 : Wr.nil.b.length = 0 := rfl
  simp only [shItems, shI1, shI2, shI3, shSel, List.cons_append, List.nil_append, List.map_cons, List.map_nil, List.sum_cons, List.sum_nil, e1, e2, e3, e4, e5, e6, e7, e8, e9]
  omega
theorem shW_b {t : Sh} (L : List Ex) : (messageW 2 (shW t L)).b = shMsg t L := by
  rw [messageW_msgB, shW_eq]; rfl
theorem shL_made (t : Sh) (h : ShOk t) (hf : shFits t = true) : shSpec (shMsg t (shPE t)) = (t, ⟨[], 0⟩) := sh_made h hf
theorem shL_back (t : Sh) (h : ShOk t) (hf : shFits t = true) : shRead (shMsg t (shPE t)) = some t := sh_back h hf
theorem shL_read (t : Sh) (h : ShOk t) (hb : (shExtL t).bad = false) {L : List Ex} (hW : (messageW 2 (shW t L)).bad = false) (hL : ListsE (shE t) L) : shRead (shMsg t L) = some t := sh_read h hb hW hL
section
variable {H : Type} {enc : TypeId × Value → H} {W : World} {sp : Nat → Bool} {hd : Bool}
theorem u16_trod {n base : Nat} {v : Value} {x : DataW H × List MemPlace} (hf : DataW.trod enc Try.prog W base sp hd n 22 [v] = some x) : ∃ m : UInt16, v = wv m := by
  obtain ⟨n', h, hx, hw⟩ := DataW.trod_int Try.underlying22 hf
  injection h with h _
  have hb := bounds_u16 hw
  refine ⟨UInt16.ofNat n'.toNat, ?_⟩
  rw [h]
  show _ = Value.int .u16 ((UInt16.ofNat n'.toNat).toNat : Int)
  rw [UInt16.toNat_ofNat']
  have : n'.toNat % 2 ^ 16 = n'.toNat := Nat.mod_eq_of_lt (by omega)
  rw [this]
  congr 1
  omega
theorem u8_trod {n base : Nat} {v : Value} {x : DataW H × List MemPlace} (hf : DataW.trod enc Try.prog W base sp hd n 5 [v] = some x) : ∃ m : UInt8, v = bv m := by
  obtain ⟨n', h, hx, hw⟩ := DataW.trod_int Try.underlying5 hf
  injection h with h _
  have hb := bounds_u8 hw
  refine ⟨UInt8.ofNat n'.toNat, ?_⟩
  rw [h]
  show _ = Value.int .u8 ((UInt8.ofNat n'.toNat).toNat : Int)
  rw [UInt8.toNat_ofNat']
  have : n'.toNat % 2 ^ 8 = n'.toNat := Nat.mod_eq_of_lt (by omega)
  rw [this]
  congr 1
  omega
end
theorem open_sh {H : Type} {enc : TypeId × Value → H} {W : World} {v : Value} {d : DataW H} {p : List MemPlace} {base : Nat}
    (hv : Value.okWide Try.prog W .any base 26 v) (h : DataW.Trod enc Try.prog W 0 (fun _ => true) true 26 v d p) (hb : Rows.uptoBulk d ≤ 1048576) : ∃ t, ShV W W.heap.size v t ∧ ShBulk t := by
  obtain ⟨l, n, rfl, hl, hg⟩ := open_aggB Try.underlying26 (by kernel_rfl) (by kernel_rfl) hv h
  match l, hl with
  | [v0, v1, v2, v3, v4, v5, v6, v7, v8, v9, v10, v11, v12, v13, v14, v15, v16, v17, v18, v19, v20, v21], _ =>
    obtain ⟨_, y0, e0, h0, k0⟩ := hg 0 _ rfl
    injection e0 with e0
    subst e0
    obtain ⟨a0, rfl⟩ := u16_trod h0
    obtain ⟨_, y1, e1, h1, k1⟩ := hg 1 _ rfl
    injection e1 with e1
    subst e1
    obtain ⟨a1, x1⟩ := bytes_trod h1
    obtain ⟨A1, c1, rfl, x1, -, -⟩ := Byt.form x1 rfl
    obtain ⟨_, y2, e2, h2, k2⟩ := hg 2 _ rfl
    injection e2 with e2
    subst e2
    obtain ⟨a2, x2⟩ := bytes_trod h2
    obtain ⟨A2, c2, rfl, x2, -, -⟩ := Byt.form x2 rfl
    obtain ⟨_, y3, e3, h3, k3⟩ := hg 3 _ rfl
    injection e3 with e3
    subst e3
    obtain ⟨a3, rfl⟩ := u16_trod h3
    obtain ⟨_, y4, e4, h4, k4⟩ := hg 4 _ rfl
    injection e4 with e4
    subst e4
    obtain ⟨a4, rfl⟩ := u8_trod h4
    obtain ⟨_, y5, e5, h5, k5⟩ := hg 5 _ rfl
    injection e5 with e5
    subst e5
    obtain ⟨a5, rfl⟩ := bool_trod h5
    obtain ⟨_, y6, e6, h6, k6⟩ := hg 6 _ rfl
    injection e6 with e6
    subst e6
    obtain ⟨a6, rfl⟩ := bool_trod h6
    obtain ⟨_, y7, e7, h7, k7⟩ := hg 7 _ rfl
    injection e7 with e7
    subst e7
    obtain ⟨a7, rfl⟩ := bool_trod h7
    obtain ⟨_, y8, e8, h8, k8⟩ := hg 8 _ rfl
    injection e8 with e8
    subst e8
    obtain ⟨a8, x8⟩ := bytes_trod h8
    obtain ⟨A8, c8, rfl, x8, -, -⟩ := Byt.form x8 rfl
    obtain ⟨_, y9, e9, h9, k9⟩ := hg 9 _ rfl
    injection e9 with e9
    subst e9
    obtain ⟨a9, rfl⟩ := bool_trod h9
    obtain ⟨_, y10, e10, h10, k10⟩ := hg 10 _ rfl
    injection e10 with e10
    subst e10
    obtain ⟨a10, rfl⟩ := string_trod h10
    obtain ⟨_, y11, e11, h11, k11⟩ := hg 11 _ rfl
    injection e11 with e11
    subst e11
    obtain ⟨a11, x11, z11⟩ := lists_bulk h11
    obtain ⟨A11, c11, rfl, x11, -, -⟩ := x11.form
    obtain ⟨_, y12, e12, h12, k12⟩ := hg 12 _ rfl
    injection e12 with e12
    subst e12
    obtain ⟨a12, rfl⟩ := u16_trod h12
    obtain ⟨_, y13, e13, h13, k13⟩ := hg 13 _ rfl
    injection e13 with e13
    subst e13
    obtain ⟨a13, rfl⟩ := u16_trod h13
    obtain ⟨_, y14, e14, h14, k14⟩ := hg 14 _ rfl
    injection e14 with e14
    subst e14
    obtain ⟨a14, x14⟩ := bytes_trod h14
    obtain ⟨A14, c14, rfl, x14, -, -⟩ := Byt.form x14 rfl
    obtain ⟨_, y15, e15, h15, k15⟩ := hg 15 _ rfl
    injection e15 with e15
    subst e15
    obtain ⟨a15, rfl⟩ := bool_trod h15
    obtain ⟨_, y16, e16, h16, k16⟩ := hg 16 _ rfl
    injection e16 with e16
    subst e16
    obtain ⟨a16, rfl⟩ := u16_trod h16
    obtain ⟨_, y17, e17, h17, k17⟩ := hg 17 _ rfl
    injection e17 with e17
    subst e17
    obtain ⟨a17, x17⟩ := bytes_trod h17
    obtain ⟨A17, c17, rfl, x17, -, -⟩ := Byt.form x17 rfl
    obtain ⟨_, y18, e18, h18, k18⟩ := hg 18 _ rfl
    injection e18 with e18
    subst e18
    obtain ⟨a18, x18⟩ := bytes_trod h18
    obtain ⟨A18, c18, rfl, x18, -, -⟩ := Byt.form x18 rfl
    obtain ⟨_, y19, e19, h19, k19⟩ := hg 19 _ rfl
    injection e19 with e19
    subst e19
    obtain ⟨a19, rfl⟩ := bool_trod h19
    obtain ⟨_, y20, e20, h20, k20⟩ := hg 20 _ rfl
    injection e20 with e20
    subst e20
    obtain ⟨a20, x20⟩ := bytes_trod h20
    obtain ⟨A20, c20, rfl, x20, -, -⟩ := Byt.form x20 rfl
    obtain ⟨_, y21, e21, h21, k21⟩ := hg 21 _ rfl
    injection e21 with e21
    subst e21
    obtain ⟨a21, rfl⟩ := u16_trod h21
    refine ⟨⟨a0, a1, a2, a3, a4, a5, a6, a7, a8, a9, a10, a11, a12, a13, a14, a15, a16, a17, a18, a19, a20, a21⟩, ⟨A1, c1, A2, c2, A8, c8, A11, c11, A14, c14, A17, c17, A18, c18, A20, c20, rfl, x1, x2, x8, x11, x14, x17, x18, x20⟩, ?_⟩
    have := vecsB_lst 2 a11
    show (vecsB 2 a11).length ≤ _
    omega
end Go.Proofs.Ytcikeghdlolkaaa

/- Texts joined: ChO, ChX. -/
import Derived.Test.YtaajmfgplhfncaaGreatB13
import Derived.Test.YtaajmfgplhfncaaGreatB07
namespace Go.Proofs.YtaajmfgplhfncaaGreat
open Go.Joins Go.ChangeShapes Go.WideShapes Go.RowKit Go.Deep
set_option maxRecDepth 100000
section
variable {H : Type} {enc : TypeId × Value → H} {W : World} {sp : Nat → Bool} {hd : Bool}
theorem string_bulk {n base : Nat} {v : Value} {x : DataW H × List MemPlace} (hf : DataW.trod enc Tryz.prog W base sp hd n 9 [v] = some x) : ∃ xs : List UInt8, v = strv xs ∧ xs.length + 1 ≤ Rows.uptoBulk x.1 := by
  obtain ⟨s, h, hx, -⟩ := DataW.trod_string Tryz.underlying9 hf
  injection h with h _
  refine ⟨s.data.toList, by rw [h], ?_⟩
  rw [hx]
  simp [Rows.uptoBulk]
theorem uint16_trod {n base : Nat} {v : Value} {x : DataW H × List MemPlace} (hf : DataW.trod enc Tryz.prog W base sp hd n 22 [v] = some x) : ∃ m : UInt16, v = wv m := by
  obtain ⟨n', h, hx, hw⟩ := DataW.trod_int Tryz.underlying22 hf
  injection h with h _
  have hb := bounds_u16 hw
  refine ⟨UInt16.ofNat n'.toNat, ?_⟩
  rw [h]
  show _ = Value.int .u16 ((UInt16.ofNat n'.toNat).toNat : Int)
  rw [UInt16.toNat_ofNat']
  have : n'.toNat % 2 ^ 16 = n'.toNat := Nat.mod_eq_of_lt (by omega)
  rw [this]
  congr 1
  omega
theorem strs_bulk {n base : Nat} {v : Value} {x : DataW H × List MemPlace} (hf : DataW.trod enc Tryz.prog W base (fun _ => true) hd n 25 [v] = some x) : ∃ ls : List (List UInt8), Row W W.heap.size v (ls.map strv) ∧ lstSz ls + 1 ≤ Rows.uptoBulk x.1 := by
  rcases DataW.trod_slice Tryz.underlying25 hf with ⟨hcs, hx⟩ | ⟨a, len, cap, elems, rest, m, -, hcs, hx, -, hle, hmax, hlen, hel, -, -⟩
  · injection hcs with hcs _
    subst hcs
    exact ⟨[], Row.nil_ _ _, by rw [hx]; simp [Rows.uptoBulk, lstSz]⟩
  · injection hcs with hcs _
    subst hcs
    have each : ∀ (i : Nat) (hi : i < len), ∃ bs : List UInt8, W.cell? (a.add i) = some (strv bs) ∧ bs.length + 1 ≤ Rows.uptoBulk (elems[i]'(by omega)).1 := by
      intro i hi
      have h := hel i hi
      have hc : Tryz.prog.cellsOf 9 = 1 := by kernel_rfl
      rw [hc, Nat.mul_one] at h
      have hy : elems[i]? = some (elems[i]'(by omega)) := List.getElem?_eq_getElem (by omega)
      rw [hy, Option.bind_eq_some_iff] at h
      obtain ⟨cs, h1, h2⟩ := h
      have hl1 := (World.cells?_some h1).2.1
      match cs, hl1 with
      | [u], _ =>
        obtain ⟨bs, rfl, hb⟩ := string_bulk h2
        exact ⟨bs, cell_of_cells?_one h1, hb⟩
    have each' : ∀ i : Nat, ∃ bs : List UInt8, ∀ hi : i < len, W.cell? (a.add i) = some (strv bs) ∧ bs.length + 1 ≤ Rows.uptoBulk (elems[i]'(by omega)).1 := by
      intro i
      by_cases hi : i < len
      · obtain ⟨bs, hb⟩ := each i hi
        exact ⟨bs, fun _ => hb⟩
      · exact ⟨[], fun h => absurd h hi⟩
    let f : Nat → List UInt8 := fun i => Classical.choose (each' i)
    have hf' : ∀ (i : Nat) (hi : i < len), W.cell? (a.add i) = some (strv (f i)) ∧ (f i).length + 1 ≤ Rows.uptoBulk (elems[i]'(by omega)).1 := fun i hi => Classical.choose_spec (each' i) hi
    let ls : List (List UInt8) := (List.range len).map f
    have hls : ls.length = len := by simp [ls]
    have hget : ∀ (i : Nat), i < len → ls[i]? = some (f i) := fun i hi => by simp [ls, hi]
    refine ⟨ls, ⟨some a, cap, by simp [hls], by simpa [hls] using hle, hmax, (by intro e; cases e), ?_⟩, ?_⟩
    · intro hne
      have hp : 0 < len := by
        have : (ls.map strv).length ≠ 0 := fun e => hne (List.length_eq_zero_iff.1 e)
        simp [hls] at this
        omega
      obtain ⟨b, off, spot⟩ := a
      have h0 := (hf' 0 hp).1
      have hspot : spot = none := by simpa [Addr.add] using World.cell?_spot h0
      subst hspot
      refine ⟨b, off, rfl, World.block_lt_of_cell? W ⟨b, off + 0, none⟩ (by rw [← Go.WideShapes.add_plain]; exact h0), ?_⟩
      intro j u hj
      rw [List.getElem?_map] at hj
      obtain ⟨y, hy, rfl⟩ := Option.map_eq_some_iff.1 hj
      have hjl : j < len := by have := (List.getElem?_eq_some_iff.1 hy).1; rwa [hls] at this
      rw [hget j hjl] at hy
      injection hy with hy
      rw [← Go.WideShapes.add_plain, ← hy]
      exact (hf' j hjl).1
    · rw [hx]
      simp only [Rows.uptoBulk]
      have key : lstSz ls ≤ Rows.uptoBulkAll (elems.map (·.1)) := by
        refine lstSz_le ls _ (by rw [hls, List.length_map]; omega) ?_
        intro i y d hy hd'
        have hil : i < len := by have := (List.getElem?_eq_some_iff.1 hy).1; rwa [hls] at this
        rw [hget i hil] at hy
        injection hy with hy
        have hdd : d = (elems[i]'(by omega)).1 := by
          rw [List.getElem?_map, List.getElem?_eq_getElem (by omega)] at hd'
          exact (Option.some.inj hd').symm
        rw [hdd, ← hy]
        exact (hf' i hil).2
      omega
theorem u32s_trod {n base : Nat} {v : Value} {x : DataW H × List MemPlace} (hf : DataW.trod enc Tryz.prog W base (fun _ => true) hd n 27 [v] = some x) : ∃ l : List UInt32, Row W W.heap.size v (l.map uv) ∧ l.length + 1 ≤ Rows.uptoBulk x.1 := by
  suffices h : ∃ l : List UInt32, Row W W.heap.size v (l.map uv) by
    obtain ⟨l, hl⟩ := h
    have := row_bulk Tryz.underlying27 hf hl
    rw [List.length_map] at this
    exact ⟨l, hl, this⟩
  rcases open_ints Tryz.underlying27 Tryz.underlying97 (by kernel_rfl) hf with ⟨hcs, -⟩ | ⟨a, len, cap, zs, hcs, -, hle, hmax, hall, -, hcell, hwf⟩
  · injection hcs with hcs _
    subst hcs
    exact ⟨[], Row.nil_ _ _⟩
  · injection hcs with hcs _
    subst hcs
    simp only [if_true] at hall
    have hlen : (((zs.take len).map fun n => UInt32.ofNat n.toNat).map uv).length = len := by simp; omega
    refine ⟨(zs.take len).map fun n => UInt32.ofNat n.toNat, ⟨some a, cap, by rw [hlen], by rw [hlen]; exact hle, hmax, (by intro e; cases e), ?_⟩⟩
    · intro hne
      have hp : 0 < zs.length := by
        rw [hall]
        have : len ≠ 0 := by
          intro e0
          apply hne
          exact List.length_eq_zero_iff.1 (hlen.trans e0)
        omega
      obtain ⟨b, off, rfl, hc⟩ := ints_at hcell hp
      refine ⟨b, off, rfl, World.block_lt_of_cell? W ⟨b, off + 0, none⟩ (hc 0 hp), ?_⟩
      intro j u hj
      have hjl : j < len := by
        have := (List.getElem?_eq_some_iff.1 hj).1
        rwa [hlen] at this
      rw [hc j (by omega), ← hj]
      have hz : zs[j]? = some (zs.getD j 0) := by simp [List.getD, List.getElem?_eq_getElem (show j < zs.length by omega)]
      have hb := bounds_u32 (hwf (zs.getD j 0) (List.mem_of_getElem? hz))
      rw [List.getElem?_map, List.getElem?_map, List.getElem?_take, if_pos hjl, hz]
      simp only [Option.map_some]
      congr 2
      show zs.getD j 0 = _
      rw [UInt32.toNat_ofNat']
      have : (zs.getD j 0).toNat % 2 ^ 32 = (zs.getD j 0).toNat := Nat.mod_eq_of_lt (by omega)
      rw [this]
      omega
end
set_option maxHeartbeats 4000000 in
theorem open_ch {H : Type} {enc : TypeId × Value → H} {W : World} {v : Value} {d : DataW H} {p : List MemPlace} {base : Nat}
    (hv : Value.okWide Tryz.prog W .any base 29 v) (h : DataW.Trod enc Tryz.prog W 0 (fun _ => true) true 29 v d p) (hb : Rows.uptoBulk d ≤ 1048576) : ∃ t, ChV W W.heap.size v t ∧ ChSz t := by
  obtain ⟨l, n, rfl, hl, hg⟩ := open_aggB Tryz.underlying29 (by kernel_rfl) (by kernel_rfl) hv h
  match l, hl with
  | [v0, v1, v2, v3, v4, v5, v6, v7, v8, v9, v10, v11, v12, v13, v14, v15, v16, v17, v18, v19, v20, v21, v22, v23, v24, v25, v26, v27, v28, v29, v30], _ =>
    obtain ⟨_, y0, e0, h0, k0⟩ := hg 0 _ rfl
    injection e0 with e0
    subst e0
    obtain ⟨a0, rfl⟩ := uint16_trod h0
    obtain ⟨_, y1, e1, h1, k1⟩ := hg 1 _ rfl
    injection e1 with e1
    subst e1
    obtain ⟨a1, x1, z1⟩ := bytes_bulk h1
    obtain ⟨_, y2, e2, h2, k2⟩ := hg 2 _ rfl
    injection e2 with e2
    subst e2
    obtain ⟨a2, x2, z2⟩ := bytes_bulk h2
    obtain ⟨_, y3, e3, h3, k3⟩ := hg 3 _ rfl
    injection e3 with e3
    subst e3
    obtain ⟨a3, x3, z3⟩ := words_trod h3
    obtain ⟨_, y4, e4, h4, k4⟩ := hg 4 _ rfl
    injection e4 with e4
    subst e4
    obtain ⟨a4, x4, z4⟩ := bytes_bulk h4
    obtain ⟨_, y5, e5, h5, k5⟩ := hg 5 _ rfl
    injection e5 with e5
    subst e5
    obtain ⟨a5, rfl, z5⟩ := string_bulk h5
    obtain ⟨_, y6, e6, h6, k6⟩ := hg 6 _ rfl
    injection e6 with e6
    subst e6
    obtain ⟨a6, rfl⟩ := bool_trod h6
    obtain ⟨_, y7, e7, h7, k7⟩ := hg 7 _ rfl
    injection e7 with e7
    subst e7
    obtain ⟨a7, x7, z7⟩ := words_trod h7
    obtain ⟨_, y8, e8, h8, k8⟩ := hg 8 _ rfl
    injection e8 with e8
    subst e8
    obtain ⟨a8, x8, z8⟩ := bytes_bulk h8
    obtain ⟨_, y9, e9, h9, k9⟩ := hg 9 _ rfl
    injection e9 with e9
    subst e9
    obtain ⟨a9, rfl⟩ := bool_trod h9
    obtain ⟨_, y10, e10, h10, k10⟩ := hg 10 _ rfl
    injection e10 with e10
    subst e10
    obtain ⟨a10, x10, z10⟩ := bytes_bulk h10
    obtain ⟨_, y11, e11, h11, k11⟩ := hg 11 _ rfl
    injection e11 with e11
    subst e11
    obtain ⟨a11, x11, z11⟩ := words_trod h11
    obtain ⟨_, y12, e12, h12, k12⟩ := hg 12 _ rfl
    injection e12 with e12
    subst e12
    obtain ⟨a12, x12, z12⟩ := words_trod h12
    obtain ⟨_, y13, e13, h13, k13⟩ := hg 13 _ rfl
    injection e13 with e13
    subst e13
    obtain ⟨a13, rfl⟩ := bool_trod h13
    obtain ⟨_, y14, e14, h14, k14⟩ := hg 14 _ rfl
    injection e14 with e14
    subst e14
    obtain ⟨a14, x14, z14⟩ := bytes_bulk h14
    obtain ⟨_, y15, e15, h15, k15⟩ := hg 15 _ rfl
    injection e15 with e15
    subst e15
    obtain ⟨a15, rfl⟩ := bool_trod h15
    obtain ⟨_, y16, e16, h16, k16⟩ := hg 16 _ rfl
    injection e16 with e16
    subst e16
    obtain ⟨a16, x16, z16⟩ := strs_bulk h16
    obtain ⟨_, y17, e17, h17, k17⟩ := hg 17 _ rfl
    injection e17 with e17
    subst e17
    obtain ⟨a17, rfl⟩ := bool_trod h17
    obtain ⟨_, y18, e18, h18, k18⟩ := hg 18 _ rfl
    injection e18 with e18
    subst e18
    obtain ⟨a18, x18, z18⟩ := words_trod h18
    obtain ⟨_, y19, e19, h19, k19⟩ := hg 19 _ rfl
    injection e19 with e19
    subst e19
    obtain ⟨a19, x19, z19⟩ := bytes_bulk h19
    obtain ⟨_, y20, e20, h20, k20⟩ := hg 20 _ rfl
    injection e20 with e20
    subst e20
    obtain ⟨a20, x20, z20⟩ := words_trod h20
    obtain ⟨_, y21, e21, h21, k21⟩ := hg 21 _ rfl
    injection e21 with e21
    subst e21
    obtain ⟨a21, x21, z21⟩ := lists_bulk h21
    obtain ⟨_, y22, e22, h22, k22⟩ := hg 22 _ rfl
    injection e22 with e22
    subst e22
    obtain ⟨a22, rfl⟩ := bool_trod h22
    obtain ⟨_, y23, e23, h23, k23⟩ := hg 23 _ rfl
    injection e23 with e23
    subst e23
    obtain ⟨a23, x23, z23⟩ := bytes_bulk h23
    obtain ⟨_, y24, e24, h24, k24⟩ := hg 24 _ rfl
    injection e24 with e24
    subst e24
    obtain ⟨a24, x24, z24⟩ := lists_bulk h24
    obtain ⟨_, y25, e25, h25, k25⟩ := hg 25 _ rfl
    injection e25 with e25
    subst e25
    obtain ⟨a25, x25, z25⟩ := u32s_trod h25
    obtain ⟨_, y26, e26, h26, k26⟩ := hg 26 _ rfl
    injection e26 with e26
    subst e26
    obtain ⟨a26, x26, z26⟩ := lists_bulk h26
    obtain ⟨_, y27, e27, h27, k27⟩ := hg 27 _ rfl
    injection e27 with e27
    subst e27
    obtain ⟨a27, rfl⟩ := bool_trod h27
    obtain ⟨_, y28, e28, h28, k28⟩ := hg 28 _ rfl
    injection e28 with e28
    subst e28
    obtain ⟨a28, x28, z28⟩ := bytes_bulk h28
    obtain ⟨_, y29, e29, h29, k29⟩ := hg 29 _ rfl
    injection e29 with e29
    subst e29
    obtain ⟨a29, x29, z29⟩ := bytes_bulk h29
    obtain ⟨_, y30, e30, h30, k30⟩ := hg 30 _ rfl
    injection e30 with e30
    subst e30
    obtain ⟨a30, x30, z30⟩ := words_trod h30
    refine ⟨⟨a0, a1, a2, a3, a4, a5, a6, a7, a8, a9, a10, a11, a12, a13, a14, a15, a16, a17, a18, a19, a20, a21, a22, a23, a24, a25, a26, a27, a28, a29, a30⟩, GV.start (vs := [wv a0, v1, v2, v3, v4, strv a5, .bool a6, v7, v8, .bool a9, v10, v11, v12, .bool a13, v14, .bool a15, v16, .bool a17, v18, v19, v20, v21, .bool a22, v23, v24, v25, v26, .bool a27, v28, v29, v30]) ⟨⟨rfl, rfl⟩, x1, x2, x3, x4, ⟨rfl, rfl⟩, ⟨rfl, rfl⟩, x7, x8, ⟨rfl, rfl⟩, x10, x11, x12, ⟨rfl, rfl⟩, x14, ⟨rfl, rfl⟩, x16, ⟨rfl, rfl⟩, x18, x19, x20, x21, ⟨rfl, rfl⟩, x23, x24, x25, x26, ⟨rfl, rfl⟩, x28, x29, x30, trivial⟩, ?_⟩
    exact ⟨Nat.le_trans (Nat.le_of_succ_le z1) (Nat.le_trans k1 hb), Nat.le_trans (Nat.le_of_succ_le z2) (Nat.le_trans k2 hb), Nat.le_trans (Nat.le_of_succ_le z3) (Nat.le_trans k3 hb), Nat.le_trans (Nat.le_of_succ_le z4) (Nat.le_trans k4 hb), Nat.le_trans (Nat.le_of_succ_le z5) (Nat.le_trans k5 hb), Nat.le_trans (Nat.le_of_succ_le z7) (Nat.le_trans k7 hb), Nat.le_trans (Nat.le_of_succ_le z8) (Nat.le_trans k8 hb), Nat.le_trans (Nat.le_of_succ_le z10) (Nat.le_trans k10 hb), Nat.le_trans (Nat.le_of_succ_le z11) (Nat.le_trans k11 hb), Nat.le_trans (Nat.le_of_succ_le z12) (Nat.le_trans k12 hb), Nat.le_trans (Nat.le_of_succ_le z14) (Nat.le_trans k14 hb), Nat.le_trans (Nat.le_of_succ_le z16) (Nat.le_trans k16 hb), Nat.le_trans (Nat.le_of_succ_le z18) (Nat.le_trans k18 hb), Nat.le_trans (Nat.le_of_succ_le z19) (Nat.le_trans k19 hb), Nat.le_trans (Nat.le_of_succ_le z20) (Nat.le_trans k20 hb), Nat.le_trans (Nat.le_of_succ_le z21) (Nat.le_trans k21 hb), Nat.le_trans (Nat.le_of_succ_le z23) (Nat.le_trans k23 hb), Nat.le_trans (Nat.le_of_succ_le z24) (Nat.le_trans k24 hb), Nat.le_trans (Nat.le_of_succ_le z25) (Nat.le_trans k25 hb), Nat.le_trans (Nat.le_of_succ_le z26) (Nat.le_trans k26 hb), Nat.le_trans (Nat.le_of_succ_le z28) (Nat.le_trans k28 hb), Nat.le_trans (Nat.le_of_succ_le z29) (Nat.le_trans k29 hb), Nat.le_trans (Nat.le_of_succ_le z30) (Nat.le_trans k30 hb)⟩
end Go.Proofs.YtaajmfgplhfncaaGreat
namespace Go.Proofs.YtaajmfgplhfncaaGreat
open Go.RowKit
set_option maxRecDepth 100000
theorem GV.set_ {α : Type} {fs : α → List Fd} {w : World} {B i : Nat} {v : Value} {x y : α} {cs : Array Value} {f : Fd} (h : GV fs w B (.agg cs) x) (hv : FdOk w B v f) (hy : fs y = (fs x).set i f) : GV fs w B (.agg (cs.setIfInBounds i v)) y := by
  obtain ⟨cs', e, h1, h2⟩ := h
  injection e with e
  subst e
  refine ⟨_, rfl, by rw [hy]; simp [h1], fun j u g k1 k2 => ?_⟩
  rw [hy] at k2
  by_cases hj : j = i
  · subst hj
    have hjl : j < (fs x).length := by
      have := (List.getElem?_eq_some_iff.1 k2).1
      simpa using this
    rw [List.getElem?_set_self hjl] at k2
    rw [Array.getElem?_setIfInBounds_self_of_lt (by omega)] at k1
    injection k1 with k1
    injection k2 with k2
    rw [← k1, ← k2]; exact hv
  · rw [List.getElem?_set_ne (Ne.symm hj)] at k2
    rw [Array.getElem?_setIfInBounds_ne (Ne.symm hj)] at k1
    exact h2 j u g k1 k2
end Go.Proofs.YtaajmfgplhfncaaGreat

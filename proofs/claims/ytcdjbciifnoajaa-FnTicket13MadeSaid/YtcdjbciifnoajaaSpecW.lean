/- Contracts of the reference's writers of vectors and of extensions. -/
import Derived.Test.YtcdjbciifnoajaaExtRow
import Derived.Test.YtcdjbciifnoajaaExtW
import Derived.Test.YtcdjbciifnoajaaSame
import Derived.Deep.LoopGhost
namespace Go.Proofs.Ytcdjbciifnoajaa
open Go.RowKit
set_option maxRecDepth 100000

section
variable {w w' w0 : World} {B : Nat} {v content : Value} {xs : List UInt8} {x : Wr} {e : Ending} {ls : List (List UInt8)} {L : List Ex}

theorem WValP.from (hu : Upd [] w w0) (h : WValP w0 x e w') : WValP w x e w' := by
  obtain ⟨v, rfl, h1, h2, h3, h4⟩ := h
  exact ⟨v, rfl, h1, fun k hk => Nat.le_trans hu.size (h2 k hk), h3, hu.trans h4 (by simp)⟩
theorem Wr.vector_eq (size : Nat) (xs : List UInt8) (xb : Bool) : Wr.nil.inner size ⟨xs, xb⟩ = Wr.vector size ⟨xs, xb⟩ := rfl

set_option maxHeartbeats 1000000 in
theorem vector_any1 (hc : Byt w B content xs) (xb : Bool) (hx : xs.length ≤ 1099511627776) :
    Calls Try.prog 55 #[.int .i64 1, .agg #[content, .bool xb]] w (WValP w (Wr.vector 1 ⟨xs, xb⟩)) := by
  obtain ⟨A, c, rfl, hc, -⟩ := Byt.form hc rfl
  obtain ⟨wb, hwb⟩ : ∃ wb, w.alloc (.cells #[.slice A xs.length c, .bool xb] 57) = wb := ⟨_, rfl⟩
  have hub : Upd [] w wb := by rw [← hwb]; exact (Upd.refl _ _).alloc _
  have hbk : Blk wb w.heap.size 57 #[.slice A xs.length c, .bool xb] := by rw [← hwb]; exact Blk.new _ _ _
  have hcb : Byt wb wb.heap.size (.slice A xs.length c) xs := (Row.upd hc.shrink hub (by simp)).shrink
  have hm0 := WMid.start wb
  have hb1 := hbk.upd (W1_upd wb) (by simp)
  have d0 := hb1.cell 0
  have d1 := hb1.cell 1
  simp at d0 d1
  obtain ⟨v0, k0, hv0⟩ := hm0.open_
  have hsz : wb.heap.size = w.heap.size + 1 := by rw [← hwb]; simp
  have hn := winner_any1 k0 (hm0.src hcb v0) xb (by simp [Wr.nil]) hx
  rw [hsz] at hn
  have HN := hid hn
  have HS := hid hsz
  have HW := hid hwb
  clear hn hsz
  clear hwb hx
  go_enter Try.func55, Try.ntmps55
  go_wp2_with fail
  rw [HW.out, W1_eq]
  go_wp2_with fail
  refine HN.out.mono ?_
  intro e w2 hp2
  rw [← HS.out] at hp2
  obtain ⟨rfl, hm2⟩ := hm0.next hv0 hp2
  obtain ⟨A2, n2, c2, c0, c1, d0, d1, g0, g1, e0, e1, hend⟩ := hm2.fin
  rw [HS.out] at c0 c1 d0 d1 g0 g1 e0 e1 hend
  go_wp2
  exact bodyPost_ret (v := .agg #[.slice A2 n2 c2, .bool _]) (by simp [results, Try.results55, go_sem, e0, e1]) rfl (hend.from hub)
set_option maxHeartbeats 1000000 in
theorem vector_any2 (hc : Byt w B content xs) (xb : Bool) (hx : xs.length ≤ 1099511627776) :
    Calls Try.prog 55 #[.int .i64 2, .agg #[content, .bool xb]] w (WValP w (Wr.vector 2 ⟨xs, xb⟩)) := by
  obtain ⟨A, c, rfl, hc, -⟩ := Byt.form hc rfl
  obtain ⟨wb, hwb⟩ : ∃ wb, w.alloc (.cells #[.slice A xs.length c, .bool xb] 57) = wb := ⟨_, rfl⟩
  have hub : Upd [] w wb := by rw [← hwb]; exact (Upd.refl _ _).alloc _
  have hbk : Blk wb w.heap.size 57 #[.slice A xs.length c, .bool xb] := by rw [← hwb]; exact Blk.new _ _ _
  have hcb : Byt wb wb.heap.size (.slice A xs.length c) xs := (Row.upd hc.shrink hub (by simp)).shrink
  have hm0 := WMid.start wb
  have hb1 := hbk.upd (W1_upd wb) (by simp)
  have d0 := hb1.cell 0
  have d1 := hb1.cell 1
  simp at d0 d1
  obtain ⟨v0, k0, hv0⟩ := hm0.open_
  have hsz : wb.heap.size = w.heap.size + 1 := by rw [← hwb]; simp
  have hn := winner_any2 k0 (hm0.src hcb v0) xb (by simp [Wr.nil]) hx
  rw [hsz] at hn
  have HN := hid hn
  have HS := hid hsz
  have HW := hid hwb
  clear hn hsz
  clear hwb hx
  go_enter Try.func55, Try.ntmps55
  go_wp2_with fail
  rw [HW.out, W1_eq]
  go_wp2_with fail
  refine HN.out.mono ?_
  intro e w2 hp2
  rw [← HS.out] at hp2
  obtain ⟨rfl, hm2⟩ := hm0.next hv0 hp2
  obtain ⟨A2, n2, c2, c0, c1, d0, d1, g0, g1, e0, e1, hend⟩ := hm2.fin
  rw [HS.out] at c0 c1 d0 d1 g0 g1 e0 e1 hend
  go_wp2
  exact bodyPost_ret (v := .agg #[.slice A2 n2 c2, .bool _]) (by simp [results, Try.results55, go_sem, e0, e1]) rfl (hend.from hub)

/-- vectors, one behind the other -/
def vecsB (size : Nat) (ls : List (List UInt8)) : List UInt8 := ls.flatMap fun x => be size x.length ++ x
def vecsBad (size : Nat) (ls : List (List UInt8)) : Bool := ls.any fun x => decide (256 ^ size ≤ x.length)
def vecsW (size : Nat) (ls : List (List UInt8)) : Wr := ⟨vecsB size ls, vecsBad size ls⟩
theorem vecsW_snoc (size : Nat) (ls : List (List UInt8)) (x : List UInt8) : (vecsW size ls).vec size x = vecsW size (ls ++ [x]) := by
  simp [vecsW, vecsB, vecsBad, Wr.vec]
theorem vecsB_take (size : Nat) (ls : List (List UInt8)) (k : Nat) : (vecsB size (ls.take k)).length ≤ (vecsB size ls).length := by
  have : vecsB size ls = vecsB size (ls.take k) ++ vecsB size (ls.drop k) := by
    unfold vecsB
    rw [← List.flatMap_append, List.take_append_drop]
  rw [this, List.length_append]
  omega
theorem vecsB_snoc (size : Nat) (l : List (List UInt8)) (x : List UInt8) : vecsB size (l ++ [x]) = vecsB size l ++ (be size x.length ++ x) := by simp [vecsB]
theorem vecsB_get (size : Nat) (ls : List (List UInt8)) (k : Nat) (h : k < ls.length) : ls[k].length ≤ (vecsB size ls).length := by
  have h1 := vecsB_take size ls (k + 1)
  rw [List.take_succ_eq_append_getElem h, vecsB_snoc, List.length_append, List.length_append] at h1
  omega
theorem vecsB_cons (size : Nat) (x : List UInt8) (ls : List (List UInt8)) : vecsB size (x :: ls) = be size x.length ++ x ++ vecsB size ls := by simp [vecsB]
set_option maxHeartbeats 1000000 in
theorem vectors_any_w (size : Nat) (hsz : size = 1 ∨ size = 2 ∨ size = 3) (hc : Lst w B content ls) (hx : (vecsB size ls).length ≤ 1099511627776) :
    Calls Try.prog 56 #[.int .i64 size, content] w (WValP w (vecsW size ls)) := by
  have hm0 := WMid.start w
  have HX := hid hx
  obtain ⟨A, c, rfl, hcr, hlc, hm⟩ := hc.shrink.form
  clear hx hc
  go_enter Try.func56, Try.ntmps56
  go_wp2_with fail
  rw [W1_eq]
  go_loopg [7, 10] ls.length (fun gk _ i wr => ∃ j : Nat, j + gk = ls.length ∧ i = .int .i64 j ∧ WMid w (vecsW size (ls.take j)) wr)
  case atStart => exact ⟨0, by omega, rfl, by simpa [vecsW, vecsB, vecsBad, Wr.nil] using hm0⟩
  case round =>
    obtain ⟨j, hj0, rfl, hmr⟩ := hrel
    have hj : j ≤ ls.length := by omega
    have HJ := hid hj0
    clear hj0
    by_cases hlt : j < ls.length
    · have hcw := hcr.upd hmr.upd (by simp)
      obtain ⟨b, o, rfl, hb, hj', A', c', hcell, hy, hl1, hl2⟩ := hcw.at_ hlt
      obtain ⟨vr, kr, hvr⟩ := hmr.open_
      have hlen : (vecsW size (ls.take j)).b.length ≤ 17592186044416 := by
        have h1 := HX.out
        have h2 := vecsB_take size ls j
        show (vecsB size _).length ≤ _
        omega
      have hxl : (ls[j]).length ≤ 1099511627776 := Nat.le_trans (vecsB_get size ls j hlt) HX.out
      have HN : Hid (Calls Try.prog 34 #[.pointer (some ⟨w.heap.size + 1, 0, none⟩), .int .i64 size, .slice A' (ls[j]).length c'] wr (WrtP wr (w.heap.size + 1) (w.heap.size + 1) vr ((vecsW size (ls.take j)).vec size ls[j]))) := by
        rcases hsz with rfl | rfl | rfl
        · exact hid (wvec_any1 kr ⟨_, hy, .inl (by omega)⟩ hlen hxl)
        · exact hid (wvec_any2 kr ⟨_, hy, .inl (by omega)⟩ hlen hxl)
        · exact hid (wvec_any3 kr ⟨_, hy, .inl (by omega)⟩ hlen hxl)
      have HS := hid (show (vecsW size (ls.take j)).vec size ls[j] = vecsW size (ls.take (j + 1)) by
        rw [List.take_succ_eq_append_getElem hlt, vecsW_snoc])
      clear hlen hxl
      go_wp2_with fail
      refine HN.out.mono ?_
      intro e w2 hp2
      rw [HS.out] at hp2
      obtain ⟨rfl, hm2⟩ := hmr.next hvr hp2
      go_wp2
      have hj0 := HJ.out
      go_roundg (ls.length - (j + 1))
      case measure => omega
      case rel => exact ⟨j + 1, by omega, by go_num, hm2⟩
    · obtain rfl : j = ls.length := by omega
      rw [List.take_length] at hmr
      obtain ⟨A4, n4, c4, c0, c1, d0, d1, g0, g1, e0, e1, hend⟩ := hmr.fin
      go_wp2
      exact bodyPost_ret (v := .agg #[.slice A4 n4 c4, .bool _]) (by simp [results, Try.results56, go_sem, e0, e1]) rfl hend

theorem exsB_take (L : List Ex) (k : Nat) : (exsB (L.take k)).length ≤ (exsB L).length := by
  have : exsB L = exsB (L.take k) ++ exsB (L.drop k) := by rw [← exsB_append, List.take_append_drop]
  rw [this, List.length_append]
  omega
theorem exsB_get (L : List Ex) (k : Nat) (h : k < L.length) : (exsB (L.take k)).length + (4 + (L[k]).2.length) ≤ (exsB L).length := by
  have h1 := exsB_take L (k + 1)
  rw [List.take_succ_eq_append_getElem h, exsB_append, List.length_append] at h1
  have h2 : exsB [L[k]] = exB L[k] := by simp [exsB]
  rw [h2, exB_len] at h1
  omega
theorem exs_snoc (L : List Ex) (e : Ex) : ((Wr.mk (exsB L) (exsBad L)).num 2 e.1.toNat).vec 2 e.2 = ⟨exsB (L ++ [e]), exsBad (L ++ [e])⟩ := by
  simp [exsB, exsBad, Wr.vec, Wr.num, exB]
/-- the result's cells, filled from a value that another function has handed back -/
theorem wval_put {r0 : Nat} {w2 : World} {v4 u0 u1 : Value} (hr0 : w.heap.size ≤ r0) (hb2 : Blk w2 r0 57 #[u0, u1]) (hy : Byt w2 w2.heap.size v4 x.b) (hn : NewFrom w.heap.size v4) (hne : ∀ g, v4.ownBlock = some g → g ≠ r0) (hs : isSlice v4) (hu : Upd [] w w2) :
    Blk ((w2.setCell ⟨r0, 0, none⟩ v4).setCell ⟨r0, 1, none⟩ (.bool x.bad)) r0 57 #[v4, .bool x.bad] ∧
    WValP w x (.returned (.agg #[v4, .bool x.bad])) ((w2.setCell ⟨r0, 0, none⟩ v4).setCell ⟨r0, 1, none⟩ (.bool x.bad)) := by
  have hu1 : Upd [r0] w2 ((w2.setCell ⟨r0, 0, none⟩ v4).setCell ⟨r0, 1, none⟩ (.bool x.bad)) := ((Upd.refl _ _).setCell (by simp) _).setCell (by simp) _
  refine ⟨?_, v4, rfl, (Row.apart hy hu1 (fun g hg hm => hne g hg (by simpa using hm))).shrink, hn, hs, hu.trans hu1 (by simp; omega)⟩
  have := (hb2.set_ 0 v4).set_ 1 (.bool x.bad)
  simpa using this
set_option maxHeartbeats 2000000 in
theorem extensions_any_w {N : Nat} (hc : Exr w B N content L) (hx : (exsB L).length ≤ 1099511627776) :
    Calls Try.prog 37 #[content] w (WValP w (exsW L)) := by
  have hm0 := WMid.start w
  have HX := hid hx
  obtain ⟨A, c, rfl, hcr, hlc, hm⟩ := hc.shrink.form
  clear hx hc
  go_enter Try.func37, Try.ntmps37
  go_wp2_with fail
  rw [W1_eq]
  go_loopg [8] L.length (fun gk i wr => ∃ j : Nat, j + gk = L.length ∧ i = .int .i64 j ∧ WMid w ⟨exsB (L.take j), exsBad (L.take j)⟩ wr)
  case atStart => exact ⟨0, by omega, rfl, by simpa [exsB, exsBad, Wr.nil] using hm0⟩
  case round =>
    obtain ⟨j, hj0, rfl, hmr⟩ := hrel
    have hj : j ≤ L.length := by omega
    have HJ := hid hj0
    clear hj0
    by_cases hlt : j < L.length
    · have hcw := hcr.upd hmr.upd (by simp)
      obtain ⟨b, o, rfl, hb, hj', A', c', hk0, hk1, hy, hl1, hl2⟩ := hcw.at_ hlt
      have hget := exsB_get L j hlt
      have HS := hid (show ((Wr.mk (exsB (L.take j)) (exsBad (L.take j))).num 2 L[j].1.toNat).vec 2 L[j].2 = ⟨exsB (L.take (j + 1)), exsBad (L.take (j + 1))⟩ by
        rw [List.take_succ_eq_append_getElem hlt, exs_snoc])
      generalize L[j] = ej at hk0 hk1 hy hl1 hl2 hget HS
      obtain ⟨w1, hw1⟩ : ∃ w1, wr.alloc (.cells #[wv ej.1, .slice A' ej.2.length c'] 66) = w1 := ⟨_, rfl⟩
      obtain ⟨g, hg⟩ : ∃ g, wr.heap.size = g := ⟨_, rfl⟩
      have hu1 : Upd [] wr w1 := by rw [← hw1]; exact (Upd.refl _ _).alloc _
      have hbg : Blk w1 g 66 #[wv ej.1, .slice A' ej.2.length c'] := by rw [← hw1, ← hg]; exact Blk.new _ _ _
      have d0 := hbg.cell 0
      have d1 := hbg.cell 1
      simp at d0 d1
      have hm1 : WMid w ⟨exsB (L.take j), exsBad (L.take j)⟩ w1 := by
        obtain ⟨he, v', h1, h2, h3⟩ := hmr
        exact ⟨he, v', h1.upd hu1 (by simp) (by simp), h2.trans hu1 (by simp), h3⟩
      obtain ⟨vr, kr, hvr⟩ := hm1.open_
      have hlen : (Wr.mk (exsB (L.take j)) (exsBad (L.take j))).b.length ≤ 17592186044416 := by
        have h1 := HX.out
        show (exsB _).length ≤ _
        omega
      have HN := hid (wnum_any kr 2 ej.1.toNat (by omega) hlen)
      have hkn := ej.1.toNat_lt
      have HG := hid hget
      have HW := hid hw1
      have Hg := hid hg
      clear hlen hget hw1 hg
      go_wp2_with fail
      rw [HW.out, Hg.out]
      go_wp2_with fail
      refine HN.out.mono ?_
      intro e w2 hp2
      have hu2 : Upd ((w.heap.size + 1) :: vr.ownBlock.toList) w1 w2 := hp2.2.choose_spec.2.1
      obtain ⟨rfl, hm2⟩ := hm1.next hvr hp2
      have hgn : g ∉ (w.heap.size + 1) :: vr.ownBlock.toList := by
        intro hm
        rcases List.mem_cons.1 hm with hm | hm
        · obtain ⟨_, _, hkb, _⟩ := hmr.open_
          have := kr.2.1.ne_ hbg (by decide)
          omega
        · exact kr.2.2.ne hbg (by decide) _ (Option.mem_toList.1 hm) rfl
      have hb2 := hbg.upd hu2 hgn
      have e0 := hb2.cell 1
      simp at e0
      have hy2 : Byt w2 w.heap.size (.slice A' ej.2.length c') ej.2 := by
        refine Row.upd (Row.upd hy hu1 (by simp)) hu2 fun x hx => ?_
        rcases List.mem_cons.1 hx with hx | hx
        · omega
        · have := (kr.2.2.ge (Option.mem_toList.1 hx)).1
          omega
      obtain ⟨v2, k2, hv2⟩ := hm2.open_
      have HV := hid (wvec_any2 k2 ⟨_, hy2, .inl (by omega)⟩ (by have h1 := HX.out; have h2 := HG.out; simp only [Wr.num, List.length_append, be_len]; omega) (by have h1 := HX.out; have h2 := HG.out; omega))
      go_wp2_with fail
      refine HV.out.mono ?_
      intro e w3 hp3
      rw [HS.out] at hp3
      obtain ⟨rfl, hm3⟩ := hm2.next hv2 hp3
      go_wp2
      have hj0 := HJ.out
      go_roundg (L.length - (j + 1))
      case measure => omega
      case rel => exact ⟨j + 1, by omega, by go_num, hm3⟩
    · obtain rfl : j = L.length := by omega
      rw [List.take_length] at hmr
      obtain ⟨A4, n4, c4, c0, c1, d0, d1, g0, g1, -, -, -⟩ := hmr.fin
      obtain ⟨vr, kr, hvr⟩ := hmr.open_
      have hvs : vr = .slice A4 n4 c4 := by
        have := kr.2.1.cell 0
        rw [this] at c0
        simpa using c0
      subst hvs
      have HV := hid (vector_any2 kr.2.2.row (exsBad L) HX.out)
      have hb0 : Blk wr w.heap.size 57 #[.slice none 0 0, .bool false] := (W1_res w).upd hvr.1 (by simp [Value.ownBlock])
      have HR := hid hb0
      go_wp2_with fail
      refine HV.out.mono ?_
      rintro e w2 ⟨v4, rfl, hy4, hn4, ⟨A5, n5, c5, rfl⟩, hu4⟩
      have hb2 := HR.out.upd hu4 (by simp)
      have huw : Upd [] w w2 := hmr.upd.trans hu4 (by simp)
      have hsz := hmr.upd.size
      obtain ⟨hfb, hfin⟩ := wval_put (w := w) (x := Wr.vector 2 ⟨exsB L, exsBad L⟩) (Nat.le_refl _) hb2 hy4 (fun k hk => Nat.le_trans hsz (hn4 k hk)) (fun g hg => by have := hn4 g hg; have := HR.out.lt; omega) ⟨_, _, _, rfl⟩ huw
      have e0 := hfb.cell 0
      have e1 := hfb.cell 1
      simp at e0 e1
      have k0 := hb2.cell 0
      have k1 := hb2.cell 1
      simp at k0 k1
      have f0 := hb2.frozen 0
      have f1 := hb2.frozen 1
      go_wp2
      exact bodyPost_ret (v := .agg #[.slice A5 n5 c5, .bool _]) (by simp [results, Try.results37, go_sem, e0, e1]) rfl hfin
end
end Go.Proofs.Ytcdjbciifnoajaa

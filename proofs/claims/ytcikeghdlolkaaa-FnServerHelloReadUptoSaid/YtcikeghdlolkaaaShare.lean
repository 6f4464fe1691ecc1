/- The reference's writers of key shares. -/
import Derived.Test.YtcikeghdlolkaaaSpecW
import Derived.Test.YtcikeghdlolkaaaWriter
import Derived.Test.YtcikeghdlolkaaaShMade
import Derived.Deep.LoopGhost
namespace Go.Proofs.Ytcikeghdlolkaaa
open Go.RowKit
set_option maxRecDepth 100000

theorem Lst.drewn {w : World} {B : Nat} {v : Value} {ls : List (List UInt8)} (h : Lst w B v ls) : Lst w.drew B v ls := by
  obtain ⟨vs, h1, h2⟩ := h
  exact ⟨vs, Row.drew h1, h2.imp fun _ _ hy => Row.drew hy⟩
/-- key shares, one behind the other -/
def kshB (l : List (UInt16 × List UInt8)) : List UInt8 := l.flatMap fun x => be 2 x.1.toNat ++ (be 2 x.2.length ++ x.2)
def kshBad (l : List (UInt16 × List UInt8)) : Bool := l.any fun x => decide (65536 ≤ x.2.length)
def kshW (l : List (UInt16 × List UInt8)) : Wr := ⟨kshB l, kshBad l⟩
theorem kshW_snoc (l : List (UInt16 × List UInt8)) (g : UInt16) (d : List UInt8) : ((kshW l).num 2 g.toNat).vec 2 d = kshW (l ++ [(g, d)]) := by
  simp [kshW, kshB, kshBad, Wr.num, Wr.vec, List.any_append]
theorem kshB_take (l : List (UInt16 × List UInt8)) (k : Nat) : (kshB (l.take k)).length ≤ (kshB l).length := by
  have : kshB l = kshB (l.take k) ++ kshB (l.drop k) := by
    unfold kshB; rw [← List.flatMap_append, List.take_append_drop]
  rw [this, List.length_append]
  omega
theorem kshB_get (l : List (UInt16 × List UInt8)) (k : Nat) (h : k < l.length) : (l[k]).2.length ≤ (kshB l).length := by
  have : kshB l = kshB (l.take k) ++ kshB (l.drop k) := by
    unfold kshB; rw [← List.flatMap_append, List.take_append_drop]
  rw [this, List.drop_eq_getElem_cons h]
  have e : kshB (l[k] :: l.drop (k + 1)) = (be 2 (l[k]).1.toNat ++ (be 2 (l[k]).2.length ++ (l[k]).2)) ++ kshB (l.drop (k + 1)) := rfl
  rw [e, List.length_append, List.length_append, List.length_append, List.length_append]
  omega
section
variable {w w' w0 : World} {B C : Nat} {v content cd : Value} {xs : List UInt8} {l : List (UInt16 × List UInt8)}
set_option maxHeartbeats 1000000 in
theorem keyShares_any_w (hg : Row w B content (l.map fun x => wv x.1)) (hd : Lst w C cd (l.map (·.2))) (hx : (kshB l).length ≤ 1099511627776) :
    Calls Try.prog 65 #[content, cd] w (WValP w (kshW l)) := by
  have hm0 := WMid.start w
  have HX := hid hx
  obtain ⟨A0, c0, rfl, hgr, hlg, hmg⟩ := Row.formN (n := l.length) (Row.shrink hg) (by simp)
  obtain ⟨A, c, rfl, hcr, hlc, hm⟩ := hd.shrink.form
  simp only [List.length_map] at hcr ⊢
  clear hx hg hd
  go_enter Try.func65, Try.ntmps65
  go_wp2_with fail
  rw [W1_eq]
  go_loopg [6, 7, 10] l.length (fun gk _ _ i wr => ∃ j : Nat, j + gk = l.length ∧ i = .int .i64 j ∧ WMid w (kshW (l.take j)) wr)
  case atStart => exact ⟨0, by omega, rfl, by simpa [kshW, kshB, kshBad, Wr.nil] using hm0⟩
  case round =>
    obtain ⟨j, hj0, rfl, hmr⟩ := hrel
    have hj : j ≤ l.length := by omega
    have HJ := hid hj0
    clear hj0
    by_cases hlt : j < l.length
    · have hgw := Row.upd hgr hmr.upd (by simp)
      obtain ⟨b, o, rfl, hb, hj', hcell⟩ := hgw.at_ (by simpa using hlt)
      rw [List.getElem_map] at hcell
      obtain ⟨vr, kr, hvr⟩ := hmr.open_
      have hlen : (kshW (l.take j)).b.length ≤ 1099511627776 := by
        have h1 := HX.out
        have h2 := kshB_take l j
        show (kshB _).length ≤ _
        omega
      have hxl : (l[j]).2.length ≤ 1099511627776 := Nat.le_trans (kshB_get l j hlt) HX.out
      have HN := hid (wnum_any kr 2 (l[j]).1.toNat (by omega) (by omega))
      have HS := hid (show ((kshW (l.take j)).num 2 (l[j]).1.toNat).vec 2 (l[j]).2 = kshW (l.take (j + 1)) by
        rw [List.take_succ_eq_append_getElem hlt, kshW_snoc])
      have hl2 : ((kshW (l.take j)).num 2 (l[j]).1.toNat).b.length ≤ 17592186044416 := by simp [Wr.num, be_len]; omega
      have HL2 := hid hl2
      have hu := (l[j]).1.toNat_lt
      have HXL := hid hxl
      clear hlen hxl hl2
      go_wp2_with fail
      refine HN.out.mono ?_
      intro e w2 hp2
      obtain ⟨rfl, hm2⟩ := hmr.next hvr hp2
      have hcw := hcr.upd hm2.upd (by simp)
      have hlt2 : j < (l.map (·.2)).length := by simpa using hlt
      obtain ⟨b2, o2, rfl, hb2, hj2, A', c', hcell2, hy, hl1, hl2⟩ := hcw.at_ hlt
      obtain ⟨v2, k2, hv2⟩ := hm2.open_
      have eg : (l.map (·.2))[j] = (l[j]).2 := by simp
      rw [eg] at hcell2 hy hl1
      have HV := hid (wvec_any2 k2 ⟨_, hy, .inl (by omega)⟩ HL2.out HXL.out)
      rw [HS.out] at HV
      clear hlt2 HN hp2 kr hvr eg
      go_wp2_with fail
      refine HV.out.mono ?_
      intro e w3 hp3
      obtain ⟨rfl, hm3⟩ := hm2.next hv2 hp3
      clear HV
      go_wp2
      have hj0 := HJ.out
      go_roundg (l.length - (j + 1))
      case measure => omega
      case rel => exact ⟨j + 1, by omega, by go_num, hm3⟩
    · obtain rfl : j = l.length := by omega
      rw [List.take_length] at hmr
      obtain ⟨A4, n4, c4, z0, z1, d0, d1, g0, g1, e0, e1, hend⟩ := hmr.fin
      go_wp2
      exact bodyPost_ret (v := .agg #[.slice A4 n4 c4, .bool _]) (by simp [results, Try.results65, go_sem, e0, e1]) rfl hend
set_option maxHeartbeats 1000000 in
theorem share_any (g : UInt16) (hd : Byt w C cd xs) (hx : xs.length ≤ 1000000000000) :
    Calls Try.prog 36 #[wv g, cd] w (WValP w (shareW g xs)) := by
  obtain ⟨A, c, rfl, hd, -⟩ := Byt.form hd rfl
  obtain ⟨s, hs⟩ : ∃ s, w.heap.size = s := ⟨_, rfl⟩
  obtain ⟨wb, hwb⟩ : ∃ wb, ((w.alloc (.cells #[.slice none 0 0, .bool false] 64)).alloc (.cells #[wv g] 22)).alloc (.cells #[.slice A xs.length c] 23) = wb := ⟨_, rfl⟩
  have hub : Upd [] w wb := by rw [← hwb]; exact (((Upd.refl _ _).alloc _).alloc _).alloc _
  have hbb : Blk wb s 64 #[.slice none 0 0, .bool false] := by rw [← hwb, ← hs]; exact ((Blk.new _ _ _).alloc _).alloc _
  have hg : Row wb wb.heap.size (.slice (some ⟨s + 1, 0, none⟩) 1 1) [wv g] := by
    have h := Row.one (w.alloc (.cells #[.slice none 0 0, .bool false] 64)) 22 (wv g)
    rw [show (w.alloc (.cells #[.slice none 0 0, .bool false] 64)).heap.size = s + 1 by simp [hs]] at h
    rw [← hwb]
    exact (Row.upd h ((Upd.refl [] _).alloc _) (by simp)).shrink
  have hr : Row wb wb.heap.size (.slice (some ⟨s + 2, 0, none⟩) 1 1) [.slice A xs.length c] := by
    have h := Row.one ((w.alloc (.cells #[.slice none 0 0, .bool false] 64)).alloc (.cells #[wv g] 22)) 23 (.slice A xs.length c)
    rw [show ((w.alloc (.cells #[.slice none 0 0, .bool false] 64)).alloc (.cells #[wv g] 22)).heap.size = s + 2 by simp [hs]] at h
    rw [← hwb]
    exact h.shrink
  have hl : Lst wb wb.heap.size (.slice (some ⟨s + 2, 0, none⟩) 1 1) [xs] := ⟨_, hr, ⟨(Row.upd hd.shrink hub (by simp)).shrink, trivial⟩⟩
  have h := keyShares_any_w (l := [(g, xs)]) hg hl (by simp [kshB, be_len]; omega)
  rw [show kshW [(g, xs)] = shareW g xs by simp [kshW, kshB, kshBad, shareW, Wr.num, Wr.vec, Wr.nil]] at h
  have H := hid h
  have HW := hid hwb
  have HS := hid hs
  clear h hwb hg hr hl hd hs
  go_enter Try.func36, Try.ntmps36
  go_wp2_with fail
  rw [HW.out, HS.out]
  refine H.out.mono ?_
  rintro e w5 ⟨v5, rfl, hy5, hn5, ⟨A6, n6, c6, rfl⟩, hu5⟩
  have hb5 := hbb.upd hu5 (by simp)
  have hub5 := hub.trans hu5 (by simp)
  have hsl : w.heap.size ≤ s := by have := HS.out; omega
  have hbs := hbb.lt
  obtain ⟨hb6, hend⟩ := wval_put hsl hb5 hy5 (fun k hk => by have := hn5 k hk; have := hub.size; omega) (fun g hg => by have := hn5 g hg; omega) ⟨A6, n6, c6, rfl⟩ hub5
  have c0 := hb5.cell 0
  have c1 := hb5.cell 1
  have f0 := hb5.frozen 0
  have f1 := hb5.frozen 1
  have k0 := hb6.cell 0
  have k1 := hb6.cell 1
  simp only [List.getElem?_toArray, List.getElem?_cons_zero, List.getElem?_cons_succ] at k0 k1
  simp at c0 c1
  go_wp2
  exact bodyPost_ret (v := .agg #[.slice A6 n6 c6, .bool (shareW g xs).bad]) (by simp [results, Try.results36, go_sem, k0, k1]) rfl hend
end
end Go.Proofs.Ytcikeghdlolkaaa

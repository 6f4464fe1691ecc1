/- The reference's writers of key shares. -/
import Derived.Test.YtaajmfgplhfncaaGreatSpecW
import Derived.Test.YtaajmfgplhfncaaGreatWriter
import Derived.Test.YtaajmfgplhfncaaGreatShMade
import Derived.Deep.LoopGhost
namespace Go.Proofs.YtaajmfgplhfncaaGreat
open Go.RowKit
set_option maxRecDepth 100000

theorem Lst.drewn {w : World} {B : Nat} {v : Value} {ls : List (List UInt8)} (h : Lst w B v ls) : Lst w.drew B v ls := by
  obtain ⟨vs, h1, h2⟩ := h
  exact ⟨vs, Row.drew h1, h2.imp fun _ _ hy => Row.drew hy⟩
/-- key shares, one behind the other -/
def kshB (l : List (UInt16 × List UInt8)) : List UInt8 := l.flatMap fun x => be 2 x.1.toNat ++ (be 2 x.2.length ++ x.2)
def kshBad (l : List (UInt16 × List UInt8)) : Bool := l.any fun x => decide (65536 ≤ x.2.length)
def kshW (l : List (UInt16 × List UInt8)) : Wr := ⟨kshB l, kshBad l⟩
theorem kshW_snoc (l : List (UInt16 × List UInt8)) (g : UInt16) (d : List UInt8) : ((kshW l).num 2 g.toNat).vec 2 d = kshW (l ++ [(g, d)]) := by
  simp [kshW, kshB, kshBad, Wr.num, Wr.vec, List.any_append]
theorem kshB_take (l : List (UInt16 × List UInt8)) (k : Nat) : (kshB (l.take k)).length ≤ (kshB l).length := by
  have : kshB l = kshB (l.take k) ++ kshB (l.drop k) := by
    unfold kshB; rw [← List.flatMap_append, List.take_append_drop]
  rw [this, List.length_append]
  omega
theorem kshB_get (l : List (UInt16 × List UInt8)) (k : Nat) (h : k < l.length) : (l[k]).2.length ≤ (kshB l).length := by
  have : kshB l = kshB (l.take k) ++ kshB (l.drop k) := by
    unfold kshB; rw [← List.flatMap_append, List.take_append_drop]
  rw [this, List.drop_eq_getElem_cons h]
  have e : kshB (l[k] :: l.drop (k + 1)) = (be 2 (l[k]).1.toNat ++ (be 2 (l[k]).2.length ++ (l[k]).2)) ++ kshB (l.drop (k + 1)) := rfl
  rw [e, List.length_append, List.length_append, List.length_append, List.length_append]
  omega
section
variable {w w' w0 : World} {B C : Nat} {v content cd : Value} {xs : List UInt8} {l : List (UInt16 × List UInt8)}
set_option maxHeartbeats 1000000 in
theorem keyShares_any_w (hg : Row w B content (l.map fun x => wv x.1)) (hd : Lst w C cd (l.map (·.2))) (hx : (kshB l).length ≤ 1099511627776) :
    Calls Tryz.prog 29 #[content, cd] w (WValP w (kshW l)) := by
  have hm0 := WMid.start w
  have HX := hid hx
  obtain ⟨A0, c0, rfl, hgr, hlg, hmg⟩ := Row.formN (n := l.length) (Row.shrink hg) (by simp)
  obtain ⟨A, c, rfl, hcr, hlc, hm⟩ := hd.shrink.form
  simp only [List.length_map] at hcr ⊢
  clear hx hg hd
  go_enter Tryz.func29, Tryz.ntmps29
  go_wp2_with fail
  rw [W1_eq]
  go_loopg [6, 7, 10] l.length (fun gk _ _ i wr => ∃ j : Nat, j + gk = l.length ∧ i = .int .i64 j ∧ WMid w (kshW (l.take j)) wr)
  case atStart => exact ⟨0, by omega, rfl, by simpa [kshW, kshB, kshBad, Wr.nil] using hm0⟩
  case round =>
    obtain ⟨j, hj0, rfl, hmr⟩ := hrel
    have hj : j ≤ l.length := by omega
    have HJ := hid hj0
    clear hj0
    by_cases hlt : j < l.length
    · have hgw := Row.upd hgr hmr.upd (by simp)
      obtain ⟨b, o, rfl, hb, hj', hcell⟩ := hgw.at_ (by simpa using hlt)
      rw [List.getElem_map] at hcell
      obtain ⟨vr, kr, hvr⟩ := hmr.open_
      have hlen : (kshW (l.take j)).b.length ≤ 1099511627776 := by
        have h1 := HX.out
        have h2 := kshB_take l j
        show (kshB _).length ≤ _
        omega
      have hxl : (l[j]).2.length ≤ 1099511627776 := Nat.le_trans (kshB_get l j hlt) HX.out
      have HN := hid (wnum_any kr 2 (l[j]).1.toNat (by omega) (by omega))
      have HS := hid (show ((kshW (l.take j)).num 2 (l[j]).1.toNat).vec 2 (l[j]).2 = kshW (l.take (j + 1)) by
        rw [List.take_succ_eq_append_getElem hlt, kshW_snoc])
      have hl2 : ((kshW (l.take j)).num 2 (l[j]).1.toNat).b.length ≤ 17592186044416 := by simp [Wr.num, be_len]; omega
      have HL2 := hid hl2
      have hu := (l[j]).1.toNat_lt
      have HXL := hid hxl
      clear hlen hxl hl2
      go_wp2_with fail
      refine HN.out.mono ?_
      intro e w2 hp2
      obtain ⟨rfl, hm2⟩ := hmr.next hvr hp2
      have hcw := hcr.upd hm2.upd (by simp)
      have hlt2 : j < (l.map (·.2)).length := by simpa using hlt
      obtain ⟨b2, o2, rfl, hb2, hj2, A', c', hcell2, hy, hl1, hl2⟩ := hcw.at_ hlt
      obtain ⟨v2, k2, hv2⟩ := hm2.open_
      have eg : (l.map (·.2))[j] = (l[j]).2 := by simp
      rw [eg] at hcell2 hy hl1
      have HV := hid (wvec_any2 k2 ⟨_, hy, .inl (by omega)⟩ HL2.out HXL.out)
      rw [HS.out] at HV
      clear hlt2 HN hp2 kr hvr eg
      go_wp2_with fail
      refine HV.out.mono ?_
      intro e w3 hp3
      obtain ⟨rfl, hm3⟩ := hm2.next hv2 hp3
      clear HV
      go_wp2
      have hj0 := HJ.out
      go_roundg (l.length - (j + 1))
      case measure => omega
      case rel => exact ⟨j + 1, by omega, by go_num, hm3⟩
    · obtain rfl : j = l.length := by omega
      rw [List.take_length] at hmr
      obtain ⟨A4, n4, c4, z0, z1, d0, d1, g0, g1, e0, e1, hend⟩ := hmr.fin
      go_wp2
      exact bodyPost_ret (v := .agg #[.slice A4 n4 c4, .bool _]) (by simp [results, Tryz.results29, go_sem, e0, e1]) rfl hend
end
end Go.Proofs.YtaajmfgplhfncaaGreat

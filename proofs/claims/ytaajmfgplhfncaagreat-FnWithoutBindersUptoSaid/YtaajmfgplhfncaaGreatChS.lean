/- ClientHello: the reference's small functions: identities, host, status, signals, Types; the bound on a list of strings. -/
import Derived.Test.YtaajmfgplhfncaaGreatChPlain
import Derived.Test.YtaajmfgplhfncaaGreatShare
namespace Go.Proofs.YtaajmfgplhfncaaGreat
open Go.RowKit
set_option maxRecDepth 100000

theorem identsW_snoc (l : List (List UInt8 × UInt32)) (d : List UInt8) (g : UInt32) : ((identsW l).vec 2 d).num 4 g.toNat = identsW (l ++ [(d, g)]) := by
  simp [identsW, identsB, identsBad, identB, Wr.num, Wr.vec, List.any_append]
theorem identsB_split (l : List (List UInt8 × UInt32)) (k : Nat) : identsB l = identsB (l.take k) ++ identsB (l.drop k) := by
  unfold identsB; rw [← List.flatMap_append, List.take_append_drop]
theorem identsB_take (l : List (List UInt8 × UInt32)) (k : Nat) : (identsB (l.take k)).length ≤ (identsB l).length := by
  rw [identsB_split l k, List.length_append]
  omega
theorem identsB_get (l : List (List UInt8 × UInt32)) (k : Nat) (h : k < l.length) : (l[k]).1.length ≤ (identsB l).length := by
  rw [identsB_split l k, List.drop_eq_getElem_cons h]
  have e : identsB (l[k] :: l.drop (k + 1)) = (be 2 (l[k]).1.length ++ ((l[k]).1 ++ be 4 (l[k]).2.toNat)) ++ identsB (l.drop (k + 1)) := rfl
  rw [e, List.length_append, List.length_append, List.length_append, List.length_append]
  omega
section
variable {w w' w0 : World} {B C : Nat} {v content cd : Value} {xs : List UInt8}
set_option maxHeartbeats 1000000 in
theorem identities_any_w {l : List (List UInt8 × UInt32)} (hd : Lst w C cd (l.map (·.1))) (hg : Row w B content (l.map fun x => uv x.2)) (hx : (identsB l).length ≤ 1099511627776) :
    Calls Tryz.prog 31 #[cd, content] w (WValP w (identsW l)) := by
  have hm0 := WMid.start w
  have HX := hid hx
  obtain ⟨A0, c0, rfl, hgr, hlg, hmg⟩ := Row.formN (n := l.length) (Row.shrink hg) (by simp)
  obtain ⟨A, c, rfl, hcr, hlc, hm⟩ := hd.shrink.form
  simp only [List.length_map] at hcr ⊢
  clear hx hg hd
  go_enter Tryz.func31, Tryz.ntmps31
  go_wp2_with fail
  rw [W1_eq]
  go_loopg [6, 7, 10] l.length (fun gk _ _ i wr => ∃ j : Nat, j + gk = l.length ∧ i = .int .i64 j ∧ WMid w (identsW (l.take j)) wr)
  case atStart => exact ⟨0, by omega, rfl, by simpa [identsW, identsB, identsBad, Wr.nil] using hm0⟩
  case round =>
    obtain ⟨j, hj0, rfl, hmr⟩ := hrel
    have hj : j ≤ l.length := by omega
    have HJ := hid hj0
    clear hj0
    by_cases hlt : j < l.length
    · have hcw := hcr.upd hmr.upd (by simp)
      have hlt2 : j < (l.map (·.1)).length := by simpa using hlt
      obtain ⟨b2, o2, rfl, hb2, hj2, A', c', hcell2, hy, hl1, hl2⟩ := hcw.at_ hlt
      have eg : (l.map (·.1))[j] = (l[j]).1 := by simp
      rw [eg] at hcell2 hy hl1
      obtain ⟨vr, kr, hvr⟩ := hmr.open_
      have hlen : (identsW (l.take j)).b.length ≤ 1099511627776 := by
        have h1 := HX.out
        have h2 := identsB_take l j
        show (identsB _).length ≤ _
        omega
      have hxl : (l[j]).1.length ≤ 1099511627776 := Nat.le_trans (identsB_get l j hlt) HX.out
      have HN := hid (wvec_any2 kr ⟨_, hy, .inl (by omega)⟩ (by omega) hxl)
      have HS := hid (show ((identsW (l.take j)).vec 2 (l[j]).1).num 4 (l[j]).2.toNat = identsW (l.take (j + 1)) by
        rw [List.take_succ_eq_append_getElem hlt, identsW_snoc])
      have hl2' : ((identsW (l.take j)).vec 2 (l[j]).1).b.length ≤ 17592186044416 := by simp [Wr.vec, be_len]; omega
      have HL2 := hid hl2'
      have hu := (l[j]).2.toNat_lt
      have HU := hid hu
      clear hlen hxl hl2' hlt2 eg hcw
      go_wp2_with fail
      refine HN.out.mono ?_
      intro e w2 hp2
      obtain ⟨rfl, hm2⟩ := hmr.next hvr hp2
      have hgw := Row.upd hgr hm2.upd (by simp)
      obtain ⟨b, o, rfl, hb, hj', hcell⟩ := hgw.at_ (by simpa using hlt)
      rw [List.getElem_map] at hcell
      obtain ⟨v2, k2, hv2⟩ := hm2.open_
      have HV := hid (wnum_any k2 4 (l[j]).2.toNat (by omega) HL2.out)
      rw [HS.out] at HV
      clear HN hp2 kr hvr
      go_wp2_with fail
      refine HV.out.mono ?_
      intro e w3 hp3
      obtain ⟨rfl, hm3⟩ := hm2.next hv2 hp3
      clear HV
      go_wp2
      have hj0 := HJ.out
      go_roundg (l.length - (j + 1))
      case measure => omega
      case rel => exact ⟨j + 1, by omega, by go_num, hm3⟩
    · obtain rfl : j = l.length := by omega
      rw [List.take_length] at hmr
      obtain ⟨A4, n4, c4, z0, z1, d0, d1, g0, g1, e0, e1, hend⟩ := hmr.fin
      go_wp2
      exact bodyPost_ret (v := .agg #[.slice A4 n4 c4, .bool _]) (by simp [results, Tryz.results31, go_sem, e0, e1]) rfl hend
set_option maxHeartbeats 1000000 in
theorem status_any : Calls Tryz.prog 25 #[] w (WValP w statusW) := by
  have hm0 := WMid.start w
  obtain ⟨vr, kr, hvr⟩ := hm0.open_
  have H := hid (wnum_any kr 1 1 (by omega) (by simp [Wr.nil]))
  go_enter Tryz.func25, Tryz.ntmps25
  go_wp2_with fail
  rw [W1_eq]
  refine H.out.mono ?_
  intro e w2 hp2
  obtain ⟨rfl, hm2⟩ := hm0.next hvr hp2
  obtain ⟨v2, k2, hv2⟩ := hm2.open_
  clear hm0 kr hvr H hp2
  have H := hid (wvec_any2 (xs := []) k2 (content := .slice none 0 0) ⟨0, Row.nil_ _ 0, .inl (Nat.zero_le _)⟩ (by simp [Wr.nil, Wr.num, be_len]) (by simp))
  go_wp2_with fail
  refine H.out.mono ?_
  intro e w3 hp3
  obtain ⟨rfl, hm3⟩ := hm2.next hv2 hp3
  obtain ⟨v3, k3, hv3⟩ := hm3.open_
  clear hm2 k2 hv2 H hp3
  have H := hid (wvec_any2 (xs := []) k3 (content := .slice none 0 0) ⟨0, Row.nil_ _ 0, .inl (Nat.zero_le _)⟩ (by simp [Wr.nil, Wr.num, Wr.vec, be_len]) (by simp))
  go_wp2_with fail
  refine H.out.mono ?_
  intro e w4 hp4
  obtain ⟨rfl, hm4⟩ := hm3.next hv3 hp4
  clear hm3 k3 hv3 H hp4
  obtain ⟨A4, n4, c4, z0, z1, d0, d1, g0, g1, e0, e1, hend⟩ := hm4.fin
  go_wp2
  exact bodyPost_ret (v := .agg #[.slice A4 n4 c4, .bool _]) (by simp [results, Tryz.results25, go_sem, e0, e1]) rfl hend
set_option maxHeartbeats 1000000 in
theorem host_any (hx : xs.length ≤ 2147483647) : Calls Tryz.prog 24 #[.string ⟨xs.toArray⟩] w (WValP w (hostW xs)) := by
  have hm0 := WMid.start w
  obtain ⟨vr, kr, hvr⟩ := hm0.open_
  have H := hid (wnum_any kr 1 0 (by omega) (by simp [Wr.nil]))
  go_enter Tryz.func24, Tryz.ntmps24
  go_wp2_with fail
  rw [W1_eq]
  refine H.out.mono ?_
  intro e w2 hp2
  obtain ⟨rfl, hm2⟩ := hm0.next hvr hp2
  clear hm0 kr hvr H hp2
  go_wp2_with (refine wpList_conv_string 9 23 _ rfl Tryz.underlying9 Tryz.underlying23 rfl rfl (by omega) ?_; intro wN A9 c9 hyN huN hnN)
  obtain ⟨v2, k2, hv2⟩ := hm2.open_
  have hlt2 := k2.2.1.lt
  have hge2 : ∀ g, v2.ownBlock = some g → g < w2.heap.size := fun g hg => (k2.2.2.ge hg).2
  have k3 := k2.upd huN (by simp) (by simp)
  have hm3 : WMid w (Wr.nil.num 1 0) wN := ⟨rfl, v2, k3, hv2.1.trans huN (by simp), hv2.2⟩
  refine (wvec_any2 k3 ⟨_, hyN, .inr (fun g hg => ?_)⟩ (by simp [Wr.nil, Wr.num, be_len]) (by omega)).mono ?_
  · have h1 := (hnN g hg).1
    exact ⟨by omega, fun h => by have := hge2 g h; omega⟩
  intro e w4 hp4
  obtain ⟨rfl, hm4⟩ := hm3.next ⟨hv2.1.trans huN (by simp), hv2.2⟩ hp4
  obtain ⟨A4, n4, c4, z0, z1, d0, d1, g0, g1, e0, e1, hend⟩ := hm4.fin
  go_wp2
  exact bodyPost_ret (v := .agg #[.slice A4 n4 c4, .bool _]) (by simp [results, Tryz.results24, go_sem, e0, e1]) rfl hend
/-- the cipher suite that signals -/
def sigB (ls : List UInt16) : Bool := ls.any fun n => n == 255
theorem sigB_iff (ls : List UInt16) : sigB ls = false ↔ (255 : UInt16) ∉ ls := by
  unfold sigB
  rw [List.any_eq_false]
  constructor
  · intro h hm; exact h 255 hm (by decide)
  · intro h x hx e
    rw [beq_iff_eq] at e
    exact h (e ▸ hx)
set_option maxHeartbeats 1000000 in
theorem signals_any {ls : List UInt16} (hc : Row w B content (ls.map wv)) : Calls Tryz.prog 19 #[content] w fun e w' => e = .returned (.bool (sigB ls)) ∧ w = w' := by
  obtain ⟨A, c, rfl, hcr, hlc, hm⟩ := Row.formN (n := ls.length) (Row.shrink hc) (by simp)
  clear hc
  go_enter Tryz.func19, Tryz.ntmps19
  go_wp2
  go_loopg [4, 7] ls.length (fun gk _ i wr => ∃ j : Nat, j + gk = ls.length ∧ i = .int .i64 j ∧ w = wr ∧ sigB (ls.take j) = false)
  case atStart => exact ⟨0, by omega, rfl, rfl, rfl⟩
  case round =>
    obtain ⟨j, hj0, rfl, rfl, hall⟩ := hrel
    have HJ := hid hj0
    have HA := hid hall
    have hj : j ≤ ls.length := by omega
    clear hj0 hall
    by_cases hlt : j < ls.length
    · obtain ⟨b, o, rfl, hb', hj', hcell⟩ := hcr.at_ hlt
      rw [List.getElem_map] at hcell
      by_cases h1 : ls[j] = 255
      · have h1' : (((ls[j]).toNat : Int) == 255) = true := by rw [h1]; rfl
        have HN := hid (show sigB ls = true by
          unfold sigB
          rw [List.any_eq_true]
          exact ⟨ls[j], List.getElem_mem hlt, by rw [h1]; rfl⟩)
        clear h1
        go_wp2
        go_ret
        exact ⟨by rw [HN.out]; rfl, rfl⟩
      · have h1' : (((ls[j]).toNat : Int) == 255) = false := by
          rw [beq_eq_false_iff_ne]
          intro e
          exact h1 (UInt16.toNat_inj.1 (by show (ls[j]).toNat = 255; omega))
        have HN := hid (show sigB (ls.take (j + 1)) = false by
          unfold sigB at HA ⊢
          rw [List.take_succ_eq_append_getElem hlt, List.any_append, HA.out]
          simp [h1])
        clear h1
        go_wp2
        have hj0 := HJ.out
        go_roundg (ls.length - (j + 1))
        case measure => omega
        case rel => exact ⟨j + 1, by omega, by go_num, rfl, HN.out⟩
    · obtain rfl : j = ls.length := by omega
      go_wp2
      go_ret
      refine ⟨?_, rfl⟩
      have := HA.out
      rw [List.take_length] at this
      rw [this]; rfl
end
end Go.Proofs.YtaajmfgplhfncaaGreat

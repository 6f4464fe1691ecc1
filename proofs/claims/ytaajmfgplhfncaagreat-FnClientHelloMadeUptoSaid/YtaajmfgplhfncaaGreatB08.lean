/- Texts joined: ChS, ChN, ChM, TopK. -/
import Derived.Test.YtaajmfgplhfncaaGreatB07
import Derived.Test.YtaajmfgplhfncaaGreatB06
import Derived.Test.YtaajmfgplhfncaaGreatB05
namespace Go.Proofs.YtaajmfgplhfncaaGreat
open Go.RowKit
set_option maxRecDepth 100000
theorem identsW_snoc (l : List (List UInt8 × UInt32)) (d : List UInt8) (g : UInt32) : ((identsW l).vec 2 d).num 4 g.toNat = identsW (l ++ [(d, g)]) := by
  simp [identsW, identsB, identsBad, identB, Wr.num, Wr.vec, List.any_append]
theorem identsB_split (l : List (List UInt8 × UInt32)) (k : Nat) : identsB l = identsB (l.take k) ++ identsB (l.drop k) := by
  unfold identsB; rw [← List.flatMap_append, List.take_append_drop]
theorem identsB_take (l : List (List UInt8 × UInt32)) (k : Nat) : (identsB (l.take k)).length ≤ (identsB l).length := by
  rw [identsB_split l k, List.length_append]
  omega
theorem identsB_get (l : List (List UInt8 × UInt32)) (k : Nat) (h : k < l.length) : (l[k]).1.length ≤ (identsB l).length := by
  rw [identsB_split l k, List.drop_eq_getElem_cons h]
  have e : identsB (l[k] :: l.drop (k + 1)) = (be 2 (l[k]).1.length ++ ((l[k]).1 ++ be 4 (l[k]).2.toNat)) ++ identsB (l.drop (k + 1)) := rfl
  rw [e, List.length_append, List.length_append, List.length_append, List.length_append]
  omega
section
variable {w w' w0 : World} {B C : Nat} {v content cd : Value} {xs : List UInt8}
set_option maxHeartbeats 1000000 in
theorem identities_any_w {l : List (List UInt8 × UInt32)} (hd : Lst w C cd (l.map (·.1))) (hg : Row w B content (l.map fun x => uv x.2)) (hx : (identsB l).length ≤ 1099511627776) :
    Calls Tryz.prog 31 #[cd, content] w (WValP w (identsW l)) := by
  have hm0 := WMid.start w
  have HX := hid hx
  obtain ⟨A0, c0, rfl, hgr, hlg, hmg⟩ := Row.formN (n := l.length) (Row.shrink hg) (by simp)
  obtain ⟨A, c, rfl, hcr, hlc, hm⟩ := hd.shrink.form
  simp only [List.length_map] at hcr ⊢
  clear hx hg hd
  go_enter Tryz.func31, Tryz.ntmps31
  go_wp2_with fail
  rw [W1_eq]
  go_loopg [6, 7, 10] l.length (fun gk _ _ i wr => ∃ j : Nat, j + gk = l.length ∧ i = .int .i64 j ∧ WMid w (identsW (l.take j)) wr)
  case atStart => exact ⟨0, by omega, rfl, by simpa [identsW, identsB, identsBad, Wr.nil] using hm0⟩
  case round =>
    obtain ⟨j, hj0, rfl, hmr⟩ := hrel
    have hj : j ≤ l.length := by omega
    have HJ := hid hj0
    clear hj0
    by_cases hlt : j < l.length
    · have hcw := hcr.upd hmr.upd (by simp)
      have hlt2 : j < (l.map (·.1)).length := by simpa using hlt
      obtain ⟨b2, o2, rfl, hb2, hj2, A', c', hcell2, hy, hl1, hl2⟩ := hcw.at_ hlt
      have eg : (l.map (·.1))[j] = (l[j]).1 := by simp
      rw [eg] at hcell2 hy hl1
      obtain ⟨vr, kr, hvr⟩ := hmr.open_
      have hlen : (identsW (l.take j)).b.length ≤ 1099511627776 := by
        have h1 := HX.out
        have h2 := identsB_take l j
        show (identsB _).length ≤ _
        omega
      have hxl : (l[j]).1.length ≤ 1099511627776 := Nat.le_trans (identsB_get l j hlt) HX.out
      have HN := hid (wvec_any2 kr ⟨_, hy, .inl (by omega)⟩ (by omega) hxl)
      have HS := hid (show ((identsW (l.take j)).vec 2 (l[j]).1).num 4 (l[j]).2.toNat = identsW (l.take (j + 1)) by
        rw [List.take_succ_eq_append_getElem hlt, identsW_snoc])
      have hl2' : ((identsW (l.take j)).vec 2 (l[j]).1).b.length ≤ 17592186044416 := by simp [Wr.vec, be_len]; omega
      have HL2 := hid hl2'
      have hu := (l[j]).2.toNat_lt
      have HU := hid hu
      clear hlen hxl hl2' hlt2 eg hcw
      go_wp2_with fail
      refine HN.out.mono ?_
      intro e w2 hp2
      obtain ⟨rfl, hm2⟩ := hmr.next hvr hp2
      have hgw := Row.upd hgr hm2.upd (by simp)
      obtain ⟨b, o, rfl, hb, hj', hcell⟩ := hgw.at_ (by simpa using hlt)
      rw [List.getElem_map] at hcell
      obtain ⟨v2, k2, hv2⟩ := hm2.open_
      have HV := hid (wnum_any k2 4 (l[j]).2.toNat (by omega) HL2.out)
      rw [HS.out] at HV
      clear HN hp2 kr hvr
      go_wp2_with fail
      refine HV.out.mono ?_
      intro e w3 hp3
      obtain ⟨rfl, hm3⟩ := hm2.next hv2 hp3
      clear HV
      go_wp2
      have hj0 := HJ.out
      go_roundg (l.length - (j + 1))
      case measure => omega
      case rel => exact ⟨j + 1, by omega, by go_num, hm3⟩
    · obtain rfl : j = l.length := by omega
      rw [List.take_length] at hmr
      obtain ⟨A4, n4, c4, z0, z1, d0, d1, g0, g1, e0, e1, hend⟩ := hmr.fin
      go_wp2
      exact bodyPost_ret (v := .agg #[.slice A4 n4 c4, .bool _]) (by simp [results, Tryz.results31, go_sem, e0, e1]) rfl hend
set_option maxHeartbeats 1000000 in
theorem status_any : Calls Tryz.prog 25 #[] w (WValP w statusW) := by
  have hm0 := WMid.start w
  obtain ⟨vr, kr, hvr⟩ := hm0.open_
  have H := hid (wnum_any kr 1 1 (by omega) (by simp [Wr.nil]))
  go_enter Tryz.func25, Tryz.ntmps25
  go_wp2_with fail
  rw [W1_eq]
  refine H.out.mono ?_
  intro e w2 hp2
  obtain ⟨rfl, hm2⟩ := hm0.next hvr hp2
  obtain ⟨v2, k2, hv2⟩ := hm2.open_
  clear hm0 kr hvr H hp2
  have H := hid (wvec_any2 (xs := []) k2 (content := .slice none 0 0) ⟨0, Row.nil_ _ 0, .inl (Nat.zero_le _)⟩ (by simp [Wr.nil, Wr.num, be_len]) (by simp))
  go_wp2_with fail
  refine H.out.mono ?_
  intro e w3 hp3
  obtain ⟨rfl, hm3⟩ := hm2.next hv2 hp3
  obtain ⟨v3, k3, hv3⟩ := hm3.open_
  clear hm2 k2 hv2 H hp3
  have H := hid (wvec_any2 (xs := []) k3 (content := .slice none 0 0) ⟨0, Row.nil_ _ 0, .inl (Nat.zero_le _)⟩ (by simp [Wr.nil, Wr.num, Wr.vec, be_len]) (by simp))
  go_wp2_with fail
  refine H.out.mono ?_
  intro e w4 hp4
  obtain ⟨rfl, hm4⟩ := hm3.next hv3 hp4
  clear hm3 k3 hv3 H hp4
  obtain ⟨A4, n4, c4, z0, z1, d0, d1, g0, g1, e0, e1, hend⟩ := hm4.fin
  go_wp2
  exact bodyPost_ret (v := .agg #[.slice A4 n4 c4, .bool _]) (by simp [results, Tryz.results25, go_sem, e0, e1]) rfl hend
set_option maxHeartbeats 1000000 in
theorem host_any (hx : xs.length ≤ 2147483647) : Calls Tryz.prog 24 #[.string ⟨xs.toArray⟩] w (WValP w (hostW xs)) := by
  have hm0 := WMid.start w
  obtain ⟨vr, kr, hvr⟩ := hm0.open_
  have H := hid (wnum_any kr 1 0 (by omega) (by simp [Wr.nil]))
  go_enter Tryz.func24, Tryz.ntmps24
  go_wp2_with fail
  rw [W1_eq]
  refine H.out.mono ?_
  intro e w2 hp2
  obtain ⟨rfl, hm2⟩ := hm0.next hvr hp2
  clear hm0 kr hvr H hp2
  go_wp2_with (refine wpList_conv_string 9 23 _ rfl Tryz.underlying9 Tryz.underlying23 rfl rfl (by omega) ?_; intro wN A9 c9 hyN huN hnN)
  obtain ⟨v2, k2, hv2⟩ := hm2.open_
  have hlt2 := k2.2.1.lt
  have hge2 : ∀ g, v2.ownBlock = some g → g < w2.heap.size := fun g hg => (k2.2.2.ge hg).2
  have k3 := k2.upd huN (by simp) (by simp)
  have hm3 : WMid w (Wr.nil.num 1 0) wN := ⟨rfl, v2, k3, hv2.1.trans huN (by simp), hv2.2⟩
  refine (wvec_any2 k3 ⟨_, hyN, .inr (fun g hg => ?_)⟩ (by simp [Wr.nil, Wr.num, be_len]) (by omega)).mono ?_
  · have h1 := (hnN g hg).1
    exact ⟨by omega, fun h => by have := hge2 g h; omega⟩
  intro e w4 hp4
  obtain ⟨rfl, hm4⟩ := hm3.next ⟨hv2.1.trans huN (by simp), hv2.2⟩ hp4
  obtain ⟨A4, n4, c4, z0, z1, d0, d1, g0, g1, e0, e1, hend⟩ := hm4.fin
  go_wp2
  exact bodyPost_ret (v := .agg #[.slice A4 n4 c4, .bool _]) (by simp [results, Tryz.results24, go_sem, e0, e1]) rfl hend
def sigB (ls : List UInt16) : Bool := ls.any fun n => n == 255
theorem sigB_iff (ls : List UInt16) : sigB ls = false ↔ (255 : UInt16) ∉ ls := by
  unfold sigB
  rw [List.any_eq_false]
  constructor
  · intro h hm; exact h 255 hm (by decide)
  · intro h x hx e
    rw [beq_iff_eq] at e
    exact h (e ▸ hx)
set_option maxHeartbeats 1000000 in
theorem signals_any {ls : List UInt16} (hc : Row w B content (ls.map wv)) : Calls Tryz.prog 19 #[content] w fun e w' => e = .returned (.bool (sigB ls)) ∧ w = w' := by
  obtain ⟨A, c, rfl, hcr, hlc, hm⟩ := Row.formN (n := ls.length) (Row.shrink hc) (by simp)
  clear hc
  go_enter Tryz.func19, Tryz.ntmps19
  go_wp2
  go_loopg [4, 7] ls.length (fun gk _ i wr => ∃ j : Nat, j + gk = ls.length ∧ i = .int .i64 j ∧ w = wr ∧ sigB (ls.take j) = false)
  case atStart => exact ⟨0, by omega, rfl, rfl, rfl⟩
  case round =>
    obtain ⟨j, hj0, rfl, rfl, hall⟩ := hrel
    have HJ := hid hj0
    have HA := hid hall
    have hj : j ≤ ls.length := by omega
    clear hj0 hall
    by_cases hlt : j < ls.length
    · obtain ⟨b, o, rfl, hb', hj', hcell⟩ := hcr.at_ hlt
      rw [List.getElem_map] at hcell
      by_cases h1 : ls[j] = 255
      · have h1' : (((ls[j]).toNat : Int) == 255) = true := by rw [h1]; rfl
        have HN := hid (show sigB ls = true by
          unfold sigB
          rw [List.any_eq_true]
          exact ⟨ls[j], List.getElem_mem hlt, by rw [h1]; rfl⟩)
        clear h1
        go_wp2
        go_ret
        exact ⟨by rw [HN.out]; rfl, rfl⟩
      · have h1' : (((ls[j]).toNat : Int) == 255) = false := by
          rw [beq_eq_false_iff_ne]
          intro e
          exact h1 (UInt16.toNat_inj.1 (by show (ls[j]).toNat = 255; omega))
        have HN := hid (show sigB (ls.take (j + 1)) = false by
          unfold sigB at HA ⊢
          rw [List.take_succ_eq_append_getElem hlt, List.any_append, HA.out]
          simp [h1])
        clear h1
        go_wp2
        have hj0 := HJ.out
        go_roundg (ls.length - (j + 1))
        case measure => omega
        case rel => exact ⟨j + 1, by omega, by go_num, rfl, HN.out⟩
    · obtain rfl : j = ls.length := by omega
      go_wp2
      go_ret
      refine ⟨?_, rfl⟩
      have := HA.out
      rw [List.take_length] at this
      rw [this]; rfl
end
end Go.Proofs.YtaajmfgplhfncaaGreat
namespace Go.Proofs.YtaajmfgplhfncaaGreat
open Go.RowKit
set_option maxRecDepth 100000
def ksC (M : Ch) : List (Cel × Cel) := (M.kg.zip M.kd).map fun x => (.val (wv x.1), .byt x.2)
def piC (M : Ch) : List (Cel × Cel) := (M.pl.zip M.pa).map fun x => (.byt x.1, .val (uv x.2))
structure ChSz (t : Ch) : Prop where
  random : t.random.length ≤ 1048576
  sid : t.sid.length ≤ 1048576
  suites : t.suites.length ≤ 1048576
  comps : t.comps.length ≤ 1048576
  host : t.host.length ≤ 1048576
  curves : t.curves.length ≤ 1048576
  pts : t.pts.length ≤ 1048576
  tick : t.tick.length ≤ 1048576
  sig : t.sig.length ≤ 1048576
  sigc : t.sigc.length ≤ 1048576
  rn : t.rn.length ≤ 1048576
  alpn : lstSz t.alpn ≤ 1048576
  sv : t.sv.length ≤ 1048576
  cookie : t.cookie.length ≤ 1048576
  kg : t.kg.length ≤ 1048576
  kd : lstSz t.kd ≤ 1048576
  modes : t.modes.length ≤ 1048576
  pl : lstSz t.pl ≤ 1048576
  pa : t.pa.length ≤ 1048576
  pb : lstSz t.pb ≤ 1048576
  qtp : t.qtp.length ≤ 1048576
  ech : t.ech.length ≤ 1048576
  exs : t.exs.length ≤ 1048576
theorem lstSz_len (ls : List (List UInt8)) : ls.length ≤ lstSz ls := by
  induction ls with
  | nil => simp
  | cons x ls ih => rw [lstSz_cons, List.length_cons]; omega
theorem lstSz_mem {ls : List (List UInt8)} {x : List UInt8} (h : x ∈ ls) : x.length + 1 ≤ lstSz ls := by
  induction ls with
  | nil => cases h
  | cons y ls ih =>
    rw [lstSz_cons]
    rcases List.mem_cons.1 h with rfl | h
    · omega
    · have := ih h; omega
def cVec (ls : List (List UInt8)) : Nat := (ls.map fun x => 4 + x.length).sum
def cKsh (ls : List (UInt16 × List UInt8)) : Nat := (ls.map fun x => 6 + x.2.length).sum
def cIds (ls : List (List UInt8 × UInt32)) : Nat := (ls.map fun x => 8 + x.1.length).sum
theorem cVec_le (ls : List (List UInt8)) : cVec ls ≤ 4 * lstSz ls := by
  induction ls with
  | nil => simp [cVec]
  | cons x ls ih =>
    have e : cVec (x :: ls) = 4 + x.length + cVec ls := by simp [cVec]
    rw [e, lstSz_cons]; omega
theorem cKsh_le : ∀ (g : List UInt16) (d : List (List UInt8)), cKsh (g.zip d) ≤ 6 * lstSz d
  | [], d => by simp [cKsh]
  | _ :: _, [] => by simp [cKsh]
  | g :: gs, d :: ds => by
    have ih := cKsh_le gs ds
    have e : cKsh ((g :: gs).zip (d :: ds)) = 6 + d.length + cKsh (gs.zip ds) := by simp [cKsh]
    rw [e, lstSz_cons]; omega
theorem cIds_le : ∀ (d : List (List UInt8)) (a : List UInt32), cIds (d.zip a) ≤ 8 * lstSz d
  | [], d => by simp [cIds]
  | _ :: _, [] => by simp [cIds]
  | d :: ds, a :: aa => by
    have ih := cIds_le ds aa
    have e : cIds ((d :: ds).zip (a :: aa)) = 8 + d.length + cIds (ds.zip aa) := by simp [cIds]
    rw [e, lstSz_cons]; omega
theorem cVec_len (ls : List (List UInt8)) : ls.length ≤ cVec ls := by
  induction ls with
  | nil => simp
  | cons x ls ih =>
    have e : cVec (x :: ls) = 4 + x.length + cVec ls := by simp [cVec]
    rw [e, List.length_cons]; omega
theorem cKsh_len (ls : List (UInt16 × List UInt8)) : ls.length ≤ cKsh ls := by
  induction ls with
  | nil => simp
  | cons x ls ih =>
    have e : cKsh (x :: ls) = 6 + x.2.length + cKsh ls := by simp [cKsh]
    rw [e, List.length_cons]; omega
theorem cIds_len (ls : List (List UInt8 × UInt32)) : ls.length ≤ cIds ls := by
  induction ls with
  | nil => simp
  | cons x ls ih =>
    have e : cIds (x :: ls) = 8 + x.1.length + cIds ls := by simp [cIds]
    rw [e, List.length_cons]; omega
theorem kshB_cost (l : List (UInt16 × List UInt8)) : (kshB l).length ≤ cKsh l := by
  induction l with
  | nil => simp [kshB]
  | cons x l ih =>
    have e : kshB (x :: l) = (be 2 x.1.toNat ++ (be 2 x.2.length ++ x.2)) ++ kshB l := rfl
    have e2 : cKsh (x :: l) = 6 + x.2.length + cKsh l := by simp [cKsh]
    rw [e, e2, List.length_append, List.length_append, List.length_append, be_len, be_len]; omega
theorem identsB_cost (l : List (List UInt8 × UInt32)) : (identsB l).length ≤ cIds l := by
  induction l with
  | nil => simp [identsB]
  | cons x l ih =>
    have e : identsB (x :: l) = (be 2 x.1.length ++ (x.1 ++ be 4 x.2.toNat)) ++ identsB l := rfl
    have e2 : cIds (x :: l) = 8 + x.1.length + cIds l := by simp [cIds]
    rw [e, e2, List.length_append, List.length_append, List.length_append, be_len, be_len]; omega
theorem app_ids (l : List (List UInt8 × UInt32)) (d : List UInt8) (g : UInt32) : app (app (ofW (identsW l)) (lpOut 2 (some d))) (some (be 4 g.toNat)) = ofW (identsW (l ++ [(d, g)])) := by
  rw [← identsW_snoc, ofW_num, ofW_vec]
section
variable {t : Ch}
theorem ChSz.vks (h : ChSz t) : cKsh (chKs t) ≤ 8388608 := by have := cKsh_le t.kg t.kd; have := h.kd; unfold chKs; omega
theorem ChSz.vps (h : ChSz t) : cIds (chPs t) ≤ 8388608 := by have := cIds_le t.pl t.pa; have := h.pl; unfold chPs; omega
theorem ChSz.valpn (h : ChSz t) : cVec t.alpn ≤ 8388608 := by have := cVec_le t.alpn; have := h.alpn; omega
theorem ChSz.vpb (h : ChSz t) : cVec t.pb ≤ 8388608 := by have := cVec_le t.pb; have := h.pb; omega
end
end Go.Proofs.YtaajmfgplhfncaaGreat
namespace Go.Proofs.YtaajmfgplhfncaaGreat
open Go.RowKit
set_option maxRecDepth 100000
def chFm (t : Ch) : List Fm := [.fd (.val (.slice none 0 0)), .fd (.val (wv t.vers)), .fd (.byt t.random), .fd (.byt t.sid), .fd (.row (t.suites.map wv)), .fd (.byt t.comps), .fd (.val (strv t.host)), .fd (.val (.bool t.ocsp)), .fd (.row (t.curves.map wv)), .fd (.byt t.pts), .fd (.val (.bool t.ticket)), .fd (.byt t.tick),
  .fd (.row (t.sig.map wv)), .fd (.row (t.sigc.map wv)), .fd (.val (.bool t.rns)), .fd (.byt t.rn), .fd (.val (.bool t.ems)), .fd (.row (t.alpn.map strv)), .fd (.val (.bool t.scts)), .fd (.row (t.sv.map wv)), .fd (.byt t.cookie), .prs (ksC t), .fd (.val (.bool t.early)), .fd (.byt t.modes), .prs (piC t), .fd (.lst t.pb),
  .cpy t.quic (if t.quic = true then t.qtp else []), .fd (.byt t.ech), .fd (.val (.slice none 0 0))]
def ChE (B m k ei : Nat) (cs : Array Value) (t : Ch) (w : World) : Prop :=
  Blk w m 105 cs ∧ Blk w k 99 #[.pointer (some ⟨m, 0, none⟩)] ∧ Blk w ei 4 #[.bool false] ∧ TM (chFm t) cs w B
def ChG (B m k ei x : Nat) (cs : Array Value) (Ax : Option Addr) (cx : Nat) (t : Ch) (xs : List UInt8) (w : World) : Prop :=
  ChE B m k ei cs t w ∧ Blk w x 23 #[.slice Ax xs.length cx] ∧ Byt w B (.slice Ax xs.length cx) xs
section
variable {w w' : World} {B m k ei x i n : Nat} {cs : Array Value} {t : Ch} {u v : Value} {l xs : List UInt8} {us : List Value} {Ax : Option Addr} {cx : Nat}
theorem ChE.stable (hm : m < B) (hk : k < B) (he : ei < B) : Stable B (ChE B m k ei cs t) := fun _ _ hb hf => ⟨hf.1.below hb hm, hf.2.1.below hb hk, hf.2.2.1.below hb he, hf.2.2.2.below hb⟩
theorem ChE.ptr (h : ChE B m k ei cs t w) : w.cell? ⟨k, 0, none⟩ = some (.pointer (some ⟨m, 0, none⟩)) := h.2.1.cell 0
theorem ChE.flag (h : ChE B m k ei cs t w) : w.cell? ⟨ei, 0, none⟩ = some (.bool false) := h.2.2.1.cell 0
theorem ChE.cell (h : ChE B m k ei cs t w) (hc : cs[i]? = some u) : w.cell? ⟨m, i, none⟩ = some u := (h.1.cell i).trans hc
theorem ChE.val (h : ChE B m k ei cs t w) (hf : (chFm t)[i]? = some (.fd (.val u))) : w.cell? ⟨m, i, none⟩ = some u := h.cell (h.2.2.2.val hf)
theorem ChE.byt (h : ChE B m k ei cs t w) (hf : (chFm t)[i]? = some (.fd (.byt l))) : ∃ A c, w.cell? ⟨m, i, none⟩ = some (.slice A l.length c) ∧ Byt w B (.slice A l.length c) l := by
  obtain ⟨A, c, h1, h2⟩ := h.2.2.2.byt hf
  exact ⟨A, c, h.cell h1, h2⟩
theorem ChE.rowC (h : ChE B m k ei cs t w) (hf : (chFm t)[i]? = some (.fd (.row us))) (hn : us.length = n) : ∃ A c, cs[i]? = some (.slice A n c) := by
  obtain ⟨A, c, h1, h2⟩ := h.2.2.2.row hf hn
  exact ⟨A, c, h1⟩
theorem ChE.rowAt (h : ChE B m k ei cs t w) (hc : cs[i]? = some u) (hf : (chFm t)[i]? = some (.fd (.row us))) : Row w B u us := h.2.2.2.2 i u _ hc hf
theorem ChE.lstC (h : ChE B m k ei cs t w) {ls : List (List UInt8)} (hf : (chFm t)[i]? = some (.fd (.lst ls))) : ∃ A c, cs[i]? = some (.slice A ls.length c) := by
  obtain ⟨A, c, h1, h2⟩ := h.2.2.2.lst hf
  exact ⟨A, c, h1⟩
theorem ChE.lstAt (h : ChE B m k ei cs t w) {ls : List (List UInt8)} (hc : cs[i]? = some u) (hf : (chFm t)[i]? = some (.fd (.lst ls))) : Lst w B u ls := h.2.2.2.2 i u _ hc hf
theorem ChE.prsC (h : ChE B m k ei cs t w) {ls : List (Cel × Cel)} (hf : (chFm t)[i]? = some (.prs ls)) (hn : ls.length = n) : ∃ A c, cs[i]? = some (.slice A n c) := by
  obtain ⟨A, c, h1, h2⟩ := h.2.2.2.prs hf
  exact ⟨A, c, by rw [← hn]; exact h1⟩
theorem ChE.prsAt (h : ChE B m k ei cs t w) {ls : List (Cel × Cel)} (hc : cs[i]? = some u) (hf : (chFm t)[i]? = some (.prs ls)) : PrR w B u ls := h.2.2.2.2 i u _ hc hf
theorem ChG.stable (hm : m < B) (hk : k < B) (he : ei < B) (hx : x < B) : Stable B (ChG B m k ei x cs Ax cx t xs) := fun _ _ hb hf => ⟨ChE.stable hm hk he _ _ hb hf.1, hf.2.1.below hb hx, Row.below hf.2.2 hb⟩
theorem ChG.ptr (h : ChG B m k ei x cs Ax cx t xs w) : w.cell? ⟨k, 0, none⟩ = some (.pointer (some ⟨m, 0, none⟩)) := h.1.ptr
theorem ChG.ext (h : ChG B m k ei x cs Ax cx t xs w) : w.cell? ⟨x, 0, none⟩ = some (.slice Ax xs.length cx) := h.2.1.cell 0
end
theorem captured_bytes {fid : FuncId} {w : World} {B g : Nat} {S : List Nat} {T : TypeId} {c0 : Array Value} {u : Value} {x : List UInt8} (hg : Blk w g T c0) (hy : Byt w B u x) (hS : ∀ y ∈ S, B ≤ y ∧ y ≠ g) (hBw : B ≤ w.heap.size)
    (h : ∀ (w1 : World) (q base off pl : Nat) (v ic : Value) (bs : List UInt8) (A : Option Addr) (c : Nat), u = .slice A x.length c → Blk w1 g T c0 → Calls Tryz.prog 89 #[.pointer (some ⟨q, 0, none⟩), .slice A x.length c] w1 (BSP w1 base q v off pl ic (app (some bs) (some x))) →
      Calls Tryz.prog fid #[.pointer (some ⟨q, 0, none⟩), .pointer (some ⟨g, 0, none⟩)] w1 (BSP w1 base q v off pl ic (app (some bs) (some x)))) (hx : x.length ≤ 1099511627776) : Emits fid #[.pointer (some ⟨g, 0, none⟩)] S w (some x) x.length := by
  intro w1 hu base q v off pl ic bs hb hi hq hv hl
  have hg1 := hg.upd hu (fun h => (hS _ h).2 rfl)
  have hy1 : Byt w1 B u x := Row.upd hy hu fun y hy => (hS y hy).1
  obtain ⟨A, c, rfl, hy1, -, -⟩ := Byt.form hy1 rfl
  exact h w1 q base off pl v ic bs A c rfl hg1 (AddBytes_any (st := some bs) hb (src_of hy1 (by omega) fun g hg => by rcases hv g hg with h | h; exact (hS g h).1; omega) (by show bs.length ≤ _; omega) (by omega))
section
variable {w w' : World} {B m k ei x : Nat} {cs : Array Value} {t : Ch} {u v : Value} {xs : List UInt8} {Ax : Option Addr} {cx : Nat}
set_option maxHeartbeats 2000000 in
theorem ch_h3 (hm : m < B) (hk : k < B) (he : ei < B) (hZ : ChSz t) : EmitsF 88 #[.pointer (some ⟨k, 0, none⟩)] B (ChE B m k ei cs t) (some t.host) 8388608 := by
  have hmf : ∀ (fn : Fn) (first cap : Array Value) (w : World), (Instr.makeFunc fn first cap).run Tryz.prog w = .ok (.func fn first cap) w := fun _ _ _ _ => rfl
  refine EmitsF.mk (ChE.stable hm hk he) (by show (t.host).length ≤ _; have := hZ.host; omega) (by intro args w; kernel_rfl) ?_
  intro w1 q v base off pl ic bs hem
  have cc := hem.F.val (i := 6) (u := strv t.host) rfl
  have d0 := hem.F.ptr
  have HM := hid hem
  have HX := hid hZ.host
  have hlen : t.host.length ≤ 9223372036854775807 := by have := hZ.host; omega
  clear hem hm hk he hZ
  go_enter Tryz.func88, Tryz.ntmps88
  go_wp2_with (refine wpList_conv_string 9 23 _ rfl Tryz.underlying9 Tryz.underlying23 rfl rfl hlen ?_; intro wN A9 c9 hyN huN hnN)
  refine (HM.out.bytesOf (R' := 0) huN hyN (fun k hk => (hnN k hk).1) (by have := HX.out; omega)).mono ?_
  rintro e w2 ⟨rfl, hem⟩
  have HM := hid hem
  clear hem
  go_wp2
  go_end0
  exact ⟨rfl, HM.out⟩
set_option maxHeartbeats 2000000 in
theorem ch_h2 (hm : m < B) (hk : k < B) (he : ei < B) (hZ : ChSz t) : EmitsF 86 #[.pointer (some ⟨k, 0, none⟩)] B (ChE B m k ei cs t) (app (some [UInt8.ofNat 0]) (lpOut 2 (some t.host))) 8388616 := by
  have HE0 := hid (ch_h3 (cs := cs) (t := t) hm hk he hZ)
  have hmf : ∀ (fn : Fn) (first cap : Array Value) (w : World), (Instr.makeFunc fn first cap).run Tryz.prog w = .ok (.func fn first cap) w := fun _ _ _ _ => rfl
  refine EmitsF.mk (ChE.stable hm hk he) (by have h1 := olen_lp 2 (by omega) (some t.host); have h2 := olen_app (some [UInt8.ofNat 0]) (lpOut 2 (some t.host)); have h3 : olen (some t.host) = t.host.length := rfl; have h4 : olen (some [UInt8.ofNat 0]) = 1 := rfl; have := hZ.host; omega) (by intro args w; kernel_rfl) ?_
  intro w1 q v base off pl ic bs hem
  have H := hid (hem.u8 (R' := 8388615) 0 (by omega) (by omega))
  clear hem
  go_enter Tryz.func86, Tryz.ntmps86
  go_wp2_with fail
  refine H.out.mono ?_
  rintro e w2 ⟨rfl, hem⟩
  clear H
  have H := hid (hem.lp16 (R' := 3) HE0.out (by omega))
  clear hem
  go_wp2_with fail
  refine H.out.mono ?_
  rintro e w2 ⟨rfl, hem⟩
  clear H
  have HM := hid hem
  clear hem
  go_wp2
  go_end0
  exact ⟨rfl, (HM.out.cast (by simp only [app_assoc])).less (by omega)⟩
set_option maxHeartbeats 2000000 in
theorem ch_h1 (hm : m < B) (hk : k < B) (he : ei < B) (hZ : ChSz t) : EmitsF 85 #[.pointer (some ⟨k, 0, none⟩)] B (ChE B m k ei cs t) (lpOut 2 (app (some [UInt8.ofNat 0]) (lpOut 2 (some t.host)))) 8388624 := by
  have HE0 := hid (ch_h2 (cs := cs) (t := t) hm hk he hZ)
  have hmf : ∀ (fn : Fn) (first cap : Array Value) (w : World), (Instr.makeFunc fn first cap).run Tryz.prog w = .ok (.func fn first cap) w := fun _ _ _ _ => rfl
  refine EmitsF.mk (ChE.stable hm hk he) (by have h1 := olen_lp 2 (by omega) (app (some [UInt8.ofNat 0]) (lpOut 2 (some t.host))); have h2 := (ch_h2 (cs := cs) (t := t) hm hk he hZ).1; omega) (by intro args w; kernel_rfl) ?_
  intro w1 q v base off pl ic bs hem
  have H := hid (hem.lp16 (R' := 4) HE0.out (by omega))
  clear hem
  go_enter Tryz.func85, Tryz.ntmps85
  go_wp2_with fail
  refine H.out.mono ?_
  rintro e w2 ⟨rfl, hem⟩
  clear H
  have HM := hid hem
  clear hem
  go_wp2
  go_end0
  exact ⟨rfl, (HM.out.cast (by rfl)).less (by omega)⟩
set_option maxHeartbeats 2000000 in
theorem ch_p2 (hm : m < B) (hk : k < B) (he : ei < B) (hZ : ChSz t) : EmitsF 92 #[.pointer (some ⟨k, 0, none⟩)] B (ChE B m k ei cs t) (some t.pts) 8388608 := by
  have hmf : ∀ (fn : Fn) (first cap : Array Value) (w : World), (Instr.makeFunc fn first cap).run Tryz.prog w = .ok (.func fn first cap) w := fun _ _ _ _ => rfl
  refine EmitsF.mk (ChE.stable hm hk he) (by show (t.pts).length ≤ _; have := hZ.pts; omega) (by intro args w; kernel_rfl) ?_
  intro w1 q v base off pl ic bs hem
  obtain ⟨A9, c9, cc, hq⟩ := ChE.byt hem.F (i := 9) (l := t.pts) rfl
  have d0 := hem.F.ptr
  have H := hid (hem.bytes (R' := 0) hq (by have := hZ.pts; omega))
  clear hem
  go_enter Tryz.func92, Tryz.ntmps92
  go_wp2_with fail
  refine H.out.mono ?_
  rintro e w2 ⟨rfl, hem⟩
  clear H
  have HM := hid hem
  clear hem
  go_wp2
  go_end0
  exact ⟨rfl, (HM.out.cast (by rfl)).less (by omega)⟩
set_option maxHeartbeats 2000000 in
theorem ch_p1 (hm : m < B) (hk : k < B) (he : ei < B) (hZ : ChSz t) : EmitsF 90 #[.pointer (some ⟨k, 0, none⟩)] B (ChE B m k ei cs t) (lpOut 1 (some t.pts)) 8388616 := by
  have HE0 := hid (ch_p2 (cs := cs) (t := t) hm hk he hZ)
  have hmf : ∀ (fn : Fn) (first cap : Array Value) (w : World), (Instr.makeFunc fn first cap).run Tryz.prog w = .ok (.func fn first cap) w := fun _ _ _ _ => rfl
  refine EmitsF.mk (ChE.stable hm hk he) (by have h1 := olen_lp 1 (by omega) (some t.pts); have h2 := (ch_p2 (cs := cs) (t := t) hm hk he hZ).1; omega) (by intro args w; kernel_rfl) ?_
  intro w1 q v base off pl ic bs hem
  have H := hid (hem.lp8 (R' := 4) HE0.out (by omega))
  clear hem
  go_enter Tryz.func90, Tryz.ntmps90
  go_wp2_with fail
  refine H.out.mono ?_
  rintro e w2 ⟨rfl, hem⟩
  clear H
  have HM := hid hem
  clear hem
  go_wp2
  go_end0
  exact ⟨rfl, (HM.out.cast (by rfl)).less (by omega)⟩
set_option maxHeartbeats 2000000 in
theorem ch_t1 (hm : m < B) (hk : k < B) (he : ei < B) (hZ : ChSz t) : EmitsF 93 #[.pointer (some ⟨k, 0, none⟩)] B (ChE B m k ei cs t) (some t.tick) 8388608 := by
  have hmf : ∀ (fn : Fn) (first cap : Array Value) (w : World), (Instr.makeFunc fn first cap).run Tryz.prog w = .ok (.func fn first cap) w := fun _ _ _ _ => rfl
  refine EmitsF.mk (ChE.stable hm hk he) (by show (t.tick).length ≤ _; have := hZ.tick; omega) (by intro args w; kernel_rfl) ?_
  intro w1 q v base off pl ic bs hem
  obtain ⟨A9, c9, cc, hq⟩ := ChE.byt hem.F (i := 11) (l := t.tick) rfl
  have d0 := hem.F.ptr
  have H := hid (hem.bytes (R' := 0) hq (by have := hZ.tick; omega))
  clear hem
  go_enter Tryz.func93, Tryz.ntmps93
  go_wp2_with fail
  refine H.out.mono ?_
  rintro e w2 ⟨rfl, hem⟩
  clear H
  have HM := hid hem
  clear hem
  go_wp2
  go_end0
  exact ⟨rfl, (HM.out.cast (by rfl)).less (by omega)⟩
set_option maxHeartbeats 2000000 in
theorem ch_r2 (hm : m < B) (hk : k < B) (he : ei < B) (hZ : ChSz t) : EmitsF 95 #[.pointer (some ⟨k, 0, none⟩)] B (ChE B m k ei cs t) (some t.rn) 8388608 := by
  have hmf : ∀ (fn : Fn) (first cap : Array Value) (w : World), (Instr.makeFunc fn first cap).run Tryz.prog w = .ok (.func fn first cap) w := fun _ _ _ _ => rfl
  refine EmitsF.mk (ChE.stable hm hk he) (by show (t.rn).length ≤ _; have := hZ.rn; omega) (by intro args w; kernel_rfl) ?_
  intro w1 q v base off pl ic bs hem
  obtain ⟨A9, c9, cc, hq⟩ := ChE.byt hem.F (i := 15) (l := t.rn) rfl
  have d0 := hem.F.ptr
  have H := hid (hem.bytes (R' := 0) hq (by have := hZ.rn; omega))
  clear hem
  go_enter Tryz.func95, Tryz.ntmps95
  go_wp2_with fail
  refine H.out.mono ?_
  rintro e w2 ⟨rfl, hem⟩
  clear H
  have HM := hid hem
  clear hem
  go_wp2
  go_end0
  exact ⟨rfl, (HM.out.cast (by rfl)).less (by omega)⟩
set_option maxHeartbeats 2000000 in
theorem ch_r1 (hm : m < B) (hk : k < B) (he : ei < B) (hZ : ChSz t) : EmitsF 94 #[.pointer (some ⟨k, 0, none⟩)] B (ChE B m k ei cs t) (lpOut 1 (some t.rn)) 8388616 := by
  have HE0 := hid (ch_r2 (cs := cs) (t := t) hm hk he hZ)
  have hmf : ∀ (fn : Fn) (first cap : Array Value) (w : World), (Instr.makeFunc fn first cap).run Tryz.prog w = .ok (.func fn first cap) w := fun _ _ _ _ => rfl
  refine EmitsF.mk (ChE.stable hm hk he) (by have h1 := olen_lp 1 (by omega) (some t.rn); have h2 := (ch_r2 (cs := cs) (t := t) hm hk he hZ).1; omega) (by intro args w; kernel_rfl) ?_
  intro w1 q v base off pl ic bs hem
  have H := hid (hem.lp8 (R' := 4) HE0.out (by omega))
  clear hem
  go_enter Tryz.func94, Tryz.ntmps94
  go_wp2_with fail
  refine H.out.mono ?_
  rintro e w2 ⟨rfl, hem⟩
  clear H
  have HM := hid hem
  clear hem
  go_wp2
  go_end0
  exact ⟨rfl, (HM.out.cast (by rfl)).less (by omega)⟩
set_option maxHeartbeats 2000000 in
theorem ch_e1 (hm : m < B) (hk : k < B) (he : ei < B) (hZ : ChSz t) : EmitsF 97 #[.pointer (some ⟨k, 0, none⟩)] B (ChE B m k ei cs t) (some t.ech) 8388608 := by
  have hmf : ∀ (fn : Fn) (first cap : Array Value) (w : World), (Instr.makeFunc fn first cap).run Tryz.prog w = .ok (.func fn first cap) w := fun _ _ _ _ => rfl
  refine EmitsF.mk (ChE.stable hm hk he) (by show (t.ech).length ≤ _; have := hZ.ech; omega) (by intro args w; kernel_rfl) ?_
  intro w1 q v base off pl ic bs hem
  obtain ⟨A9, c9, cc, hq⟩ := ChE.byt hem.F (i := 27) (l := t.ech) rfl
  have d0 := hem.F.ptr
  have H := hid (hem.bytes (R' := 0) hq (by have := hZ.ech; omega))
  clear hem
  go_enter Tryz.func97, Tryz.ntmps97
  go_wp2_with fail
  refine H.out.mono ?_
  rintro e w2 ⟨rfl, hem⟩
  clear H
  have HM := hid hem
  clear hem
  go_wp2
  go_end0
  exact ⟨rfl, (HM.out.cast (by rfl)).less (by omega)⟩
set_option maxHeartbeats 2000000 in
theorem ch_q1 (hm : m < B) (hk : k < B) (he : ei < B) (hZ : ChSz t) : EmitsF 96 #[.pointer (some ⟨k, 0, none⟩)] B (ChE B m k ei cs t) (some (if t.quic = true then t.qtp else [])) 8388608 := by
  have hmf : ∀ (fn : Fn) (first cap : Array Value) (w : World), (Instr.makeFunc fn first cap).run Tryz.prog w = .ok (.func fn first cap) w := fun _ _ _ _ => rfl
  refine EmitsF.mk (ChE.stable hm hk he) (by show (if t.quic = true then t.qtp else []).length ≤ _; have := hZ.qtp; split <;> simp <;> omega) (by intro args w; kernel_rfl) ?_
  intro w1 q v base off pl ic bs hem
  obtain ⟨A9, c9, hcs, -, hq⟩ := hem.F.2.2.2.cpy (i := 26) (has := t.quic) (l := if t.quic = true then t.qtp else []) rfl
  have hln : (if t.quic = true then t.qtp else []).length ≤ 1048576 := by have := hZ.qtp; split <;> simp <;> omega
  have cc := hem.F.cell hcs
  have d0 := hem.F.ptr
  generalize (if t.quic = true then t.qtp else []) = ys at cc hq hln hcs ⊢
  have H := hid (hem.bytes (R' := 0) hq (by omega))
  clear hem hcs hq hln
  go_enter Tryz.func96, Tryz.ntmps96
  go_wp2_with fail
  refine H.out.mono ?_
  rintro e w2 ⟨rfl, hem⟩
  have HM := hid hem
  clear hem H
  go_wp2
  go_end0
  exact ⟨rfl, HM.out⟩
set_option maxHeartbeats 2000000 in
theorem ch_o1 (hm : m < B) (hk : k < B) (he : ei < B) (hZ : ChSz t) : EmitsF 98 #[] B (ChE B m k ei cs t) (app (some [UInt8.ofNat 1]) (app (some (be 2 0)) (some (be 2 0)))) 8 := by
  have hmf : ∀ (fn : Fn) (first cap : Array Value) (w : World), (Instr.makeFunc fn first cap).run Tryz.prog w = .ok (.func fn first cap) w := fun _ _ _ _ => rfl
  refine EmitsF.mk (ChE.stable hm hk he) (by show ([UInt8.ofNat 1] ++ (be 2 0 ++ be 2 0)).length ≤ _; simp [be_len]) (by intro args w; kernel_rfl) ?_
  intro w1 q v base off pl ic bs hem
  have H := hid (hem.u8 (R' := 7) 1 (by omega) (by omega))
  clear hem
  go_enter Tryz.func98, Tryz.ntmps98
  go_wp2_with fail
  refine H.out.mono ?_
  rintro e w2 ⟨rfl, hem⟩
  clear H
  have H := hid (hem.u16 (R' := 5) 0 (by omega) (by omega))
  clear hem
  go_wp2_with fail
  refine H.out.mono ?_
  rintro e w2 ⟨rfl, hem⟩
  clear H
  have H := hid (hem.u16 (R' := 3) 0 (by omega) (by omega))
  clear hem
  go_wp2_with fail
  refine H.out.mono ?_
  rintro e w2 ⟨rfl, hem⟩
  clear H
  have HM := hid hem
  clear hem
  go_wp2
  go_end0
  exact ⟨rfl, (HM.out.cast (by simp only [app_assoc])).less (by omega)⟩
set_option maxHeartbeats 2000000 in
theorem ch_c2 (hm : m < B) (hk : k < B) (he : ei < B) (hZ : ChSz t) : EmitsF 100 #[.pointer (some ⟨k, 0, none⟩)] B (ChE B m k ei cs t) (some (wordsB t.curves)) 2097152 := by
  have hmf : ∀ (fn : Fn) (first cap : Array Value) (w : World), (Instr.makeFunc fn first cap).run Tryz.prog w = .ok (.func fn first cap) w := fun _ _ _ _ => rfl
  refine EmitsF.mk (ChE.stable hm hk he) (by show (wordsB t.curves).length ≤ _; have := wordsB_len t.curves; have := hZ.curves; omega) (by intro args w; kernel_rfl) ?_
  intro w1 q v base off pl ic bs hem
  obtain ⟨A9, c9, hcs⟩ := ChE.rowC hem.F (i := 8) (us := t.curves.map wv) rfl (n := t.curves.length) (by simp)
  have cc := hem.F.cell hcs
  have d0 := hem.F.ptr
  have HM := hid hem
  have HX := hid hZ.curves
  have HC := hid hcs
  have hlen : t.curves.length ≤ 9223372036854775807 := by have := hZ.curves; omega
  clear hem hcs hm hk he hZ
  go_enter Tryz.func100, Tryz.ntmps100
  go_wp2_with fail
  go_loopg [10] t.curves.length (fun gk i wr => ∃ j : Nat, j + gk = t.curves.length ∧ i = .int .i64 (j : Int) ∧ Em w1 q v base off pl ic B (ChE B m k ei cs t) (app (some bs) (some (wordsB (t.curves.take j)))) (2097152 - 2 * j) wr)
  case atStart => exact ⟨0, by omega, rfl, by simpa [wordsB, app_nil] using HM.out⟩
  case round =>
    obtain ⟨j, hj0, rfl, hem⟩ := hrel
    have HJ := hid hj0
    have HE := hid hem
    have hj : j ≤ t.curves.length := by omega
    clear hj0
    by_cases hlt : j < t.curves.length
    · obtain ⟨b, o, rfl, hb, hj', hcell⟩ := (hem.F.rowAt HC.out (us := t.curves.map wv) rfl).at_ hlt
      rw [List.getElem_map] at hcell
      have H := hid (hem.u16 (R' := 2097152 - 2 * (j + 1)) (t.curves[j]).toNat (t.curves[j]).toNat_lt (by have := HX.out; omega))
      have HS := hid (show app (app (some bs) (some (wordsB (t.curves.take j)))) (some (be 2 (t.curves[j]).toNat)) = app (some bs) (some (wordsB (t.curves.take (j + 1)))) by rw [app_assoc, List.take_succ_eq_append_getElem hlt, wordsB_snoc]; rfl)
      have hu := (t.curves[j]).toNat_lt
      clear hem
      go_wp2_with fail
      refine H.out.mono ?_
      rintro e w2 ⟨rfl, hem⟩
      clear H
      go_wp2
      have hj0 := HJ.out
      go_roundg (t.curves.length - (j + 1))
      case measure => omega
      case rel => exact ⟨j + 1, by omega, by go_num, hem.cast HS.out⟩
    · obtain rfl : j = t.curves.length := by have := HJ.out; omega
      clear hem
      go_wp2
      go_end0
      exact ⟨rfl, (HE.out.cast (by rw [List.take_length])).less (by omega)⟩
set_option maxHeartbeats 2000000 in
theorem ch_c1 (hm : m < B) (hk : k < B) (he : ei < B) (hZ : ChSz t) : EmitsF 99 #[.pointer (some ⟨k, 0, none⟩)] B (ChE B m k ei cs t) (lpOut 2 (some (wordsB t.curves))) 2097160 := by
  have HE0 := hid (ch_c2 (cs := cs) (t := t) hm hk he hZ)
  have hmf : ∀ (fn : Fn) (first cap : Array Value) (w : World), (Instr.makeFunc fn first cap).run Tryz.prog w = .ok (.func fn first cap) w := fun _ _ _ _ => rfl
  refine EmitsF.mk (ChE.stable hm hk he) (by have h1 := olen_lp 2 (by omega) (some (wordsB t.curves)); have h2 := (ch_c2 (cs := cs) (t := t) hm hk he hZ).1; omega) (by intro args w; kernel_rfl) ?_
  intro w1 q v base off pl ic bs hem
  have H := hid (hem.lp16 (R' := 4) HE0.out (by omega))
  clear hem
  go_enter Tryz.func99, Tryz.ntmps99
  go_wp2_with fail
  refine H.out.mono ?_
  rintro e w2 ⟨rfl, hem⟩
  clear H
  have HM := hid hem
  clear hem
  go_wp2
  go_end0
  exact ⟨rfl, (HM.out.cast (by rfl)).less (by omega)⟩
set_option maxHeartbeats 2000000 in
theorem ch_s2 (hm : m < B) (hk : k < B) (he : ei < B) (hZ : ChSz t) : EmitsF 102 #[.pointer (some ⟨k, 0, none⟩)] B (ChE B m k ei cs t) (some (wordsB t.sig)) 2097152 := by
  have hmf : ∀ (fn : Fn) (first cap : Array Value) (w : World), (Instr.makeFunc fn first cap).run Tryz.prog w = .ok (.func fn first cap) w := fun _ _ _ _ => rfl
  refine EmitsF.mk (ChE.stable hm hk he) (by show (wordsB t.sig).length ≤ _; have := wordsB_len t.sig; have := hZ.sig; omega) (by intro args w; kernel_rfl) ?_
  intro w1 q v base off pl ic bs hem
  obtain ⟨A9, c9, hcs⟩ := ChE.rowC hem.F (i := 12) (us := t.sig.map wv) rfl (n := t.sig.length) (by simp)
  have cc := hem.F.cell hcs
  have d0 := hem.F.ptr
  have HM := hid hem
  have HX := hid hZ.sig
  have HC := hid hcs
  have hlen : t.sig.length ≤ 9223372036854775807 := by have := hZ.sig; omega
  clear hem hcs hm hk he hZ
  go_enter Tryz.func102, Tryz.ntmps102
  go_wp2_with fail
  go_loopg [10] t.sig.length (fun gk i wr => ∃ j : Nat, j + gk = t.sig.length ∧ i = .int .i64 (j : Int) ∧ Em w1 q v base off pl ic B (ChE B m k ei cs t) (app (some bs) (some (wordsB (t.sig.take j)))) (2097152 - 2 * j) wr)
  case atStart => exact ⟨0, by omega, rfl, by simpa [wordsB, app_nil] using HM.out⟩
  case round =>
    obtain ⟨j, hj0, rfl, hem⟩ := hrel
    have HJ := hid hj0
    have HE := hid hem
    have hj : j ≤ t.sig.length := by omega
    clear hj0
    by_cases hlt : j < t.sig.length
    · obtain ⟨b, o, rfl, hb, hj', hcell⟩ := (hem.F.rowAt HC.out (us := t.sig.map wv) rfl).at_ hlt
      rw [List.getElem_map] at hcell
      have H := hid (hem.u16 (R' := 2097152 - 2 * (j + 1)) (t.sig[j]).toNat (t.sig[j]).toNat_lt (by have := HX.out; omega))
      have HS := hid (show app (app (some bs) (some (wordsB (t.sig.take j)))) (some (be 2 (t.sig[j]).toNat)) = app (some bs) (some (wordsB (t.sig.take (j + 1)))) by rw [app_assoc, List.take_succ_eq_append_getElem hlt, wordsB_snoc]; rfl)
      have hu := (t.sig[j]).toNat_lt
      clear hem
      go_wp2_with fail
      refine H.out.mono ?_
      rintro e w2 ⟨rfl, hem⟩
      clear H
      go_wp2
      have hj0 := HJ.out
      go_roundg (t.sig.length - (j + 1))
      case measure => omega
      case rel => exact ⟨j + 1, by omega, by go_num, hem.cast HS.out⟩
    · obtain rfl : j = t.sig.length := by have := HJ.out; omega
      clear hem
      go_wp2
      go_end0
      exact ⟨rfl, (HE.out.cast (by rw [List.take_length])).less (by omega)⟩
set_option maxHeartbeats 2000000 in
theorem ch_s1 (hm : m < B) (hk : k < B) (he : ei < B) (hZ : ChSz t) : EmitsF 101 #[.pointer (some ⟨k, 0, none⟩)] B (ChE B m k ei cs t) (lpOut 2 (some (wordsB t.sig))) 2097160 := by
  have HE0 := hid (ch_s2 (cs := cs) (t := t) hm hk he hZ)
  have hmf : ∀ (fn : Fn) (first cap : Array Value) (w : World), (Instr.makeFunc fn first cap).run Tryz.prog w = .ok (.func fn first cap) w := fun _ _ _ _ => rfl
  refine EmitsF.mk (ChE.stable hm hk he) (by have h1 := olen_lp 2 (by omega) (some (wordsB t.sig)); have h2 := (ch_s2 (cs := cs) (t := t) hm hk he hZ).1; omega) (by intro args w; kernel_rfl) ?_
  intro w1 q v base off pl ic bs hem
  have H := hid (hem.lp16 (R' := 4) HE0.out (by omega))
  clear hem
  go_enter Tryz.func101, Tryz.ntmps101
  go_wp2_with fail
  refine H.out.mono ?_
  rintro e w2 ⟨rfl, hem⟩
  clear H
  have HM := hid hem
  clear hem
  go_wp2
  go_end0
  exact ⟨rfl, (HM.out.cast (by rfl)).less (by omega)⟩
set_option maxHeartbeats 2000000 in
theorem ch_sc2 (hm : m < B) (hk : k < B) (he : ei < B) (hZ : ChSz t) : EmitsF 104 #[.pointer (some ⟨k, 0, none⟩)] B (ChE B m k ei cs t) (some (wordsB t.sigc)) 2097152 := by
  have hmf : ∀ (fn : Fn) (first cap : Array Value) (w : World), (Instr.makeFunc fn first cap).run Tryz.prog w = .ok (.func fn first cap) w := fun _ _ _ _ => rfl
  refine EmitsF.mk (ChE.stable hm hk he) (by show (wordsB t.sigc).length ≤ _; have := wordsB_len t.sigc; have := hZ.sigc; omega) (by intro args w; kernel_rfl) ?_
  intro w1 q v base off pl ic bs hem
  obtain ⟨A9, c9, hcs⟩ := ChE.rowC hem.F (i := 13) (us := t.sigc.map wv) rfl (n := t.sigc.length) (by simp)
  have cc := hem.F.cell hcs
  have d0 := hem.F.ptr
  have HM := hid hem
  have HX := hid hZ.sigc
  have HC := hid hcs
  have hlen : t.sigc.length ≤ 9223372036854775807 := by have := hZ.sigc; omega
  clear hem hcs hm hk he hZ
  go_enter Tryz.func104, Tryz.ntmps104
  go_wp2_with fail
  go_loopg [10] t.sigc.length (fun gk i wr => ∃ j : Nat, j + gk = t.sigc.length ∧ i = .int .i64 (j : Int) ∧ Em w1 q v base off pl ic B (ChE B m k ei cs t) (app (some bs) (some (wordsB (t.sigc.take j)))) (2097152 - 2 * j) wr)
  case atStart => exact ⟨0, by omega, rfl, by simpa [wordsB, app_nil] using HM.out⟩
  case round =>
    obtain ⟨j, hj0, rfl, hem⟩ := hrel
    have HJ := hid hj0
    have HE := hid hem
    have hj : j ≤ t.sigc.length := by omega
    clear hj0
    by_cases hlt : j < t.sigc.length
    · obtain ⟨b, o, rfl, hb, hj', hcell⟩ := (hem.F.rowAt HC.out (us := t.sigc.map wv) rfl).at_ hlt
      rw [List.getElem_map] at hcell
      have H := hid (hem.u16 (R' := 2097152 - 2 * (j + 1)) (t.sigc[j]).toNat (t.sigc[j]).toNat_lt (by have := HX.out; omega))
      have HS := hid (show app (app (some bs) (some (wordsB (t.sigc.take j)))) (some (be 2 (t.sigc[j]).toNat)) = app (some bs) (some (wordsB (t.sigc.take (j + 1)))) by rw [app_assoc, List.take_succ_eq_append_getElem hlt, wordsB_snoc]; rfl)
      have hu := (t.sigc[j]).toNat_lt
      clear hem
      go_wp2_with fail
      refine H.out.mono ?_
      rintro e w2 ⟨rfl, hem⟩
      clear H
      go_wp2
      have hj0 := HJ.out
      go_roundg (t.sigc.length - (j + 1))
      case measure => omega
      case rel => exact ⟨j + 1, by omega, by go_num, hem.cast HS.out⟩
    · obtain rfl : j = t.sigc.length := by have := HJ.out; omega
      clear hem
      go_wp2
      go_end0
      exact ⟨rfl, (HE.out.cast (by rw [List.take_length])).less (by omega)⟩
set_option maxHeartbeats 2000000 in
theorem ch_sc1 (hm : m < B) (hk : k < B) (he : ei < B) (hZ : ChSz t) : EmitsF 103 #[.pointer (some ⟨k, 0, none⟩)] B (ChE B m k ei cs t) (lpOut 2 (some (wordsB t.sigc))) 2097160 := by
  have HE0 := hid (ch_sc2 (cs := cs) (t := t) hm hk he hZ)
  have hmf : ∀ (fn : Fn) (first cap : Array Value) (w : World), (Instr.makeFunc fn first cap).run Tryz.prog w = .ok (.func fn first cap) w := fun _ _ _ _ => rfl
  refine EmitsF.mk (ChE.stable hm hk he) (by have h1 := olen_lp 2 (by omega) (some (wordsB t.sigc)); have h2 := (ch_sc2 (cs := cs) (t := t) hm hk he hZ).1; omega) (by intro args w; kernel_rfl) ?_
  intro w1 q v base off pl ic bs hem
  have H := hid (hem.lp16 (R' := 4) HE0.out (by omega))
  clear hem
  go_enter Tryz.func103, Tryz.ntmps103
  go_wp2_with fail
  refine H.out.mono ?_
  rintro e w2 ⟨rfl, hem⟩
  clear H
  have HM := hid hem
  clear hem
  go_wp2
  go_end0
  exact ⟨rfl, (HM.out.cast (by rfl)).less (by omega)⟩
set_option maxHeartbeats 2000000 in
theorem ch_v2 (hm : m < B) (hk : k < B) (he : ei < B) (hZ : ChSz t) : EmitsF 109 #[.pointer (some ⟨k, 0, none⟩)] B (ChE B m k ei cs t) (some (wordsB t.sv)) 2097152 := by
  have hmf : ∀ (fn : Fn) (first cap : Array Value) (w : World), (Instr.makeFunc fn first cap).run Tryz.prog w = .ok (.func fn first cap) w := fun _ _ _ _ => rfl
  refine EmitsF.mk (ChE.stable hm hk he) (by show (wordsB t.sv).length ≤ _; have := wordsB_len t.sv; have := hZ.sv; omega) (by intro args w; kernel_rfl) ?_
  intro w1 q v base off pl ic bs hem
  obtain ⟨A9, c9, hcs⟩ := ChE.rowC hem.F (i := 19) (us := t.sv.map wv) rfl (n := t.sv.length) (by simp)
  have cc := hem.F.cell hcs
  have d0 := hem.F.ptr
  have HM := hid hem
  have HX := hid hZ.sv
  have HC := hid hcs
  have hlen : t.sv.length ≤ 9223372036854775807 := by have := hZ.sv; omega
  clear hem hcs hm hk he hZ
  go_enter Tryz.func109, Tryz.ntmps109
  go_wp2_with fail
  go_loopg [10] t.sv.length (fun gk i wr => ∃ j : Nat, j + gk = t.sv.length ∧ i = .int .i64 (j : Int) ∧ Em w1 q v base off pl ic B (ChE B m k ei cs t) (app (some bs) (some (wordsB (t.sv.take j)))) (2097152 - 2 * j) wr)
  case atStart => exact ⟨0, by omega, rfl, by simpa [wordsB, app_nil] using HM.out⟩
  case round =>
    obtain ⟨j, hj0, rfl, hem⟩ := hrel
    have HJ := hid hj0
    have HE := hid hem
    have hj : j ≤ t.sv.length := by omega
    clear hj0
    by_cases hlt : j < t.sv.length
    · obtain ⟨b, o, rfl, hb, hj', hcell⟩ := (hem.F.rowAt HC.out (us := t.sv.map wv) rfl).at_ hlt
      rw [List.getElem_map] at hcell
      have H := hid (hem.u16 (R' := 2097152 - 2 * (j + 1)) (t.sv[j]).toNat (t.sv[j]).toNat_lt (by have := HX.out; omega))
      have HS := hid (show app (app (some bs) (some (wordsB (t.sv.take j)))) (some (be 2 (t.sv[j]).toNat)) = app (some bs) (some (wordsB (t.sv.take (j + 1)))) by rw [app_assoc, List.take_succ_eq_append_getElem hlt, wordsB_snoc]; rfl)
      have hu := (t.sv[j]).toNat_lt
      clear hem
      go_wp2_with fail
      refine H.out.mono ?_
      rintro e w2 ⟨rfl, hem⟩
      clear H
      go_wp2
      have hj0 := HJ.out
      go_roundg (t.sv.length - (j + 1))
      case measure => omega
      case rel => exact ⟨j + 1, by omega, by go_num, hem.cast HS.out⟩
    · obtain rfl : j = t.sv.length := by have := HJ.out; omega
      clear hem
      go_wp2
      go_end0
      exact ⟨rfl, (HE.out.cast (by rw [List.take_length])).less (by omega)⟩
set_option maxHeartbeats 2000000 in
theorem ch_v1 (hm : m < B) (hk : k < B) (he : ei < B) (hZ : ChSz t) : EmitsF 108 #[.pointer (some ⟨k, 0, none⟩)] B (ChE B m k ei cs t) (lpOut 1 (some (wordsB t.sv))) 2097160 := by
  have HE0 := hid (ch_v2 (cs := cs) (t := t) hm hk he hZ)
  have hmf : ∀ (fn : Fn) (first cap : Array Value) (w : World), (Instr.makeFunc fn first cap).run Tryz.prog w = .ok (.func fn first cap) w := fun _ _ _ _ => rfl
  refine EmitsF.mk (ChE.stable hm hk he) (by have h1 := olen_lp 1 (by omega) (some (wordsB t.sv)); have h2 := (ch_v2 (cs := cs) (t := t) hm hk he hZ).1; omega) (by intro args w; kernel_rfl) ?_
  intro w1 q v base off pl ic bs hem
  have H := hid (hem.lp8 (R' := 4) HE0.out (by omega))
  clear hem
  go_enter Tryz.func108, Tryz.ntmps108
  go_wp2_with fail
  refine H.out.mono ?_
  rintro e w2 ⟨rfl, hem⟩
  clear H
  have HM := hid hem
  clear hem
  go_wp2
  go_end0
  exact ⟨rfl, (HM.out.cast (by rfl)).less (by omega)⟩
set_option maxHeartbeats 2000000 in
theorem ch_proto {S : List Nat} {g : Nat} {x : List UInt8} (hg : Blk w g 9 #[strv x]) (hS : ∀ y ∈ S, B ≤ y ∧ y ≠ g) (hx : x.length ≤ 1048576) : Emits 107 #[.pointer (some ⟨g, 0, none⟩)] S w (some x) x.length := by
  intro w1 hu base q v off pl ic bs hb hi hq hv hl
  have hg1 := hg.upd hu (fun h => (hS _ h).2 rfl)
  have d0 : w1.cell? ⟨g, 0, none⟩ = some (strv x) := hg1.cell 0
  have HB := hid hb
  have HL := hid hl
  have hlen : x.length ≤ 9223372036854775807 := by omega
  clear hg hg1 hu hi hq hv hl hS hb
  go_enter Tryz.func107, Tryz.ntmps107
  go_wp2_with (refine wpList_conv_string 9 23 _ rfl Tryz.underlying9 Tryz.underlying23 rfl rfl hlen ?_; intro wN A9 c9 hyN huN hnN)
  have hbN : Bld wN base q v off pl ic bs := (show BS w1 base q v off pl ic (some bs) from HB.out).upd huN (by simp) (by simp)
  have hqlt : q < w1.heap.size := by obtain ⟨cs, hbl⟩ := (show BS w1 base q v off pl ic (some bs) from HB.out).isBlk; exact hbl.lt
  refine (AddBytes_any (st := some bs) hbN ⟨_, hyN, .inr fun k hk => ⟨by have := (hnN k hk).1; omega, fun h => by have := (Own.ge HB.out.2.2 h).2; have := (hnN k hk).1; omega⟩⟩ (by have := HL.out; show bs.length ≤ _; omega) (by omega)).mono ?_
  intro e w2 hp0
  have hp := BSP.after (huN.mono (by simp)) (.inl rfl) hp0
  clear hp0
  obtain ⟨he, hp⟩ := hp
  subst he
  clear hyN huN hnN hbN hqlt
  go_wp2
  go_end0
  exact ⟨rfl, hp⟩
set_option maxHeartbeats 2000000 in
theorem ch_kd {S : List Nat} {g : Nat} {u u1 : Value} {x : List UInt8} (hg : Blk w g 108 #[u1, u]) (hy : Byt w B u x) (hS : ∀ y ∈ S, B ≤ y ∧ y ≠ g) (hBw : B ≤ w.heap.size) (hx : x.length ≤ 1048576) : Emits 114 #[.pointer (some ⟨g, 0, none⟩)] S w (some x) x.length := by
  refine captured_bytes hg hy hS hBw ?_ (by omega)
  rintro w1 q base off pl v ic bs A c rfl hg1 H
  have d0 := hg1.cell 1
  simp at d0
  have H := hid H
  clear hg hg1 hy hS
  go_enter Tryz.func114, Tryz.ntmps114
  go_wp2_with fail
  refine H.out.mono ?_
  intro e w2 hp
  obtain ⟨he, hp⟩ := hp
  subst he
  go_wp2
  go_end0
  exact ⟨rfl, hp⟩
set_option maxHeartbeats 2000000 in
theorem ch_pl {S : List Nat} {g : Nat} {u u1 : Value} {x : List UInt8} (hg : Blk w g 110 #[u, u1]) (hy : Byt w B u x) (hS : ∀ y ∈ S, B ≤ y ∧ y ≠ g) (hBw : B ≤ w.heap.size) (hx : x.length ≤ 1048576) : Emits 122 #[.pointer (some ⟨g, 0, none⟩)] S w (some x) x.length := by
  refine captured_bytes hg hy hS hBw ?_ (by omega)
  rintro w1 q base off pl v ic bs A c rfl hg1 H
  have d0 := hg1.cell 0
  simp at d0
  have H := hid H
  clear hg hg1 hy hS
  go_enter Tryz.func122, Tryz.ntmps122
  go_wp2_with fail
  refine H.out.mono ?_
  intro e w2 hp
  obtain ⟨he, hp⟩ := hp
  subst he
  go_wp2
  go_end0
  exact ⟨rfl, hp⟩
set_option maxHeartbeats 2000000 in
theorem ch_pb {S : List Nat} {g : Nat} {u u1 : Value} {x : List UInt8} (hg : Blk w g 23 #[u]) (hy : Byt w B u x) (hS : ∀ y ∈ S, B ≤ y ∧ y ≠ g) (hBw : B ≤ w.heap.size) (hx : x.length ≤ 1048576) : Emits 125 #[.pointer (some ⟨g, 0, none⟩)] S w (some x) x.length := by
  refine captured_bytes hg hy hS hBw ?_ (by omega)
  rintro w1 q base off pl v ic bs A c rfl hg1 H
  have d0 := hg1.cell 0
  simp at d0
  have H := hid H
  clear hg hg1 hy hS
  go_enter Tryz.func125, Tryz.ntmps125
  go_wp2_with fail
  refine H.out.mono ?_
  intro e w2 hp
  obtain ⟨he, hp⟩ := hp
  subst he
  go_wp2
  go_end0
  exact ⟨rfl, hp⟩
set_option maxHeartbeats 2000000 in
theorem ch_a2 (hm : m < B) (hk : k < B) (he : ei < B) (hZ : ChSz t) : EmitsF 106 #[.pointer (some ⟨k, 0, none⟩)] B (ChE B m k ei cs t) (ofW (vecsW 1 t.alpn)) 8388608 := by
  have hmf : ∀ (fn : Fn) (first cap : Array Value) (w : World), (Instr.makeFunc fn first cap).run Tryz.prog w = .ok (.func fn first cap) w := fun _ _ _ _ => rfl
  refine EmitsF.mk (ChE.stable hm hk he) (Nat.le_trans (olen_vecs 1 t.alpn) (by have := vecsB_lst 1 t.alpn; have := hZ.alpn; omega)) (by intro args w; kernel_rfl) ?_
  intro w1 q v base off pl ic bs hem
  obtain ⟨A9, c9, hcs⟩ := ChE.rowC hem.F (i := 17) (us := t.alpn.map strv) rfl (n := t.alpn.length) (by simp)
  have cc := hem.F.cell hcs
  have d0 := hem.F.ptr
  have HM := hid (hem.less (R' := cVec t.alpn) (by have := hZ.valpn; omega))
  have HX := hid hZ
  have HC := hid hcs
  have hlen : (t.alpn).length ≤ 9223372036854775807 := by have h1 := cVec_len t.alpn; have := hZ.valpn; omega
  clear hem hcs hm hk he hZ
  go_enter Tryz.func106, Tryz.ntmps106
  go_wp2_with fail
  go_loopg [10] (t.alpn).length (fun gk i wr => ∃ j : Nat, j + gk = (t.alpn).length ∧ i = .int .i64 (j : Int) ∧ Em w1 q v base off pl ic B (ChE B m k ei cs t) (app (some bs) (ofW (vecsW 1 (t.alpn.take j)))) (cVec ((t.alpn).drop j)) wr)
  case atStart => exact ⟨0, by omega, rfl, by have h : ofW (vecsW 1 (t.alpn.take 0)) = some [] := rfl; rw [h, app_nil]; exact HM.out⟩
  case round =>
    obtain ⟨j, hj0, rfl, hem⟩ := hrel
    have HJ := hid hj0
    have HE := hid hem
    have hj : j ≤ (t.alpn).length := by omega
    clear hj0
    by_cases hlt : j < (t.alpn).length
    · have hcost : cVec ((t.alpn).drop j) = _ + cVec ((t.alpn).drop (j + 1)) := sum_drop _ _ j hlt
      obtain ⟨b, o, rfl, hb, hj', hcell⟩ := (hem.F.rowAt HC.out (us := t.alpn.map strv) rfl).at_ hlt
      rw [List.getElem_map] at hcell
      have hxl : (t.alpn[j]).length ≤ 1048576 := by have := lstSz_mem (List.getElem_mem hlt); have := HX.out.alpn; omega
      obtain ⟨g, hg⟩ : ∃ g, wr.heap.size = g := ⟨_, rfl⟩
      have hql := hem.lt
      have hB := Nat.le_trans hem.B1 hem.size
      have hA := hem.new ((Upd.refl [] wr).alloc (.cells #[strv t.alpn[j]] 9))
      have hbk : Blk (wr.alloc (.cells #[strv t.alpn[j]] 9)) g 9 #[strv t.alpn[j]] := by rw [← hg]; exact Blk.new _ _ _
      have HG := hid hg
      have HS := hid (show app (app (some bs) (ofW (vecsW 1 (t.alpn.take j)))) (lpOut 1 (some t.alpn[j])) = app (some bs) (ofW (vecsW 1 (t.alpn.take (j + 1)))) by rw [app_assoc, app_vecs, ← List.take_succ_eq_append_getElem hlt])
      have H := hid (hA.lp8g (R' := cVec (t.alpn.drop (j + 1))) (fid := 107) (out := some t.alpn[j]) (need := (t.alpn[j]).length) hbk (by decide) (by omega) (by intro args w; kernel_rfl) (Nat.le_refl _) (fun S hS => ch_proto hbk hS hxl) (by omega))
      clear hem hA hbk hql hB hcost hxl hg
      go_wp2_with fail
      rw [HG.out]
      refine H.out.mono ?_
      rintro e w2 ⟨⟨rfl, hem⟩, -⟩
      clear H
      go_wp2
      have hj0 := HJ.out
      go_roundg ((t.alpn).length - (j + 1))
      case measure => omega
      case rel => exact ⟨j + 1, by omega, by go_num, hem.cast HS.out⟩
    · obtain rfl : j = (t.alpn).length := by have := HJ.out; omega
      clear hem
      go_wp2
      go_end0
      exact ⟨rfl, (HE.out.cast (by rw [List.take_length])).less (Nat.zero_le _)⟩
set_option maxHeartbeats 2000000 in
theorem ch_a1 (hm : m < B) (hk : k < B) (he : ei < B) (hZ : ChSz t) : EmitsF 105 #[.pointer (some ⟨k, 0, none⟩)] B (ChE B m k ei cs t) (lpOut 2 (ofW (vecsW 1 t.alpn))) 8388616 := by
  have HE0 := hid (ch_a2 (cs := cs) (t := t) hm hk he hZ)
  have hmf : ∀ (fn : Fn) (first cap : Array Value) (w : World), (Instr.makeFunc fn first cap).run Tryz.prog w = .ok (.func fn first cap) w := fun _ _ _ _ => rfl
  refine EmitsF.mk (ChE.stable hm hk he) (by have h1 := olen_lp 2 (by omega) (ofW (vecsW 1 t.alpn)); have h2 := (ch_a2 (cs := cs) (t := t) hm hk he hZ).1; omega) (by intro args w; kernel_rfl) ?_
  intro w1 q v base off pl ic bs hem
  have H := hid (hem.lp16 (R' := 4) HE0.out (by omega))
  clear hem
  go_enter Tryz.func105, Tryz.ntmps105
  go_wp2_with fail
  refine H.out.mono ?_
  rintro e w2 ⟨rfl, hem⟩
  clear H
  have HM := hid hem
  clear hem
  go_wp2
  go_end0
  exact ⟨rfl, (HM.out.cast (by rfl)).less (by omega)⟩
set_option maxHeartbeats 2000000 in
theorem ch_k2 (hm : m < B) (hk : k < B) (he : ei < B) (hZ : ChSz t) : EmitsF 111 #[.pointer (some ⟨k, 0, none⟩)] B (ChE B m k ei cs t) (some t.cookie) 8388608 := by
  have hmf : ∀ (fn : Fn) (first cap : Array Value) (w : World), (Instr.makeFunc fn first cap).run Tryz.prog w = .ok (.func fn first cap) w := fun _ _ _ _ => rfl
  refine EmitsF.mk (ChE.stable hm hk he) (by show (t.cookie).length ≤ _; have := hZ.cookie; omega) (by intro args w; kernel_rfl) ?_
  intro w1 q v base off pl ic bs hem
  obtain ⟨A9, c9, cc, hq⟩ := ChE.byt hem.F (i := 20) (l := t.cookie) rfl
  have d0 := hem.F.ptr
  have H := hid (hem.bytes (R' := 0) hq (by have := hZ.cookie; omega))
  clear hem
  go_enter Tryz.func111, Tryz.ntmps111
  go_wp2_with fail
  refine H.out.mono ?_
  rintro e w2 ⟨rfl, hem⟩
  clear H
  have HM := hid hem
  clear hem
  go_wp2
  go_end0
  exact ⟨rfl, (HM.out.cast (by rfl)).less (by omega)⟩
set_option maxHeartbeats 2000000 in
theorem ch_k1 (hm : m < B) (hk : k < B) (he : ei < B) (hZ : ChSz t) : EmitsF 110 #[.pointer (some ⟨k, 0, none⟩)] B (ChE B m k ei cs t) (lpOut 2 (some t.cookie)) 8388616 := by
  have HE0 := hid (ch_k2 (cs := cs) (t := t) hm hk he hZ)
  have hmf : ∀ (fn : Fn) (first cap : Array Value) (w : World), (Instr.makeFunc fn first cap).run Tryz.prog w = .ok (.func fn first cap) w := fun _ _ _ _ => rfl
  refine EmitsF.mk (ChE.stable hm hk he) (by have h1 := olen_lp 2 (by omega) (some t.cookie); have h2 := (ch_k2 (cs := cs) (t := t) hm hk he hZ).1; omega) (by intro args w; kernel_rfl) ?_
  intro w1 q v base off pl ic bs hem
  have H := hid (hem.lp16 (R' := 4) HE0.out (by omega))
  clear hem
  go_enter Tryz.func110, Tryz.ntmps110
  go_wp2_with fail
  refine H.out.mono ?_
  rintro e w2 ⟨rfl, hem⟩
  clear H
  have HM := hid hem
  clear hem
  go_wp2
  go_end0
  exact ⟨rfl, (HM.out.cast (by rfl)).less (by omega)⟩
set_option maxHeartbeats 2000000 in
theorem ch_ks2 (hm : m < B) (hk : k < B) (he : ei < B) (hZ : ChSz t) : EmitsF 113 #[.pointer (some ⟨k, 0, none⟩)] B (ChE B m k ei cs t) (ofW (kshW (chKs t))) 8388608 := by
  have hmf : ∀ (fn : Fn) (first cap : Array Value) (w : World), (Instr.makeFunc fn first cap).run Tryz.prog w = .ok (.func fn first cap) w := fun _ _ _ _ => rfl
  refine EmitsF.mk (ChE.stable hm hk he) (Nat.le_trans (olen_ofW (kshW (chKs t))) (Nat.le_trans (kshB_cost (chKs t)) hZ.vks)) (by intro args w; kernel_rfl) ?_
  intro w1 q v base off pl ic bs hem
  obtain ⟨A9, c9, hcs⟩ := hem.F.prsC (i := 21) rfl (n := (chKs t).length) (by simp [ksC, chKs])
  have cc := hem.F.cell hcs
  have d0 := hem.F.ptr
  have HM := hid (hem.less (R' := cKsh (chKs t)) (by have := hZ.vks; omega))
  have HX := hid hZ
  have HC := hid hcs
  have hlen : ((chKs t)).length ≤ 9223372036854775807 := by have h1 := cKsh_len (chKs t); have := hZ.vks; omega
  clear hem hcs hm hk he hZ
  go_enter Tryz.func113, Tryz.ntmps113
  go_wp2_with fail
  go_loopg [10] ((chKs t)).length (fun gk i wr => ∃ j : Nat, j + gk = ((chKs t)).length ∧ i = .int .i64 (j : Int) ∧ Em w1 q v base off pl ic B (ChE B m k ei cs t) (app (some bs) (ofW (kshW ((chKs t).take j)))) (cKsh (((chKs t)).drop j)) wr)
  case atStart => exact ⟨0, by omega, rfl, by have h : ofW (kshW ((chKs t).take 0)) = some [] := rfl; rw [h, app_nil]; exact HM.out⟩
  case round =>
    obtain ⟨j, hj0, rfl, hem⟩ := hrel
    have HJ := hid hj0
    have HE := hid hem
    have hj : j ≤ ((chKs t)).length := by omega
    clear hj0
    by_cases hlt : j < ((chKs t)).length
    · have hcost : cKsh (((chKs t)).drop j) = _ + cKsh (((chKs t)).drop (j + 1)) := sum_drop _ _ j hlt
      obtain ⟨b, o, rfl, hb, hj', x, y, hcx, hcy, h0, h1⟩ := (hem.F.prsAt HC.out rfl).at_ hlt
      have ek : (ksC t)[j]'(by simpa [ksC, chKs] using hlt) = (.val (wv ((chKs t)[j]).1), .byt ((chKs t)[j]).2) := by simp [ksC, chKs]
      rw [ek] at h0 h1
      obtain ⟨rfl, -⟩ := h0
      obtain ⟨A', c', rfl, hyy, -, -⟩ := Byt.form h1 rfl
      have hxl : ((chKs t)[j]).2.length ≤ 1048576 := Nat.le_trans (Nat.le_of_succ_le (lstSz_mem (List.of_mem_zip (List.getElem_mem hlt)).2)) HX.out.kd
      have hnl := ((chKs t)[j]).1.toNat_lt
      have HSB := hid hem.stab
      have hw := hem.word (F' := fun w => ChE B m k ei cs t w ∧ Byt w B (.slice A' ((chKs t)[j]).2.length c') (((chKs t)[j]).2)) (hem.stab.and (fun _ _ hb hf => Row.below hf hb)) ⟨hem.F, hyy⟩ hem.B1 hem.hq hem.hv
      obtain ⟨g, hg⟩ : ∃ g, wr.heap.size = g := ⟨_, rfl⟩
      have hql := hem.lt
      have hA := hw.new ((Upd.refl [] wr).alloc (.cells #[wv ((chKs t)[j]).1, .slice A' ((chKs t)[j]).2.length c'] 108))
      have hbk : Blk (wr.alloc (.cells #[wv ((chKs t)[j]).1, .slice A' ((chKs t)[j]).2.length c'] 108)) g 108 #[wv ((chKs t)[j]).1, .slice A' ((chKs t)[j]).2.length c'] := by rw [← hg]; exact Blk.new _ _ _
      have HG := hid hg
      have HQ := hid (show q ≠ g by omega)
      have HXL := hid hxl
      have HS := hid (show app (app (app (some bs) (ofW (kshW ((chKs t).take j)))) (some (be 2 ((chKs t)[j]).1.toNat))) (lpOut 2 (some ((chKs t)[j]).2)) = app (some bs) (ofW (kshW ((chKs t).take (j + 1)))) by rw [app_assoc, app_assoc, ← app_assoc (ofW _), app_ksh, ← List.take_succ_eq_append_getElem hlt])
      have H := hid (hA.u16v (R' := 4 + ((chKs t)[j]).2.length + cKsh ((chKs t).drop (j + 1))) hbk (by decide) (by omega) ((chKs t)[j]).1.toNat hnl (by omega))
      clear hem hw hA hbk hql hcost hg h1 hxl hyy
      go_wp2_with fail
      rw [HG.out]
      refine H.out.mono ?_
      rintro e w2 ⟨⟨rfl, hem⟩, hbk⟩
      clear H
      have hB2 := Nat.le_trans hem.B1 hem.size
      have d1 := hbk.cell 0
      simp at d1
      have H := hid (hem.lp16g (R' := cKsh ((chKs t).drop (j + 1))) (fid := 114) (out := some ((chKs t)[j]).2) (need := ((chKs t)[j]).2.length) hbk (by decide) HQ.out (by intro args w; kernel_rfl) (Nat.le_refl _)
        (fun S hS => ch_kd hbk hem.F.2 hS hB2 HXL.out) (by omega))
      clear hem hbk HQ HXL hB2
      go_wp2_with fail
      refine H.out.mono ?_
      rintro e w3 ⟨⟨rfl, hem⟩, -⟩
      replace hem := hem.word HSB.out hem.F.1 hem.B1 hem.hq hem.hv
      clear H d1
      go_wp2
      have hj0 := HJ.out
      go_roundg (((chKs t)).length - (j + 1))
      case measure => omega
      case rel => exact ⟨j + 1, by omega, by go_num, hem.cast HS.out⟩
    · obtain rfl : j = ((chKs t)).length := by have := HJ.out; omega
      clear hem
      go_wp2
      go_end0
      exact ⟨rfl, (HE.out.cast (by rw [List.take_length])).less (Nat.zero_le _)⟩
set_option maxHeartbeats 2000000 in
theorem ch_ks1 (hm : m < B) (hk : k < B) (he : ei < B) (hZ : ChSz t) : EmitsF 112 #[.pointer (some ⟨k, 0, none⟩)] B (ChE B m k ei cs t) (lpOut 2 (ofW (kshW (chKs t)))) 8388616 := by
  have HE0 := hid (ch_ks2 (cs := cs) (t := t) hm hk he hZ)
  have hmf : ∀ (fn : Fn) (first cap : Array Value) (w : World), (Instr.makeFunc fn first cap).run Tryz.prog w = .ok (.func fn first cap) w := fun _ _ _ _ => rfl
  refine EmitsF.mk (ChE.stable hm hk he) (by have h1 := olen_lp 2 (by omega) (ofW (kshW (chKs t))); have h2 := (ch_ks2 (cs := cs) (t := t) hm hk he hZ).1; omega) (by intro args w; kernel_rfl) ?_
  intro w1 q v base off pl ic bs hem
  have H := hid (hem.lp16 (R' := 4) HE0.out (by omega))
  clear hem
  go_enter Tryz.func112, Tryz.ntmps112
  go_wp2_with fail
  refine H.out.mono ?_
  rintro e w2 ⟨rfl, hem⟩
  clear H
  have HM := hid hem
  clear hem
  go_wp2
  go_end0
  exact ⟨rfl, (HM.out.cast (by rfl)).less (by omega)⟩
set_option maxHeartbeats 2000000 in
theorem ch_m2 (hm : m < B) (hk : k < B) (he : ei < B) (hZ : ChSz t) : EmitsF 116 #[.pointer (some ⟨k, 0, none⟩)] B (ChE B m k ei cs t) (some t.modes) 8388608 := by
  have hmf : ∀ (fn : Fn) (first cap : Array Value) (w : World), (Instr.makeFunc fn first cap).run Tryz.prog w = .ok (.func fn first cap) w := fun _ _ _ _ => rfl
  refine EmitsF.mk (ChE.stable hm hk he) (by show (t.modes).length ≤ _; have := hZ.modes; omega) (by intro args w; kernel_rfl) ?_
  intro w1 q v base off pl ic bs hem
  obtain ⟨A9, c9, cc, hq⟩ := ChE.byt hem.F (i := 23) (l := t.modes) rfl
  have d0 := hem.F.ptr
  have H := hid (hem.bytes (R' := 0) hq (by have := hZ.modes; omega))
  clear hem
  go_enter Tryz.func116, Tryz.ntmps116
  go_wp2_with fail
  refine H.out.mono ?_
  rintro e w2 ⟨rfl, hem⟩
  clear H
  have HM := hid hem
  clear hem
  go_wp2
  go_end0
  exact ⟨rfl, (HM.out.cast (by rfl)).less (by omega)⟩
set_option maxHeartbeats 2000000 in
theorem ch_m1 (hm : m < B) (hk : k < B) (he : ei < B) (hZ : ChSz t) : EmitsF 115 #[.pointer (some ⟨k, 0, none⟩)] B (ChE B m k ei cs t) (lpOut 1 (some t.modes)) 8388616 := by
  have HE0 := hid (ch_m2 (cs := cs) (t := t) hm hk he hZ)
  have hmf : ∀ (fn : Fn) (first cap : Array Value) (w : World), (Instr.makeFunc fn first cap).run Tryz.prog w = .ok (.func fn first cap) w := fun _ _ _ _ => rfl
  refine EmitsF.mk (ChE.stable hm hk he) (by have h1 := olen_lp 1 (by omega) (some t.modes); have h2 := (ch_m2 (cs := cs) (t := t) hm hk he hZ).1; omega) (by intro args w; kernel_rfl) ?_
  intro w1 q v base off pl ic bs hem
  have H := hid (hem.lp8 (R' := 4) HE0.out (by omega))
  clear hem
  go_enter Tryz.func115, Tryz.ntmps115
  go_wp2_with fail
  refine H.out.mono ?_
  rintro e w2 ⟨rfl, hem⟩
  clear H
  have HM := hid hem
  clear hem
  go_wp2
  go_end0
  exact ⟨rfl, (HM.out.cast (by rfl)).less (by omega)⟩
set_option maxHeartbeats 2000000 in
theorem ch_i2 (hm : m < B) (hk : k < B) (he : ei < B) (hZ : ChSz t) : EmitsF 121 #[.pointer (some ⟨k, 0, none⟩)] B (ChE B m k ei cs t) (ofW (identsW (chPs t))) 8388608 := by
  have hmf : ∀ (fn : Fn) (first cap : Array Value) (w : World), (Instr.makeFunc fn first cap).run Tryz.prog w = .ok (.func fn first cap) w := fun _ _ _ _ => rfl
  refine EmitsF.mk (ChE.stable hm hk he) (Nat.le_trans (olen_ofW (identsW (chPs t))) (Nat.le_trans (identsB_cost (chPs t)) hZ.vps)) (by intro args w; kernel_rfl) ?_
  intro w1 q v base off pl ic bs hem
  obtain ⟨A9, c9, hcs⟩ := hem.F.prsC (i := 24) rfl (n := (chPs t).length) (by simp [piC, chPs])
  have cc := hem.F.cell hcs
  have d0 := hem.F.ptr
  have HM := hid (hem.less (R' := cIds (chPs t)) (by have := hZ.vps; omega))
  have HX := hid hZ
  have HC := hid hcs
  have hlen : ((chPs t)).length ≤ 9223372036854775807 := by have h1 := cIds_len (chPs t); have := hZ.vps; omega
  clear hem hcs hm hk he hZ
  go_enter Tryz.func121, Tryz.ntmps121
  go_wp2_with fail
  go_loopg [10] ((chPs t)).length (fun gk i wr => ∃ j : Nat, j + gk = ((chPs t)).length ∧ i = .int .i64 (j : Int) ∧ Em w1 q v base off pl ic B (ChE B m k ei cs t) (app (some bs) (ofW (identsW ((chPs t).take j)))) (cIds (((chPs t)).drop j)) wr)
  case atStart => exact ⟨0, by omega, rfl, by have h : ofW (identsW ((chPs t).take 0)) = some [] := rfl; rw [h, app_nil]; exact HM.out⟩
  case round =>
    obtain ⟨j, hj0, rfl, hem⟩ := hrel
    have HJ := hid hj0
    have HE := hid hem
    have hj : j ≤ ((chPs t)).length := by omega
    clear hj0
    by_cases hlt : j < ((chPs t)).length
    · have hcost : cIds (((chPs t)).drop j) = _ + cIds (((chPs t)).drop (j + 1)) := sum_drop _ _ j hlt
      obtain ⟨b, o, rfl, hb, hj', x, y, hcx, hcy, h0, h1⟩ := (hem.F.prsAt HC.out rfl).at_ hlt
      have ek : (piC t)[j]'(by simpa [piC, chPs] using hlt) = (.byt ((chPs t)[j]).1, .val (uv ((chPs t)[j]).2)) := by simp [piC, chPs]
      rw [ek] at h0 h1
      obtain ⟨rfl, -⟩ := h1
      obtain ⟨A', c', rfl, hyy, -, -⟩ := Byt.form h0 rfl
      have hxl : ((chPs t)[j]).1.length ≤ 1048576 := Nat.le_trans (Nat.le_of_succ_le (lstSz_mem (List.of_mem_zip (List.getElem_mem hlt)).1)) HX.out.pl
      have hnl := ((chPs t)[j]).2.toNat_lt
      have HSB := hid hem.stab
      have hw := hem.word (F' := fun w => ChE B m k ei cs t w ∧ Byt w B (.slice A' ((chPs t)[j]).1.length c') (((chPs t)[j]).1)) (hem.stab.and (fun _ _ hb hf => Row.below hf hb)) ⟨hem.F, hyy⟩ hem.B1 hem.hq hem.hv
      obtain ⟨g, hg⟩ : ∃ g, wr.heap.size = g := ⟨_, rfl⟩
      have hql := hem.lt
      have hA := hw.new ((Upd.refl [] wr).alloc (.cells #[.slice A' ((chPs t)[j]).1.length c', uv ((chPs t)[j]).2] 110))
      have hbk : Blk (wr.alloc (.cells #[.slice A' ((chPs t)[j]).1.length c', uv ((chPs t)[j]).2] 110)) g 110 #[.slice A' ((chPs t)[j]).1.length c', uv ((chPs t)[j]).2] := by rw [← hg]; exact Blk.new _ _ _
      have HG := hid hg
      have HQ := hid (show q ≠ g by omega)
      have HXL := hid hxl
      have hB2 := Nat.le_trans hA.B1 hA.size
      have HS := hid (show app (app (app (some bs) (ofW (identsW ((chPs t).take j)))) (lpOut 2 (some ((chPs t)[j]).1))) (some (be 4 ((chPs t)[j]).2.toNat)) = app (some bs) (ofW (identsW ((chPs t).take (j + 1)))) by rw [app_assoc, app_assoc, ← app_assoc (ofW _), app_ids, ← List.take_succ_eq_append_getElem hlt])
      have H := hid (hA.lp16g (R' := 4 + cIds ((chPs t).drop (j + 1))) (fid := 122) (out := some ((chPs t)[j]).1) (need := ((chPs t)[j]).1.length) hbk (by decide) (by omega) (by intro args w; kernel_rfl) (Nat.le_refl _)
        (fun S hS => ch_pl hbk hA.F.2 hS hB2 HXL.out) (by omega))
      clear hem hw hA hbk hql hcost hg h0 hxl hyy hB2
      go_wp2_with fail
      rw [HG.out]
      refine H.out.mono ?_
      rintro e w2 ⟨⟨rfl, hem⟩, hbk⟩
      clear H
      have d1 := hbk.cell 1
      simp at d1
      have H := hid (hem.u32 (R' := cIds ((chPs t).drop (j + 1))) ((chPs t)[j]).2.toNat hnl (by omega))
      clear hem hbk HQ HXL
      go_wp2_with fail
      refine H.out.mono ?_
      rintro e w3 ⟨rfl, hem⟩
      replace hem := hem.word HSB.out hem.F.1 hem.B1 hem.hq hem.hv
      clear H d1
      go_wp2
      have hj0 := HJ.out
      go_roundg (((chPs t)).length - (j + 1))
      case measure => omega
      case rel => exact ⟨j + 1, by omega, by go_num, hem.cast HS.out⟩
    · obtain rfl : j = ((chPs t)).length := by have := HJ.out; omega
      clear hem
      go_wp2
      go_end0
      exact ⟨rfl, (HE.out.cast (by rw [List.take_length])).less (Nat.zero_le _)⟩
set_option maxHeartbeats 2000000 in
theorem ch_b2 (hm : m < B) (hk : k < B) (he : ei < B) (hZ : ChSz t) : EmitsF 124 #[.pointer (some ⟨k, 0, none⟩)] B (ChE B m k ei cs t) (ofW (vecsW 1 t.pb)) 8388608 := by
  have hmf : ∀ (fn : Fn) (first cap : Array Value) (w : World), (Instr.makeFunc fn first cap).run Tryz.prog w = .ok (.func fn first cap) w := fun _ _ _ _ => rfl
  refine EmitsF.mk (ChE.stable hm hk he) (Nat.le_trans (olen_vecs 1 t.pb) (by have := vecsB_lst 1 t.pb; have := hZ.pb; omega)) (by intro args w; kernel_rfl) ?_
  intro w1 q v base off pl ic bs hem
  obtain ⟨A9, c9, hcs⟩ := hem.F.lstC (i := 25) (ls := t.pb) rfl
  have cc := hem.F.cell hcs
  have d0 := hem.F.ptr
  have HM := hid (hem.less (R' := cVec t.pb) (by have := hZ.vpb; omega))
  have HX := hid hZ
  have HC := hid hcs
  have hlen : (t.pb).length ≤ 9223372036854775807 := by have h1 := cVec_len t.pb; have := hZ.vpb; omega
  clear hem hcs hm hk he hZ
  go_enter Tryz.func124, Tryz.ntmps124
  go_wp2_with fail
  go_loopg [10] (t.pb).length (fun gk i wr => ∃ j : Nat, j + gk = (t.pb).length ∧ i = .int .i64 (j : Int) ∧ Em w1 q v base off pl ic B (ChE B m k ei cs t) (app (some bs) (ofW (vecsW 1 (t.pb.take j)))) (cVec ((t.pb).drop j)) wr)
  case atStart => exact ⟨0, by omega, rfl, by have h : ofW (vecsW 1 (t.pb.take 0)) = some [] := rfl; rw [h, app_nil]; exact HM.out⟩
  case round =>
    obtain ⟨j, hj0, rfl, hem⟩ := hrel
    have HJ := hid hj0
    have HE := hid hem
    have hj : j ≤ (t.pb).length := by omega
    clear hj0
    by_cases hlt : j < (t.pb).length
    · have hcost : cVec ((t.pb).drop j) = _ + cVec ((t.pb).drop (j + 1)) := sum_drop _ _ j hlt
      obtain ⟨b, o, rfl, hb, hj', A', c', hcell, hy, hl1, hl2⟩ := (hem.F.lstAt HC.out (ls := t.pb) rfl).at_ hlt
      have hxl : (t.pb[j]).length ≤ 1048576 := by have := lstSz_mem (List.getElem_mem hlt); have := HX.out.pb; omega
      obtain ⟨g, hg⟩ : ∃ g, wr.heap.size = g := ⟨_, rfl⟩
      have hql := hem.lt
      have hB := Nat.le_trans hem.B1 hem.size
      have hA := hem.new ((Upd.refl [] wr).alloc (.cells #[Value.slice A' (t.pb[j]).length c'] 23))
      have hbk : Blk (wr.alloc (.cells #[Value.slice A' (t.pb[j]).length c'] 23)) g 23 #[Value.slice A' (t.pb[j]).length c'] := by rw [← hg]; exact Blk.new _ _ _
      have HG := hid hg
      have HS := hid (show app (app (some bs) (ofW (vecsW 1 (t.pb.take j)))) (lpOut 1 (some t.pb[j])) = app (some bs) (ofW (vecsW 1 (t.pb.take (j + 1)))) by rw [app_assoc, app_vecs, ← List.take_succ_eq_append_getElem hlt])
      have hB2 := Nat.le_trans hA.B1 hA.size
      have H := hid (hA.lp8g (R' := cVec (t.pb.drop (j + 1))) (fid := 125) (out := some t.pb[j]) (need := (t.pb[j]).length) hbk (by decide) (by omega) (by intro args w; kernel_rfl) (Nat.le_refl _) (fun S hS => ch_pb (u1 := .nilIface) hbk (Row.alloc hy _) hS hB2 hxl) (by omega))
      clear hem hA hbk hql hB hcost hxl hg hy hB2
      go_wp2_with fail
      rw [HG.out]
      refine H.out.mono ?_
      rintro e w2 ⟨⟨rfl, hem⟩, -⟩
      clear H
      go_wp2
      have hj0 := HJ.out
      go_roundg ((t.pb).length - (j + 1))
      case measure => omega
      case rel => exact ⟨j + 1, by omega, by go_num, hem.cast HS.out⟩
    · obtain rfl : j = (t.pb).length := by have := HJ.out; omega
      clear hem
      go_wp2
      go_end0
      exact ⟨rfl, (HE.out.cast (by rw [List.take_length])).less (Nat.zero_le _)⟩
set_option maxHeartbeats 2000000 in
theorem ch_psk (hm : m < B) (hk : k < B) (he : ei < B) (hZ : ChSz t) : EmitsF 120 #[.pointer (some ⟨k, 0, none⟩)] B (ChE B m k ei cs t) (app (lpOut 2 (ofW (identsW (chPs t)))) (lpOut 2 (ofW (vecsW 1 t.pb)))) 16777232 := by
  have HE0 := hid (ch_i2 (cs := cs) (t := t) hm hk he hZ)
  have HE1 := hid (ch_b2 (cs := cs) (t := t) hm hk he hZ)
  have hmf : ∀ (fn : Fn) (first cap : Array Value) (w : World), (Instr.makeFunc fn first cap).run Tryz.prog w = .ok (.func fn first cap) w := fun _ _ _ _ => rfl
  refine EmitsF.mk (ChE.stable hm hk he) (by have h1 := olen_lp 2 (by omega) (ofW (identsW (chPs t))); have h2 := olen_lp 2 (by omega) (ofW (vecsW 1 t.pb)); have h3 := olen_app (lpOut 2 (ofW (identsW (chPs t)))) (lpOut 2 (ofW (vecsW 1 t.pb))); have h4 := (ch_i2 (cs := cs) (t := t) hm hk he hZ).1; have h5 := (ch_b2 (cs := cs) (t := t) hm hk he hZ).1; omega) (by intro args w; kernel_rfl) ?_
  intro w1 q v base off pl ic bs hem
  have H := hid (hem.lp16 (R' := 8388620) HE0.out (by omega))
  clear hem
  go_enter Tryz.func120, Tryz.ntmps120
  go_wp2_with fail
  refine H.out.mono ?_
  rintro e w2 ⟨rfl, hem⟩
  clear H
  have H := hid (hem.lp16 (R' := 8) HE1.out (by omega))
  clear hem
  go_wp2_with fail
  refine H.out.mono ?_
  rintro e w2 ⟨rfl, hem⟩
  clear H
  have HM := hid hem
  clear hem
  go_wp2
  go_end0
  exact ⟨rfl, (HM.out.cast (by simp only [app_assoc])).less (by omega)⟩
set_option maxHeartbeats 2000000 in
theorem ch_y2 (hm : m < B) (hk : k < B) (he : ei < B) (hZ : ChSz t) : EmitsF 131 #[.pointer (some ⟨k, 0, none⟩)] B (ChE B m k ei cs t) (some (wordsB t.suites)) 2097152 := by
  have hmf : ∀ (fn : Fn) (first cap : Array Value) (w : World), (Instr.makeFunc fn first cap).run Tryz.prog w = .ok (.func fn first cap) w := fun _ _ _ _ => rfl
  refine EmitsF.mk (ChE.stable hm hk he) (by show (wordsB t.suites).length ≤ _; have := wordsB_len t.suites; have := hZ.suites; omega) (by intro args w; kernel_rfl) ?_
  intro w1 q v base off pl ic bs hem
  obtain ⟨A9, c9, hcs⟩ := ChE.rowC hem.F (i := 4) (us := t.suites.map wv) rfl (n := t.suites.length) (by simp)
  have cc := hem.F.cell hcs
  have d0 := hem.F.ptr
  have HM := hid hem
  have HX := hid hZ.suites
  have HC := hid hcs
  have hlen : t.suites.length ≤ 9223372036854775807 := by have := hZ.suites; omega
  clear hem hcs hm hk he hZ
  go_enter Tryz.func131, Tryz.ntmps131
  go_wp2_with fail
  go_loopg [10] t.suites.length (fun gk i wr => ∃ j : Nat, j + gk = t.suites.length ∧ i = .int .i64 (j : Int) ∧ Em w1 q v base off pl ic B (ChE B m k ei cs t) (app (some bs) (some (wordsB (t.suites.take j)))) (2097152 - 2 * j) wr)
  case atStart => exact ⟨0, by omega, rfl, by simpa [wordsB, app_nil] using HM.out⟩
  case round =>
    obtain ⟨j, hj0, rfl, hem⟩ := hrel
    have HJ := hid hj0
    have HE := hid hem
    have hj : j ≤ t.suites.length := by omega
    clear hj0
    by_cases hlt : j < t.suites.length
    · obtain ⟨b, o, rfl, hb, hj', hcell⟩ := (hem.F.rowAt HC.out (us := t.suites.map wv) rfl).at_ hlt
      rw [List.getElem_map] at hcell
      have H := hid (hem.u16 (R' := 2097152 - 2 * (j + 1)) (t.suites[j]).toNat (t.suites[j]).toNat_lt (by have := HX.out; omega))
      have HS := hid (show app (app (some bs) (some (wordsB (t.suites.take j)))) (some (be 2 (t.suites[j]).toNat)) = app (some bs) (some (wordsB (t.suites.take (j + 1)))) by rw [app_assoc, List.take_succ_eq_append_getElem hlt, wordsB_snoc]; rfl)
      have hu := (t.suites[j]).toNat_lt
      clear hem
      go_wp2_with fail
      refine H.out.mono ?_
      rintro e w2 ⟨rfl, hem⟩
      clear H
      go_wp2
      have hj0 := HJ.out
      go_roundg (t.suites.length - (j + 1))
      case measure => omega
      case rel => exact ⟨j + 1, by omega, by go_num, hem.cast HS.out⟩
    · obtain rfl : j = t.suites.length := by have := HJ.out; omega
      clear hem
      go_wp2
      go_end0
      exact ⟨rfl, (HE.out.cast (by rw [List.take_length])).less (by omega)⟩
set_option maxHeartbeats 2000000 in
theorem ch_y3 (hm : m < B) (hk : k < B) (he : ei < B) (hZ : ChSz t) : EmitsF 132 #[.pointer (some ⟨k, 0, none⟩)] B (ChE B m k ei cs t) (some t.comps) 8388608 := by
  have hmf : ∀ (fn : Fn) (first cap : Array Value) (w : World), (Instr.makeFunc fn first cap).run Tryz.prog w = .ok (.func fn first cap) w := fun _ _ _ _ => rfl
  refine EmitsF.mk (ChE.stable hm hk he) (by show (t.comps).length ≤ _; have := hZ.comps; omega) (by intro args w; kernel_rfl) ?_
  intro w1 q v base off pl ic bs hem
  obtain ⟨A9, c9, cc, hq⟩ := ChE.byt hem.F (i := 5) (l := t.comps) rfl
  have d0 := hem.F.ptr
  have H := hid (hem.bytes (R' := 0) hq (by have := hZ.comps; omega))
  clear hem
  go_enter Tryz.func132, Tryz.ntmps132
  go_wp2_with fail
  refine H.out.mono ?_
  rintro e w2 ⟨rfl, hem⟩
  clear H
  have HM := hid hem
  clear hem
  go_wp2
  go_end0
  exact ⟨rfl, (HM.out.cast (by rfl)).less (by omega)⟩
set_option maxHeartbeats 2000000 in
theorem ch_y1 (hm : m < B) (hk : k < B) (he : ei < B) (hZ : ChSz t) : EmitsF 130 #[.pointer (some ⟨ei, 0, none⟩), .pointer (some ⟨k, 0, none⟩)] B (ChE B m k ei cs t) (some t.sid) 8388608 := by
  have hmf : ∀ (fn : Fn) (first cap : Array Value) (w : World), (Instr.makeFunc fn first cap).run Tryz.prog w = .ok (.func fn first cap) w := fun _ _ _ _ => rfl
  refine EmitsF.mk (ChE.stable hm hk he) (by show (t.sid).length ≤ _; have := hZ.sid; omega) (by intro args w; kernel_rfl) ?_
  intro w1 q v base off pl ic bs hem
  obtain ⟨A9, c9, cc, hq⟩ := ChE.byt hem.F (i := 3) (l := t.sid) rfl
  have d0 := hem.F.ptr
  have d1 := hem.F.flag
  have H := hid (hem.bytes (R' := 0) hq (by have := hZ.sid; omega))
  clear hem
  go_enter Tryz.func130, Tryz.ntmps130
  go_wp2_with fail
  refine H.out.mono ?_
  rintro e w2 ⟨rfl, hem⟩
  clear H
  have HM := hid hem
  clear hem
  go_wp2
  go_end0
  exact ⟨rfl, (HM.out.cast (by rfl)).less (by omega)⟩
set_option maxHeartbeats 2000000 in
theorem ch_y4 (hm : m < B) (hk : k < B) (he : ei < B) (hxb : x < B) (hZ : ChSz t) (hxl : xs.length ≤ 1099511627776) : EmitsF 133 #[.pointer (some ⟨x, 0, none⟩)] B (ChG B m k ei x cs Ax cx t xs) (some xs) 1099511627776 := by
  have hmf : ∀ (fn : Fn) (first cap : Array Value) (w : World), (Instr.makeFunc fn first cap).run Tryz.prog w = .ok (.func fn first cap) w := fun _ _ _ _ => rfl
  refine EmitsF.mk (ChG.stable hm hk he hxb) (hxl) (by intro args w; kernel_rfl) ?_
  intro w1 q v base off pl ic bs hem
  have d0 := hem.F.ext
  have H := hid (hem.bytes (R' := 0) hem.F.2.2 (by omega))
  clear hem
  go_enter Tryz.func133, Tryz.ntmps133
  go_wp2_with fail
  refine H.out.mono ?_
  rintro e w2 ⟨rfl, hem⟩
  clear H
  have HM := hid hem
  clear hem
  go_wp2
  go_end0
  exact ⟨rfl, (HM.out.cast (by rfl)).less (by omega)⟩
set_option maxHeartbeats 2000000 in
theorem ch_body1 (hm : m < B) (hk : k < B) (he : ei < B) (hxb : x < B) (hZ : ChSz t) (hxl : xs.length ≤ 1099511627776) : EmitsF 128 #[.pointer (some ⟨k, 0, none⟩), .pointer (some ⟨ei, 0, none⟩), .pointer (some ⟨x, 0, none⟩)] B (ChG B m k ei x cs Ax cx t xs) (chBodyO t xs) 1099538890770 := by
  have HE0 := hid ((ch_y1 (cs := cs) (t := t) hm hk he hZ).more (Nat.le_refl B) (fun w (hf : ChG B m k ei x cs Ax cx t xs w) => hf.1))
  have HE1 := hid ((ch_y2 (cs := cs) (t := t) hm hk he hZ).more (Nat.le_refl B) (fun w (hf : ChG B m k ei x cs Ax cx t xs w) => hf.1))
  have HE2 := hid ((ch_y3 (cs := cs) (t := t) hm hk he hZ).more (Nat.le_refl B) (fun w (hf : ChG B m k ei x cs Ax cx t xs w) => hf.1))
  have HE3 := hid (ch_y4 (cs := cs) (t := t) (Ax := Ax) (cx := cx) hm hk he hxb hZ hxl)
  have hmf : ∀ (fn : Fn) (first cap : Array Value) (w : World), (Instr.makeFunc fn first cap).run Tryz.prog w = .ok (.func fn first cap) w := fun _ _ _ _ => rfl
  refine EmitsF.mk (ChG.stable hm hk he hxb) (by have h1 := olen_abl 32 t.random; have h2 := olen_lp 1 (by omega) (some t.sid); have h3 := olen_lp 2 (by omega) (some (wordsB t.suites)); have h4 := olen_lp 1 (by omega) (some t.comps); have h5 := olen_cond (decide (0 < xs.length)) (lpOut 2 (some xs)); have h6 := olen_lp 2 (by omega) (some xs); have k0 : olen (some (be 2 t.vers.toNat)) = 2 := be_len _ _; have k1 : olen (some t.sid) = t.sid.length := rfl; have k2 : olen (some (wordsB t.suites)) = (wordsB t.suites).length := rfl; have k3 : olen (some t.comps) = t.comps.length := rfl; have k4 : olen (some xs) = xs.length := rfl; have z1 := hZ.random; have z2 := hZ.sid; have z3 := hZ.suites; have z4 := hZ.comps; have z5 := wordsB_len t.suites; have g1 := olen_app (lpOut 1 (some t.comps)) (condOut (decide (0 < xs.length)) (lpOut 2 (some xs))); have g2 := olen_app (lpOut 2 (some (wordsB t.suites))) (app (lpOut 1 (some t.comps)) (condOut (decide (0 < xs.length)) (lpOut 2 (some xs)))); have g3 := olen_app (lpOut 1 (some t.sid)) (app (lpOut 2 (some (wordsB t.suites))) (app (lpOut 1 (some t.comps)) (condOut (decide (0 < xs.length)) (lpOut 2 (some xs))))); have g4 := olen_app (ablOut 32 t.random) (app (lpOut 1 (some t.sid)) (app (lpOut 2 (some (wordsB t.suites))) (app (lpOut 1 (some t.comps)) (condOut (decide (0 < xs.length)) (lpOut 2 (some xs)))))); have g5 := olen_app (some (be 2 t.vers.toNat)) (app (ablOut 32 t.random) (app (lpOut 1 (some t.sid)) (app (lpOut 2 (some (wordsB t.suites))) (app (lpOut 1 (some t.comps)) (condOut (decide (0 < xs.length)) (lpOut 2 (some xs))))))); unfold chBodyO; omega) (by intro args w; kernel_rfl) ?_
  intro w1 q v base off pl ic bs hem
  have cc := hem.F.1.val (i := 1) (u := wv t.vers) rfl
  have d0 := hem.F.ptr
  have H := hid (hem.u16 (R' := 1099538890768) t.vers.toNat t.vers.toNat_lt (by omega))
  clear hem
  go_enter Tryz.func128, Tryz.ntmps128
  go_wp2_with fail
  refine H.out.mono ?_
  rintro e w2 ⟨rfl, hem⟩
  clear H
  clear cc d0
  obtain ⟨A9, c9, cc, hq⟩ := ChE.byt hem.F.1 (i := 2) (l := t.random) rfl
  have d0 := hem.F.ptr
  have H := hid (hem.abl (R' := 1099530502160) (n := 32) hq (by have := hZ.random; omega))
  clear hem
  go_wp2_with fail
  refine H.out.mono ?_
  rintro e w2 ⟨rfl, hem⟩
  clear H
  clear cc d0 hq
  have H := hid (hem.lp8 (R' := 1099522113548) HE0.out (by omega))
  clear hem
  go_wp2_with fail
  refine H.out.mono ?_
  rintro e w2 ⟨rfl, hem⟩
  clear H
  have H := hid (hem.lp16 (R' := 1099520016392) HE1.out (by omega))
  clear hem
  go_wp2_with fail
  refine H.out.mono ?_
  rintro e w2 ⟨rfl, hem⟩
  clear H
  have H := hid (hem.lp8 (R' := 1099511627780) HE2.out (by omega))
  clear hem
  go_wp2_with fail
  refine H.out.mono ?_
  rintro e w2 ⟨rfl, hem⟩
  clear H
  have d0 := hem.F.ext
  have HM := hid hem
  clear hem hm hk he hxb hZ hxl
  go_upto_if 28 with fail
  rcases bcase (decide (0 < xs.length)) with hz | hz
  · try rw [hz]
    have H := hid (HM.out.lp16 (R' := 0) HE3.out (by omega))
    have HZ := hid hz
    clear HM hz
    go_wp2_with fail
    refine H.out.mono ?_
    rintro e w2 ⟨rfl, hem⟩
    have HM := hid hem
    clear hem H
    go_wp2
    go_end0
    exact ⟨rfl, (HM.out.cast (by unfold chBodyO; rw [HZ.out]; simp only [condOut_true, app_assoc])).less (by omega)⟩
  · try rw [hz]
    have HZ := hid hz
    clear hz
    go_wp2
    go_end0
    exact ⟨rfl, (HM.out.cast (by unfold chBodyO; rw [HZ.out]; simp only [condOut_false, app_nil, app_assoc])).less (by omega)⟩
end
end Go.Proofs.YtaajmfgplhfncaaGreat
namespace Go.Proofs.YtaajmfgplhfncaaGreat
open Go.RowKit
set_option maxRecDepth 100000
section
variable {w w0 w' : World} {p g : Nat} {xs bs : List UInt8} {st st' out : Option (List UInt8)} {B need : Nat} {F : World → Prop} {fid : FuncId} {cap : Array Value} {T : TypeId} {c1 : Array Value}
theorem TopS.cast {w0 w : World} {p : Nat} {st st' : Option (List UInt8)} (h : TopS w0 w p st) (e : st = st') : TopS w0 w p st' := e ▸ h
theorem TopS.up {w0 w : World} {p : Nat} {st : Option (List UInt8)} (h : TopS w0 w p st) : Upd [] w0 w := by
  obtain ⟨_, _, _, _, h, _⟩ := h
  exact h
theorem TopS.new_ (h : TopS w0 w p st) (hu : Upd [] w w') : TopS w0 w' p st := by
  obtain ⟨v, ic, hb, hi, hu0, ho⟩ := h
  exact ⟨v, ic, hb.upd hu (by simp) (by simp), hi.upd hu (by simp), hu0.trans hu (by simp), ho⟩
theorem AddUint16_topK (h : TopS w0 w p st) (hg : Blk w g T c1) (hT : 5 ≠ T ∧ 139 ≠ T ∧ 4 ≠ T) (hl : olen st ≤ 17592186044416) (n : Nat) (hn : n < 65536) :
    Calls Tryz.prog 83 #[.pointer (some ⟨p, 0, none⟩), .int .u16 (n : Int)] w (fun e w' => TopP w0 p (app st (some (be 2 n))) e w' ∧ Blk w' g T c1) := by
  obtain ⟨v, ic, hb, hi, hu, ho⟩ := h
  have hpg : g ≠ p := by
    obtain ⟨cs, hpb⟩ := hb.isBlk
    exact fun e => hpb.ne_ hg hT.2.1 e.symm
  cases st with
  | none =>
    have hb' : BS w w0.heap.size p (.slice none 0 0) 0 0 ic none := hb
    refine (AddUint16_any hb' hl n hn).mono fun e w' hp => ⟨TopS.step hi hb' hu (by simp [Value.ownBlock]) hp, ?_⟩
    obtain ⟨_, v', _, hu', _⟩ := hp
    exact hg.upd hu' (by simp [Value.ownBlock]; exact hpg)
  | some bs =>
    refine (AddUint16_any hb hl n hn).mono fun e w' hp => ⟨TopS.step hi hb hu ho hp, ?_⟩
    obtain ⟨_, v', _, hu', _⟩ := hp
    refine hg.upd hu' (fun hm => ?_)
    rcases List.mem_cons.1 hm with h | h
    · exact hpg h
    · exact (Own.ne (hb : Bld w w0.heap.size p v 0 0 ic bs).2.2 hg hT.1 g (Option.mem_toList.1 h)) rfl
theorem AddLP16_topK (h : TopS w0 w p st) (hg : Blk w g T c1) (hT : 5 ≠ T ∧ 139 ≠ T ∧ 4 ≠ T) (hE : EmitsF fid cap B F out need) (hF : F w0) (hB : B ≤ w0.heap.size) (hR : olen st + need + 4 ≤ 17592186044416) :
    Calls Tryz.prog 84 #[.pointer (some ⟨p, 0, none⟩), .func (.func fid) #[] cap] w (fun e w' => TopP w0 p (app st (lpOut 2 out)) e w' ∧ Blk w' g T c1) := by
  have H := hid (addLP_topK h hg hT (hE.2.2 w0 [] hF hB (by simp)) hE.2.1 (n := 2) (by omega) (by omega) hR (by have := hE.1; omega))
  go_enter Tryz.func84, Tryz.ntmps84
  go_wp2_with fail
  refine H.out.mono ?_
  intro e w1 hp
  have he := hp.1.1
  subst he
  go_wp2
  go_end0
  exact hp
end
end Go.Proofs.YtaajmfgplhfncaaGreat

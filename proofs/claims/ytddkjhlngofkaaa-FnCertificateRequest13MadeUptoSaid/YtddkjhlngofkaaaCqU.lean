/- CertificateRequest of TLS 1.3: read by the package (printed by gen_cqu.py). -/
import Derived.Test.YtddkjhlngofkaaaLoops
import Derived.Test.YtddkjhlngofkaaaCqPlain
import Derived.Deep.LoopGhost
namespace Go.Proofs.Ytddkjhlngofkaaa
open Go.RowKit
set_option maxRecDepth 100000

/-- what the fields own -/
structure CqF (w : World) (B lo : Nat) (x : Cq) (v2 v3 v4 : Value) : Prop where
  o2 : Own w lo 85 v2 (x.sig.map wv)
  o3 : Own w lo 85 v3 (x.sigc.map wv)
  o4 : Vecs w lo B v4 x.cas
  a23 : apartV v2 v3
  a24 : apartV v2 v4
  a34 : apartV v3 v4
/-- the message in block m -/
def CqB (w : World) (B lo m : Nat) (x : Cq) : Prop :=
  ∃ v2 v3 v4, Blk w m 129 #[.bool x.ocsp, .bool x.scts, v2, v3, v4] ∧ CqF w B lo x v2 v3 v4
def CqUP (w : World) (B lo m : Nat) (o : Option Cq) (e : Ending) (w' : World) : Prop :=
  e = .returned (.bool o.isSome) ∧ Upd [m] w w' ∧ ∀ x, o = some x → CqB w' B lo m x
section
variable {w w' : World} {B m lo : Nat} {v v2 v3 v4 : Value} {data : List UInt8} {e : Ending} {S : List Nat} {x : Cq}
theorem CqF.upd (h : CqF w B lo x v2 v3 v4) (hu : Upd S w w') (hN : ∀ k ∈ S, B ≤ k) (hS : ∀ k ∈ S, v2.ownBlock ≠ some k ∧ v3.ownBlock ≠ some k ∧ v4.ownBlock ≠ some k) : CqF w' B lo x v2 v3 v4 :=
  ⟨h.o2.upd hu (fun _ hg hk => (hS _ hk).1 hg), h.o3.upd hu (fun _ hg hk => (hS _ hk).2.1 hg), h.o4.upd hu (fun _ hg hk => (hS _ hk).2.2 hg) hN, h.a23, h.a24, h.a34⟩
theorem CqF.nil (w : World) (B lo : Nat) : CqF w B lo Cq.zero (.slice none 0 0) (.slice none 0 0) (.slice none 0 0) :=
  ⟨Own.nil_ _ _ _, Own.nil_ _ _ _, ⟨[], Own.nil_ _ _ _, trivial⟩, fun _ h => (by cases h), fun _ h => (by cases h), fun _ h => (by cases h)⟩
theorem CqF.lt (h : CqF w B lo x v2 v3 v4) : (∀ g, v2.ownBlock = some g → lo ≤ g ∧ g < w.heap.size) ∧ (∀ g, v3.ownBlock = some g → lo ≤ g ∧ g < w.heap.size) ∧ (∀ g, v4.ownBlock = some g → lo ≤ g ∧ g < w.heap.size) := by
  obtain ⟨vs, h4, -⟩ := h.o4
  exact ⟨fun g hg => h.o2.ge hg, fun g hg => h.o3.ge hg, fun g hg => h4.ge hg⟩
theorem CqF.setf0 (h : CqF w B lo x v2 v3 v4) : CqF w B lo x.setOcsp v2 v3 v4 := ⟨h.o2, h.o3, h.o4, h.a23, h.a24, h.a34⟩
theorem CqF.setf1 (h : CqF w B lo x v2 v3 v4) : CqF w B lo x.setScts v2 v3 v4 := ⟨h.o2, h.o3, h.o4, h.a23, h.a24, h.a34⟩
theorem CqF.put2 {l : List UInt16} {v' : Value} (h : CqF w B lo x v2 v3 v4) (hu : Upd S w w') (hN : ∀ k ∈ S, B ≤ k) (hS : ∀ k ∈ S, v3.ownBlock ≠ some k ∧ v4.ownBlock ≠ some k) (ho : Own w' lo 85 v' (l.map wv)) (hn : nextV v2 v' w.heap.size) : CqF w' B lo (x.setSig l) v' v3 v4 := by
  obtain ⟨l2, l3, l4⟩ := h.lt
  exact ⟨ho, h.o3.upd hu (fun _ hg hk => (hS _ hk).1 hg), h.o4.upd hu (fun _ hg hk => (hS _ hk).2 hg) hN, (h.a23.symm.next hn fun g hg => (l3 g hg).2).symm, (h.a24.symm.next hn fun g hg => (l4 g hg).2).symm, h.a34⟩
theorem CqF.put3 {l : List UInt16} {v' : Value} (h : CqF w B lo x v2 v3 v4) (hu : Upd S w w') (hN : ∀ k ∈ S, B ≤ k) (hS : ∀ k ∈ S, v2.ownBlock ≠ some k ∧ v4.ownBlock ≠ some k) (ho : Own w' lo 85 v' (l.map wv)) (hn : nextV v3 v' w.heap.size) : CqF w' B lo (x.setSigc l) v2 v' v4 := by
  obtain ⟨l2, l3, l4⟩ := h.lt
  exact ⟨h.o2.upd hu (fun _ hg hk => (hS _ hk).1 hg), ho, h.o4.upd hu (fun _ hg hk => (hS _ hk).2 hg) hN, h.a23.next hn fun g hg => (l2 g hg).2, h.a24, (h.a34.symm.next hn fun g hg => (l4 g hg).2).symm⟩
theorem CqF.put4 {l : List (List UInt8)} {v' : Value} (h : CqF w B lo x v2 v3 v4) (hu : Upd S w w') (hS : ∀ k ∈ S, v2.ownBlock ≠ some k ∧ v3.ownBlock ≠ some k) (ho : Vecs w' lo B v' l) (hn : nextV v4 v' w.heap.size) : CqF w' B lo (x.setCas l) v2 v3 v' := by
  obtain ⟨l2, l3, l4⟩ := h.lt
  exact ⟨h.o2.upd hu (fun _ hg hk => (hS _ hk).1 hg), h.o3.upd hu (fun _ hg hk => (hS _ hk).2 hg), ho, h.a23, h.a24.next hn fun g hg => (l2 g hg).2, h.a34.next hn fun g hg => (l3 g hg).2⟩
/-- the loop over extensions -/
def CqRel (w : World) (B m s : Nat) (x0 : List UInt8) (gk : Nat) (wr : World) : Prop :=
  ∃ (d : List UInt8) (M : Cq) (v2 v3 v4 : Value), gk = d.length ∧ Sv wr B (s + 2) d True ∧ Blk wr m 129 #[.bool M.ocsp, .bool M.scts, v2, v3, v4] ∧ CqF wr B (s + 3) M v2 v3 v4 ∧ Upd [m] w wr ∧ s + 3 ≤ wr.heap.size ∧
    blockE cqStep x0 Cq.zero = blockE cqStep d M ∧ M.sig.length + d.length ≤ x0.length ∧ M.sigc.length + d.length ≤ x0.length ∧ M.cas.length + d.length ≤ x0.length
set_option maxHeartbeats 8000000 in
theorem unmarshal_Cq (hm : Blk w m 129 #[.bool false, .bool false, .slice none 0 0, .slice none 0 0, .slice none 0 0]) (hv : Byt w B v data) (hB : B ≤ m) :
    Calls Try.prog 80 #[.pointer (some ⟨m, 0, none⟩), v] w (CqUP w B (w.heap.size + 3) m (cqRead data)) := by
  obtain ⟨A, c, rfl, hv, hl, hc⟩ := Byt.form hv rfl
  have hml := hm.lt
  have m0 := hm.cell 0
  have f0 := hm.frozen 0
  have m1 := hm.cell 1
  have f1 := hm.frozen 1
  have m2 := hm.cell 2
  have f2 := hm.frozen 2
  have m3 := hm.cell 3
  have f3 := hm.frozen 3
  have m4 := hm.cell 4
  have f4 := hm.frozen 4
  simp at m0 m1 m2 m3 m4
  obtain ⟨wS, hwS⟩ : ∃ wS, (((((w.setCell ⟨m, 0, none⟩ (.bool false)).setCell ⟨m, 1, none⟩ (.bool false)).setCell ⟨m, 2, none⟩ (.slice none 0 0)).setCell ⟨m, 3, none⟩ (.slice none 0 0)).setCell ⟨m, 4, none⟩ (.slice none 0 0)) = wS := ⟨_, rfl⟩
  obtain ⟨w0, hw0⟩ : ∃ w0, (((wS.alloc (.cells #[.slice A data.length c] 141)).alloc (.cells #[.slice none 0 0] 141)).alloc (.cells #[.slice none 0 0] 141)) = w0 := ⟨_, rfl⟩
  obtain ⟨s, hs⟩ : ∃ s, w.heap.size = s := ⟨_, rfl⟩
  have huS : Upd [m] w wS := by rw [← hwS]; exact ((((((Upd.refl [m] w).setCell (by simp) _).setCell (by simp) _).setCell (by simp) _).setCell (by simp) _).setCell (by simp) _)
  have hsS : wS.heap.size = s := by rw [← hwS, ← hs]; simp [World.setCell]
  have hmS : Blk wS m 129 #[.bool false, .bool false, .slice none 0 0, .slice none 0 0, .slice none 0 0] := by rw [← hwS]; exact (((((hm.set_ 0 (.bool false)).set_ 1 (.bool false)).set_ 2 (.slice none 0 0)).set_ 3 (.slice none 0 0)).set_ 4 (.slice none 0 0))
  have hyS : Byt wS B (.slice A data.length c) data := Row.upd hv huS (by simpa using hB)
  have hu0S : Upd [] wS w0 := by rw [← hw0]; exact ((((Upd.refl [] wS).alloc _).alloc _).alloc _)
  have hu0 : Upd [m] w w0 := huS.trans hu0S (by simp)
  have hm0 : Blk w0 m 129 #[.bool false, .bool false, .slice none 0 0, .slice none 0 0, .slice none 0 0] := hmS.upd hu0S (by simp)
  have hal : ∀ (w1 : World) (o : Obj), (w1.alloc o).heap.size = w1.heap.size + 1 := fun w1 o => by simp
  have hx0 : Blk w0 s 141 #[.slice A data.length c] := by
    rw [← hw0]
    have := Blk.new wS 141 #[.slice A data.length c]
    simp only [hal, hsS, Nat.add_assoc] at this
    exact ((this.alloc _).alloc _)
  have hx1 : Blk w0 (s + 1) 141 #[.slice none 0 0] := by
    rw [← hw0]
    have := Blk.new (wS.alloc (.cells #[.slice A data.length c] 141)) 141 #[.slice none 0 0]
    simp only [hal, hsS, Nat.add_assoc] at this
    exact (this.alloc _)
  have hx2 : Blk w0 (s + 2) 141 #[.slice none 0 0] := by
    rw [← hw0]
    have := Blk.new ((wS.alloc (.cells #[.slice A data.length c] 141)).alloc (.cells #[.slice none 0 0] 141)) 141 #[.slice none 0 0]
    simp only [hal, hsS, Nat.add_assoc] at this
    exact this
  have hs0 : Sv w0 B s data False := ⟨by omega, _, hx0, Row.upd hyS hu0S (by simp), fun x => x.elim⟩
  have hsz0 : w0.heap.size = s + 3 := by rw [← hw0]; simp only [hal, hsS]
  have hms : m < s := by omega
  have hBs : B ≤ s := by omega
  have hno : ∀ w2 : World, Upd [m] w w2 → cqRead data = none → CqUP w B (s + 3) m (cqRead data) (.returned (.bool false)) w2 := by
    intro w2 hu hk
    rw [hk]
    exact ⟨rfl, hu, fun x h => (by cases h)⟩
  have HNO := hid hno
  have HW := hid hw0
  have HS := hid hs
  have HSZ := hid hsz0
  have HWS := hid hwS
  rw [hs]
  have hwl : w.heap.size = s := hs
  clear hno hw0 hs hwS hal hsS huS hmS hyS hu0S hx0 hsz0
  have up2 : ∀ (a b : World) (S' : List Nat), Upd [m] w a → Upd S' a b → (∀ x ∈ S', x = m ∨ s ≤ x) → Upd [m] w b := fun _ _ _ h k hh => h.trans k fun x hx => (hh x hx).imp (by simp) (by have := HS.out; omega)
  have UP := hid up2
  clear up2
  by_cases h4 : data.length < 4
  · have Hk := hid (show cqRead data = none by unfold cqRead; rw [if_pos h4])
    have H := hid (Skip_bad hs0 4 h4)
    clear h4
    go_enter Try.func80, Try.ntmps80
    go_wp2_with fail
    rw [HWS.out, HW.out]
    refine H.out.mono ?_
    rintro e w2 ⟨rfl, hu2⟩
    go_wp2
    go_ret
    exact HNO.out _ (UP.out _ _ _ hu0 hu2 (by simp)) Hk.out
  have Hk : Hid (cqRead data = cqCtx (lp 1 (data.drop 4))) := hid (by unfold cqRead; rw [if_neg h4])
  have H := hid (Skip_ok hs0 4 (by omega) (by omega))
  generalize data.drop 4 = d0 at H Hk
  clear h4 hs0
  go_enter Try.func80, Try.ntmps80
  go_wp2_with fail
  rw [HWS.out, HW.out]
  refine H.out.mono ?_
  rintro e w1 ⟨rfl, hu1, hs1⟩
  have hU1 := UP.out _ _ _ hu0 hu1 (by simp)
  have hm1 := hm0.upd hu1 (by simp; omega)
  have hc1 := hx1.upd hu1 (by simp)
  have hx1 := hx2.upd hu1 (by simp)
  have hsz1 : s + 3 ≤ w1.heap.size := by have := HSZ.out; have := hu1.size; omega
  clear hm0 hx2 hu0 hu1 H
  -- the context
  have H := hid (ReadLP8_any hs1 (k := 0) hc1 (by simp) (by omega) (by omega))
  go_wp2_with fail
  refine H.out.mono ?_
  intro e w2 hp
  rcases hr : lp 1 d0 with _ | ⟨cx, d1⟩
  · obtain ⟨rfl, hu2⟩ := hp.no hr
    replace Hk : Hid (cqRead data = none) := hid (by rw [Hk.out, hr]; rfl)
    clear hr
    go_wp2
    go_ret
    exact HNO.out _ (UP.out _ _ _ hU1 hu2 (by simp)) Hk.out
  obtain ⟨u2, rfl, hu2, hs2, hc2, hyc, -⟩ := hp.yes hr
  have hm2 := hm1.upd hu2 (by simp; omega)
  have hx2 := hx1.upd hu2 (by simp)
  have hU2 := UP.out _ _ _ hU1 hu2 (by simp)
  have hsz2 : s + 3 ≤ w2.heap.size := Nat.le_trans hsz1 hu2.size
  obtain ⟨A2, c2, rfl, hyc, -, -⟩ := Byt.form hyc rfl
  have q0 := hc2.cell 0
  simp at q0
  have H6 := hid (Empty_any hyc)
  clear hp hc2 hyc hu2 hm1 hx1 hU1 hsz1 hc1 hs1 H
  go_wp2_with fail
  refine H6.out.mono ?_
  rintro e w3 ⟨rfl, rfl⟩
  rcases cx with _ | ⟨y0, t0⟩
  rotate_left
  · have Hk2 : Hid (cqRead data = none) := hid (by rw [Hk.out, hr]; rfl)
    clear hr
    go_wp2
    go_ret
    exact HNO.out _ hU2 Hk2.out
  replace Hk : Hid (cqRead data = lastB cqStep Cq.zero d1) := hid (by rw [Hk.out, hr]; rfl)
  clear hr H6 q0
  -- the extensions
  have H := hid (ReadLP16_any hs2 (k := 0) hx2 (by simp) (by omega) (by omega))
  go_wp2_with fail
  refine H.out.mono ?_
  intro e w6 hp
  rcases hr : lp 2 d1 with _ | ⟨x0, d5⟩
  · obtain ⟨rfl, hu6⟩ := hp.no hr
    replace Hk : Hid (cqRead data = none) := hid (by rw [Hk.out]; exact lastB_none hr)
    clear hr
    go_wp2
    go_ret
    exact HNO.out _ (UP.out _ _ _ hU2 hu6 (by simp)) Hk.out
  obtain ⟨u, rfl, hu6, hs6, hx6, hyx, hnn⟩ := hp.yes hr
  have hm6 := hm2.upd hu6 (by simp; omega)
  have hU6 := UP.out _ _ _ hU2 hu6 (by simp)
  have hsx6 : Sv w6 B (s + 2) x0 True := ⟨by omega, u, hx6, hyx, fun _ => hnn⟩
  have hs62 : s + 3 ≤ w6.heap.size := Nat.le_trans hsz2 hu6.size
  have hx0l : x0.length < 65536 := (lp_len hr).1
  obtain ⟨A6, c6, e6, -, hy6, -⟩ := hs6.open_
  have H6 := hid (Empty_any hy6)
  go_wp2_with fail
  refine H6.out.mono ?_
  rintro e w7 ⟨rfl, rfl⟩
  rcases d5 with _ | ⟨z5, t5⟩
  rotate_left
  · have Hk2 : Hid (cqRead data = none) := hid (by rw [Hk.out]; exact lastB_more hr)
    clear hr
    go_wp2
    go_ret
    exact HNO.out _ hU6 Hk2.out
  replace Hk : Hid (cqRead data = blockE cqStep x0 Cq.zero) := hid (by rw [Hk.out]; exact lastB_some hr)
  clear hr hp hm2 hx2 hs2 hU2 hu6 hx6 hyx hnn H6 e6 hy6 hs6 hsz2
  go_wp2_with fail
  go_loopg [8] x0.length (fun gk _ wr => CqRel w B m s x0 gk wr)
  case atStart => exact ⟨x0, Cq.zero, _, _, _, rfl, hsx6, hm6, CqF.nil _ _ _, hU6, hs62, rfl, by simp [Cq.zero], by simp [Cq.zero], by simp [Cq.zero]⟩
  case round =>
    obtain ⟨d, M, v2, v3, v4, rfl, hsx, hmr, hF, hur, hs63, hE, hn2, hn3, hn4⟩ := hrel
    obtain ⟨wo, rfl⟩ : ∃ wo : World, wo = wr := ⟨_, rfl⟩
    have HE := hid hE
    have hus := hur.size
    obtain ⟨A7, c7, e7, -, hy7, -⟩ := hsx.open_
    have H7 := hid (Empty_any hy7)
    clear hE hy7 hsx6 hm6 hU6 hs62
    go_wp2_with fail
    refine H7.out.mono ?_
    rintro e w8 ⟨rfl, rfl⟩
    by_cases h0 : d = []
    · subst h0
      go_wp2
      go_ret
      rw [Hk.out, HE.out, blockE_nil]
      refine ⟨rfl, hur, fun x hx => ?_⟩
      cases hx
      exact ⟨v2, v3, v4, hmr, hF⟩
    obtain ⟨wA, hwA⟩ : ∃ wA, (wo.alloc (.cells #[.int .u16 0] 85)).alloc (.cells #[.slice none 0 0] 141) = wA := ⟨_, rfl⟩
    obtain ⟨g, hg⟩ : ∃ g, wo.heap.size = g := ⟨_, rfl⟩
    have huA : Upd [] wo wA := by rw [← hwA]; exact ((Upd.refl _ _).alloc _).alloc _
    have hbk : Blk wA g 85 #[.int .u16 0] := by rw [← hwA, ← hg]; exact (Blk.new _ _ _).alloc _
    have hbd : Blk wA (g + 1) 141 #[.slice none 0 0] := by
      rw [← hwA, ← hg]
      have := Blk.new (wo.alloc (.cells #[.int .u16 0] 85)) 141 #[.slice none 0 0]
      rwa [show (wo.alloc (.cells #[.int .u16 0] 85)).heap.size = wo.heap.size + 1 by simp] at this
    have hsg : s + 2 < g := by omega
    have hl := hF.lt
    rw [hg] at hl
    have hsA := hsx.upd huA (by simp) (by simp)
    have hmA := hmr.upd huA (by simp)
    have hFA := hF.upd huA (by simp) (by simp)
    have hurA := hur.trans huA (by simp)
    have HWA := hid hwA
    have hbl : blockE cqStep x0 Cq.zero = none → cqRead data = none := fun h => Hk.out.trans h
    have HBL := hid hbl
    have HL := hid hl
    clear hwA hsx hmr hF hur huA hbl H7 hl
    by_cases hsh : d.length < 2
    · have hx1 : Hid (cqRead data = none) := hid (HBL.out (by rw [HE.out]; exact blockE_none (ext1_short hsh) h0 _))
      have H := hid (ReadUint16_bad (ob := g) (k := 0) hsA hsh)
      go_wp2_with fail
      rw [HWA.out]
      refine H.out.mono ?_
      rintro e w9 ⟨rfl, hu9⟩
      go_wp2
      go_ret
      exact HNO.out _ (UP.out _ _ _ hurA hu9 (by simp)) hx1.out
    obtain ⟨x, y, t, rfl⟩ : ∃ x y t, d = x :: y :: t := by
      match d, hsh with
      | [], h => simp at h
      | [_], h => simp at h
      | x :: y :: t, _ => exact ⟨x, y, t, rfl⟩
    clear hsh h0
    have H := hid (ReadUint16_ok (k := 0) hsA hbk (by simp) (by omega) (by omega))
    have he1 := ext1_two x y t
    generalize UInt16.ofNat (x.toNat * 256 + y.toNat) = k at H he1
    have He1 := hid he1
    clear he1
    go_wp2_with fail
    rw [HWA.out]
    refine H.out.mono ?_
    rintro e w9 ⟨rfl, hu9, hs9, hb9⟩
    have hb9 : Blk w9 g 85 #[wv k] := hb9
    have hd9 := hbd.upd hu9 (by simp; omega)
    have hm9 := hmA.upd hu9 (by simp; omega)
    have hF9 := hFA.upd hu9 (by simp; omega) (by have := HL.out; simp; refine ⟨⟨?_, ?_, ?_⟩, ?_, ?_, ?_⟩ <;> (intro h; first | (have := (HL.out.1 _ h); omega) | (have := (HL.out.2.1 _ h); omega) | (have := (HL.out.2.2 _ h); omega)))
    have hur9 := UP.out _ _ _ hurA hu9 (by simp; omega)
    clear hsA hbk hbd hmA hFA hurA hu9 H
    have H := hid (ReadLP16_any hs9 (k := 0) hd9 (by simp) (by omega) (by omega))
    go_wp2_with fail
    refine H.out.mono ?_
    intro e w10 hp
    rcases hr : lp 2 t with _ | ⟨ed, rest⟩
    · obtain ⟨rfl, hu10⟩ := hp.no hr
      have hx1 : Hid (cqRead data = none) := hid (HBL.out (by rw [HE.out]; exact blockE_none (by rw [He1.out, hr]; rfl) (by simp) _))
      clear hr
      go_wp2
      go_ret
      exact HNO.out _ (UP.out _ _ _ hur9 hu10 (by simp)) hx1.out
    obtain ⟨u, rfl, hu10, hs10, hd10, hyd, hnn⟩ := hp.yes hr
    have hE1 : ext1 (x :: y :: t) = some ((k, ed), rest) := by rw [He1.out, hr]; rfl
    have HE1 := hid hE1
    have hlen : 4 + ed.length + rest.length = (x :: y :: t).length := (ext1_len hE1).1
    have hedl : ed.length < 65536 := (ext1_len hE1).2
    have hb2 : M.sig.length + 4 + ed.length + rest.length ≤ x0.length := by omega
    have hb3 : M.sigc.length + 4 + ed.length + rest.length ≤ x0.length := by omega
    have hb4 : M.cas.length + 4 + ed.length + rest.length ≤ x0.length := by omega
    have hrl : rest.length < (x :: y :: t).length := by omega
    have hb10 := hb9.upd hu10 (by simp; omega)
    have hm10 := hm9.upd hu10 (by simp; omega)
    have hF10 := hF9.upd hu10 (by simp; omega) (by have := HL.out; simp; refine ⟨⟨?_, ?_, ?_⟩, ?_, ?_, ?_⟩ <;> (intro h; first | (have := (HL.out.1 _ h); omega) | (have := (HL.out.2.1 _ h); omega) | (have := (HL.out.2.2 _ h); omega)))
    have hur10 := UP.out _ _ _ hur9 hu10 (by simp; omega)
    have hsd : Sv w10 B (g + 1) ed True := ⟨by omega, u, hd10, hyd, fun _ => hnn⟩
    have hsz10 : g + 2 ≤ w10.heap.size := by have := hd10.lt; omega
    have k0 := hb10.cell 0
    simp at k0
    clear hs9 hd9 hb9 hm9 hF9 hur9 hu10 H hp hd10 hyd hnn hE1 hr hlen hn2 hn3 hn4 hb10
    have d5 := u16_eq k 5
    have d18 := u16_eq k 18
    have d13 := u16_eq k 13
    have d50 := u16_eq k 50
    have d47 := u16_eq k 47
    rw [show ((5 : UInt16).toNat : Int) = 5 from rfl] at d5
    rw [show ((18 : UInt16).toNat : Int) = 18 from rfl] at d18
    rw [show ((13 : UInt16).toNat : Int) = 13 from rfl] at d13
    rw [show ((50 : UInt16).toNat : Int) = 50 from rfl] at d50
    rw [show ((47 : UInt16).toNat : Int) = 47 from rfl] at d47
    by_cases hk5 : k = 5
    · rw [decide_eq_true hk5] at d5
      have HST := hid (show cqStep M (k, ed) = (if ed = [] then some M.setOcsp else none) by rw [hk5]; rfl)
      clear hk5
      have huX : Upd [m] w10 (w10.setCell ⟨m, 0, none⟩ (.bool true)) := (Upd.refl _ _).setCell (by simp) _
      have hmX : Blk (w10.setCell ⟨m, 0, none⟩ (.bool true)) m 129 #[.bool true, .bool M.scts, v2, v3, v4] := hm10.set_ 0 _
      have hsdX := hsd.upd huX (by simp; omega) (by simp; omega)
      have hsX := hs10.upd huX (by simp; omega) (by simp; omega)
      have hFX := hF10.upd huX (by simp; omega) (by have := HL.out; simp; refine ⟨?_, ?_, ?_⟩ <;> (intro h; first | (have := (HL.out.1 _ h); omega) | (have := (HL.out.2.1 _ h); omega) | (have := (HL.out.2.2 _ h); omega)))
      have hurX := UP.out _ _ _ hur10 huX (by simp)
      obtain ⟨A8, c8, e8, e8f, hy8, -⟩ := hsdX.open_
      have H8 := hid (Empty_any hy8)
      have HMX := hid hmX
      have p0 := hm10.cell 0
      have f0 := hm10.frozen 0
      simp at p0
      have hszX : s + 3 ≤ (w10.setCell ⟨m, 0, none⟩ (.bool true)).heap.size := by have := huX.size; omega
      clear hmX huX hsd hs10 hF10 hur10 hm10 hy8
      go_wp2_with fail
      refine H8.out.mono ?_
      rintro e w11 ⟨rfl, rfl⟩
      by_cases he : ed = []
      · have HN := hid (blockE_go HE1.out (show cqStep M (k, ed) = some M.setOcsp by rw [HST.out, if_pos he]))
        go_wp2
        go_roundg rest.length
        case measure => omega
        case rel => exact ⟨rest, M.setOcsp, v2, v3, v4, rfl, hsX, HMX.out, hFX.setf0, hurX, hszX, by rw [HE.out]; exact HN.out, by show M.sig.length + _ ≤ _; omega, by show M.sigc.length + _ ≤ _; omega, by show M.cas.length + _ ≤ _; omega⟩
      · have HN := hid (blockE_stop (stp := cqStep) (m := M) HE1.out (by rw [HST.out, if_neg he]))
        go_wp2
        go_ret
        exact HNO.out _ hurX (HBL.out (by rw [HE.out]; exact HN.out))
    rw [decide_eq_false hk5] at d5
    by_cases hk18 : k = 18
    · rw [decide_eq_true hk18] at d18
      have HST := hid (show cqStep M (k, ed) = (if ed = [] then some M.setScts else none) by rw [hk18]; rfl)
      clear hk18
      have huX : Upd [m] w10 (w10.setCell ⟨m, 1, none⟩ (.bool true)) := (Upd.refl _ _).setCell (by simp) _
      have hmX : Blk (w10.setCell ⟨m, 1, none⟩ (.bool true)) m 129 #[.bool M.ocsp, .bool true, v2, v3, v4] := hm10.set_ 1 _
      have hsdX := hsd.upd huX (by simp; omega) (by simp; omega)
      have hsX := hs10.upd huX (by simp; omega) (by simp; omega)
      have hFX := hF10.upd huX (by simp; omega) (by have := HL.out; simp; refine ⟨?_, ?_, ?_⟩ <;> (intro h; first | (have := (HL.out.1 _ h); omega) | (have := (HL.out.2.1 _ h); omega) | (have := (HL.out.2.2 _ h); omega)))
      have hurX := UP.out _ _ _ hur10 huX (by simp)
      obtain ⟨A8, c8, e8, e8f, hy8, -⟩ := hsdX.open_
      have H8 := hid (Empty_any hy8)
      have HMX := hid hmX
      have p1 := hm10.cell 1
      have f1 := hm10.frozen 1
      simp at p1
      have hszX : s + 3 ≤ (w10.setCell ⟨m, 1, none⟩ (.bool true)).heap.size := by have := huX.size; omega
      clear hmX huX hsd hs10 hF10 hur10 hm10 hy8
      go_wp2_with fail
      refine H8.out.mono ?_
      rintro e w11 ⟨rfl, rfl⟩
      by_cases he : ed = []
      · have HN := hid (blockE_go HE1.out (show cqStep M (k, ed) = some M.setScts by rw [HST.out, if_pos he]))
        go_wp2
        go_roundg rest.length
        case measure => omega
        case rel => exact ⟨rest, M.setScts, v2, v3, v4, rfl, hsX, HMX.out, hFX.setf1, hurX, hszX, by rw [HE.out]; exact HN.out, by show M.sig.length + _ ≤ _; omega, by show M.sigc.length + _ ≤ _; omega, by show M.cas.length + _ ≤ _; omega⟩
      · have HN := hid (blockE_stop (stp := cqStep) (m := M) HE1.out (by rw [HST.out, if_neg he]))
        go_wp2
        go_ret
        exact HNO.out _ hurX (HBL.out (by rw [HE.out]; exact HN.out))
    rw [decide_eq_false hk18] at d18
    by_cases hk13 : k = 13
    · rw [decide_eq_true hk13] at d13
      have HST := hid (show cqStep M (k, ed) = (wordsP 2 ed).map fun l => M.setSig (M.sig ++ l) by rw [hk13]; rfl)
      clear hk13
      obtain ⟨wB, hwB⟩ : ∃ wB, w10.alloc (.cells #[.slice none 0 0] 141) = wB := ⟨_, rfl⟩
      obtain ⟨p, hp0⟩ : ∃ p, w10.heap.size = p := ⟨_, rfl⟩
      have huB : Upd [] w10 wB := by rw [← hwB]; exact (Upd.refl _ _).alloc _
      have hbp : Blk wB p 141 #[.slice none 0 0] := by rw [← hwB, ← hp0]; exact Blk.new _ _ _
      have hgp : g + 1 < p := by omega
      have hpw : w10.heap.size ≤ p := by omega
      have hsdB := hsd.upd huB (by simp) (by simp)
      have hmB := hm10.upd huB (by simp)
      have hurB := hur10.trans huB (by simp)
      have HWB := hid hwB
      have HP0 := hid hp0
      clear hwB hp0 hsd hm10
      have H := hid (ReadLP16_any hsdB (k := 0) hbp (by simp) (by omega) (by omega))
      go_wp2_with fail
      rw [HWB.out, HP0.out]
      refine H.out.mono ?_
      intro e w13 hp
      rcases hr2 : lp 2 ed with _ | ⟨x1, r1⟩
      · obtain ⟨rfl, hu13⟩ := hp.no hr2
        have HN := hid (blockE_stop (stp := cqStep) (m := M) HE1.out (by rw [HST.out]; unfold wordsP; rw [hr2]; rfl))
        clear hr2
        go_wp2
        go_ret
        exact HNO.out _ (UP.out _ _ _ hurB hu13 (by simp; omega)) (HBL.out (by rw [HE.out]; exact HN.out))
      obtain ⟨u1, rfl, hu13, hsd13, hbp13, hyp, hnp⟩ := hp.yes hr2
      have hx1l := lp_len hr2
      have hsp13 : Sv w13 B p x1 True := ⟨by omega, u1, hbp13, hyp, fun _ => hnp⟩
      have hm13 := hmB.upd hu13 (by simp; omega)
      have hC13 : Upd [m, g, g + 1] w10 w13 := (huB.mono (by simp)).trans hu13 (by simp; omega)
      have hpw13 : p < w13.heap.size := hbp13.lt
      have hur13 := UP.out _ _ _ hurB hu13 (by simp; omega)
      have hF13 := hF10.upd hC13 (by simp; omega) (by have := HL.out; simp; refine ⟨⟨?_, ?_, ?_⟩, ⟨?_, ?_, ?_⟩, ?_, ?_, ?_⟩ <;> (intro h; first | (have := (HL.out.1 _ h); omega) | (have := (HL.out.2.1 _ h); omega) | (have := (HL.out.2.2 _ h); omega)))
      have hs13 := hs10.upd hC13 (by simp; omega) (by simp; omega)
      have HST2 := hid (show cqStep M (k, ed) = (wordsIn (some (x1, r1))).map fun l => M.setSig (M.sig ++ l) by rw [HST.out]; unfold wordsP; rw [hr2])
      clear hr2 hp hu13 hbp13 hyp hnp hsdB hmB hurB hbp H HWB HP0 huB hF10 hs10 hur10 HST
      obtain ⟨A9, c9, e9, -, hy9, -⟩ := hsp13.open_
      have HE3 := hid (Empty_any hy9)
      clear hy9
      go_wp2_with fail
      refine HE3.out.mono ?_
      rintro e w14 ⟨rfl, rfl⟩
      by_cases hx0 : x1 = []
      · have HN := hid (blockE_stop (stp := cqStep) (m := M) HE1.out (by rw [HST2.out, hx0, wordsIn_nil]; rfl))
        subst hx0
        go_wp2
        go_ret
        exact HNO.out _ hur13 (HBL.out (by rw [HE.out]; exact HN.out))
      rw [decide_eq_false hx0]
      have HX0 := hid hx0
      have AL0 : ALoop 85 B p m 129 (fun z => #[.bool M.ocsp, .bool M.scts, z, v3, v4]) (s + 3) w13 v2 x1 v2 (M.sig.map wv) w13 := ⟨hsp13, hm13, hF13.o2, nextV.refl _ _, Upd.refl _ _⟩
      obtain ⟨tot, htot0⟩ : ∃ l, M.sig ++ wordsOf x1 = l := ⟨_, rfl⟩
      obtain ⟨par, hpar0⟩ : ∃ n, x1.length % 2 = n := ⟨_, rfl⟩
      have HTOT := hid htot0
      have HPAR := hid hpar0
      have h0x1 : M.sig.length + x1.length ≤ x0.length := by omega
      clear hx0 htot0 hpar0 hsp13 hm13 e9 HE3
      go_wp2_with fail
      go_loopg [11] x1.length (fun gk _ wr => WRelA B p m 129 (fun z => #[.bool M.ocsp, .bool M.scts, z, v3, v4]) (s + 3) w13 v2 tot par x0.length gk wr)
      case atStart => exact ⟨x1, v2, M.sig, rfl, AL0, HTOT.out.symm, HPAR.out, h0x1⟩
      case round =>
        obtain ⟨x2, vv, l, rfl, AL, htot, hpar, hbnd⟩ := hrel
        obtain ⟨wi, rfl⟩ : ∃ wi : World, wi = wr := ⟨_, rfl⟩
        have HT := hid htot
        have HP := hid hpar
        clear htot hpar AL0
        obtain ⟨A9, c9, e9, -, hy9, -⟩ := AL.sv.open_
        have HE9 := hid (Empty_any hy9)
        clear hy9
        go_wp2_with fail
        refine HE9.out.mono ?_
        rintro e w14 ⟨rfl, rfl⟩
        have hrow : ∀ j ∈ p :: m :: v2.ownBlock.toList, B ≤ j ∧ j ≠ g + 1 ∧ j ≠ s + 2 ∧ (∀ h, v3.ownBlock = some h → h ≠ j) ∧ (∀ h, v4.ownBlock = some h → h ≠ j) := by
          intro j hj
          obtain ⟨l2, l3, l4⟩ := HL.out
          have a23 := hF13.a23
          have a24 := hF13.a24
          have a34 := hF13.a34
          rcases List.mem_cons.1 hj with hj | hj
          · subst hj
            exact ⟨by omega, by omega, by omega, fun h hh => by first | (have := l2 h hh; omega) | (have := l3 h hh; omega), fun h hh => by first | (have := l4 h hh; omega) | (have := l3 h hh; omega)⟩
          · rcases List.mem_cons.1 hj with hj | hj
            · subst hj
              exact ⟨by omega, by omega, by omega, fun h hh => by first | (have := l2 h hh; omega) | (have := l3 h hh; omega), fun h hh => by first | (have := l4 h hh; omega) | (have := l3 h hh; omega)⟩
            · have hj := Option.mem_toList.1 hj
              have hjj : s + 3 ≤ j ∧ j < g := by first | exact l2 j hj | exact l3 j hj
              exact ⟨by omega, by omega, by omega, fun h hh he => by subst he; first | exact a23 _ hj hh | exact a23 _ hh hj, fun h hh he => by subst he; first | exact a24 _ hj hh | exact a34 _ hj hh⟩
        by_cases hx2 : x2 = []
        · have hsdr := hsd13.upd AL.up (fun j hj => (hrow j hj).1) (fun hj => (hrow _ hj).2.1 rfl)
          have hsr := hs13.upd AL.up (fun j hj => (hrow j hj).1) (fun hj => (hrow _ hj).2.2.1 rfl)
          have hurr : Upd [m] w wi := hur13.trans AL.up (fun j hj => by
            rcases List.mem_cons.1 hj with hj | hj
            · right; omega
            · rcases List.mem_cons.1 hj with hj | hj
              · left; simp [hj]
              · right; have hj := Option.mem_toList.1 hj; have := (hrow j (by simp [hj])).1; have : s + 3 ≤ j := (by first | exact (HL.out.1 j hj).1 | exact (HL.out.2.1 j hj).1); omega)
          have hFr := hF13.put2 (l := l) AL.up (fun j hj => (hrow j hj).1) (fun j hj => ⟨fun h => (hrow j hj).2.2.2.1 j h rfl, fun h => (hrow j hj).2.2.2.2 j h rfl⟩) AL.own AL.nx
          have hmr := AL.hm
          have hsz : s + 3 ≤ wi.heap.size := by have := AL.up.size; omega
          have hll : l.length ≤ M.sig.length + x1.length := by
            have h1 := congrArg List.length HT.out
            rw [← HTOT.out, List.length_append, List.length_append] at h1
            have := wordsOf_len x1
            omega
          have heq : l = M.sig ++ wordsOf x1 := by have := HT.out; rw [hx2, wordsOf_nil, List.append_nil] at this; rw [← this, HTOT.out]
          have hev : x1.length % 2 = 0 := by rw [HPAR.out, ← HP.out, hx2]; rfl
          have HEQ := hid heq
          have HEV := hid hev
          obtain ⟨A8, c8, e8, e8f, hy8, -⟩ := hsdr.open_
          have H8 := hid (Empty_any hy8)
          clear hy8 heq hev AL hsd13 hs13 hur13 hF13 hrow HE9 hsdr
          subst hx2
          go_wp2_with fail
          refine H8.out.mono ?_
          rintro e w15 ⟨rfl, rfl⟩
          by_cases he : r1 = []
          · have HN := hid (blockE_go (m' := M.setSig l) HE1.out (show cqStep M (k, ed) = some (M.setSig l) by rw [HST2.out, he, wordsIn_even HX0.out HEV.out, HEQ.out]; rfl))
            go_wp2
            go_roundg rest.length
            case measure => omega
            case rel => exact ⟨rest, M.setSig l, vv, v3, v4, rfl, hsr, hmr, hFr, hurr, hsz, by rw [HE.out]; exact HN.out, by show l.length + _ ≤ _; omega, by show M.sigc.length + _ ≤ _; omega, by show M.cas.length + _ ≤ _; omega⟩
          · have HN := hid (blockE_stop (stp := cqStep) (m := M) HE1.out (by
              rw [HST2.out]
              cases r1 with
              | nil => exact absurd rfl he
              | cons y t => rw [wordsIn_more]; rfl))
            go_wp2
            go_ret
            exact HNO.out _ hurr (HBL.out (by rw [HE.out]; exact HN.out))
        obtain ⟨wq, hwq⟩ : ∃ wq, wi.alloc (.cells #[.int .u16 0] 85) = wq := ⟨_, rfl⟩
        obtain ⟨q, hq0⟩ : ∃ q, wi.heap.size = q := ⟨_, rfl⟩
        have huq : Upd [] wi wq := by rw [← hwq]; exact (Upd.refl _ _).alloc _
        have hbq : Blk wq q 85 #[.int .u16 0] := by rw [← hwq, ← hq0]; exact Blk.new _ _ _
        have hqw : wi.heap.size ≤ q := by omega
        have hpq : p < q := by have := AL.up.size; omega
        have hspq := AL.sv.upd huq (by simp) (by simp)
        have hmq := AL.hm.upd huq (by simp)
        have hurq : Upd [m] w wi := hur13.trans AL.up (fun j hj => by
          rcases List.mem_cons.1 hj with hj | hj
          · right; omega
          · rcases List.mem_cons.1 hj with hj | hj
            · left; simp [hj]
            · right; have hj := Option.mem_toList.1 hj; have : s + 3 ≤ j := (by first | exact (HL.out.1 j hj).1 | exact (HL.out.2.1 j hj).1); omega)
        have hurq2 := hurq.trans huq (by simp)
        have HWQ := hid hwq
        have HQ0 := hid hq0
        clear hwq hq0 HE9 hrow hurq
        by_cases hsh : x2.length < 2
        · have hodd : x1.length % 2 = 1 := by
            rw [HPAR.out, ← HP.out]
            have : 0 < x2.length := List.length_pos_iff.2 hx2
            omega
          have HN := hid (blockE_stop (stp := cqStep) (m := M) HE1.out (by rw [HST2.out, wordsIn_odd _ hodd]; rfl))
          have H := hid (ReadUint16_bad (ob := q) (k := 0) hspq hsh)
          clear hodd
          go_wp2_with fail
          rw [HWQ.out, HQ0.out]
          refine H.out.mono ?_
          rintro e w15 ⟨rfl, hu15⟩
          go_wp2
          go_ret
          exact HNO.out _ (UP.out _ _ _ hurq2 hu15 (by simp; omega)) (HBL.out (by rw [HE.out]; exact HN.out))
        obtain ⟨xa, xb, x3, rfl⟩ : ∃ xa xb x3, x2 = xa :: xb :: x3 := by
          match x2, hsh with
          | [], h => simp at h
          | [_], h => simp at h
          | xa :: xb :: x3, _ => exact ⟨xa, xb, x3, rfl⟩
        clear hsh hx2
        have H := hid (ReadUint16_ok (k := 0) hspq hbq (by simp) (by omega) (by omega))
        have hwo := wordsOf_two xa xb x3
        generalize UInt16.ofNat (xa.toNat * 256 + xb.toNat) = uw at H hwo
        have HWO := hid hwo
        clear hwo
        go_wp2_with fail
        rw [HWQ.out, HQ0.out]
        refine H.out.mono ?_
        rintro e w15 ⟨rfl, hu15, hs15, hb15⟩
        have hb15 : Blk w15 q 85 #[wv uw] := hb15
        have hm15 := hmq.upd hu15 (by simp; omega)
        have hu25 : Upd [p] wi w15 := (huq.mono (by simp)).trans hu15 (by simp; omega)
        have hown15 : Own w15 (s + 3) 85 vv (l.map wv) := AL.own.upd hu25 (fun h hh hk => by
          obtain ⟨_, pv, hpb, _⟩ := AL.sv
          have := AL.own.ne hpb (by decide) h hh
          simp at hk; exact this hk)
        have hsz15 : s + 3 ≤ w15.heap.size := by have := hu25.size; have := AL.up.size; omega
        have hnm : m ∉ vv.ownBlock.toList := fun hm' => by have := AL.own.ne AL.hm (by decide) m (Option.mem_toList.1 hm'); exact this rfl
        obtain ⟨Av, cv, rfl⟩ := AL.own.formN (n := l.length) (by simp)
        have c0 := hm15.cell 2
        have c0f := hm15.frozen 2
        have c1 := hb15.cell 0
        have a0 := (hm15.alloc (.cells #[wv uw] 85)).cell 2
        have a0f := (hm15.alloc (.cells #[wv uw] 85)).frozen 2
        have a1 := (hb15.alloc (.cells #[wv uw] 85)).cell 0
        simp at c0 c1 a0 a1
        have hl2 : l.length + 1 ≤ 65536 := by simp at hbnd; omega
        have HAL := hid AL
        clear AL hspq hmq hbq hurq2 huq H hur13 hF13 hsd13 hs13
        go_wp2_with fail
        go_region_law (first | (refine step_append_row (v := .slice Av l.length cv) _ rfl _ _ 23 rfl (s + 3) 85 (.int .u16 0) 2 Try.underlying23 info_u16 rfl rfl (hown15.upd (((Upd.refl [] _).alloc _).drew) (by simp)) rfl (Row.drew (Row.one w15 85 (wv uw))) (by intro u hu; simp at hu; subst hu; rfl) (by simp; omega) (by simp; omega) (by simp; omega) ?_; intro v3 w3 hap; obtain ⟨A3, c3, hv3⟩ := Own.formN (n := l.length + 1) hap.1 (by simp); subst hv3; have hm3 := ((hm15.alloc (.cells #[wv uw] 85)).drew).upd hap.2.1 hnm; have e0 := hm3.cell 2; simp at e0; have g0 := hm3.frozen 2))
        all_goals
          go_wp2
          go_roundg x3.length
          case measure => simp only [List.length_cons]; omega
          case rel =>
            have hup : Upd [m] w3 (w3.setCell ⟨m, 2, none⟩ (.slice A3 (l.length + 1) c3)) := (Upd.refl _ _).setCell (by simp) _
            have hAL := HAL.out.step (by omega) (by omega) hB (by decide) (by decide) hu25 hs15 (((Upd.refl [] _).alloc _).drew) hap hup (hm3.set_ 2 _)
            refine ⟨x3, _, l ++ [uw], rfl, by rw [List.map_append]; exact hAL, ?_, ?_, ?_⟩
            · rw [HT.out, HWO.out]; simp
            · have := HP.out; simp at this; omega
            · simp at hbnd ⊢; omega
    rw [decide_eq_false hk13] at d13
    by_cases hk50 : k = 50
    · rw [decide_eq_true hk50] at d50
      have HST := hid (show cqStep M (k, ed) = (wordsP 2 ed).map fun l => M.setSigc (M.sigc ++ l) by rw [hk50]; rfl)
      clear hk50
      obtain ⟨wB, hwB⟩ : ∃ wB, w10.alloc (.cells #[.slice none 0 0] 141) = wB := ⟨_, rfl⟩
      obtain ⟨p, hp0⟩ : ∃ p, w10.heap.size = p := ⟨_, rfl⟩
      have huB : Upd [] w10 wB := by rw [← hwB]; exact (Upd.refl _ _).alloc _
      have hbp : Blk wB p 141 #[.slice none 0 0] := by rw [← hwB, ← hp0]; exact Blk.new _ _ _
      have hgp : g + 1 < p := by omega
      have hpw : w10.heap.size ≤ p := by omega
      have hsdB := hsd.upd huB (by simp) (by simp)
      have hmB := hm10.upd huB (by simp)
      have hurB := hur10.trans huB (by simp)
      have HWB := hid hwB
      have HP0 := hid hp0
      clear hwB hp0 hsd hm10
      have H := hid (ReadLP16_any hsdB (k := 0) hbp (by simp) (by omega) (by omega))
      go_wp2_with fail
      rw [HWB.out, HP0.out]
      refine H.out.mono ?_
      intro e w13 hp
      rcases hr2 : lp 2 ed with _ | ⟨x1, r1⟩
      · obtain ⟨rfl, hu13⟩ := hp.no hr2
        have HN := hid (blockE_stop (stp := cqStep) (m := M) HE1.out (by rw [HST.out]; unfold wordsP; rw [hr2]; rfl))
        clear hr2
        go_wp2
        go_ret
        exact HNO.out _ (UP.out _ _ _ hurB hu13 (by simp; omega)) (HBL.out (by rw [HE.out]; exact HN.out))
      obtain ⟨u1, rfl, hu13, hsd13, hbp13, hyp, hnp⟩ := hp.yes hr2
      have hx1l := lp_len hr2
      have hsp13 : Sv w13 B p x1 True := ⟨by omega, u1, hbp13, hyp, fun _ => hnp⟩
      have hm13 := hmB.upd hu13 (by simp; omega)
      have hC13 : Upd [m, g, g + 1] w10 w13 := (huB.mono (by simp)).trans hu13 (by simp; omega)
      have hpw13 : p < w13.heap.size := hbp13.lt
      have hur13 := UP.out _ _ _ hurB hu13 (by simp; omega)
      have hF13 := hF10.upd hC13 (by simp; omega) (by have := HL.out; simp; refine ⟨⟨?_, ?_, ?_⟩, ⟨?_, ?_, ?_⟩, ?_, ?_, ?_⟩ <;> (intro h; first | (have := (HL.out.1 _ h); omega) | (have := (HL.out.2.1 _ h); omega) | (have := (HL.out.2.2 _ h); omega)))
      have hs13 := hs10.upd hC13 (by simp; omega) (by simp; omega)
      have HST2 := hid (show cqStep M (k, ed) = (wordsIn (some (x1, r1))).map fun l => M.setSigc (M.sigc ++ l) by rw [HST.out]; unfold wordsP; rw [hr2])
      clear hr2 hp hu13 hbp13 hyp hnp hsdB hmB hurB hbp H HWB HP0 huB hF10 hs10 hur10 HST
      obtain ⟨A9, c9, e9, -, hy9, -⟩ := hsp13.open_
      have HE3 := hid (Empty_any hy9)
      clear hy9
      go_wp2_with fail
      refine HE3.out.mono ?_
      rintro e w14 ⟨rfl, rfl⟩
      by_cases hx0 : x1 = []
      · have HN := hid (blockE_stop (stp := cqStep) (m := M) HE1.out (by rw [HST2.out, hx0, wordsIn_nil]; rfl))
        subst hx0
        go_wp2
        go_ret
        exact HNO.out _ hur13 (HBL.out (by rw [HE.out]; exact HN.out))
      rw [decide_eq_false hx0]
      have HX0 := hid hx0
      have AL0 : ALoop 85 B p m 129 (fun z => #[.bool M.ocsp, .bool M.scts, v2, z, v4]) (s + 3) w13 v3 x1 v3 (M.sigc.map wv) w13 := ⟨hsp13, hm13, hF13.o3, nextV.refl _ _, Upd.refl _ _⟩
      obtain ⟨tot, htot0⟩ : ∃ l, M.sigc ++ wordsOf x1 = l := ⟨_, rfl⟩
      obtain ⟨par, hpar0⟩ : ∃ n, x1.length % 2 = n := ⟨_, rfl⟩
      have HTOT := hid htot0
      have HPAR := hid hpar0
      have h0x1 : M.sigc.length + x1.length ≤ x0.length := by omega
      clear hx0 htot0 hpar0 hsp13 hm13 e9 HE3
      go_wp2_with fail
      go_loopg [13] x1.length (fun gk _ wr => WRelA B p m 129 (fun z => #[.bool M.ocsp, .bool M.scts, v2, z, v4]) (s + 3) w13 v3 tot par x0.length gk wr)
      case atStart => exact ⟨x1, v3, M.sigc, rfl, AL0, HTOT.out.symm, HPAR.out, h0x1⟩
      case round =>
        obtain ⟨x2, vv, l, rfl, AL, htot, hpar, hbnd⟩ := hrel
        obtain ⟨wi, rfl⟩ : ∃ wi : World, wi = wr := ⟨_, rfl⟩
        have HT := hid htot
        have HP := hid hpar
        clear htot hpar AL0
        obtain ⟨A9, c9, e9, -, hy9, -⟩ := AL.sv.open_
        have HE9 := hid (Empty_any hy9)
        clear hy9
        go_wp2_with fail
        refine HE9.out.mono ?_
        rintro e w14 ⟨rfl, rfl⟩
        have hrow : ∀ j ∈ p :: m :: v3.ownBlock.toList, B ≤ j ∧ j ≠ g + 1 ∧ j ≠ s + 2 ∧ (∀ h, v2.ownBlock = some h → h ≠ j) ∧ (∀ h, v4.ownBlock = some h → h ≠ j) := by
          intro j hj
          obtain ⟨l2, l3, l4⟩ := HL.out
          have a23 := hF13.a23
          have a24 := hF13.a24
          have a34 := hF13.a34
          rcases List.mem_cons.1 hj with hj | hj
          · subst hj
            exact ⟨by omega, by omega, by omega, fun h hh => by first | (have := l2 h hh; omega) | (have := l3 h hh; omega), fun h hh => by first | (have := l4 h hh; omega) | (have := l3 h hh; omega)⟩
          · rcases List.mem_cons.1 hj with hj | hj
            · subst hj
              exact ⟨by omega, by omega, by omega, fun h hh => by first | (have := l2 h hh; omega) | (have := l3 h hh; omega), fun h hh => by first | (have := l4 h hh; omega) | (have := l3 h hh; omega)⟩
            · have hj := Option.mem_toList.1 hj
              have hjj : s + 3 ≤ j ∧ j < g := by first | exact l2 j hj | exact l3 j hj
              exact ⟨by omega, by omega, by omega, fun h hh he => by subst he; first | exact a23 _ hj hh | exact a23 _ hh hj, fun h hh he => by subst he; first | exact a24 _ hj hh | exact a34 _ hj hh⟩
        by_cases hx2 : x2 = []
        · have hsdr := hsd13.upd AL.up (fun j hj => (hrow j hj).1) (fun hj => (hrow _ hj).2.1 rfl)
          have hsr := hs13.upd AL.up (fun j hj => (hrow j hj).1) (fun hj => (hrow _ hj).2.2.1 rfl)
          have hurr : Upd [m] w wi := hur13.trans AL.up (fun j hj => by
            rcases List.mem_cons.1 hj with hj | hj
            · right; omega
            · rcases List.mem_cons.1 hj with hj | hj
              · left; simp [hj]
              · right; have hj := Option.mem_toList.1 hj; have := (hrow j (by simp [hj])).1; have : s + 3 ≤ j := (by first | exact (HL.out.1 j hj).1 | exact (HL.out.2.1 j hj).1); omega)
          have hFr := hF13.put3 (l := l) AL.up (fun j hj => (hrow j hj).1) (fun j hj => ⟨fun h => (hrow j hj).2.2.2.1 j h rfl, fun h => (hrow j hj).2.2.2.2 j h rfl⟩) AL.own AL.nx
          have hmr := AL.hm
          have hsz : s + 3 ≤ wi.heap.size := by have := AL.up.size; omega
          have hll : l.length ≤ M.sigc.length + x1.length := by
            have h1 := congrArg List.length HT.out
            rw [← HTOT.out, List.length_append, List.length_append] at h1
            have := wordsOf_len x1
            omega
          have heq : l = M.sigc ++ wordsOf x1 := by have := HT.out; rw [hx2, wordsOf_nil, List.append_nil] at this; rw [← this, HTOT.out]
          have hev : x1.length % 2 = 0 := by rw [HPAR.out, ← HP.out, hx2]; rfl
          have HEQ := hid heq
          have HEV := hid hev
          obtain ⟨A8, c8, e8, e8f, hy8, -⟩ := hsdr.open_
          have H8 := hid (Empty_any hy8)
          clear hy8 heq hev AL hsd13 hs13 hur13 hF13 hrow HE9 hsdr
          subst hx2
          go_wp2_with fail
          refine H8.out.mono ?_
          rintro e w15 ⟨rfl, rfl⟩
          by_cases he : r1 = []
          · have HN := hid (blockE_go (m' := M.setSigc l) HE1.out (show cqStep M (k, ed) = some (M.setSigc l) by rw [HST2.out, he, wordsIn_even HX0.out HEV.out, HEQ.out]; rfl))
            go_wp2
            go_roundg rest.length
            case measure => omega
            case rel => exact ⟨rest, M.setSigc l, v2, vv, v4, rfl, hsr, hmr, hFr, hurr, hsz, by rw [HE.out]; exact HN.out, by show M.sig.length + _ ≤ _; omega, by show l.length + _ ≤ _; omega, by show M.cas.length + _ ≤ _; omega⟩
          · have HN := hid (blockE_stop (stp := cqStep) (m := M) HE1.out (by
              rw [HST2.out]
              cases r1 with
              | nil => exact absurd rfl he
              | cons y t => rw [wordsIn_more]; rfl))
            go_wp2
            go_ret
            exact HNO.out _ hurr (HBL.out (by rw [HE.out]; exact HN.out))
        obtain ⟨wq, hwq⟩ : ∃ wq, wi.alloc (.cells #[.int .u16 0] 85) = wq := ⟨_, rfl⟩
        obtain ⟨q, hq0⟩ : ∃ q, wi.heap.size = q := ⟨_, rfl⟩
        have huq : Upd [] wi wq := by rw [← hwq]; exact (Upd.refl _ _).alloc _
        have hbq : Blk wq q 85 #[.int .u16 0] := by rw [← hwq, ← hq0]; exact Blk.new _ _ _
        have hqw : wi.heap.size ≤ q := by omega
        have hpq : p < q := by have := AL.up.size; omega
        have hspq := AL.sv.upd huq (by simp) (by simp)
        have hmq := AL.hm.upd huq (by simp)
        have hurq : Upd [m] w wi := hur13.trans AL.up (fun j hj => by
          rcases List.mem_cons.1 hj with hj | hj
          · right; omega
          · rcases List.mem_cons.1 hj with hj | hj
            · left; simp [hj]
            · right; have hj := Option.mem_toList.1 hj; have : s + 3 ≤ j := (by first | exact (HL.out.1 j hj).1 | exact (HL.out.2.1 j hj).1); omega)
        have hurq2 := hurq.trans huq (by simp)
        have HWQ := hid hwq
        have HQ0 := hid hq0
        clear hwq hq0 HE9 hrow hurq
        by_cases hsh : x2.length < 2
        · have hodd : x1.length % 2 = 1 := by
            rw [HPAR.out, ← HP.out]
            have : 0 < x2.length := List.length_pos_iff.2 hx2
            omega
          have HN := hid (blockE_stop (stp := cqStep) (m := M) HE1.out (by rw [HST2.out, wordsIn_odd _ hodd]; rfl))
          have H := hid (ReadUint16_bad (ob := q) (k := 0) hspq hsh)
          clear hodd
          go_wp2_with fail
          rw [HWQ.out, HQ0.out]
          refine H.out.mono ?_
          rintro e w15 ⟨rfl, hu15⟩
          go_wp2
          go_ret
          exact HNO.out _ (UP.out _ _ _ hurq2 hu15 (by simp; omega)) (HBL.out (by rw [HE.out]; exact HN.out))
        obtain ⟨xa, xb, x3, rfl⟩ : ∃ xa xb x3, x2 = xa :: xb :: x3 := by
          match x2, hsh with
          | [], h => simp at h
          | [_], h => simp at h
          | xa :: xb :: x3, _ => exact ⟨xa, xb, x3, rfl⟩
        clear hsh hx2
        have H := hid (ReadUint16_ok (k := 0) hspq hbq (by simp) (by omega) (by omega))
        have hwo := wordsOf_two xa xb x3
        generalize UInt16.ofNat (xa.toNat * 256 + xb.toNat) = uw at H hwo
        have HWO := hid hwo
        clear hwo
        go_wp2_with fail
        rw [HWQ.out, HQ0.out]
        refine H.out.mono ?_
        rintro e w15 ⟨rfl, hu15, hs15, hb15⟩
        have hb15 : Blk w15 q 85 #[wv uw] := hb15
        have hm15 := hmq.upd hu15 (by simp; omega)
        have hu25 : Upd [p] wi w15 := (huq.mono (by simp)).trans hu15 (by simp; omega)
        have hown15 : Own w15 (s + 3) 85 vv (l.map wv) := AL.own.upd hu25 (fun h hh hk => by
          obtain ⟨_, pv, hpb, _⟩ := AL.sv
          have := AL.own.ne hpb (by decide) h hh
          simp at hk; exact this hk)
        have hsz15 : s + 3 ≤ w15.heap.size := by have := hu25.size; have := AL.up.size; omega
        have hnm : m ∉ vv.ownBlock.toList := fun hm' => by have := AL.own.ne AL.hm (by decide) m (Option.mem_toList.1 hm'); exact this rfl
        obtain ⟨Av, cv, rfl⟩ := AL.own.formN (n := l.length) (by simp)
        have c0 := hm15.cell 3
        have c0f := hm15.frozen 3
        have c1 := hb15.cell 0
        have a0 := (hm15.alloc (.cells #[wv uw] 85)).cell 3
        have a0f := (hm15.alloc (.cells #[wv uw] 85)).frozen 3
        have a1 := (hb15.alloc (.cells #[wv uw] 85)).cell 0
        simp at c0 c1 a0 a1
        have hl2 : l.length + 1 ≤ 65536 := by simp at hbnd; omega
        have HAL := hid AL
        clear AL hspq hmq hbq hurq2 huq H hur13 hF13 hsd13 hs13
        go_wp2_with fail
        go_region_law (first | (refine step_append_row (v := .slice Av l.length cv) _ rfl _ _ 23 rfl (s + 3) 85 (.int .u16 0) 2 Try.underlying23 info_u16 rfl rfl (hown15.upd (((Upd.refl [] _).alloc _).drew) (by simp)) rfl (Row.drew (Row.one w15 85 (wv uw))) (by intro u hu; simp at hu; subst hu; rfl) (by simp; omega) (by simp; omega) (by simp; omega) ?_; intro v3 w3 hap; obtain ⟨A3, c3, hv3⟩ := Own.formN (n := l.length + 1) hap.1 (by simp); subst hv3; have hm3 := ((hm15.alloc (.cells #[wv uw] 85)).drew).upd hap.2.1 hnm; have e0 := hm3.cell 3; simp at e0; have g0 := hm3.frozen 3))
        all_goals
          go_wp2
          go_roundg x3.length
          case measure => simp only [List.length_cons]; omega
          case rel =>
            have hup : Upd [m] w3 (w3.setCell ⟨m, 3, none⟩ (.slice A3 (l.length + 1) c3)) := (Upd.refl _ _).setCell (by simp) _
            have hAL := HAL.out.step (by omega) (by omega) hB (by decide) (by decide) hu25 hs15 (((Upd.refl [] _).alloc _).drew) hap hup (hm3.set_ 3 _)
            refine ⟨x3, _, l ++ [uw], rfl, by rw [List.map_append]; exact hAL, ?_, ?_, ?_⟩
            · rw [HT.out, HWO.out]; simp
            · have := HP.out; simp at this; omega
            · simp at hbnd ⊢; omega
    rw [decide_eq_false hk50] at d50
    by_cases hk47 : k = 47
    · rw [decide_eq_true hk47] at d47
      have HST := hid (show cqStep M (k, ed) = (listsP 2 2 ed).map fun l => M.setCas (M.cas ++ l) by rw [hk47]; rfl)
      clear hk47
      obtain ⟨wB, hwB⟩ : ∃ wB, w10.alloc (.cells #[.slice none 0 0] 141) = wB := ⟨_, rfl⟩
      obtain ⟨p, hp0⟩ : ∃ p, w10.heap.size = p := ⟨_, rfl⟩
      have huB : Upd [] w10 wB := by rw [← hwB]; exact (Upd.refl _ _).alloc _
      have hbp : Blk wB p 141 #[.slice none 0 0] := by rw [← hwB, ← hp0]; exact Blk.new _ _ _
      have hgp : g + 1 < p := by omega
      have hpw : w10.heap.size ≤ p := by omega
      have hsdB := hsd.upd huB (by simp) (by simp)
      have hmB := hm10.upd huB (by simp)
      have hurB := hur10.trans huB (by simp)
      have HWB := hid hwB
      have HP0 := hid hp0
      clear hwB hp0 hsd hm10
      have H := hid (ReadLP16_any hsdB (k := 0) hbp (by simp) (by omega) (by omega))
      go_wp2_with fail
      rw [HWB.out, HP0.out]
      refine H.out.mono ?_
      intro e w13 hp
      rcases hr2 : lp 2 ed with _ | ⟨x1, r1⟩
      · obtain ⟨rfl, hu13⟩ := hp.no hr2
        have HN := hid (blockE_stop (stp := cqStep) (m := M) HE1.out (by rw [HST.out]; unfold listsP; rw [hr2]; rfl))
        clear hr2
        go_wp2
        go_ret
        exact HNO.out _ (UP.out _ _ _ hurB hu13 (by simp; omega)) (HBL.out (by rw [HE.out]; exact HN.out))
      obtain ⟨u1, rfl, hu13, hsd13, hbp13, hyp, hnp⟩ := hp.yes hr2
      have hx1l := lp_len hr2
      have hsp13 : Sv w13 B p x1 True := ⟨by omega, u1, hbp13, hyp, fun _ => hnp⟩
      have hm13 := hmB.upd hu13 (by simp; omega)
      have hC13 : Upd [m, g, g + 1] w10 w13 := (huB.mono (by simp)).trans hu13 (by simp; omega)
      have hpw13 : p < w13.heap.size := hbp13.lt
      have hur13 := UP.out _ _ _ hurB hu13 (by simp; omega)
      have hF13 := hF10.upd hC13 (by simp; omega) (by have := HL.out; simp; refine ⟨⟨?_, ?_, ?_⟩, ⟨?_, ?_, ?_⟩, ?_, ?_, ?_⟩ <;> (intro h; first | (have := (HL.out.1 _ h); omega) | (have := (HL.out.2.1 _ h); omega) | (have := (HL.out.2.2 _ h); omega)))
      have hs13 := hs10.upd hC13 (by simp; omega) (by simp; omega)
      have HST2 := hid (show cqStep M (k, ed) = (lpsIn 2 (some (x1, r1))).map fun l => M.setCas (M.cas ++ l) by rw [HST.out]; unfold listsP; rw [hr2])
      clear hr2 hp hu13 hbp13 hyp hnp hsdB hmB hurB hbp H HWB HP0 huB hF10 hs10 hur10 HST
      obtain ⟨A9, c9, e9, -, hy9, -⟩ := hsp13.open_
      have HE3 := hid (Empty_any hy9)
      clear hy9
      go_wp2_with fail
      refine HE3.out.mono ?_
      rintro e w14 ⟨rfl, rfl⟩
      by_cases hx0 : x1 = []
      · have HN := hid (blockE_stop (stp := cqStep) (m := M) HE1.out (by rw [HST2.out, hx0, lpsIn_nil]; rfl))
        subst hx0
        go_wp2
        go_ret
        exact HNO.out _ hur13 (HBL.out (by rw [HE.out]; exact HN.out))
      rw [decide_eq_false hx0]
      have HX0 := hid hx0
      obtain ⟨us0, hown0, hall0⟩ := hF13.o4
      have AL0 : ALoop 22 B p m 129 (fun z => #[.bool M.ocsp, .bool M.scts, v2, v3, z]) (s + 3) w13 v4 x1 v4 us0 w13 := ⟨hsp13, hm13, hown0, nextV.refl _ _, Upd.refl _ _⟩
      have hul0 := hall0.length
      clear hx0 hsp13 hm13 e9 HE3
      go_wp2_with fail
      go_loopg [15] x1.length (fun gk _ wr => LRelA 2 B p m 129 (fun z => #[.bool M.ocsp, .bool M.scts, v2, v3, z]) (s + 3) w13 v4 M.cas x1 (us0.length + x1.length) gk wr)
      case atStart => exact ⟨x1, v4, us0, [], rfl, AL0, by rw [List.append_nil]; exact hall0, by cases lps 2 x1 <;> rfl, Nat.le_refl _⟩
      case round =>
        obtain ⟨x2, vv, us, l, rfl, AL, hall, heq, hbnd⟩ := hrel
        obtain ⟨wi, rfl⟩ : ∃ wi : World, wi = wr := ⟨_, rfl⟩
        have HEQ := hid heq
        have HALL := hid hall
        have HUL := hid hall.length
        clear heq hall AL0 hall0 hown0
        obtain ⟨A9, c9, e9, -, hy9, -⟩ := AL.sv.open_
        have HE9 := hid (Empty_any hy9)
        clear hy9
        go_wp2_with fail
        refine HE9.out.mono ?_
        rintro e w14 ⟨rfl, rfl⟩
        have hrow : ∀ j ∈ p :: m :: v4.ownBlock.toList, B ≤ j ∧ j ≠ g + 1 ∧ j ≠ s + 2 ∧ (∀ h, v2.ownBlock = some h → h ≠ j) ∧ (∀ h, v3.ownBlock = some h → h ≠ j) := by
          intro j hj
          obtain ⟨l2, l3, l4⟩ := HL.out
          have a24 := hF13.a24
          have a34 := hF13.a34
          rcases List.mem_cons.1 hj with hj | hj
          · subst hj
            exact ⟨by omega, by omega, by omega, fun h hh => by have := l2 h hh; omega, fun h hh => by have := l3 h hh; omega⟩
          · rcases List.mem_cons.1 hj with hj | hj
            · subst hj
              exact ⟨by omega, by omega, by omega, fun h hh => by have := l2 h hh; omega, fun h hh => by have := l3 h hh; omega⟩
            · have hj := Option.mem_toList.1 hj
              have hjj := l4 j hj
              exact ⟨by omega, by omega, by omega, fun h hh he => by subst he; exact a24 _ hh hj, fun h hh he => by subst he; exact a34 _ hh hj⟩
        have hurr : Upd [m] w wi := hur13.trans AL.up (fun j hj => by
          rcases List.mem_cons.1 hj with hj | hj
          · right; omega
          · rcases List.mem_cons.1 hj with hj | hj
            · left; simp [hj]
            · right; have hj := Option.mem_toList.1 hj; have : s + 3 ≤ j := (HL.out.2.2 j hj).1; omega)
        by_cases hx2 : x2 = []
        · have hsdr := hsd13.upd AL.up (fun j hj => (hrow j hj).1) (fun hj => (hrow _ hj).2.1 rfl)
          have hsr := hs13.upd AL.up (fun j hj => (hrow j hj).1) (fun hj => (hrow _ hj).2.2.1 rfl)
          have hFr := hF13.put4 (l := M.cas ++ l) AL.up (fun j hj => ⟨fun h => (hrow j hj).2.2.2.1 j h rfl, fun h => (hrow j hj).2.2.2.2 j h rfl⟩) ⟨us, AL.own, HALL.out⟩ AL.nx
          have hmr := AL.hm
          have hsz : s + 3 ≤ wi.heap.size := by have := AL.up.size; omega
          have hll : (M.cas ++ l).length ≤ M.cas.length + x1.length := by
            have h1 := HUL.out
            have h2 := hbnd
            omega
          have heq : lps 2 x1 = some l := by rw [HEQ.out, hx2, lps_nil]; simp
          have HEQ2 := hid heq
          obtain ⟨A8, c8, e8, e8f, hy8, -⟩ := hsdr.open_
          have H8 := hid (Empty_any hy8)
          clear hy8 heq AL hsd13 hs13 hur13 hF13 hrow HE9 hsdr
          subst hx2
          go_wp2_with fail
          refine H8.out.mono ?_
          rintro e w15 ⟨rfl, rfl⟩
          by_cases he : r1 = []
          · have HN := hid (blockE_go (m' := M.setCas (M.cas ++ l)) HE1.out (show cqStep M (k, ed) = some (M.setCas (M.cas ++ l)) by rw [HST2.out, he, lpsIn_some 2 HX0.out, HEQ2.out]; rfl))
            go_wp2
            go_roundg rest.length
            case measure => omega
            case rel => exact ⟨rest, M.setCas (M.cas ++ l), v2, v3, vv, rfl, hsr, hmr, hFr, hurr, hsz, by rw [HE.out]; exact HN.out, by show M.sig.length + _ ≤ _; omega, by show M.sigc.length + _ ≤ _; omega, by show (M.cas ++ l).length + _ ≤ _; omega⟩
          · have HN := hid (blockE_stop (stp := cqStep) (m := M) HE1.out (by
              rw [HST2.out]
              cases r1 with
              | nil => exact absurd rfl he
              | cons y t => rw [lpsIn_more]; rfl))
            go_wp2
            go_ret
            exact HNO.out _ hurr (HBL.out (by rw [HE.out]; exact HN.out))
        obtain ⟨wq, hwq⟩ : ∃ wq, wi.alloc (.cells #[.slice none 0 0] 22) = wq := ⟨_, rfl⟩
        obtain ⟨q, hq0⟩ : ∃ q, wi.heap.size = q := ⟨_, rfl⟩
        have huq : Upd [] wi wq := by rw [← hwq]; exact (Upd.refl _ _).alloc _
        have hbq : Blk wq q 22 #[.slice none 0 0] := by rw [← hwq, ← hq0]; exact Blk.new _ _ _
        have hqw : wi.heap.size ≤ q := by omega
        have hpq : p < q := by have := AL.up.size; omega
        have hspq := AL.sv.upd huq (by simp) (by simp)
        have hmq := AL.hm.upd huq (by simp)
        have hurq2 := hurr.trans huq (by simp)
        have HWQ := hid hwq
        have HQ0 := hid hq0
        clear hwq hq0 HE9 hrow hurr
        have stop : Hid (lps 2 x2 = none → cqRead data = none) := hid (fun hn => HBL.out (by
          rw [HE.out]
          refine blockE_stop (stp := cqStep) (m := M) HE1.out ?_
          rw [HST2.out, lpsIn_bad 2 r1 (by rw [HEQ.out, hn]; rfl)]; rfl))
        have HX2 := hid hx2
        have H := hid (tlsLP16_any hspq (k := 0) hbq (by simp) (by omega) (by omega))
        go_wp2_with fail
        rw [HWQ.out, HQ0.out]
        refine H.out.mono ?_
        intro e w15 hp
        clear hx2
        rcases hr3 : lp 2 x2 with _ | ⟨ca, x3⟩
        · obtain ⟨rfl, hu15⟩ := hp.no hr3
          have hx1 := hid (stop.out (lps_none HX2.out (fun y x r h => (by rw [hr3] at h; cases h))))
          clear hr3
          go_wp2
          go_ret
          exact HNO.out _ (UP.out _ _ _ hurq2 hu15 (by simp; omega)) hx1.out
        obtain ⟨u5, rfl, hu15, hs15, hb15, hyu, hnu⟩ := hp.yes hr3
        have hs15 : Sv w15 B p x3 True := hs15
        obtain ⟨A5, c5, rfl, hyu, -, -⟩ := Byt.form hyu rfl
        have hb15 : Blk w15 q 22 #[.slice A5 ca.length c5] := hb15
        have hx2l := lp_len hr3
        by_cases hca : ca = []
        · have hx1 := hid (stop.out (lps_none HX2.out (fun y x r h => (by rw [hr3, hca] at h; cases h))))
          have c1 := hb15.cell 0
          simp at c1
          have hz0 : ca.length = 0 := by rw [hca]; rfl
          rw [hz0] at c1
          clear hr3 hca hz0
          go_wp2
          go_ret
          exact HNO.out _ (UP.out _ _ _ hurq2 hu15 (by simp; omega)) hx1.out
        have HL2 := hid (lps_step hr3 hca)
        have hz : ((ca.length : Int) == 0) = false := by have := List.length_pos_iff.2 hca; rw [beq_eq_false_iff_ne]; omega
        have hcal : 0 < ca.length := List.length_pos_iff.2 hca
        clear hr3 hca hp
        have hm15 := hmq.upd hu15 (by simp; omega)
        have hu25 : Upd [p] wi w15 := (huq.mono (by simp)).trans hu15 (by simp; omega)
        have hown15 : Own w15 (s + 3) 22 vv us := AL.own.upd hu25 (fun h hh hk => by
          obtain ⟨_, pv, hpb, _⟩ := AL.sv
          have := AL.own.ne hpb (by decide) h hh
          simp at hk; exact this hk)
        have hsz15 : s + 3 ≤ w15.heap.size := by have := hu25.size; have := AL.up.size; omega
        have hnm : m ∉ vv.ownBlock.toList := fun hm' => by have := AL.own.ne AL.hm (by decide) m (Option.mem_toList.1 hm'); exact this rfl
        obtain ⟨Av, cv, rfl⟩ := AL.own.formN (n := us.length) rfl
        have c0 := hm15.cell 4
        have c0f := hm15.frozen 4
        have c1 := hb15.cell 0
        have a0 := (hm15.alloc (.cells #[.slice A5 ca.length c5] 22)).cell 4
        have a0f := (hm15.alloc (.cells #[.slice A5 ca.length c5] 22)).frozen 4
        have a1 := (hb15.alloc (.cells #[.slice A5 ca.length c5] 22)).cell 0
        simp at c0 c1 a0 a1
        have hl2 : us.length + 1 ≤ 65536 := by omega
        have HAL := hid AL
        have HYU := hid hyu
        clear AL hspq hmq hbq hurq2 huq H hur13 hF13 hsd13 hs13 hyu stop
        go_wp2_with fail
        go_region_law (first | (refine step_append_row (v := .slice Av us.length cv) _ rfl _ _ 24 rfl (s + 3) 22 (.slice none 0 0) 24 Try.underlying24 info_bytes rfl rfl (hown15.upd (((Upd.refl [] _).alloc _).drew) (by simp)) rfl (Row.drew (Row.one w15 22 (.slice A5 ca.length c5))) (by intro u hu; simp at hu; subst hu; rfl) (by simp; omega) (by simp; omega) (by simp; omega) ?_; intro v3' w3 hap; obtain ⟨A3, c3, hv3⟩ := Own.formN (n := us.length + 1) hap.1 (by simp); subst hv3; have hm3 := ((hm15.alloc (.cells #[.slice A5 ca.length c5] 22)).drew).upd hap.2.1 hnm; have e0 := hm3.cell 4; simp at e0; have g0 := hm3.frozen 4))
        all_goals
          go_wp2
          go_roundg x3.length
          case measure => omega
          case rel =>
            have hup : Upd [m] w3 (w3.setCell ⟨m, 4, none⟩ (.slice A3 (us.length + 1) c3)) := (Upd.refl _ _).setCell (by simp) _
            have hAL := HAL.out.step (by omega) (by omega) hB (by decide) (by decide) hu25 hs15 (((Upd.refl [] _).alloc _).drew) hap hup (hm3.set_ 4 _)
            have hB4 : ∀ (u : Value) (l : List UInt8), Byt wi B u l → Byt (w3.setCell ⟨m, 4, none⟩ (.slice A3 (us.length + 1) c3)) B u l := fun u l hb => by
              have h1 := Row.drew (Row.alloc (Row.upd hb hu25 (by simp; omega)) (.cells #[.slice A5 ca.length c5] 22))
              exact Row.upd (Row.upd h1 hap.2.1 (fun k hk => by have := (hown15.ge (Option.mem_toList.1 hk)).1; omega)) hup (by simp; omega)
            have hB5 : Byt (w3.setCell ⟨m, 4, none⟩ (.slice A3 (us.length + 1) c3)) B (.slice A5 ca.length c5) ca := by
              have h1 := Row.drew (Row.alloc HYU.out (.cells #[.slice A5 ca.length c5] 22))
              exact Row.upd (Row.upd h1 hap.2.1 (fun k hk => by have := (hown15.ge (Option.mem_toList.1 hk)).1; omega)) hup (by simp; omega)
            refine ⟨x3, _, us ++ [.slice A5 ca.length c5], l ++ [ca], rfl, hAL, ?_, ?_, ?_⟩
            · rw [← List.append_assoc]; exact All2.snoc (HALL.out.imp hB4) hB5
            · rw [HEQ.out, HL2.out]; cases lps 2 x3 <;> simp
            · simp; omega
    rw [decide_eq_false hk47] at d47
    have HN := hid (blockE_go (m' := M) HE1.out (show cqStep M (k, ed) = some M by unfold cqStep; simp only; rw [if_neg hk5, if_neg hk18, if_neg hk13, if_neg hk50, if_neg hk47]))
    clear hk5 hk18 hk13 hk50 hk47
    go_wp2
    go_roundg rest.length
    case measure => omega
    case rel => exact ⟨rest, M, v2, v3, v4, rfl, hs10, hm10, hF10, hur10, by omega, by rw [HE.out]; exact HN.out, by omega, by omega, by omega⟩
end
end Go.Proofs.Ytddkjhlngofkaaa

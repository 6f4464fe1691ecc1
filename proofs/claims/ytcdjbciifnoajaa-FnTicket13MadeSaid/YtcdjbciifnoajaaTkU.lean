/- NewSessionTicket of TLS 1.3: read by the package. -/
import Derived.Test.YtcdjbciifnoajaaU32
import Derived.Test.YtcdjbciifnoajaaTkPlain
import Derived.Deep.LoopGhost
namespace Go.Proofs.Ytcdjbciifnoajaa
open Go.RowKit
set_option maxRecDepth 100000

/-- the message in block g -/
def TkB (w : World) (B g : Nat) (T : TypeId) (m : Tk) : Prop :=
  ∃ A1 c1 A2 c2, Blk w g T #[uv m.life, uv m.age, .slice A1 m.nonce.length c1, .slice A2 m.label.length c2, uv m.early] ∧ Byt w B (.slice A1 m.nonce.length c1) m.nonce ∧ Byt w B (.slice A2 m.label.length c2) m.label
/-- the message as a value -/
def TkV (w : World) (B : Nat) (v : Value) (m : Tk) : Prop :=
  ∃ A1 c1 A2 c2, v = .agg #[uv m.life, uv m.age, .slice A1 m.nonce.length c1, .slice A2 m.label.length c2, uv m.early] ∧ Byt w B (.slice A1 m.nonce.length c1) m.nonce ∧ Byt w B (.slice A2 m.label.length c2) m.label
/-- what 'unmarshal' leaves -/
def TkU (w : World) (B m : Nat) (o : Option Tk) (e : Ending) (w' : World) : Prop :=
  e = .returned (.bool o.isSome) ∧ Upd [m] w w' ∧ ∀ x, o = some x → TkB w' B m 107 x

/-- the loop over extensions -/
def TkRel (w : World) (B m s : Nat) (x0 : List UInt8) (m0 : Tk) (u1 u2 : Value) (gk : Nat) (wr : World) : Prop :=
  ∃ (d : List UInt8) (mm : UInt32), gk = d.length ∧ Sv wr B (s + 1) d True ∧ Blk wr m 107 #[uv m0.life, uv m0.age, u1, u2, uv mm] ∧ Byt wr B u1 m0.nonce ∧ Byt wr B u2 m0.label ∧ Upd [m] w wr ∧
    blockE tkStep x0 m0 = blockE tkStep d ⟨m0.life, m0.age, m0.nonce, m0.label, mm⟩
section
variable {w w' : World} {B m : Nat} {v content : Value} {xs data : List UInt8} {e : Ending}

set_option maxHeartbeats 8000000 in
theorem unmarshal_Tk (hm : Blk w m 107 #[.int .u32 0, .int .u32 0, .slice none 0 0, .slice none 0 0, .int .u32 0]) (hv : Byt w B v data) (hB : B ≤ m) :
    Calls Try.prog 64 #[.pointer (some ⟨m, 0, none⟩), v] w (TkU w B m (tkRead data)) := by
  obtain ⟨A, c, rfl, hv, hl, hc⟩ := Byt.form hv rfl
  have hml := hm.lt
  have m0 := hm.cell 0
  have m1 := hm.cell 1
  have m2 := hm.cell 2
  have m3 := hm.cell 3
  have m4 := hm.cell 4
  have f0 := hm.frozen 0
  have f1 := hm.frozen 1
  have f2 := hm.frozen 2
  have f3 := hm.frozen 3
  have f4 := hm.frozen 4
  simp at m0 m1 m2 m3 m4
  obtain ⟨w0, hw0⟩ : ∃ w0, ((((((w.setCell ⟨m, 0, none⟩ (.int .u32 0)).setCell ⟨m, 1, none⟩ (.int .u32 0)).setCell ⟨m, 2, none⟩ (.slice none 0 0)).setCell ⟨m, 3, none⟩ (.slice none 0 0)).setCell ⟨m, 4, none⟩ (.int .u32 0)).alloc
      (.cells #[.slice A data.length c] 115)).alloc (.cells #[.slice none 0 0] 115) = w0 := ⟨_, rfl⟩
  obtain ⟨s, hs⟩ : ∃ s, w.heap.size = s := ⟨_, rfl⟩
  have hu0 : Upd [m] w w0 := by
    rw [← hw0]
    exact (((((((Upd.refl [m] w).setCell (by simp) _).setCell (by simp) _).setCell (by simp) _).setCell (by simp) _).setCell (by simp) _).alloc _).alloc _
  have hm0 : Blk w0 m 107 #[uv 0, uv 0, .slice none 0 0, .slice none 0 0, uv 0] := by
    rw [← hw0]
    have := (((((hm.set_ 0 (.int .u32 0)).set_ 1 (.int .u32 0)).set_ 2 (.slice none 0 0)).set_ 3 (.slice none 0 0)).set_ 4 (.int .u32 0))
    exact (this.alloc _).alloc _
  have hss : ∀ (w1 : World) (o : Obj), (w1.alloc o).heap.size = w1.heap.size + 1 := fun w1 o => by simp
  have hsc : ∀ (w1 : World) (p : Addr) (u : Value), (w1.setCell p u).heap.size = w1.heap.size := fun w1 p u => by simp [World.setCell]
  have hy0 : Byt (((((w.setCell ⟨m, 0, none⟩ (.int .u32 0)).setCell ⟨m, 1, none⟩ (.int .u32 0)).setCell ⟨m, 2, none⟩ (.slice none 0 0)).setCell ⟨m, 3, none⟩ (.slice none 0 0)).setCell ⟨m, 4, none⟩ (.int .u32 0)) B (.slice A data.length c) data :=
    Row.upd hv (((((Upd.refl [m] w).setCell (by simp) _).setCell (by simp) _).setCell (by simp) _).setCell (by simp) _ |>.setCell (by simp) _) (by simpa using hB)
  have hs0 : Sv w0 B s data False := by
    rw [← hw0, ← hs]
    refine ⟨by omega, _, ?_, (hy0.alloc _).alloc _, fun x => x.elim⟩
    have := Blk.new (((((w.setCell ⟨m, 0, none⟩ (.int .u32 0)).setCell ⟨m, 1, none⟩ (.int .u32 0)).setCell ⟨m, 2, none⟩ (.slice none 0 0)).setCell ⟨m, 3, none⟩ (.slice none 0 0)).setCell ⟨m, 4, none⟩ (.int .u32 0)) 115 #[.slice A data.length c]
    simp only [hsc] at this
    exact this.alloc _
  have hx0 : Blk w0 (s + 1) 115 #[.slice none 0 0] := by
    rw [← hw0, ← hs]
    have := Blk.new ((((((w.setCell ⟨m, 0, none⟩ (.int .u32 0)).setCell ⟨m, 1, none⟩ (.int .u32 0)).setCell ⟨m, 2, none⟩ (.slice none 0 0)).setCell ⟨m, 3, none⟩ (.slice none 0 0)).setCell ⟨m, 4, none⟩ (.int .u32 0)).alloc (.cells #[.slice A data.length c] 115)) 115 #[.slice none 0 0]
    simp only [hss, hsc] at this
    exact this
  have hwl : w.heap.size = s := hs
  have hms : m < s := by omega
  have hno : ∀ w2 : World, Upd [m] w w2 → tkRead data = none → TkU w B m (tkRead data) (.returned (.bool false)) w2 := by
    intro w2 hu hk
    rw [hk]
    exact ⟨rfl, hu, fun x h => (by cases h)⟩
  have HNO := hid hno
  have HW := hid hw0
  have HS := hid hs
  have hBs : B ≤ s := by omega
  clear hno hw0 hs hss hsc hy0
  have up2 : ∀ (a b : World) (S' : List Nat), Upd [m] w a → Upd S' a b → (∀ x ∈ S', x = m ∨ s ≤ x) → Upd [m] w b := fun _ _ _ h k hh => h.trans k fun x hx => (hh x hx).imp (by simp) (by omega)
  have UP := hid up2
  clear up2
  by_cases h4 : data.length < 4
  · have Hk := hid (show tkRead data = none by unfold tkRead; rw [if_pos h4])
    have H := hid (Skip_bad hs0 4 h4)
    clear h4
    go_enter Try.func64, Try.ntmps64
    go_wp2_with fail
    rw [HW.out]
    refine H.out.mono ?_
    rintro e w2 ⟨rfl, hu2⟩
    go_wp2
    go_ret
    exact HNO.out _ (UP.out _ _ _ hu0 hu2 (by simp)) (by first | exact Hk2.out | exact Hk.out)
  have Hk : Hid (tkRead data = tkBody (data.drop 4)) := hid (by unfold tkRead; rw [if_neg h4])
  have H := hid (Skip_ok hs0 4 (by omega) (by omega))
  generalize data.drop 4 = d0 at H Hk
  clear h4 hs0
  go_enter Try.func64, Try.ntmps64
  go_wp2_with fail
  rw [HW.out]
  refine H.out.mono ?_
  rintro e w1 ⟨rfl, hu1, hs1⟩
  have hU1 := UP.out _ _ _ hu0 hu1 (by simp)
  have hm1 := hm0.upd hu1 (by simp; omega)
  have hx1 := hx0.upd hu1 (by simp)
  clear hm0 hx0 hu0 hu1 H
  -- the lifetime
  rcases hr : rd4 d0 with _ | ⟨life, d1⟩
  · have Hk2 : Hid (tkRead data = none) := hid (by rw [Hk.out]; unfold tkBody; rw [hr]; rfl)
    have H := hid (ReadUint32_bad (ob := m) (k := 0) hs1 (rd4_none hr))
    clear hr
    go_wp2_with fail
    refine H.out.mono ?_
    rintro e w2 ⟨rfl, hu2⟩
    go_wp2
    go_ret
    exact HNO.out _ (UP.out _ _ _ hU1 hu2 (by simp)) (by first | exact Hk2.out | exact Hk.out)
  replace Hk : Hid (tkRead data = tkAge life d1) := hid (by rw [Hk.out]; unfold tkBody; rw [hr]; rfl)
  obtain ⟨x, y, z, t, rfl, hn⟩ := rd4_some hr
  have H := hid (ReadUint32_ok (k := 0) hs1 hm1 (by simp) (by omega) hB)
  rw [← hn] at H
  clear hn hr
  go_wp2_with fail
  refine H.out.mono ?_
  rintro e w2 ⟨rfl, hu2, hs2, hm2⟩
  have hm2 : Blk w2 m 107 #[uv life, uv 0, .slice none 0 0, .slice none 0 0, uv 0] := hm2
  have hU2 := UP.out _ _ _ hU1 hu2 (by simp)
  have hx2 := hx1.upd hu2 (by simp; omega)
  clear hm1 hx1 hs1 hU1 hu2 H
  -- the age
  rcases hr : rd4 d1 with _ | ⟨age, d2⟩
  · have Hk2 : Hid (tkRead data = none) := hid (by rw [Hk.out]; unfold tkAge; rw [hr]; rfl)
    have H := hid (ReadUint32_bad (ob := m) (k := 1) hs2 (rd4_none hr))
    clear hr
    go_wp2_with fail
    refine H.out.mono ?_
    rintro e w3 ⟨rfl, hu3⟩
    go_wp2
    go_ret
    exact HNO.out _ (UP.out _ _ _ hU2 hu3 (by simp)) (by first | exact Hk2.out | exact Hk.out)
  replace Hk : Hid (tkRead data = tkNonce life age d2) := hid (by rw [Hk.out]; unfold tkAge; rw [hr]; rfl)
  obtain ⟨x', y', z', t', rfl, hn⟩ := rd4_some hr
  have H := hid (ReadUint32_ok (k := 1) hs2 hm2 (by simp) (by omega) hB)
  rw [← hn] at H
  clear hn hr
  go_wp2_with fail
  refine H.out.mono ?_
  rintro e w3 ⟨rfl, hu3, hs3, hm3⟩
  have hm3 : Blk w3 m 107 #[uv life, uv age, .slice none 0 0, .slice none 0 0, uv 0] := hm3
  have hU3 := UP.out _ _ _ hU2 hu3 (by simp)
  have hx3 := hx2.upd hu3 (by simp; omega)
  clear hm2 hx2 hs2 hU2 hu3 H
  -- the nonce
  have H := hid (tlsLP8_any hs3 (k := 2) hm3 (by simp) (by omega) hB)
  go_wp2_with fail
  refine H.out.mono ?_
  intro e w4 hp
  rcases hr : lp 1 d2 with _ | ⟨nonce, d3⟩
  · obtain ⟨rfl, hu4⟩ := hp.no hr
    replace Hk : Hid (tkRead data = none) := hid (by rw [Hk.out]; unfold tkNonce; rw [hr]; rfl)
    clear hr
    go_wp2
    go_ret
    exact HNO.out _ (UP.out _ _ _ hU3 hu4 (by simp)) (by first | exact Hk2.out | exact Hk.out)
  obtain ⟨u, rfl, hu4, hs4, hm4, hyn, -⟩ := hp.yes hr
  replace Hk : Hid (tkRead data = tkLabel life age nonce d3) := hid (by rw [Hk.out]; unfold tkNonce; rw [hr]; rfl)
  obtain ⟨A4, c4, rfl, hyn, -, -⟩ := Byt.form hyn rfl
  have hm4 : Blk w4 m 107 #[uv life, uv age, .slice A4 nonce.length c4, .slice none 0 0, uv 0] := hm4
  have hU4 := UP.out _ _ _ hU3 hu4 (by simp)
  have hx4 := hx3.upd hu4 (by simp; omega)
  clear hm3 hx3 hs3 hU3 hu4 H hr hp
  -- the label
  have H := hid (tlsLP16_any hs4 (k := 3) hm4 (by simp) (by omega) hB)
  go_wp2_with fail
  refine H.out.mono ?_
  intro e w5 hp
  rcases hr : lp 2 d3 with _ | ⟨label, d4⟩
  · obtain ⟨rfl, hu5⟩ := hp.no hr
    replace Hk : Hid (tkRead data = none) := hid (by rw [Hk.out]; unfold tkLabel; rw [hr]; rfl)
    clear hr
    go_wp2
    go_ret
    exact HNO.out _ (UP.out _ _ _ hU4 hu5 (by simp)) (by first | exact Hk2.out | exact Hk.out)
  obtain ⟨u, rfl, hu5, hs5, hm5, hyl, -⟩ := hp.yes hr
  replace Hk : Hid (tkRead data = tkExt ⟨life, age, nonce, label, 0⟩ d4) := hid (by rw [Hk.out]; unfold tkLabel; rw [hr]; rfl)
  obtain ⟨A5, c5, rfl, hyl, -, -⟩ := Byt.form hyl rfl
  have hm5 : Blk w5 m 107 #[uv life, uv age, .slice A4 nonce.length c4, .slice A5 label.length c5, uv 0] := hm5
  have hU5 := UP.out _ _ _ hU4 hu5 (by simp)
  have hx5 := hx4.upd hu5 (by simp; omega)
  have hyn5 := Row.upd hyn hu5 (by simp; omega)
  clear hm4 hx4 hs4 hU4 hu5 H hr hp hyn
  -- the extensions
  have H := hid (ReadLP16_any hs5 (k := 0) hx5 (by simp) (by omega) (by omega))
  go_wp2_with fail
  refine H.out.mono ?_
  intro e w6 hp
  rcases hr : lp 2 d4 with _ | ⟨x0, d5⟩
  · obtain ⟨rfl, hu6⟩ := hp.no hr
    replace Hk : Hid (tkRead data = none) := hid (by rw [Hk.out]; unfold tkExt; rw [hr])
    clear hr
    go_wp2
    go_ret
    exact HNO.out _ (UP.out _ _ _ hU5 hu6 (by simp)) (by first | exact Hk2.out | exact Hk.out)
  obtain ⟨u, rfl, hu6, hs6, hx6, hyx, hnn⟩ := hp.yes hr
  have hm6 := hm5.upd hu6 (by simp; omega)
  have hU6 := UP.out _ _ _ hU5 hu6 (by simp)
  have hyn6 := Row.upd hyn5 hu6 (by simp; omega)
  have hyl6 := Row.upd hyl hu6 (by simp; omega)
  have hsx6 : Sv w6 B (s + 1) x0 True := ⟨by omega, u, hx6, hyx, fun _ => hnn⟩
  obtain ⟨A6, c6, e6, -, hy6, -⟩ := hs6.open_
  have H6 := hid (Empty_any hy6)
  go_wp2_with fail
  refine H6.out.mono ?_
  rintro e w7 ⟨rfl, rfl⟩
  rcases d5 with _ | ⟨z5, t5⟩
  rotate_left
  · have Hk2 : Hid (tkRead data = none) := hid (by rw [Hk.out]; unfold tkExt; rw [hr])
    clear hr
    go_wp2
    go_ret
    exact HNO.out _ hU6 (by first | exact Hk2.out | exact Hk.out)
  replace Hk : Hid (tkRead data = blockE tkStep x0 ⟨life, age, nonce, label, 0⟩) := hid (by rw [Hk.out]; unfold tkExt; rw [hr])
  clear hr hp hm5 hx5 hs5 hU5 hu6 hyn5 hyl hx6 hyx hnn H6 e6 hy6 hs6
  go_wp2_with fail
  go_loopg [7] x0.length (fun gk _ wr => TkRel w B m s x0 ⟨life, age, nonce, label, 0⟩ (.slice A4 nonce.length c4) (.slice A5 label.length c5) gk wr)
  case atStart => exact ⟨x0, 0, rfl, hsx6, hm6, hyn6, hyl6, hU6, rfl⟩
  case round =>
    obtain ⟨d, mm, rfl, hsx, hmr, hyn, hyl, hur, hE⟩ := hrel
    have HE := hid hE
    have hus := hur.size
    obtain ⟨A7, c7, e7, -, hy7, -⟩ := hsx.open_
    have H7 := hid (Empty_any hy7)
    clear hE hy7 hsx6 hm6 hyn6 hyl6 hU6
    go_wp2_with fail
    refine H7.out.mono ?_
    rintro e w8 ⟨rfl, rfl⟩
    by_cases h0 : d = []
    · subst h0
      go_wp2
      go_ret
      rw [Hk.out, HE.out, blockE_nil]
      refine ⟨rfl, hur, fun x hx => ?_⟩
      cases hx
      exact ⟨A4, c4, A5, c5, hmr, hyn, hyl⟩
    obtain ⟨wA, hwA⟩ : ∃ wA, (wr.alloc (.cells #[.int .u16 0] 64)).alloc (.cells #[.slice none 0 0] 115) = wA := ⟨_, rfl⟩
    obtain ⟨g, hg⟩ : ∃ g, wr.heap.size = g := ⟨_, rfl⟩
    have huA : Upd [] wr wA := by rw [← hwA]; exact ((Upd.refl _ _).alloc _).alloc _
    have hbk : Blk wA g 64 #[.int .u16 0] := by rw [← hwA, ← hg]; exact (Blk.new _ _ _).alloc _
    have hbd : Blk wA (g + 1) 115 #[.slice none 0 0] := by
      rw [← hwA, ← hg]
      have := Blk.new (wr.alloc (.cells #[.int .u16 0] 64)) 115 #[.slice none 0 0]
      rwa [show (wr.alloc (.cells #[.int .u16 0] 64)).heap.size = wr.heap.size + 1 by simp] at this
    have hsg : s + 1 < g := by obtain ⟨_, vx, hbx, _⟩ := hsx; have := hbx.lt; omega
    have hsA := hsx.upd huA (by simp) (by simp)
    have hmA := hmr.upd huA (by simp)
    have hynA := Row.upd hyn huA (by simp)
    have hylA := Row.upd hyl huA (by simp)
    have hurA := hur.trans huA (by simp)
    have HWA := hid hwA
    have hbl : blockE tkStep x0 ⟨life, age, nonce, label, 0⟩ = none → tkRead data = none := fun h => Hk.out.trans h
    have HBL := hid hbl
    have UG : Hid (∀ (a b : World) (S' : List Nat), Upd [m] w a → Upd S' a b → (∀ x ∈ S', x = m ∨ s ≤ x) → Upd [m] w b) := UP
    clear hwA hsx hmr hyn hyl hur huA hbl H7
    by_cases hsh : d.length < 2
    · have hx1 : Hid (tkRead data = none) := hid (HBL.out (by rw [HE.out]; exact blockE_none (ext1_short hsh) h0 _))
      have H := hid (ReadUint16_bad (ob := g) (k := 0) hsA hsh)
      go_wp2_with fail
      rw [HWA.out]
      refine H.out.mono ?_
      rintro e w9 ⟨rfl, hu9⟩
      go_wp2
      go_ret
      exact HNO.out _ (UG.out _ _ _ hurA hu9 (by simp)) hx1.out
    obtain ⟨x, y, t, rfl⟩ : ∃ x y t, d = x :: y :: t := by
      match d, hsh with
      | [], h => simp at h
      | [_], h => simp at h
      | x :: y :: t, _ => exact ⟨x, y, t, rfl⟩
    clear hsh h0
    have H := hid (ReadUint16_ok (k := 0) hsA hbk (by simp) (by omega) (by omega))
    have he1 := ext1_two x y t
    generalize UInt16.ofNat (x.toNat * 256 + y.toNat) = k at H he1
    have He1 := hid he1
    clear he1
    go_wp2_with fail
    rw [HWA.out]
    refine H.out.mono ?_
    rintro e w9 ⟨rfl, hu9, hs9, hb9⟩
    have hb9 : Blk w9 g 64 #[wv k] := hb9
    have hd9 := hbd.upd hu9 (by simp; omega)
    have hm9 := hmA.upd hu9 (by simp; omega)
    have hyn9 := Row.upd hynA hu9 (by simp; omega)
    have hyl9 := Row.upd hylA hu9 (by simp; omega)
    have hur9 := UG.out _ _ _ hurA hu9 (by simp; omega)
    clear hsA hbk hbd hmA hynA hylA hurA hu9 H
    have H := hid (ReadLP16_any hs9 (k := 0) hd9 (by simp) (by omega) (by omega))
    go_wp2_with fail
    refine H.out.mono ?_
    intro e w10 hp
    rcases hr : lp 2 t with _ | ⟨ed, rest⟩
    · obtain ⟨rfl, hu10⟩ := hp.no hr
      have hx1 : Hid (tkRead data = none) := hid (HBL.out (by rw [HE.out]; exact blockE_none (by rw [He1.out, hr]; rfl) (by simp) _))
      clear hr
      go_wp2
      go_ret
      exact HNO.out _ (UG.out _ _ _ hur9 hu10 (by simp)) hx1.out
    obtain ⟨u, rfl, hu10, hs10, hd10, hyd, hnn⟩ := hp.yes hr
    have hE1 : ext1 (x :: y :: t) = some ((k, ed), rest) := by rw [He1.out, hr]; rfl
    have HE1 := hid hE1
    have hlen := (ext1_len hE1).1
    have hb10 := hb9.upd hu10 (by simp; omega)
    have hm10 := hm9.upd hu10 (by simp; omega)
    have hyn10 := Row.upd hyn9 hu10 (by simp; omega)
    have hyl10 := Row.upd hyl9 hu10 (by simp; omega)
    have hur10 := UG.out _ _ _ hur9 hu10 (by simp; omega)
    have hsd : Sv w10 B (g + 1) ed True := ⟨by omega, u, hd10, hyd, fun _ => hnn⟩
    have k0 := hb10.cell 0
    simp at k0
    clear hs9 hd9 hb9 hm9 hyn9 hyl9 hur9 hu10 H hp hd10 hyd hnn hE1 hr
    by_cases hk : k = 42
    · have t1 : ((k.toNat : Int) == 42) = true := by rw [hk]; rfl
      have hst : ∀ mm : UInt32, tkStep ⟨life, age, nonce, label, mm⟩ (k, ed) = tkEarly ⟨life, age, nonce, label, mm⟩ (rd4 ed) := by
        intro mm
        unfold tkStep
        rw [if_pos hk]
      have HST := hid hst
      clear hk hst
      rcases hr : rd4 ed with _ | ⟨n, er⟩
      · have hx1 : Hid (tkRead data = none) := hid (HBL.out (by rw [HE.out]; exact blockE_stop HE1.out (by rw [HST.out, hr]; rfl)))
        have H := hid (ReadUint32_bad (ob := m) (k := 4) hsd (rd4_none hr))
        clear hr
        go_wp2_with fail
        refine H.out.mono ?_
        rintro e w11 ⟨rfl, hu11⟩
        go_wp2
        go_ret
        exact HNO.out _ (UG.out _ _ _ hur10 hu11 (by simp; omega)) hx1.out
      have hst1 : tkStep ⟨life, age, nonce, label, mm⟩ (k, ed) = tkEarly ⟨life, age, nonce, label, mm⟩ (some (n, er)) := by rw [HST.out, hr]
      have HST1 := hid hst1
      obtain ⟨x', y', z', t', hed, hn⟩ := rd4_some hr
      rw [hed] at hsd
      have H := hid (ReadUint32_ok (k := 4) hsd hm10 (by simp) (by omega) hB)
      rw [← hn] at H
      clear hn hr hed hst1
      go_wp2_with fail
      refine H.out.mono ?_
      rintro e w11 ⟨rfl, hu11, hsd11, hm11⟩
      have hm11 : Blk w11 m 107 #[uv life, uv age, .slice A4 nonce.length c4, .slice A5 label.length c5, uv n] := hm11
      have hs11 := hs10.upd hu11 (by simp; omega) (by simp; omega)
      have hyn11 := Row.upd hyn10 hu11 (by simp; omega)
      have hyl11 := Row.upd hyl10 hu11 (by simp; omega)
      have hur11 := UG.out _ _ _ hur10 hu11 (by simp; omega)
      obtain ⟨A8, c8, e8, -, hy8, -⟩ := hsd11.open_
      have H8 := hid (Empty_any hy8)
      clear hs10 hm10 hyn10 hyl10 hur10 hu11 H hsd hy8
      go_wp2_with fail
      refine H8.out.mono ?_
      rintro e w12 ⟨rfl, rfl⟩
      by_cases her : er = []
      · have hnx := blockE_go HE1.out (show tkStep ⟨life, age, nonce, label, mm⟩ (k, ed) = some ⟨life, age, nonce, label, n⟩ by rw [HST1.out, her]; rfl)
        have HN := hid hnx
        clear hnx
        go_wp2
        go_roundg rest.length
        case measure => omega
        case rel => exact ⟨rest, n, rfl, hs11, hm11, hyn11, hyl11, hur11, HE.out.trans HN.out⟩
      · have hx1 : Hid (tkRead data = none) := hid (HBL.out (by
          rw [HE.out]
          refine blockE_stop HE1.out ?_
          rw [HST1.out]
          cases er with
          | nil => exact absurd rfl her
          | cons a l => rfl))
        go_wp2
        go_ret
        exact HNO.out _ hur11 hx1.out
    · have t1 : ((k.toNat : Int) == 42) = false := by
        rw [beq_eq_false_iff_ne]
        intro h
        apply hk
        apply UInt16.toNat_inj.1
        have : (42 : UInt16).toNat = 42 := rfl
        omega
      have hnx := blockE_go HE1.out (show tkStep ⟨life, age, nonce, label, mm⟩ (k, ed) = some ⟨life, age, nonce, label, mm⟩ by unfold tkStep; rw [if_neg hk])
      have HN := hid hnx
      clear hnx hk
      go_wp2
      go_roundg rest.length
      case measure => omega
      case rel => exact ⟨rest, mm, rfl, hs10, hm10, hyn10, hyl10, hur10, HE.out.trans HN.out⟩
end
end Go.Proofs.Ytcdjbciifnoajaa

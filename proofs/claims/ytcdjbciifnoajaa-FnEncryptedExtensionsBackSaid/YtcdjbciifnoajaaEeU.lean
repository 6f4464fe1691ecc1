/- EncryptedExtensions: read by the package. -/
import Derived.Test.YtcdjbciifnoajaaMap
import Derived.Test.YtcdjbciifnoajaaStr
import Derived.Test.YtcdjbciifnoajaaEePlain
import Derived.Deep.LoopGhost
namespace Go.Proofs.Ytcdjbciifnoajaa
open Go.RowKit Go.Maps
set_option maxRecDepth 100000

abbrev strv (xs : List UInt8) : Value := .string ⟨xs.toArray⟩
/-- a copy that may be nil -/
def CpO (w : World) (lo : Nat) (has : Bool) (v : Value) (xs : List UInt8) : Prop := (has = true ∧ Cpy w lo v xs) ∨ (has = false ∧ v = .slice none 0 0 ∧ xs = [])
/-- the message in block m -/
def EeB (w : World) (lo m : Nat) (x : Ee) : Prop :=
  ∃ qv ev ec, Blk w m 114 #[strv x.alpn, qv, .bool x.early, ev, .bool x.ack] ∧ CpO w lo x.has qv x.quic ∧ CpO w lo ec ev x.ech
/-- what 'unmarshal' leaves -/
def EeUP (w : World) (lo m : Nat) (o : Option Ee) (e : Ending) (w' : World) : Prop :=
  e = .returned (.bool o.isSome) ∧ Upd [m] w w' ∧ ∀ x, o = some x → EeB w' lo m x

section
variable {w w' : World} {B m lo : Nat} {v content : Value} {xs data : List UInt8} {e : Ending} {S : List Nat} {has : Bool}
theorem CpO.upd (h : CpO w lo has v xs) (hu : Upd S w w') (hS : ∀ x ∈ S, x < lo ∨ w.heap.size ≤ x) : CpO w' lo has v xs := by
  rcases h with ⟨h1, h2⟩ | h
  · exact .inl ⟨h1, h2.upd hu hS⟩
  · exact .inr h
theorem u16_lit (k n : UInt16) : ((k.toNat : Int) == (n.toNat : Int)) = decide (k = n) := by
  by_cases h : k = n
  · subst h; simp
  · rw [decide_eq_false h, beq_eq_false_iff_ne]
    intro e
    exact h (UInt16.toNat_inj.1 (by omega))
theorem ee_cells {T : TypeId} {a0 a1 a2 a3 a4 : Value} (h : Blk w m T #[a0, a1, a2, a3, a4]) :
    w.cell? ⟨m, 0, none⟩ = some a0 ∧ w.cell? ⟨m, 1, none⟩ = some a1 ∧ w.cell? ⟨m, 2, none⟩ = some a2 ∧ w.cell? ⟨m, 3, none⟩ = some a3 ∧ w.cell? ⟨m, 4, none⟩ = some a4 ∧
    w.frozen? ⟨m, 0, none⟩ = false ∧ w.frozen? ⟨m, 1, none⟩ = false ∧ w.frozen? ⟨m, 2, none⟩ = false ∧ w.frozen? ⟨m, 3, none⟩ = false ∧ w.frozen? ⟨m, 4, none⟩ = false :=
  ⟨by rw [h.cell]; rfl, by rw [h.cell]; rfl, by rw [h.cell]; rfl, by rw [h.cell]; rfl, by rw [h.cell]; rfl, h.frozen 0, h.frozen 1, h.frozen 2, h.frozen 3, h.frozen 4⟩
theorem CpO.more {lo' : Nat} (h : CpO w lo has v xs) (hl : lo' ≤ lo) : CpO w lo' has v xs := by
  rcases h with ⟨h1, g, c, e, h2, h3⟩ | h
  · exact .inl ⟨h1, g, c, e, Nat.le_trans hl h2, h3⟩
  · exact .inr h
theorem CpO.byt (h : CpO w lo has v xs) : Byt w w.heap.size v xs := by
  rcases h with ⟨h1, h2⟩ | ⟨h1, h2, h3⟩
  · exact h2.byt
  · subst h2 h3; exact Row.nil_ _ _
theorem CpO.nil (h : CpO w lo has v xs) : ∃ A c, v = .slice A xs.length c ∧ A.isNone = !has := by
  rcases h with ⟨h1, g, c, e, -⟩ | ⟨h1, h2, h3⟩
  · exact ⟨_, _, e, by rw [h1]; rfl⟩
  · subst h2 h3; exact ⟨none, 0, rfl, by rw [h1]; rfl⟩

/-- the loop over extensions -/
def EeRel (w : World) (B m s mb lo : Nat) (x0 : List UInt8) (gk : Nat) (wr : World) : Prop :=
  ∃ (d : List UInt8) (M : Ee) (ks : List UInt16) (n : Nat), gk = d.length ∧ n + d.length ≤ x0.length ∧ Sv wr B (s + 1) d True ∧ EeB wr lo m M ∧ Seen wr mb n ks ∧ Upd [m] w wr ∧
    blockE (once eeStep) x0 (Ee.zero, []) = blockE (once eeStep) d (M, ks)

set_option maxHeartbeats 8000000 in
theorem unmarshal_Ee (hm : Blk w m 114 #[strv [], .slice none 0 0, .bool false, .slice none 0 0, .bool false]) (hv : Byt w B v data) (hB : B ≤ m) :
    Calls Try.prog 68 #[.pointer (some ⟨m, 0, none⟩), v] w (EeUP w w.heap.size m (eeRead data)) := by
  obtain ⟨A, c, rfl, hv, hl, hc⟩ := Byt.form hv rfl
  have hml := hm.lt
  have m0 := hm.cell 0
  have m1 := hm.cell 1
  have m2 := hm.cell 2
  have m3 := hm.cell 3
  have m4 := hm.cell 4
  have f0 := hm.frozen 0
  have f1 := hm.frozen 1
  have f2 := hm.frozen 2
  have f3 := hm.frozen 3
  have f4 := hm.frozen 4
  simp at m0 m1 m2 m3 m4
  obtain ⟨w0, hw0⟩ : ∃ w0, ((((((w.setCell ⟨m, 0, none⟩ (strv [])).setCell ⟨m, 1, none⟩ (.slice none 0 0)).setCell ⟨m, 2, none⟩ (.bool false)).setCell ⟨m, 3, none⟩ (.slice none 0 0)).setCell ⟨m, 4, none⟩ (.bool false)).alloc
      (.cells #[.slice A data.length c] 115)).alloc (.cells #[.slice none 0 0] 115) = w0 := ⟨_, rfl⟩
  obtain ⟨s, hs⟩ : ∃ s, w.heap.size = s := ⟨_, rfl⟩
  have hu0 : Upd [m] w w0 := by
    rw [← hw0]
    exact (((((((Upd.refl [m] w).setCell (by simp) _).setCell (by simp) _).setCell (by simp) _).setCell (by simp) _).setCell (by simp) _).alloc _).alloc _
  have hm0 : Blk w0 m 114 #[strv [], .slice none 0 0, .bool false, .slice none 0 0, .bool false] := by
    rw [← hw0]
    have := (((((hm.set_ 0 (strv [])).set_ 1 (.slice none 0 0)).set_ 2 (.bool false)).set_ 3 (.slice none 0 0)).set_ 4 (.bool false))
    exact (this.alloc _).alloc _
  have hss : ∀ (w1 : World) (o : Obj), (w1.alloc o).heap.size = w1.heap.size + 1 := fun w1 o => by simp
  have hsc : ∀ (w1 : World) (p : Addr) (u : Value), (w1.setCell p u).heap.size = w1.heap.size := fun w1 p u => by simp [World.setCell]
  have hy0 : Byt (((((w.setCell ⟨m, 0, none⟩ (strv [])).setCell ⟨m, 1, none⟩ (.slice none 0 0)).setCell ⟨m, 2, none⟩ (.bool false)).setCell ⟨m, 3, none⟩ (.slice none 0 0)).setCell ⟨m, 4, none⟩ (.bool false)) B (.slice A data.length c) data :=
    Row.upd hv (((((Upd.refl [m] w).setCell (by simp) _).setCell (by simp) _).setCell (by simp) _).setCell (by simp) _ |>.setCell (by simp) _) (by simpa using hB)
  have hs0 : Sv w0 B s data False := by
    rw [← hw0, ← hs]
    refine ⟨by omega, _, ?_, (hy0.alloc _).alloc _, fun x => x.elim⟩
    have := Blk.new (((((w.setCell ⟨m, 0, none⟩ (strv [])).setCell ⟨m, 1, none⟩ (.slice none 0 0)).setCell ⟨m, 2, none⟩ (.bool false)).setCell ⟨m, 3, none⟩ (.slice none 0 0)).setCell ⟨m, 4, none⟩ (.bool false)) 115 #[.slice A data.length c]
    simp only [hsc] at this
    exact this.alloc _
  have hx0 : Blk w0 (s + 1) 115 #[.slice none 0 0] := by
    rw [← hw0, ← hs]
    have := Blk.new ((((((w.setCell ⟨m, 0, none⟩ (strv [])).setCell ⟨m, 1, none⟩ (.slice none 0 0)).setCell ⟨m, 2, none⟩ (.bool false)).setCell ⟨m, 3, none⟩ (.slice none 0 0)).setCell ⟨m, 4, none⟩ (.bool false)).alloc (.cells #[.slice A data.length c] 115)) 115 #[.slice none 0 0]
    simp only [hss, hsc] at this
    exact this
  have hwl : w.heap.size = s := hs
  have hms : m < s := by omega
  have hs02 : s + 2 ≤ w0.heap.size := by have := hx0.lt; omega
  have hno : ∀ w2 : World, Upd [m] w w2 → eeRead data = none → EeUP w s m (eeRead data) (.returned (.bool false)) w2 := by
    intro w2 hu hk
    rw [hk]
    exact ⟨rfl, hu, fun x h => (by cases h)⟩
  rw [hs]
  have HNO := hid hno
  have HW := hid hw0
  have HS := hid hs
  have hBs : B ≤ s := by omega
  clear hno hw0 hs hss hsc hy0
  have up2 : ∀ (a b : World) (S' : List Nat), Upd [m] w a → Upd S' a b → (∀ x ∈ S', x = m ∨ s ≤ x) → Upd [m] w b := fun _ _ _ h k hh => h.trans k fun x hx => (hh x hx).imp (by simp) (by omega)
  have UP := hid up2
  clear up2
  have hmm := @run_makeMap Try.prog
  by_cases h4 : data.length < 4
  · have Hk := hid (show eeRead data = none by unfold eeRead; rw [if_pos h4])
    have H := hid (Skip_bad hs0 4 h4)
    clear h4
    go_enter Try.func68, Try.ntmps68
    go_wp2_with fail
    rw [HW.out]
    refine H.out.mono ?_
    rintro e w2 ⟨rfl, hu2⟩
    go_wp2
    go_ret
    exact HNO.out _ (UP.out _ _ _ hu0 hu2 (by simp)) Hk.out
  have Hk : Hid (eeRead data = lastO eeStep Ee.zero (data.drop 4)) := hid (by unfold eeRead; rw [if_neg h4])
  have H := hid (Skip_ok hs0 4 (by omega) (by omega))
  generalize data.drop 4 = d0 at H Hk
  clear h4 hs0
  go_enter Try.func68, Try.ntmps68
  go_wp2_with fail
  rw [HW.out]
  refine H.out.mono ?_
  rintro e w1 ⟨rfl, hu1, hs1⟩
  have hU1 := UP.out _ _ _ hu0 hu1 (by simp)
  have hm1 := hm0.upd hu1 (by simp; omega)
  have hx1 := hx0.upd hu1 (by simp)
  have hs12 : s + 2 ≤ w1.heap.size := Nat.le_trans hs02 hu1.size
  clear hm0 hx0 hu0 hu1 H hs02
  -- the extensions
  have H := hid (ReadLP16_any hs1 (k := 0) hx1 (by simp) (by omega) (by omega))
  go_wp2_with fail
  refine H.out.mono ?_
  intro e w6 hp
  rcases hr : lp 2 d0 with _ | ⟨x0, d5⟩
  · obtain ⟨rfl, hu6⟩ := hp.no hr
    replace Hk : Hid (eeRead data = none) := hid (by rw [Hk.out]; exact lastO_none hr)
    clear hr
    go_wp2
    go_ret
    exact HNO.out _ (UP.out _ _ _ hU1 hu6 (by simp)) Hk.out
  obtain ⟨u, rfl, hu6, hs6, hx6, hyx, hnn⟩ := hp.yes hr
  have hm6 := hm1.upd hu6 (by simp; omega)
  have hU6 := UP.out _ _ _ hU1 hu6 (by simp)
  have hsx6 : Sv w6 B (s + 1) x0 True := ⟨by omega, u, hx6, hyx, fun _ => hnn⟩
  have hs62 : s + 2 ≤ w6.heap.size := Nat.le_trans hs12 hu6.size
  have hx0l : x0.length < 65536 := (lp_len hr).1
  obtain ⟨A6, c6, e6, -, hy6, -⟩ := hs6.open_
  have H6 := hid (Empty_any hy6)
  go_wp2_with fail
  refine H6.out.mono ?_
  rintro e w7 ⟨rfl, rfl⟩
  rcases d5 with _ | ⟨z5, t5⟩
  rotate_left
  · have Hk2 : Hid (eeRead data = none) := hid (by rw [Hk.out]; exact lastO_more hr)
    clear hr
    go_wp2
    go_ret
    exact HNO.out _ hU6 Hk2.out
  replace Hk : Hid (eeRead data = (blockE (once eeStep) x0 (Ee.zero, [])).map Prod.fst) := hid (by rw [Hk.out]; exact lastO_some hr)
  clear hr hp hm1 hx1 hs1 hU1 hu6 hx6 hyx hnn H6 e6 hy6 hs6
  obtain ⟨wM, hwM⟩ : ∃ wM, w6.alloc (.map #[] 0) = wM := ⟨_, rfl⟩
  obtain ⟨mb, hmb⟩ : ∃ mb, w6.heap.size = mb := ⟨_, rfl⟩
  have hseen : Seen wM mb 0 [] := by rw [← hwM, ← hmb]; exact Seen.made w6
  have huM : Upd [] w6 wM := by rw [← hwM]; exact (Upd.refl _ _).alloc _
  have hmM := hm6.upd huM (by simp)
  have hsM := hsx6.upd huM (by simp) (by simp)
  have hUM := hU6.trans huM (by simp)
  have HWM := hid hwM
  have HMB := hid hmb
  have hmb2 : s + 2 ≤ mb := by rw [← hmb]; exact hs62
  clear hwM hmb huM hm6 hsx6 hU6 hs62 hs12
  go_wp2_with fail
  rw [HWM.out, HMB.out]
  go_loopg [8] x0.length (fun gk _ wr => EeRel w B m s mb (mb + 1) x0 gk wr)
  case atStart =>
    exact ⟨x0, Ee.zero, [], 0, rfl, by omega, hsM, ⟨_, _, false, hmM, .inr ⟨rfl, rfl, rfl⟩, .inr ⟨rfl, rfl, rfl⟩⟩, hseen, hUM, rfl⟩
  case round =>
    obtain ⟨d, M, ks, n, rfl, hnl, hsx, ⟨qv, ev, ec, hmr, hq, he⟩, hse, hur, hE⟩ := hrel
    have HE := hid hE
    have hus := hur.size
    obtain ⟨A7, c7, e7, -, hy7, -⟩ := hsx.open_
    have H7 := hid (Empty_any hy7)
    clear hE hy7 hsM hmM hseen hUM HWM HMB
    go_wp2_with fail
    refine H7.out.mono ?_
    rintro e w8 ⟨rfl, rfl⟩
    by_cases h0 : d = []
    · subst h0
      go_wp2
      go_ret
      rw [Hk.out, HE.out, blockE_nil]
      refine ⟨rfl, hur, fun x hx => ?_⟩
      cases hx
      exact ⟨qv, ev, ec, hmr, hq.more (by omega), he.more (by omega)⟩
    obtain ⟨wA, hwA⟩ : ∃ wA, (wr.alloc (.cells #[.int .u16 0] 64)).alloc (.cells #[.slice none 0 0] 115) = wA := ⟨_, rfl⟩
    obtain ⟨g, hg⟩ : ∃ g, wr.heap.size = g := ⟨_, rfl⟩
    have huA : Upd [] wr wA := by rw [← hwA]; exact ((Upd.refl _ _).alloc _).alloc _
    have hbk : Blk wA g 64 #[.int .u16 0] := by rw [← hwA, ← hg]; exact (Blk.new _ _ _).alloc _
    have hbd : Blk wA (g + 1) 115 #[.slice none 0 0] := by
      rw [← hwA, ← hg]
      have := Blk.new (wr.alloc (.cells #[.int .u16 0] 64)) 115 #[.slice none 0 0]
      rwa [show (wr.alloc (.cells #[.int .u16 0] 64)).heap.size = wr.heap.size + 1 by simp] at this
    have hmg : mb < g := by have := hse.lt; omega
    have hsA := hsx.upd huA (by simp) (by simp)
    have hmA := hmr.upd huA (by simp)
    have hCA : Upd [m, s + 1, mb] wr wA := huA.mono (by simp)
    have hseA := hse.upd huA (by simp)
    have hurA := hur.trans huA (by simp)
    have HWA := hid hwA
    have hbl : blockE (once eeStep) x0 (Ee.zero, []) = none → eeRead data = none := fun h => by rw [Hk.out, h]; rfl
    have HBL := hid hbl
    clear hwA hsx hmr hse hur huA hbl H7
    by_cases hsh : d.length < 2
    · have hx1 : Hid (eeRead data = none) := hid (HBL.out (by rw [HE.out]; exact blockE_none (ext1_short hsh) h0 _))
      have H := hid (ReadUint16_bad (ob := g) (k := 0) hsA hsh)
      go_wp2_with fail
      rw [HWA.out]
      refine H.out.mono ?_
      rintro e w9 ⟨rfl, hu9⟩
      go_wp2
      go_ret
      exact HNO.out _ (UP.out _ _ _ hurA hu9 (by simp)) hx1.out
    obtain ⟨x, y, t, rfl⟩ : ∃ x y t, d = x :: y :: t := by
      match d, hsh with
      | [], h => simp at h
      | [_], h => simp at h
      | x :: y :: t, _ => exact ⟨x, y, t, rfl⟩
    clear hsh h0
    have H := hid (ReadUint16_ok (k := 0) hsA hbk (by simp) (by omega) (by omega))
    have he1 := ext1_two x y t
    generalize UInt16.ofNat (x.toNat * 256 + y.toNat) = k at H he1
    have He1 := hid he1
    clear he1
    go_wp2_with fail
    rw [HWA.out]
    refine H.out.mono ?_
    rintro e w9 ⟨rfl, hu9, hs9, hb9⟩
    have hb9 : Blk w9 g 64 #[wv k] := hb9
    have hd9 := hbd.upd hu9 (by simp; omega)
    have hm9 := hmA.upd hu9 (by simp; omega)
    have hC9 := hCA.trans hu9 (by simp; omega)
    have hse9 := hseA.upd hu9 (by simp; omega)
    have hur9 := UP.out _ _ _ hurA hu9 (by simp; omega)
    clear hsA hbk hbd hmA hCA hseA hurA hu9 H
    have H := hid (ReadLP16_any hs9 (k := 0) hd9 (by simp) (by omega) (by omega))
    go_wp2_with fail
    refine H.out.mono ?_
    intro e w10 hp
    rcases hr : lp 2 t with _ | ⟨ed, rest⟩
    · obtain ⟨rfl, hu10⟩ := hp.no hr
      have hx1 : Hid (eeRead data = none) := hid (HBL.out (by rw [HE.out]; exact blockE_none (by rw [He1.out, hr]; rfl) (by simp) _))
      clear hr
      go_wp2
      go_ret
      exact HNO.out _ (UP.out _ _ _ hur9 hu10 (by simp)) hx1.out
    obtain ⟨u, rfl, hu10, hs10, hd10, hyd, hnn⟩ := hp.yes hr
    have hE1 : ext1 (x :: y :: t) = some ((k, ed), rest) := by rw [He1.out, hr]; rfl
    have HE1 := hid hE1
    have hlen := (ext1_len hE1).1
    have hedl := (ext1_len hE1).2
    have hb10 := hb9.upd hu10 (by simp; omega)
    have hm10 := hm9.upd hu10 (by simp; omega)
    have hC10 := hC9.trans hu10 (by simp; omega)
    have hse10 := hse9.upd hu10 (by simp; omega)
    have hur10 := UP.out _ _ _ hur9 hu10 (by simp; omega)
    have hsd : Sv w10 B (g + 1) ed True := ⟨by omega, u, hd10, hyd, fun _ => hnn⟩
    have hg10 : g + 1 < w10.heap.size := hd10.lt
    have k0 := hb10.cell 0
    simp at k0
    clear hs9 hd9 hb9 hm9 hC9 hse9 hur9 hu10 H hp hd10 hyd hnn hE1 hr
    by_cases hks : k ∈ ks
    · have hr1 : ks.contains k = true := by simpa using hks
      have hx1 : Hid (eeRead data = none) := hid (HBL.out (by rw [HE.out]; exact blockE_stop HE1.out (by unfold once; rw [if_pos hks])))
      clear hks
      go_wp2_with (at_lookup; refine wpList_seen rfl _ _ rfl rfl hse10 k rfl hr1 ?_)
      go_ret
      exact HNO.out _ hur10 hx1.out
    have hr1 : ks.contains k = false := by simpa using hks
    have hon : ∀ x, eeStep M (k, ed) = some x → once eeStep (M, ks) (k, ed) = some (x, k :: ks) := fun x hx => by unfold once; rw [if_neg hks]; simp only; rw [hx]; rfl
    have hof : eeStep M (k, ed) = none → once eeStep (M, ks) (k, ed) = none := fun hx => by unfold once; rw [if_neg hks]; simp only; rw [hx]; rfl
    have HNX : ∀ x, eeStep M (k, ed) = some x → Hid (blockE (once eeStep) x0 (Ee.zero, []) = blockE (once eeStep) rest (x, k :: ks)) := fun x hx => hid (by rw [HE.out]; exact blockE_go HE1.out (hon x hx))
    have HST : eeStep M (k, ed) = none → Hid (eeRead data = none) := fun hx => hid (HBL.out (by rw [HE.out]; exact blockE_stop HE1.out (hof hx)))
    have HNX := hid HNX
    have HST := hid HST
    clear hks hon hof
    have hnb : n < 9223372036854775807 := by omega
    have d16 := u16_lit k 16
    have d57 := u16_lit k 57
    have d42 := u16_lit k 42
    have dech := u16_lit k 65037
    have dack := u16_lit k 0
    have c16 : ((16 : UInt16).toNat : Int) = 16 := rfl
    have c57 : ((57 : UInt16).toNat : Int) = 57 := rfl
    have c42 : ((42 : UInt16).toNat : Int) = 42 := rfl
    have cech : ((65037 : UInt16).toNat : Int) = 65037 := rfl
    have cack : ((0 : UInt16).toNat : Int) = 0 := rfl
    rw [c16] at d16
    rw [c57] at d57
    rw [c42] at d42
    rw [cech] at dech
    rw [cack] at dack
    clear c16 c57 c42 cech cack
    have hfin : ∀ (w2 : World) (v : Value) (i : Nat), Upd [m] w2 (w2.setCell ⟨m, i, none⟩ v) := fun w2 v i => (Upd.refl _ _).setCell (by simp) v
    have HFIN := hid hfin
    clear hfin
    by_cases h42 : k = 42
    · rw [decide_eq_true h42] at d42
      rw [decide_eq_false (by rw [h42]; decide)] at d16 d57
      have hst : eeStep M (k, ed) = if ed = [] then some M.setEarly else none := by rw [h42]; rfl
      have HE2 := hid hst
      clear h42 hst dech dack
      go_wp2_with (first
        | (at_lookup; refine wpList_seen rfl _ _ rfl rfl hse10 k rfl hr1 ?_)
        | (at_mapUpdate; refine wpList_see rfl _ _ _ rfl rfl hse10 hnb k rfl rfl ?_; intro w11 hse11 hu11; have k0' := (hb10.upd hu11 (by simp; omega)).cell 0; simp at k0'; have hsd11 := hsd.upd hu11 (by simp; omega) (by simp; omega); have hm11 := hm10.upd hu11 (by simp; omega); have hs11 := hs10.upd hu11 (by simp; omega) (by simp; omega); have hur11 := UP.out _ _ _ hur10 hu11 (by simp; omega); have hC11 := hC10.trans hu11 (by simp); obtain ⟨A8, c8, e8, e8f, hy8, -⟩ := hsd11.open_; obtain ⟨q0, q1, q2, q3, q4, g0, g1, g2, g3, g4⟩ := ee_cells hm11))
      have hy9 := Row.upd hy8 (HFIN.out w11 (.bool true) 2) (by simp; omega)
      refine (Empty_any hy9).mono ?_
      rintro e w12 ⟨rfl, rfl⟩
      by_cases he0 : ed = []
      · have HN := HNX.out M.setEarly (by rw [HE2.out, if_pos he0])
        have hs12 := hs11.upd (HFIN.out w11 (.bool true) 2) (by simp; omega) (by simp; omega)
        have hm12 := hm11.set_ 2 (.bool true)
        have hse12 := hse11.upd (HFIN.out w11 (.bool true) 2) (by simp; omega)
        have hur12 := UP.out _ _ _ hur11 (HFIN.out w11 (.bool true) 2) (by simp)
        have hC12 := hC11.trans (HFIN.out w11 (.bool true) 2) (by simp)
        have hq12 := hq.upd hC12 (by simp; omega)
        have he12 := he.upd hC12 (by simp; omega)
        go_wp2
        go_roundg rest.length
        case measure => omega
        case rel => exact ⟨rest, M.setEarly, k :: ks, n + 1, rfl, by omega, hs12, ⟨qv, ev, ec, hm12, hq12, he12⟩, hse12, hur12, HN.out⟩
      · have hx1 := HST.out (by rw [HE2.out, if_neg he0])
        have hur12 := UP.out _ _ _ hur11 (HFIN.out w11 (.bool true) 2) (by simp)
        go_wp2
        go_ret
        exact HNO.out _ hur12 hx1.out
    by_cases hack : k = 0
    · rw [decide_eq_true hack] at dack
      rw [decide_eq_false (by rw [hack]; decide)] at d16 d57 d42 dech
      have hst : eeStep M (k, ed) = if ed = [] then some M.setAck else none := by rw [hack]; rfl
      have HE2 := hid hst
      clear hack hst
      by_cases he0 : ed = []
      · have HN := HNX.out M.setAck (by rw [HE2.out, if_pos he0])
        subst he0
        go_wp2_with (first
          | (at_lookup; refine wpList_seen rfl _ _ rfl rfl hse10 k rfl hr1 ?_)
          | (at_mapUpdate; refine wpList_see rfl _ _ _ rfl rfl hse10 hnb k rfl rfl ?_; intro w11 hse11 hu11; have k0' := (hb10.upd hu11 (by simp; omega)).cell 0; simp at k0'; have hsd11 := hsd.upd hu11 (by simp; omega) (by simp; omega); have hm11 := hm10.upd hu11 (by simp; omega); have hs11 := hs10.upd hu11 (by simp; omega) (by simp; omega); have hur11 := UP.out _ _ _ hur10 hu11 (by simp; omega); have hC11 := hC10.trans hu11 (by simp); obtain ⟨A8, c8, e8, e8f, hy8, -⟩ := hsd11.open_; obtain ⟨q0, q1, q2, q3, q4, g0, g1, g2, g3, g4⟩ := ee_cells hm11))
        have hy9 := Row.upd hy8 (HFIN.out w11 (.bool true) 4) (by simp; omega)
        refine (Empty_any hy9).mono ?_
        rintro e w12 ⟨rfl, rfl⟩
        have hs12 := hs11.upd (HFIN.out w11 (.bool true) 4) (by simp; omega) (by simp; omega)
        have hm12 := hm11.set_ 4 (.bool true)
        have hse12 := hse11.upd (HFIN.out w11 (.bool true) 4) (by simp; omega)
        have hur12 := UP.out _ _ _ hur11 (HFIN.out w11 (.bool true) 4) (by simp)
        have hC12 := hC11.trans (HFIN.out w11 (.bool true) 4) (by simp)
        have hq12 := hq.upd hC12 (by simp; omega)
        have he12 := he.upd hC12 (by simp; omega)
        go_wp2
        go_roundg rest.length
        case measure => omega
        case rel => exact ⟨rest, M.setAck, k :: ks, n + 1, rfl, by omega, hs12, ⟨qv, ev, ec, hm12, hq12, he12⟩, hse12, hur12, HN.out⟩
      · have hx1 := HST.out (by rw [HE2.out, if_neg he0])
        have hne : ((ed.length : Int) != 0) = true := by
          rw [bne_iff_ne]
          intro h
          exact he0 (List.eq_nil_of_length_eq_zero (by omega))
        clear he0
        go_wp2_with (first
          | (at_lookup; refine wpList_seen rfl _ _ rfl rfl hse10 k rfl hr1 ?_)
          | (at_mapUpdate; refine wpList_see rfl _ _ _ rfl rfl hse10 hnb k rfl rfl ?_; intro w11 hse11 hu11; have k0' := (hb10.upd hu11 (by simp; omega)).cell 0; simp at k0'; have hsd11 := hsd.upd hu11 (by simp; omega) (by simp; omega); have hm11 := hm10.upd hu11 (by simp; omega); have hs11 := hs10.upd hu11 (by simp; omega) (by simp; omega); have hur11 := UP.out _ _ _ hur10 hu11 (by simp; omega); have hC11 := hC10.trans hu11 (by simp); obtain ⟨A8, c8, e8, e8f, hy8, -⟩ := hsd11.open_; obtain ⟨q0, q1, q2, q3, q4, g0, g1, g2, g3, g4⟩ := ee_cells hm11))
        go_ret
        exact HNO.out _ hur11 hx1.out
    rw [decide_eq_false hack] at dack
    by_cases h57 : k = 57
    · rw [decide_eq_true h57] at d57
      rw [decide_eq_false (by rw [h57]; decide)] at d16
      have HN := HNX.out (M.setQuic ed) (by rw [h57]; rfl)
      clear h57 d42 dech dack
      go_wp2_with (first
        | (at_lookup; refine wpList_seen rfl _ _ rfl rfl hse10 k rfl hr1 ?_)
        | (at_mapUpdate; refine wpList_see rfl _ _ _ rfl rfl hse10 hnb k rfl rfl ?_; intro w11 hse11 hu11; have k0' := (hb10.upd hu11 (by simp; omega)).cell 0; simp at k0'; have hsd11 := hsd.upd hu11 (by simp; omega) (by simp; omega); have hm11 := hm10.upd hu11 (by simp; omega); have hs11 := hs10.upd hu11 (by simp; omega) (by simp; omega); have hur11 := UP.out _ _ _ hur10 hu11 (by simp; omega); have hC11 := hC10.trans hu11 (by simp); obtain ⟨A8, c8, e8, e8f, hy8, -⟩ := hsd11.open_; obtain ⟨q0, q1, q2, q3, q4, g0, g1, g2, g3, g4⟩ := ee_cells hm11)
        | (at_make; refine wpList_newBytes rfl _ _ rfl ed.length rfl rfl (by omega) ?_; intro wN zs hzs hzN huN; have hmN := hm11.upd huN (by simp); obtain ⟨r0, r1, r2, r3, r4, z0, z1, z2, z3, z4⟩ := ee_cells hmN))
      obtain ⟨g', hg'⟩ : ∃ g', w11.heap.size = g' := ⟨_, rfl⟩
      have hgg : g + 1 < g' := by have := hu11.size; omega
      rw [hg'] at hzN ⊢
      have huS := HFIN.out wN (.slice (some ⟨g', 0, none⟩) ed.length ed.length) 1
      have hsdS := (hsd11.upd huN (by simp) (by simp)).upd huS (by simp; omega) (by simp; omega)
      have hzS := (huS.block g' (Array.getElem?_eq_some_iff.1 hzN).1 (by simp; omega)).trans hzN
      have hmS := hmN.set_ 1 (.slice (some ⟨g', 0, none⟩) ed.length ed.length)
      have hsS := (hs11.upd huN (by simp) (by simp)).upd huS (by simp; omega) (by simp; omega)
      have hseS := (hse11.upd huN (by simp)).upd huS (by simp; omega)
      have hurS := UP.out _ _ _ (hur11.trans huN (by simp)) huS (by simp)
      have hCS := (hC11.trans huN (by simp)).trans huS (by simp)
      have hWS : ∃ wS, wN.setCell ⟨m, 1, none⟩ (.slice (some ⟨g', 0, none⟩) ed.length ed.length) = wS := ⟨_, rfl⟩
      obtain ⟨wS, hWS⟩ := hWS
      rw [hWS] at huS hsdS hzS hmS hsS hseS hurS hCS ⊢
      have hmS : Blk wS m 114 #[strv M.alpn, .slice (some ⟨g', 0, none⟩) ed.length ed.length, .bool M.early, ev, .bool M.ack] := hmS
      clear huS hWS r0 r1 r2 r3 r4 z0 z1 z2 z3 z4 hmN hzN huN q0 q1 q2 q3 q4 g0 g1 g2 g3 g4 hm11 hs11 hse11 hur11 hC11 hsd11 hu11 hy8 e8 e8f k0' hm10 hs10 hse10 hur10 hC10 hsd hb10 k0
      refine (CopyBytes_any hsdS hzS hzs (by omega) (by omega)).mono ?_
      rintro e w13 ⟨rfl, hu13, hs13, hh13⟩
      obtain ⟨A9, c9, e9, -, hy9, -⟩ := hs13.open_
      have HE3 := hid (Empty_any hy9)
      have hm13 := hmS.upd hu13 (by simp; omega)
      have hsx13 := hsS.upd hu13 (by simp; omega) (by simp; omega)
      have hse13 := hseS.upd hu13 (by simp; omega)
      have hur13 := UP.out _ _ _ hurS hu13 (by simp; omega)
      have hC13 := hCS.trans hu13 (by simp; omega)
      have hq13 := hq.upd hC13 (by simp; omega)
      have he13 := he.upd hC13 (by simp; omega)
      have hcp : Cpy w13 (mb + 1) (.slice (some ⟨g', 0, none⟩) ed.length ed.length) ed := ⟨g', ed.length, rfl, by omega, Nat.le_refl _, by unfold maxLen; omega, hh13⟩
      clear hmS hsS hseS hurS hCS hu13 hsdS hzS hh13 hy9 hs13
      go_wp2_with fail
      refine HE3.out.mono ?_
      rintro e w14 ⟨rfl, rfl⟩
      go_wp2
      go_roundg rest.length
      case measure => omega
      case rel => exact ⟨rest, M.setQuic ed, k :: ks, n + 1, rfl, by omega, hsx13, ⟨_, ev, ec, hm13, .inl ⟨rfl, hcp⟩, he13⟩, hse13, hur13, HN.out⟩
    rw [decide_eq_false h57] at d57
    by_cases hech : k = 65037
    · rw [decide_eq_true hech] at dech
      rw [decide_eq_false (by rw [hech]; decide)] at d16 d42
      have HN := HNX.out (M.setEch ed) (by rw [hech]; rfl)
      clear hech dack h57 hack h42
      go_wp2_with (first
        | (at_lookup; refine wpList_seen rfl _ _ rfl rfl hse10 k rfl hr1 ?_)
        | (at_mapUpdate; refine wpList_see rfl _ _ _ rfl rfl hse10 hnb k rfl rfl ?_; intro w11 hse11 hu11; have k0' := (hb10.upd hu11 (by simp; omega)).cell 0; simp at k0'; have hsd11 := hsd.upd hu11 (by simp; omega) (by simp; omega); have hm11 := hm10.upd hu11 (by simp; omega); have hs11 := hs10.upd hu11 (by simp; omega) (by simp; omega); have hur11 := UP.out _ _ _ hur10 hu11 (by simp; omega); have hC11 := hC10.trans hu11 (by simp); obtain ⟨A8, c8, e8, e8f, hy8, -⟩ := hsd11.open_; obtain ⟨q0, q1, q2, q3, q4, g0, g1, g2, g3, g4⟩ := ee_cells hm11)
        | (at_make; refine wpList_newBytes rfl _ _ rfl ed.length rfl rfl (by omega) ?_; intro wN zs hzs hzN huN; have hmN := hm11.upd huN (by simp); obtain ⟨r0, r1, r2, r3, r4, z0, z1, z2, z3, z4⟩ := ee_cells hmN))
      obtain ⟨g', hg'⟩ : ∃ g', w11.heap.size = g' := ⟨_, rfl⟩
      have hgg : g + 1 < g' := by have := hu11.size; omega
      rw [hg'] at hzN ⊢
      have huS := HFIN.out wN (.slice (some ⟨g', 0, none⟩) ed.length ed.length) 3
      have hsdS := (hsd11.upd huN (by simp) (by simp)).upd huS (by simp; omega) (by simp; omega)
      have hzS := (huS.block g' (Array.getElem?_eq_some_iff.1 hzN).1 (by simp; omega)).trans hzN
      have hmS := hmN.set_ 3 (.slice (some ⟨g', 0, none⟩) ed.length ed.length)
      have hsS := (hs11.upd huN (by simp) (by simp)).upd huS (by simp; omega) (by simp; omega)
      have hseS := (hse11.upd huN (by simp)).upd huS (by simp; omega)
      have hurS := UP.out _ _ _ (hur11.trans huN (by simp)) huS (by simp)
      have hCS := (hC11.trans huN (by simp)).trans huS (by simp)
      have hWS : ∃ wS, wN.setCell ⟨m, 3, none⟩ (.slice (some ⟨g', 0, none⟩) ed.length ed.length) = wS := ⟨_, rfl⟩
      obtain ⟨wS, hWS⟩ := hWS
      rw [hWS] at huS hsdS hzS hmS hsS hseS hurS hCS ⊢
      have hmS : Blk wS m 114 #[strv M.alpn, qv, .bool M.early, .slice (some ⟨g', 0, none⟩) ed.length ed.length, .bool M.ack] := hmS
      clear huS hWS r0 r1 r2 r3 r4 z0 z1 z2 z3 z4 hmN hzN huN q0 q1 q2 q3 q4 g0 g1 g2 g3 g4 hm11 hs11 hse11 hur11 hC11 hsd11 hu11 hy8 e8 e8f k0' hm10 hs10 hse10 hur10 hC10 hsd hb10 k0
      refine (CopyBytes_any hsdS hzS hzs (by omega) (by omega)).mono ?_
      rintro e w13 ⟨rfl, hu13, hs13, hh13⟩
      obtain ⟨A9, c9, e9, -, hy9, -⟩ := hs13.open_
      have HE3 := hid (Empty_any hy9)
      have hm13 := hmS.upd hu13 (by simp; omega)
      have hsx13 := hsS.upd hu13 (by simp; omega) (by simp; omega)
      have hse13 := hseS.upd hu13 (by simp; omega)
      have hur13 := UP.out _ _ _ hurS hu13 (by simp; omega)
      have hC13 := hCS.trans hu13 (by simp; omega)
      have hq13 := hq.upd hC13 (by simp; omega)
      have he13 := he.upd hC13 (by simp; omega)
      have hcp : Cpy w13 (mb + 1) (.slice (some ⟨g', 0, none⟩) ed.length ed.length) ed := ⟨g', ed.length, rfl, by omega, Nat.le_refl _, by unfold maxLen; omega, hh13⟩
      clear hmS hsS hseS hurS hCS hu13 hsdS hzS hh13 hy9 hs13
      go_wp2_with fail
      refine HE3.out.mono ?_
      rintro e w14 ⟨rfl, rfl⟩
      go_wp2
      go_roundg rest.length
      case measure => omega
      case rel => exact ⟨rest, M.setEch ed, k :: ks, n + 1, rfl, by omega, hsx13, ⟨qv, _, true, hm13, hq13, .inl ⟨rfl, hcp⟩⟩, hse13, hur13, HN.out⟩
    rw [decide_eq_false hech] at dech
    by_cases h16 : k = 16
    · rw [decide_eq_true h16] at d16
      have HE2 := hid (show eeStep M (k, ed) = (eeAlpn ed).map M.setAlpn by rw [h16]; rfl)
      clear h16 hech dack h57 hack h42 d57 d42 dech
      go_wp2_with (first
        | (at_lookup; refine wpList_seen rfl _ _ rfl rfl hse10 k rfl hr1 ?_)
        | (at_mapUpdate; refine wpList_see rfl _ _ _ rfl rfl hse10 hnb k rfl rfl ?_; intro w11 hse11 hu11; have k0' := (hb10.upd hu11 (by simp; omega)).cell 0; simp at k0'; have hsd11 := hsd.upd hu11 (by simp; omega) (by simp; omega); have hm11 := hm10.upd hu11 (by simp; omega); have hs11 := hs10.upd hu11 (by simp; omega) (by simp; omega); have hur11 := UP.out _ _ _ hur10 hu11 (by simp; omega); have hC11 := hC10.trans hu11 (by simp); obtain ⟨A8, c8, e8, e8f, hy8, -⟩ := hsd11.open_; obtain ⟨q0, q1, q2, q3, q4, g0, g1, g2, g3, g4⟩ := ee_cells hm11))
      obtain ⟨w12, hw12⟩ : ∃ w12, w11.alloc (.cells #[.slice none 0 0] 115) = w12 := ⟨_, rfl⟩
      obtain ⟨p, hp0⟩ : ∃ p, w11.heap.size = p := ⟨_, rfl⟩
      have hu12 : Upd [] w11 w12 := by rw [← hw12]; exact (Upd.refl _ _).alloc _
      have hbp : Blk w12 p 115 #[.slice none 0 0] := by rw [← hw12, ← hp0]; exact Blk.new _ _ _
      have hgp : g + 1 < p := by have := hu11.size; omega
      have hsd12 := hsd11.upd hu12 (by simp) (by simp)
      have hm12 := hm11.upd hu12 (by simp)
      have hs12 := hs11.upd hu12 (by simp) (by simp)
      have hse12 := hse11.upd hu12 (by simp)
      have hur12 := hur11.trans hu12 (by simp)
      have hC12 := hC11.trans hu12 (by simp)
      rw [hw12, hp0]
      clear hw12 hp0 q0 q1 q2 q3 q4 g0 g1 g2 g3 g4 hm11 hs11 hse11 hur11 hC11 hsd11 hu11 hy8 e8 e8f k0' hm10 hs10 hse10 hur10 hC10 hsd hb10 k0 hu12
      refine (ReadLP16_any hsd12 (k := 0) hbp (by simp) (by omega) (by omega)).mono ?_
      intro e w13 hp
      rcases hr2 : lp 2 ed with _ | ⟨x1, r1⟩
      · obtain ⟨rfl, hu13⟩ := hp.no hr2
        have hx1 := HST.out (by rw [HE2.out]; unfold eeAlpn; rw [hr2]; rfl)
        have hur13 := UP.out _ _ _ hur12 hu13 (by simp; omega)
        clear hr2
        go_wp2
        go_ret
        exact HNO.out _ hur13 hx1.out
      obtain ⟨u1, rfl, hu13, hsd13, hbp13, hyp, hnp⟩ := hp.yes hr2
      have hsp13 : Sv w13 B p x1 True := ⟨by omega, u1, hbp13, hyp, fun _ => hnp⟩
      have hm13 := hm12.upd hu13 (by simp; omega)
      have hs13 := hs12.upd hu13 (by simp; omega) (by simp; omega)
      have hse13 := hse12.upd hu13 (by simp; omega)
      have hur13 := UP.out _ _ _ hur12 hu13 (by simp; omega)
      have hC13 := hC12.trans hu13 (by simp; omega)
      have hw13 : p < w13.heap.size := hbp13.lt
      have HA := hid (show eeAlpn ed = eeOuter (some (x1, r1)) by unfold eeAlpn; rw [hr2])
      clear hr2 hp hm12 hs12 hse12 hur12 hC12 hsd12 hbp hu13 hyp hnp hbp13
      have hstop : eeInner (lp 1 x1) = none → Hid (eeRead data = none) := fun h => HST.out (by
        rw [HE2.out, HA.out]
        cases r1 with
        | nil => show Option.map _ (eeInner (lp 1 x1)) = none; rw [h]; rfl
        | cons y t => rfl)
      have HSTOP := hid hstop
      clear hstop
      obtain ⟨A9, c9, e9, -, hy9, -⟩ := hsp13.open_
      have HE3 := hid (Empty_any hy9)
      clear hy9
      go_wp2_with fail
      refine HE3.out.mono ?_
      rintro e w14 ⟨rfl, rfl⟩
      by_cases hx0 : x1 = []
      · have hx1 := HSTOP.out (by rw [hx0]; rfl)
        subst hx0
        go_wp2
        go_ret
        exact HNO.out _ hur13 hx1.out
      obtain ⟨w14, hw14⟩ : ∃ w14, w13.alloc (.cells #[.slice none 0 0] 115) = w14 := ⟨_, rfl⟩
      obtain ⟨q, hq0⟩ : ∃ q, w13.heap.size = q := ⟨_, rfl⟩
      have hu14 : Upd [] w13 w14 := by rw [← hw14]; exact (Upd.refl _ _).alloc _
      have hbq : Blk w14 q 115 #[.slice none 0 0] := by rw [← hw14, ← hq0]; exact Blk.new _ _ _
      have hsd14 := hsd13.upd hu14 (by simp) (by simp)
      have hsp14 := hsp13.upd hu14 (by simp) (by simp)
      have hm14 := hm13.upd hu14 (by simp)
      have hs14 := hs13.upd hu14 (by simp) (by simp)
      have hse14 := hse13.upd hu14 (by simp)
      have hur14 := hur13.trans hu14 (by simp)
      have hC14 := hC13.trans hu14 (by simp)
      have HW14 := hid hw14
      have HQ0 := hid hq0
      have hpq : p < q := by omega
      clear hw14 hq0 hsd13 hsp13 hm13 hs13 hse13 hur13 hC13 hu14 e9 HE3 hw13
      go_wp2_with fail
      rw [HW14.out, HQ0.out]
      refine (ReadLP8_any hsp14 (k := 0) hbq (by simp) (by omega) (by omega)).mono ?_
      intro e w15 hp
      rcases hr3 : lp 1 x1 with _ | ⟨pr, r2⟩
      · obtain ⟨rfl, hu15⟩ := hp.no hr3
        have hx1 := HSTOP.out (by rw [hr3]; rfl)
        have hur15 := UP.out _ _ _ hur14 hu15 (by simp; omega)
        clear hr3
        go_wp2
        go_ret
        exact HNO.out _ hur15 hx1.out
      obtain ⟨u2, rfl, hu15, hsp15, hbq15, hyq, hnq⟩ := hp.yes hr3
      have hsq15 : Sv w15 B q pr True := ⟨by omega, u2, hbq15, hyq, fun _ => hnq⟩
      have hsd15 := hsd14.upd hu15 (by simp; omega) (by simp; omega)
      have hm15 := hm14.upd hu15 (by simp; omega)
      have hs15 := hs14.upd hu15 (by simp; omega) (by simp; omega)
      have hse15 := hse14.upd hu15 (by simp; omega)
      have hur15 := UP.out _ _ _ hur14 hu15 (by simp; omega)
      have hC15 := hC14.trans hu15 (by simp; omega)
      have HIN := hid (show eeInner (lp 1 x1) = eeInner (some (pr, r2)) by rw [hr3])
      clear hr3 hp hsd14 hsp14 hm14 hs14 hse14 hur14 hC14 hbq hu15 hyq hnq hbq15 HW14 HQ0
      obtain ⟨A9, c9, e9, -, hy9, -⟩ := hsq15.open_
      obtain ⟨A10, c10, e10, -, hy10, -⟩ := hsp15.open_
      obtain ⟨A11, c11, e11, -, hy11, -⟩ := hsd15.open_
      have HE3 := hid (Empty_any hy9)
      have HE4 := hid (Empty_any hy10)
      have hcv := conv_bytes 115 Try.underlying115 hy9
      clear hy9 hy10
      go_wp2_with fail
      refine HE3.out.mono ?_
      rintro e w16 ⟨rfl, rfl⟩
      by_cases hp0 : pr = []
      · have hx1 := HSTOP.out (by rw [HIN.out, hp0]; exact eeInner_nil _)
        subst hp0
        go_wp2
        go_ret
        exact HNO.out _ hur15 hx1.out
      go_wp2_with fail
      refine HE4.out.mono ?_
      rintro e w16 ⟨rfl, rfl⟩
      by_cases hr0 : r2 = []
      case neg =>
        have hx1 := HSTOP.out (by
          rw [HIN.out]
          cases r2 with
          | nil => exact absurd rfl hr0
          | cons y t => exact eeInner_more _ _ _)
        go_wp2
        go_ret
        exact HNO.out _ hur15 hx1.out
      have HIN2 : Hid (eeInner (lp 1 x1) = some pr) := hid (by
        rw [HIN.out, hr0]
        cases pr with
        | nil => exact absurd rfl hp0
        | cons y t => rfl)
      obtain ⟨q0, q1, q2, q3, q4, g0, g1, g2, g3, g4⟩ := ee_cells hm15
      have huS := HFIN.out w15 (strv pr) 0
      have hyS := Row.upd hy11 huS (by simp; omega)
      have hmS : Blk (w15.setCell ⟨m, 0, none⟩ (strv pr)) m 114 #[strv pr, qv, .bool M.early, ev, .bool M.ack] := hm15.set_ 0 (strv pr)
      have hsS := hs15.upd huS (by simp; omega) (by simp; omega)
      have hseS := hse15.upd huS (by simp; omega)
      have hurS := UP.out _ _ _ hur15 huS (by simp)
      have hCS := hC15.trans huS (by simp)
      have HE5 := hid (Empty_any hyS)
      have HMS := hid hmS
      clear hyS huS hmS HIN
      go_wp2_with fail
      refine HE5.out.mono ?_
      rintro e w17 ⟨rfl, rfl⟩
      by_cases he0 : r1 = []
      · have HN := HNX.out (M.setAlpn pr) (by
          rw [HE2.out, HA.out, he0]
          show Option.map _ (eeInner (lp 1 x1)) = _
          rw [HIN2.out]
          rfl)
        have hq13 := hq.upd hCS (by simp; omega)
        have he13 := he.upd hCS (by simp; omega)
        go_wp2
        go_roundg rest.length
        case measure => omega
        case rel => exact ⟨rest, M.setAlpn pr, k :: ks, n + 1, rfl, by omega, hsS, ⟨qv, ev, ec, HMS.out, hq13, he13⟩, hseS, hurS, HN.out⟩
      · have hx1 := HST.out (by
          rw [HE2.out, HA.out]
          cases r1 with
          | nil => exact absurd rfl he0
          | cons y t => rfl)
        go_wp2
        go_ret
        exact HNO.out _ hurS hx1.out
    rw [decide_eq_false h16] at d16
    rw [decide_eq_false h42] at d42
    have HN := HNX.out M (by unfold eeStep; simp only; rw [if_neg h16, if_neg h57, if_neg h42, if_neg hech, if_neg hack])
    clear h16 hech h57 hack h42
    go_wp2_with (first
      | (at_lookup; refine wpList_seen rfl _ _ rfl rfl hse10 k rfl hr1 ?_)
      | (at_mapUpdate; refine wpList_see rfl _ _ _ rfl rfl hse10 hnb k rfl rfl ?_; intro w11 hse11 hu11; have k0' := (hb10.upd hu11 (by simp; omega)).cell 0; simp at k0'; have hsd11 := hsd.upd hu11 (by simp; omega) (by simp; omega); have hm11 := hm10.upd hu11 (by simp; omega); have hs11 := hs10.upd hu11 (by simp; omega) (by simp; omega); have hur11 := UP.out _ _ _ hur10 hu11 (by simp; omega); have hC11 := hC10.trans hu11 (by simp); obtain ⟨A8, c8, e8, e8f, hy8, -⟩ := hsd11.open_; obtain ⟨q0, q1, q2, q3, q4, g0, g1, g2, g3, g4⟩ := ee_cells hm11))
    have hq11 := hq.upd hC11 (by simp; omega)
    have he11 := he.upd hC11 (by simp; omega)
    go_roundg rest.length
    case measure => omega
    case rel => exact ⟨rest, M, k :: ks, n + 1, rfl, by omega, hs11, ⟨qv, ev, ec, hm11, hq11, he11⟩, hse11, hur11, HN.out⟩
end
end Go.Proofs.Ytcdjbciifnoajaa

/- The certificates of a Certificate of TLS 1.3: read by the package (printed by gen_ctu.py). -/
import Derived.Test.YtddkjhlngofkaaaLoops
import Derived.Test.YtddkjhlngofkaaaCtPlain
import Derived.Test.YtddkjhlngofkaaaListsB
import Derived.Test.YtddkjhlngofkaaaStr
import Derived.Deep.LoopGhost
import Derived.Deep.DeepCutAuto
import Derived.Deep.CutRange
namespace Go.Proofs.Ytddkjhlngofkaaa
open Go.RowKit
set_option maxRecDepth 100000

/-- what the fields own -/
structure CtF (w : World) (B lo : Nat) (x : Ct) (vc vs vp : Value) : Prop where
  oc : Vecs w lo B vc x.certs
  os : Byt w B vs x.staple
  op : Vecs w lo B vp x.stamps
  a : apartV vc vp
  fo : (x.ocsp = false → vs = .slice none 0 0) ∧ (x.ocsp = true → x.staple ≠ [])
  fs : (x.scts = false → vp = .slice none 0 0) ∧ (x.scts = true → x.stamps ≠ [])
/-- the message in block m, its flags not yet set -/
def CtB (w : World) (B lo m : Nat) (x : Ct) : Prop :=
  ∃ vc vs vp, Blk w m 135 #[vc, vs, vp, .bool false, .bool false] ∧ CtF w B lo x vc vs vp
def CtcP (w : World) (B lo m ps : Nat) (o : Option (List UInt8 × List UInt8)) (e : Ending) (w' : World) : Prop :=
  match o with
  | none => e = .returned (.bool false) ∧ Upd [m, ps] w w'
  | some (x, r) => e = .returned (.bool (ctL Ct.zero x).isSome) ∧ Upd [m, ps] w w' ∧ ∀ M, ctL Ct.zero x = some M → Sv w' B ps r True ∧ CtB w' B lo m M
theorem CtcP.ret {w w' : World} {B lo m ps : Nat} {o : Option (List UInt8 × List UInt8)} {e : Ending} (h : CtcP w B lo m ps o e w') : ∃ b, e = .returned (.bool b) ∧ Upd [m, ps] w w' := by
  unfold CtcP at h
  split at h
  · exact ⟨_, h.1, h.2⟩
  · exact ⟨_, h.1, h.2.1⟩
section
variable {w w' : World} {B m lo ps : Nat} {v vc vs vp : Value} {data d0 : List UInt8} {e : Ending} {S : List Nat} {x : Ct} {nn : Prop}
theorem CtF.lt (h : CtF w B lo x vc vs vp) : (∀ g, vc.ownBlock = some g → lo ≤ g ∧ g < w.heap.size) ∧ (∀ g, vp.ownBlock = some g → lo ≤ g ∧ g < w.heap.size) := by
  obtain ⟨us, h4, -⟩ := h.oc
  obtain ⟨us', h5, -⟩ := h.op
  exact ⟨fun g hg => h4.ge hg, fun g hg => h5.ge hg⟩
theorem CtF.upd (h : CtF w B lo x vc vs vp) (hu : Upd S w w') (hN : ∀ k ∈ S, B ≤ k) (hS : ∀ k ∈ S, k < lo ∨ w.heap.size ≤ k) : CtF w' B lo x vc vs vp := by
  obtain ⟨l1, l2⟩ := h.lt
  exact ⟨h.oc.upd hu (fun g hg hk => by have := l1 g hg; have := hS g hk; omega) hN, h.os.upd hu hN, h.op.upd hu (fun g hg hk => by have := l2 g hg; have := hS g hk; omega) hN, h.a, h.fo, h.fs⟩
theorem CtF.updB {gb : Nat} (h : CtF w B lo x vc vs vp) (hl : (∀ g, vc.ownBlock = some g → lo ≤ g ∧ g < gb) ∧ (∀ g, vp.ownBlock = some g → lo ≤ g ∧ g < gb)) (hu : Upd S w w') (hN : ∀ k ∈ S, B ≤ k) (hS : ∀ k ∈ S, k < lo ∨ gb ≤ k) : CtF w' B lo x vc vs vp := by
  obtain ⟨l1, l2⟩ := hl
  exact ⟨h.oc.upd hu (fun g hg hk => by have := l1 g hg; have := hS g hk; omega) hN, h.os.upd hu hN, h.op.upd hu (fun g hg hk => by have := l2 g hg; have := hS g hk; omega) hN, h.a, h.fo, h.fs⟩
theorem CtF.updS {gb q : Nat} {d : List UInt8} (h : CtF w B lo x vc vs vp) (hl : (∀ g, vc.ownBlock = some g → lo ≤ g ∧ g < gb) ∧ (∀ g, vp.ownBlock = some g → lo ≤ g ∧ g < gb)) (hq : Sv w B q d nn) (hu : Upd S w w') (hN : ∀ k ∈ S, B ≤ k) (hS : ∀ k ∈ S, k < lo ∨ gb ≤ k ∨ k = q) : CtF w' B lo x vc vs vp := by
  obtain ⟨l1, l2⟩ := hl
  obtain ⟨-, pv, hpb, -⟩ := hq
  have oc := h.oc
  have op := h.op
  obtain ⟨us, o1, -⟩ := oc
  obtain ⟨us', o2, -⟩ := op
  exact ⟨h.oc.upd hu (fun g hg hk => by have := l1 g hg; have := hS g hk; have := o1.ne hpb (by decide) g hg; omega) hN, h.os.upd hu hN, h.op.upd hu (fun g hg hk => by have := l2 g hg; have := hS g hk; have := o2.ne hpb (by decide) g hg; omega) hN, h.a, h.fo, h.fs⟩
theorem CtF.putS2 {gb : Nat} {st : List UInt8} {v' : Value} (h : CtF w B lo x vc vs vp) (hl : (∀ g, vc.ownBlock = some g → lo ≤ g ∧ g < gb) ∧ (∀ g, vp.ownBlock = some g → lo ≤ g ∧ g < gb)) (hu : Upd S w w') (hN : ∀ k ∈ S, B ≤ k) (hS : ∀ k ∈ S, k < lo ∨ gb ≤ k) (ho : Byt w' B v' st) (hne : st ≠ []) : CtF w' B lo (x.setStaple st) vc v' vp := by
  have h2 := h.updB hl hu hN hS
  exact ⟨h2.oc, ho, h2.op, h.a, ⟨fun h => (by cases h), fun _ => hne⟩, h.fs⟩
theorem CtF.nil (w : World) (B lo : Nat) : CtF w B lo Ct.zero (.slice none 0 0) (.slice none 0 0) (.slice none 0 0) :=
  ⟨⟨[], Own.nil_ _ _ _, trivial⟩, Row.nil_ _ _, ⟨[], Own.nil_ _ _ _, trivial⟩, fun _ h => (by cases h), ⟨fun _ => rfl, fun h => (by cases h)⟩, ⟨fun _ => rfl, fun h => (by cases h)⟩⟩
theorem CtF.putC {c : List UInt8} {v' : Value} (h : CtF w B lo x vc vs vp) (hu : Upd S w w') (hN : ∀ k ∈ S, B ≤ k) (hS : ∀ k ∈ S, vp.ownBlock ≠ some k) (ho : Vecs w' lo B v' (x.certs ++ [c])) (hn : nextV vc v' w.heap.size) : CtF w' B lo (x.add c) v' vs vp := by
  obtain ⟨l1, l2⟩ := h.lt
  exact ⟨ho, h.os.upd hu hN, h.op.upd hu (fun g hg hk => hS g hk hg) hN, (h.a.symm.next hn fun g hg => (l2 g hg).2).symm, h.fo, h.fs⟩
theorem CtF.putS {st : List UInt8} {v' : Value} (h : CtF w B lo x vc vs vp) (hu : Upd S w w') (hN : ∀ k ∈ S, B ≤ k) (hS : ∀ k ∈ S, k < lo ∨ w.heap.size ≤ k) (ho : Byt w' B v' st) (hne : st ≠ []) : CtF w' B lo (x.setStaple st) vc v' vp := by
  have h2 := h.upd hu hN hS
  exact ⟨h2.oc, ho, h2.op, h.a, ⟨fun h => (by cases h), fun _ => hne⟩, h.fs⟩
theorem lps_size2 : ∀ (n : Nat) (d : List UInt8) (l : List (List UInt8)), d.length ≤ n → lps 2 d = some l → (vecsB 2 l).length = d.length := fun n d l h1 h2 => (lps_size n d l h1 h2).1
theorem CtF.putP {l : List (List UInt8)} {v' : Value} (h : CtF w B lo x vc vs vp) (hu : Upd S w w') (hN : ∀ k ∈ S, B ≤ k) (hS : ∀ k ∈ S, vc.ownBlock ≠ some k) (ho : Vecs w' lo B v' l) (hn : nextV vp v' w.heap.size) (hne : l ≠ []) : CtF w' B lo (x.setStamps l) vc vs v' := by
  obtain ⟨l1, l2⟩ := h.lt
  exact ⟨h.oc.upd hu (fun g hg hk => hS g hk hg) hN, h.os.upd hu hN, ho, h.a.next hn fun g hg => (l1 g hg).2, h.fo, ⟨fun h => (by cases h), fun _ => hne⟩⟩
/-- the loop over certificates; the loop over a certificate's extensions -/
def CtRel1 (w : World) (B m ps s : Nat) (x0 r0 : List UInt8) (gk : Nat) (wr : World) : Prop :=
  ∃ (d : List UInt8) (M : Ct) (vc vs vp : Value), gk = d.length ∧ Sv wr B s d True ∧ Sv wr B ps r0 True ∧ Blk wr m 135 #[vc, vs, vp, .bool false, .bool false] ∧ CtF wr B (s + 1) M vc vs vp ∧ Upd [m, ps] w wr ∧ s + 1 ≤ wr.heap.size ∧
    ctL Ct.zero x0 = ctL M d ∧ M.certs.length + d.length ≤ x0.length ∧ M.stamps.length + d.length ≤ x0.length
def CtRel2 (w : World) (B m ps s g n1 bound : Nat) (r0 r2 x : List UInt8) (M0 : Ct) (gk : Nat) (wr : World) : Prop :=
  ∃ (d : List UInt8) (M : Ct) (vc vs vp : Value), gk = d.length ∧ Sv wr B (g + 1) d True ∧ Sv wr B s r2 True ∧ Sv wr B ps r0 True ∧ Blk wr m 135 #[vc, vs, vp, .bool false, .bool false] ∧ CtF wr B (s + 1) M vc vs vp ∧ Upd [m, ps] w wr ∧ g + 2 ≤ wr.heap.size ∧
    blockE ctStep x M0 = blockE ctStep d M ∧ M.certs.length = n1 ∧ M.stamps.length + d.length ≤ bound
set_option maxHeartbeats 16000000 in
theorem unmarshalCert (hm : Blk w m 135 #[.slice none 0 0, .slice none 0 0, .slice none 0 0, .bool false, .bool false]) (hs : Sv w B ps d0 nn) (hB : B ≤ m) (hps : ps ≠ m) :
    Calls Try.prog 107 #[.pointer (some ⟨ps, 0, none⟩), .pointer (some ⟨m, 0, none⟩)] w (CtcP w B (w.heap.size + 1) m ps (lp 3 d0)) := by
  obtain ⟨s, hsz⟩ : ∃ s, w.heap.size = s := ⟨_, rfl⟩
  obtain ⟨w0, hw0⟩ : ∃ w0, w.alloc (.cells #[.slice none 0 0] 141) = w0 := ⟨_, rfl⟩
  have hu0 : Upd [] w w0 := by rw [← hw0]; exact (Upd.refl _ _).alloc _
  have hb0 : Blk w0 s 141 #[.slice none 0 0] := by rw [← hw0, ← hsz]; exact Blk.new _ _ _
  have hms : m < s := by have := hm.lt; omega
  have hBp : B ≤ ps := hs.1
  have hpl : ps < s := by obtain ⟨_, pv, hpb, -⟩ := hs; have := hpb.lt; omega
  have hm0 := hm.upd hu0 (by simp)
  have hs0 := hs.upd hu0 (by simp) (by simp)
  have hno : ∀ w2 : World, Upd [m, ps] w w2 → (∀ x r, lp 3 d0 = some (x, r) → ctL Ct.zero x = none) → CtcP w B (s + 1) m ps (lp 3 d0) (.returned (.bool false)) w2 := by
    intro w2 hu hk
    rcases hl : lp 3 d0 with _ | ⟨x, r⟩
    · exact ⟨rfl, hu⟩
    · refine ⟨by rw [hk x r hl]; rfl, hu, fun M h => ?_⟩
      rw [hk x r hl] at h
      cases h
  have HNO := hid hno
  have HW := hid hw0
  have HS := hid hsz
  have hwl : w.heap.size = s := hsz
  rw [hsz]
  clear hno hw0 hsz hs hm
  have up2 : ∀ (a b : World) (S' : List Nat), Upd [m, ps] w a → Upd S' a b → (∀ x ∈ S', x = m ∨ x = ps ∨ s ≤ x) → Upd [m, ps] w b := fun _ _ _ h k hh => h.trans k fun x hx => by
    have h1 := hh x hx
    have h2 := HS.out
    rcases h1 with h1 | h1 | h1
    · left; simp [h1]
    · left; simp [h1]
    · right; omega
  have UP := hid up2
  clear up2
  have H := hid (ReadLP24_any hs0 (k := 0) hb0 (by simp) (by omega) (by omega))
  go_enter Try.func107, Try.ntmps107
  go_wp2_with fail
  rw [HW.out]
  refine H.out.mono ?_
  intro e w1 hp
  rcases hr : lp 3 d0 with _ | ⟨x0, r0⟩
  · obtain ⟨rfl, hu1⟩ := hp.no hr
    have HK := hid hr
    clear hr
    go_wp2
    go_ret
    exact HNO.out _ (UP.out _ _ _ ((Upd.refl [m, ps] _).trans hu0 (by simp)) hu1 (by simp)) (fun x r h => by rw [HK.out] at h; cases h)
  obtain ⟨u, rfl, hu1, hs1, hx1, hyx, hnn⟩ := hp.yes hr
  have HK := hid hr
  have hxl := lp_len hr
  have hm1 := hm0.upd hu1 (by simp; omega)
  have hU1 := UP.out _ _ _ ((Upd.refl [m, ps] _).trans hu0 (by simp)) hu1 (by simp)
  have hsx1 : Sv w1 B s x0 True := ⟨by omega, u, hx1, hyx, fun _ => hnn⟩
  have hs11 : s + 1 ≤ w1.heap.size := by have := hx1.lt; omega
  have hps1 : Sv w1 B ps r0 True := hs1.weak fun _ => trivial
  clear hr hp hm0 hu0 hb0 hs0 H hu1 hx1 hyx hnn hs1 HW
  go_wp2_with fail
  go_loopg [6] x0.length (fun gk _ wr => CtRel1 w B m ps s x0 r0 gk wr)
  case atStart => exact ⟨x0, Ct.zero, _, _, _, rfl, hsx1, hps1, hm1, CtF.nil _ _ _, hU1, hs11, rfl, by simp [Ct.zero], by simp [Ct.zero]⟩
  case round =>
    obtain ⟨d, M, vc, vs, vp, rfl, hsx, hpr, hmr, hF, hur, hsr, hE, hn1, hn2⟩ := hrel
    obtain ⟨wo, rfl⟩ : ∃ wo : World, wo = wr := ⟨_, rfl⟩
    have HE := hid hE
    obtain ⟨A7, c7, e7, -, hy7, -⟩ := hsx.open_
    have H7 := hid (Empty_any hy7)
    clear hE hy7 hsx1 hm1 hU1 hs11 hps1
    go_wp2_with fail
    refine H7.out.mono ?_
    rintro e w8 ⟨rfl, rfl⟩
    by_cases h0 : d = []
    · subst h0
      go_wp2
      go_ret
      rw [HK.out]
      have he : ctL Ct.zero x0 = some M := by rw [HE.out, ctL_nil]
      refine ⟨by rw [he]; rfl, hur, fun M' hM => ?_⟩
      rw [he] at hM
      cases hM
      exact ⟨hpr, vc, vs, vp, hmr, hF⟩
    obtain ⟨wA, hwA⟩ : ∃ wA, (wo.alloc (.cells #[.slice none 0 0] 22)).alloc (.cells #[.slice none 0 0] 141) = wA := ⟨_, rfl⟩
    obtain ⟨g, hg⟩ : ∃ g, wo.heap.size = g := ⟨_, rfl⟩
    have huA : Upd [] wo wA := by rw [← hwA]; exact ((Upd.refl _ _).alloc _).alloc _
    have hbk : Blk wA g 22 #[.slice none 0 0] := by rw [← hwA, ← hg]; exact (Blk.new _ _ _).alloc _
    have hbd : Blk wA (g + 1) 141 #[.slice none 0 0] := by
      rw [← hwA, ← hg]
      have := Blk.new (wo.alloc (.cells #[.slice none 0 0] 22)) 141 #[.slice none 0 0]
      rwa [show (wo.alloc (.cells #[.slice none 0 0] 22)).heap.size = wo.heap.size + 1 by simp] at this
    have hszA : g + 2 ≤ wA.heap.size := by have := hbd.lt; omega
    have hsg : s < g := by omega
    have hl := hF.lt
    rw [hg] at hl
    have hsA := hsx.upd huA (by simp) (by simp)
    have hpA := hpr.upd huA (by simp) (by simp)
    have hmA := hmr.upd huA (by simp)
    have hFA := hF.upd huA (by simp) (by simp)
    have hurA := hur.trans huA (by simp)
    have HWA := hid hwA
    have hbl : ctL Ct.zero x0 = none → ∀ x r, lp 3 d0 = some (x, r) → ctL Ct.zero x = none := fun h x r hx => by
      rw [HK.out] at hx
      cases hx
      exact h
    have HBL := hid hbl
    have HL := hid hl
    clear hwA hsx hmr hpr hF hur huA hbl H7 hl
    have H := hid (tlsLP24_any hsA (k := 0) hbk (by simp) (by omega) (by omega))
    go_wp2_with fail
    rw [HWA.out]
    refine H.out.mono ?_
    intro e w9 hp
    rcases hr : lp 3 d with _ | ⟨cc, r⟩
    · obtain ⟨rfl, hu9⟩ := hp.no hr
      have hx1 := hid (HBL.out (by rw [HE.out]; exact ctL_none h0 hr))
      clear hr
      go_wp2
      go_ret
      exact HNO.out _ (UP.out _ _ _ hurA hu9 (by simp)) hx1.out
    obtain ⟨u, rfl, hu9, hs9, hb9, hyc, -⟩ := hp.yes hr
    obtain ⟨A5, c5, rfl, hyc, -, -⟩ := Byt.form hyc rfl
    have hb9 : Blk w9 g 22 #[.slice A5 cc.length c5] := hb9
    have hs9 : Sv w9 B s r True := hs9.weak fun _ => trivial
    have hlc := lp_len hr
    have hd9 := hbd.upd hu9 (by simp; omega)
    have hp9 := hpA.upd hu9 (by simp <;> omega) (by simp <;> omega)
    have hm9 := hmA.upd hu9 (by simp; omega)
    have hF9 := hFA.updB HL.out hu9 (by simp <;> omega) (by simp <;> omega)
    have hur9 := UP.out _ _ _ hurA hu9 (by simp; omega)
    have HLC := hid hr
    clear hsA hbk hbd hmA hFA hurA hu9 H hp hr h0 hpA
    have H := hid (ReadLP16_any hs9 (k := 0) hd9 (by simp) (by omega) (by omega))
    go_wp2_with fail
    refine H.out.mono ?_
    intro e w10 hp
    rcases hr : lp 2 r with _ | ⟨xx, r2⟩
    · obtain ⟨rfl, hu10⟩ := hp.no hr
      have hx1 := hid (HBL.out (by rw [HE.out]; exact ctL_none2 HLC.out hr))
      clear hr
      go_wp2
      go_ret
      exact HNO.out _ (UP.out _ _ _ hur9 hu10 (by simp)) hx1.out
    obtain ⟨u, rfl, hu10, hs10, hd10, hyd, hnn⟩ := hp.yes hr
    have hlx := lp_len hr
    have hsd10 : Sv w10 B (g + 1) xx True := ⟨by omega, u, hd10, hyd, fun _ => hnn⟩
    have hs10 : Sv w10 B s r2 True := hs10.weak fun _ => trivial
    have hp10 := hp9.upd hu10 (by simp <;> omega) (by simp <;> omega)
    have hm10 := hm9.upd hu10 (by simp; omega)
    have hb10 := hb9.upd hu10 (by simp; omega)
    have hF10 := hF9.updB HL.out hu10 (by simp <;> omega) (by simp <;> omega)
    have hur10 := UP.out _ _ _ hur9 hu10 (by simp; omega)
    have hyc10 := Row.upd hyc hu10 (by simp; omega)
    have hsz10 : g + 2 ≤ w10.heap.size := by have := hd10.lt; omega
    have HST := hid (ctL_step (m := M) HLC.out hr)
    clear hs9 hd9 hb9 hm9 hF9 hur9 hu10 H hp hr hyd hnn hp9 hd10 hyc
    -- the certificate is appended
    obtain ⟨us, hown, hall⟩ := hF10.oc
    have hul := hall.length
    have hnm : m ∉ vc.ownBlock.toList := fun hm' => by have := hown.ne hm10 (by decide) m (Option.mem_toList.1 hm'); exact this rfl
    have hnp := hF10.a
    have hl10 := hF10.lt
    obtain ⟨Av, cv, rfl⟩ := hown.formN (n := us.length) rfl
    have c0 := hm10.cell 0
    have c0f := hm10.frozen 0
    have c1 := hb10.cell 0
    have a0 := (hm10.alloc (.cells #[.slice A5 cc.length c5] 22)).cell 0
    have a0f := (hm10.alloc (.cells #[.slice A5 cc.length c5] 22)).frozen 0
    have a1 := (hb10.alloc (.cells #[.slice A5 cc.length c5] 22)).cell 0
    simp at c0 c1 a0 a1
    have hl2 : us.length + 1 ≤ 16777216 := by omega
    have HUL := hid hul
    have hcl : (M.certs ++ [cc]).length = us.length + 1 := by rw [List.length_append, hul]; simp
    have HCL := hid hcl
    clear hul hcl
    have HALL := hid hall
    have HYU := hid hyc10
    have HF10 := hid hF10
    clear hall hyc10 hF10
    go_upto_region 9 with fail
    go_cut [] from 16 to 104 (fun wz => ∃ A3 c3, Sv wz B s r2 True ∧ Sv wz B ps r0 True ∧ Sv wz B (g + 1) xx True ∧ Blk wz m 135 #[.slice A3 (us.length + 1) c3, vs, vp, .bool false, .bool false] ∧ CtF wz B (s + 1) (M.add cc) (.slice A3 (us.length + 1) c3) vs vp ∧ Upd [m, ps] w wz ∧ g + 2 ≤ wz.heap.size)
    case first =>
      go_region_law (first | (refine step_append_row (v := .slice Av us.length cv) _ rfl _ _ 24 rfl (s + 1) 22 (.slice none 0 0) 24 Try.underlying24 info_bytes rfl rfl (hown.upd (((Upd.refl [] _).alloc _).drew) (by simp)) rfl (Row.drew (Row.one w10 22 (.slice A5 cc.length c5))) (by intro u hu; simp at hu; subst hu; rfl) (by simp; omega) (by simp; omega) (by simp; omega) ?_; intro v3' w3 hap; obtain ⟨A3, c3, hv3⟩ := Own.formN (n := us.length + 1) hap.1 (by simp); subst hv3; have hm3 := ((hm10.alloc (.cells #[.slice A5 cc.length c5] 22)).drew).upd hap.2.1 hnm; have e0 := hm3.cell 0; simp at e0; have g0 := hm3.frozen 0))
      all_goals
        have hup : Upd [m] w3 (w3.setCell ⟨m, 0, none⟩ (.slice A3 (us.length + 1) c3)) := (Upd.refl _ _).setCell (by simp) _
        have hmz := hm3.set_ 0 (.slice A3 (us.length + 1) c3)
        have huD : Upd [] w10 (w10.alloc (.cells #[.slice A5 cc.length c5] 22)).drew := ((Upd.refl [] _).alloc _).drew
        generalize hwz : w3.setCell ⟨m, 0, none⟩ (.slice A3 (us.length + 1) c3) = wz at hup hmz ⊢
        have hvo : ∀ k ∈ (Value.slice Av us.length cv).ownBlock.toList, s + 1 ≤ k ∧ k < g := fun k hk => (HL.out.1 k (Option.mem_toList.1 hk))
        have huz : Upd (m :: (Value.slice Av us.length cv).ownBlock.toList) w10 wz := ((huD.mono (by simp)).trans hap.2.1 (fun k hk => .inl (List.mem_cons_of_mem _ hk))).trans hup (by simp)
        have hzk : ∀ k ∈ m :: (Value.slice Av us.length cv).ownBlock.toList, B ≤ k ∧ k ≠ s ∧ k ≠ ps ∧ k ≠ g ∧ k ≠ g + 1 ∧ (k = m ∨ s ≤ k) := by
          intro k hk
          rcases List.mem_cons.1 hk with hk | hk
          · subst hk; exact ⟨by omega, by omega, fun h => hps h.symm, by omega, by omega, .inl rfl⟩
          · have := hvo k hk; exact ⟨by omega, by omega, by omega, by omega, by omega, .inr (by omega)⟩
        have hsz := hs10.upd huz (fun k hk => (hzk k hk).1) (fun hk => (hzk _ hk).2.1 rfl)
        have hpz := hp10.upd huz (fun k hk => (hzk k hk).1) (fun hk => (hzk _ hk).2.2.1 rfl)
        have hdz := hsd10.upd huz (fun k hk => (hzk k hk).1) (fun hk => (hzk _ hk).2.2.2.2.1 rfl)
        have hurz := UP.out _ _ _ hur10 huz (fun k hk => (hzk k hk).2.2.2.2.2.imp id .inr)
        have hB4 : ∀ (u : Value) (l : List UInt8), Byt w10 B u l → Byt wz B u l := fun u l hb => Row.upd hb huz (fun k hk => (hzk k hk).1)
        have hoz : Vecs wz (s + 1) B (.slice A3 (us.length + 1) c3) (M.certs ++ [cc]) := ⟨us ++ [.slice A5 cc.length c5], hap.1.upd hup (fun g' hg hk => by
          have := hap.1.ne hm3 (by decide) g' hg
          simp at hk; exact this hk), All2.snoc (HALL.out.imp hB4) (hB4 _ _ HYU.out)⟩
        have hnx : nextV (.slice Av us.length cv) (.slice A3 (us.length + 1) c3) w10.heap.size := by
          rcases hap.2.2 with h3 | h3
          · exact .inl h3
          · exact .inr ⟨_, h3, huD.size⟩
        have hFz := HF10.out.putC huz (fun k hk => (hzk k hk).1) (fun k hk he => by
          rcases List.mem_cons.1 hk with hk | hk
          · subst hk; have := hl10.2 k he; omega
          · exact hnp k (Option.mem_toList.1 hk) he) hoz hnx
        have hszz : g + 2 ≤ wz.heap.size := Nat.le_trans hsz10 huz.size
        clear hup hm3 huD hwz hap hvo huz hzk hB4 hoz hnx HF10 hs10 hp10 hsd10 hur10 hm10 hb10 c0 c0f c1 a0 a0f a1 e0 g0 hown hnm hnp hl10 HALL HYU HL
        go_wp2
        go_meet
        exact ⟨_, _, hsz, hpz, hdz, hmz, hFz, hurz, hszz⟩
    obtain ⟨A3, c3, hsz, hpz, hdz, hmz, hFz, hurz, hszz⟩ := hcut
    clear HF10 hs10 hp10 hsd10 hur10 hm10 hb10 c0 c0f c1 a0 a0f a1 hown hnm hnp hl10 HALL HYU HL
    go_wp2_with fail
    go_loopg [8] xx.length (fun gk _ wr => CtRel2 w B m ps s g (us.length + 1) (x0.length - r2.length) r0 r2 xx (M.add cc) gk wr)
    case atStart => exact ⟨xx, M.add cc, _, _, _, rfl, hdz, hsz, hpz, hmz, hFz, hurz, hszz, rfl, HCL.out, by show M.stamps.length + _ ≤ _; omega⟩
    case round =>
      obtain ⟨d2, M2, vc, vs, vp, rfl, hdx, hsx, hpr, hmr, hF, hur, hsr2, hE2, hn3, hn4⟩ := hrel
      obtain ⟨wo, rfl⟩ : ∃ wo : World, wo = wr := ⟨_, rfl⟩
      have HE2 := hid hE2
      have HN3 := hid hn3
      clear hn3
      obtain ⟨A7, c7, e7, -, hy7, -⟩ := hdx.open_
      have H7 := hid (Empty_any hy7)
      clear hE2 hy7 hdz hsz hpz hmz hFz hurz hszz
      go_wp2_with fail
      refine H7.out.mono ?_
      rintro e w8 ⟨rfl, rfl⟩
      by_cases h0 : d2 = []
      · subst h0
        have HN := hid (show ctL Ct.zero x0 = ctL M2 r2 by rw [HE.out, HST.out, HE2.out, blockE_nil]; rfl)
        go_wp2
        go_roundg r2.length
        case measure => omega
        case rel => exact ⟨r2, M2, vc, vs, vp, rfl, hsx, hpr, hmr, hF, hur, by omega, HN.out, by have := HN3.out; have := HUL.out; omega, by simp at hn4; omega⟩
      have hBS : blockE ctStep d2 M2 = none → ∀ x r, lp 3 d0 = some (x, r) → ctL Ct.zero x = none := fun h => HBL.out (by rw [HE.out, HST.out, HE2.out, h]; rfl)
      obtain ⟨wA, hwA⟩ : ∃ wA, (wo.alloc (.cells #[.int .u16 0] 85)).alloc (.cells #[.slice none 0 0] 141) = wA := ⟨_, rfl⟩
      obtain ⟨h, hh⟩ : ∃ g, wo.heap.size = g := ⟨_, rfl⟩
      have huA : Upd [] wo wA := by rw [← hwA]; exact ((Upd.refl _ _).alloc _).alloc _
      have hbk : Blk wA h 85 #[.int .u16 0] := by rw [← hwA, ← hh]; exact (Blk.new _ _ _).alloc _
      have hbd : Blk wA (h + 1) 141 #[.slice none 0 0] := by
        rw [← hwA, ← hh]
        have := Blk.new (wo.alloc (.cells #[.int .u16 0] 85)) 141 #[.slice none 0 0]
        rwa [show (wo.alloc (.cells #[.int .u16 0] 85)).heap.size = wo.heap.size + 1 by simp] at this
      have hgh : g + 1 < h := by omega
      have hl := hF.lt
      rw [hh] at hl
      have hdA := hdx.upd huA (by simp) (by simp)
      have hsA := hsx.upd huA (by simp) (by simp)
      have hpA := hpr.upd huA (by simp) (by simp)
      have hmA := hmr.upd huA (by simp)
      have hFA := hF.upd huA (by simp) (by simp)
      have hurA := hur.trans huA (by simp)
      have hszA : h + 2 ≤ wA.heap.size := by have := hbd.lt; omega
      have HWA := hid hwA
      have HBS := hid hBS
      have HL := hid hl
      clear hwA hsx hmr hpr hF hur huA hBS H7 hl hdx
      by_cases hsh : d2.length < 2
      · have hx1 := hid (HBS.out (blockE_none (ext1_short hsh) h0 _))
        have H := hid (ReadUint16_bad (ob := h) (k := 0) hdA hsh)
        go_wp2_with fail
        rw [HWA.out]
        refine H.out.mono ?_
        rintro e w9 ⟨rfl, hu9⟩
        go_wp2
        go_ret
        exact HNO.out _ (UP.out _ _ _ hurA hu9 (by simp; omega)) hx1.out
      obtain ⟨x, y, t, rfl⟩ : ∃ x y t, d2 = x :: y :: t := by
        match d2, hsh with
        | [], h => simp at h
        | [_], h => simp at h
        | x :: y :: t, _ => exact ⟨x, y, t, rfl⟩
      clear hsh h0
      have H := hid (ReadUint16_ok (k := 0) hdA hbk (by simp) (by omega) (by omega))
      have he1 := ext1_two x y t
      generalize UInt16.ofNat (x.toNat * 256 + y.toNat) = k at H he1
      have He1 := hid he1
      clear he1
      go_wp2_with fail
      rw [HWA.out]
      refine H.out.mono ?_
      rintro e w9 ⟨rfl, hu9, hd9, hb9⟩
      have hb9 : Blk w9 h 85 #[wv k] := hb9
      have hx9 := hbd.upd hu9 (by simp; omega)
      have hs9 := hsA.upd hu9 (by simp <;> omega) (by simp <;> omega)
      have hp9 := hpA.upd hu9 (by simp <;> omega) (by simp <;> omega)
      have hm9 := hmA.upd hu9 (by simp; omega)
      have hF9 := hFA.updS HL.out hdA hu9 (by simp <;> omega) (by simp <;> omega)
      have hur9 := UP.out _ _ _ hurA hu9 (by simp; omega)
      clear hdA hbk hbd hmA hFA hurA hu9 H hsA hpA
      have H := hid (ReadLP16_any hd9 (k := 0) hx9 (by simp) (by omega) (by omega))
      go_wp2_with fail
      refine H.out.mono ?_
      intro e w10 hp
      rcases hr : lp 2 t with _ | ⟨ed, rest⟩
      · obtain ⟨rfl, hu10⟩ := hp.no hr
        have hx1 := hid (HBS.out (blockE_none (by rw [He1.out, hr]; rfl) (by simp) _))
        clear hr
        go_wp2
        go_ret
        exact HNO.out _ (UP.out _ _ _ hur9 hu10 (by simp; omega)) hx1.out
      obtain ⟨u, rfl, hu10, hd10, hx10, hyd, hnn⟩ := hp.yes hr
      have HE1 : Hid (ext1 (x :: y :: t) = some ((k, ed), rest)) := hid (by rw [He1.out, hr]; rfl)
      have hlen : 4 + ed.length + rest.length = (x :: y :: t).length := (ext1_len HE1.out).1
      have hedl : ed.length < 65536 := (ext1_len HE1.out).2
      have hb4 : M2.stamps.length + 4 + ed.length + rest.length ≤ x0.length - r2.length := by omega
      have hrl : rest.length < (x :: y :: t).length := by omega
      have hb10 := hb9.upd hu10 (by simp; omega)
      have hs10 := hs9.upd hu10 (by simp <;> omega) (by simp <;> omega)
      have hp10 := hp9.upd hu10 (by simp <;> omega) (by simp <;> omega)
      have hm10 := hm9.upd hu10 (by simp; omega)
      have hF10 := hF9.updS HL.out hd9 hu10 (by simp <;> omega) (by simp <;> omega)
      have hur10 := UP.out _ _ _ hur9 hu10 (by simp; omega)
      have hsd : Sv w10 B (h + 1) ed True := ⟨by omega, u, hx10, hyd, fun _ => hnn⟩
      have hsz10 : h + 2 ≤ w10.heap.size := by have := hx10.lt; omega
      have k0 := hb10.cell 0
      have n0 := hm10.cell 0
      simp at k0 n0
      have hcn : ∃ Av cv, vc = .slice Av (us.length + 1) cv := by
        obtain ⟨us', ho', ha'⟩ := hF10.oc
        exact ho'.formN (n := us.length + 1) (by rw [ha'.length, HN3.out])
      obtain ⟨Av, cv, rfl⟩ := hcn
      clear hs9 hd9 hb9 hm9 hF9 hur9 hu10 H hp hx10 hyd hnn hr hlen hb10 hp9 hx9 hn4
      by_cases hlate : 0 < us.length
      · have hd1 : decide ((1 : Int) < (us.length : Int) + 1) = true := decide_eq_true (by omega)
        have HN := hid (blockE_go (m' := M2) HE1.out (show ctStep M2 (k, ed) = some M2 by unfold ctStep; rw [if_pos (by rw [HN3.out]; omega)]))
        clear hlate
        go_wp2
        go_roundg rest.length
        case measure => omega
        case rel => exact ⟨rest, M2, _, vs, vp, rfl, hd10, hs10, hp10, hm10, hF10, hur10, by omega, by rw [HE2.out]; exact HN.out, HN3.out, by omega⟩
      have hd1 : decide ((1 : Int) < (us.length : Int) + 1) = false := decide_eq_false (by omega)
      have HM1 := hid (show ¬ 1 < M2.certs.length by rw [HN3.out]; omega)
      clear hlate
      have d5 := u16_eq k 5
      have d18 := u16_eq k 18
      rw [show ((5 : UInt16).toNat : Int) = 5 from rfl] at d5
      rw [show ((18 : UInt16).toNat : Int) = 18 from rfl] at d18
      by_cases hk5 : k = 5
      · rw [decide_eq_true hk5] at d5
        have HSTP := hid (show ctStep M2 (k, ed) = (stapP ed).map fun s => M2.setStaple s by unfold ctStep; rw [if_neg HM1.out]; exact if_pos hk5)
        clear hk5
        obtain ⟨wB, hwB⟩ : ∃ wB, w10.alloc (.cells #[.int .u8 0] 5) = wB := ⟨_, rfl⟩
        obtain ⟨p, hp0⟩ : ∃ p, w10.heap.size = p := ⟨_, rfl⟩
        have huB : Upd [] w10 wB := by rw [← hwB]; exact (Upd.refl _ _).alloc _
        have hbp : Blk wB p 5 #[.int .u8 0] := by rw [← hwB, ← hp0]; exact Blk.new _ _ _
        have hpw : h + 2 ≤ p := by omega
        have hxB := hsd.upd huB (by simp) (by simp)
        have hmB := hm10.upd huB (by simp)
        have hurB := hur10.trans huB (by simp)
        have HWB := hid hwB
        rcases ed with _ | ⟨k1, t1⟩
        · have H := hid (ReadUint8_bad (ob := p) (k := 0) hxB)
          have HN := hid (HBS.out (by rw [blockE_stop (stp := ctStep) (m := M2) HE1.out (by rw [HSTP.out]; rfl)]))
          clear hwB hsd hm10 hmB hbp huB hd10 hs10 hp10 hF10 hur10 hxB
          go_wp2_with fail
          rw [HWB.out]
          refine H.out.mono ?_
          rintro e w11 ⟨rfl, hu11⟩
          go_wp2
          go_ret
          exact HNO.out _ (UP.out _ _ _ hurB hu11 (by simp; omega)) HN.out
        have H := hid (ReadUint8_ok (k := 0) hxB hbp (by simp) (by omega) (by omega))
        clear hwB hsd
        go_wp2_with fail
        rw [HWB.out]
        refine H.out.mono ?_
        rintro e w11 ⟨rfl, hu11, hx11, hb11⟩
        have hb11 : Blk w11 p 5 #[bv k1] := hb11
        have hC11 : Upd [h + 1] w10 w11 := (huB.mono (by simp)).trans hu11 (by simp; omega)
        have hm11 := hm10.upd hC11 (by simp; omega)
        have hd11 := hd10.upd hC11 (by simp; omega) (by simp; omega)
        have hs11 := hs10.upd hC11 (by simp; omega) (by simp; omega)
        have hp11 := hp10.upd hC11 (by simp; omega) (by simp; omega)
        have hF11 := hF10.updB HL.out hC11 (by simp; omega) (by simp)
        have hur11 := UP.out _ _ _ hur10 hC11 (by simp; omega)
        have hsz11 : h + 2 ≤ w11.heap.size := Nat.le_trans hsz10 hC11.size
        have q0 := hb11.cell 0
        simp [bv] at q0
        clear hxB hmB hurB hbp H hu11 HWB hm10 hd10 hs10 hp10 hF10 hur10 huB hC11
        by_cases hk1 : k1 = 1
        rotate_left
        · have e1 : ((k1.toNat : Int) != 1) = true := by
            rw [bne_iff_ne]; intro e; exact hk1 (UInt8.toNat_inj.1 (by show k1.toNat = 1; omega))
          have HN := hid (HBS.out (by rw [blockE_stop (stp := ctStep) (m := M2) HE1.out (by rw [HSTP.out, stapP_cons, if_neg hk1]; rfl)]))
          clear hk1
          go_wp2
          go_ret
          exact HNO.out _ hur11 HN.out
        have e1 : ((k1.toNat : Int) != 1) = false := by rw [hk1]; decide
        have HSTP2 := hid (show ctStep M2 (k, k1 :: t1) = (stapIn (lp 3 t1)).map fun s => M2.setStaple s by rw [HSTP.out, stapP_cons, if_pos hk1])
        clear hk1 HSTP
        have m1 := hm11.cell 1
        simp at m1
        have H := hid (tlsLP24_any hx11 (k := 1) hm11 (by simp) (by omega) (by omega))
        go_wp2_with fail
        refine H.out.mono ?_
        intro e w12 hp
        rcases hr2 : lp 3 t1 with _ | ⟨st, r1⟩
        · obtain ⟨rfl, hu12⟩ := hp.no hr2
          have HN := hid (HBS.out (by rw [blockE_stop (stp := ctStep) (m := M2) HE1.out (by rw [HSTP2.out, hr2]; rfl)]))
          clear hr2
          go_wp2
          go_ret
          exact HNO.out _ (UP.out _ _ _ hur11 hu12 (by simp; omega)) HN.out
        obtain ⟨u, rfl, hu12, hx12, hm12, hyu, hnu⟩ := hp.yes hr2
        obtain ⟨A5, c5, rfl, hyu, -, -⟩ := Byt.form hyu rfl
        have hm12 : Blk w12 m 135 #[.slice Av (us.length + 1) cv, .slice A5 st.length c5, vp, .bool false, .bool false] := hm12
        have m1 := hm12.cell 1
        simp at m1
        have hur12 := UP.out _ _ _ hur11 hu12 (by simp; omega)
        by_cases hst : st = []
        · have HN := hid (HBS.out (by rw [blockE_stop (stp := ctStep) (m := M2) HE1.out (by rw [HSTP2.out, hr2, hst, stapIn_nil]; rfl)]))
          have hz0 : st.length = 0 := by rw [hst]; rfl
          rw [hz0] at m1
          clear hr2 hst hz0 hp
          go_wp2
          go_ret
          exact HNO.out _ hur12 HN.out
        have hz : ((st.length : Int) == 0) = false := by have := List.length_pos_iff.2 hst; rw [beq_eq_false_iff_ne]; omega
        have HSTN := hid hst
        have hd12 := hd11.upd hu12 (by simp; omega) (by simp; omega)
        have hs12 := hs11.upd hu12 (by simp; omega) (by simp; omega)
        have hp12 := hp11.upd hu12 (by simp; omega) (by simp; omega)
        have hF12 := hF11.putS2 HL.out hu12 (by simp; omega) (by simp; omega) hyu hst
        have hsz12 : h + 2 ≤ w12.heap.size := Nat.le_trans hsz11 hu12.size
        obtain ⟨A8, c8, e8, e8f, hy8, -⟩ := hx12.open_
        have H8 := hid (Empty_any hy8)
        have HR2 := hid hr2
        clear hst hp hr2 hy8 H hx11 hm11 hd11 hs11 hp11 hF11 hur11 hu12 hx12 hb11 hyu hnu
        go_wp2_with fail
        refine H8.out.mono ?_
        rintro e w13 ⟨rfl, rfl⟩
        by_cases he : r1 = []
        · have HN := hid (blockE_go (m' := M2.setStaple st) HE1.out (show ctStep M2 (k, k1 :: t1) = some (M2.setStaple st) by rw [HSTP2.out, HR2.out, he, stapIn_some HSTN.out]; rfl))
          go_wp2
          go_roundg rest.length
          case measure => omega
          case rel => exact ⟨rest, M2.setStaple st, _, _, vp, rfl, hd12, hs12, hp12, hm12, hF12, hur12, by omega, by rw [HE2.out]; exact HN.out, HN3.out, by show M2.stamps.length + _ ≤ _; omega⟩
        · have HN := hid (HBS.out (by rw [blockE_stop (stp := ctStep) (m := M2) HE1.out (by
            rw [HSTP2.out, HR2.out]
            cases r1 with
            | nil => exact absurd rfl he
            | cons y t => rw [stapIn_more]; rfl)]))
          go_wp2
          go_ret
          exact HNO.out _ hur12 HN.out
      rw [decide_eq_false hk5] at d5
      by_cases hk18 : k = 18
      · rw [decide_eq_true hk18] at d18
        have HST := hid (show ctStep M2 (k, ed) = (listsP 2 2 ed).map fun l => M2.setStamps (M2.stamps ++ l) by unfold ctStep; rw [if_neg HM1.out]; dsimp only; rw [if_neg (by rw [hk18]; decide), if_pos hk18])
        clear hk18
        obtain ⟨wB, hwB⟩ : ∃ wB, w10.alloc (.cells #[.slice none 0 0] 141) = wB := ⟨_, rfl⟩
        obtain ⟨p, hp0⟩ : ∃ p, w10.heap.size = p := ⟨_, rfl⟩
        have huB : Upd [] w10 wB := by rw [← hwB]; exact (Upd.refl _ _).alloc _
        have hbp : Blk wB p 141 #[.slice none 0 0] := by rw [← hwB, ← hp0]; exact Blk.new _ _ _
        have hgp : h + 1 < p := by omega
        have hpw : w10.heap.size ≤ p := by omega
        have hsdB := hsd.upd huB (by simp) (by simp)
        have hmB := hm10.upd huB (by simp)
        have hurB := hur10.trans huB (by simp)
        have HWB := hid hwB
        have HP0 := hid hp0
        clear hwB hp0 hsd hm10
        have H := hid (ReadLP16_any hsdB (k := 0) hbp (by simp) (by omega) (by omega))
        go_wp2_with fail
        rw [HWB.out, HP0.out]
        refine H.out.mono ?_
        intro e w13 hp
        rcases hr2 : lp 2 ed with _ | ⟨x1, r1⟩
        · obtain ⟨rfl, hu13⟩ := hp.no hr2
          have HN := hid (HBS.out (by rw [blockE_stop (stp := ctStep) (m := M2) HE1.out (by rw [HST.out]; unfold listsP; rw [hr2]; rfl)]))
          clear hr2
          go_wp2
          go_ret
          exact HNO.out _ (UP.out _ _ _ hurB hu13 (by simp; omega)) HN.out
        obtain ⟨u1, rfl, hu13, hsd13, hbp13, hyp, hnp⟩ := hp.yes hr2
        have hx1l := lp_len hr2
        have hsp13 : Sv w13 B p x1 True := ⟨by omega, u1, hbp13, hyp, fun _ => hnp⟩
        have hm13 := hmB.upd hu13 (by simp; omega)
        have hC13 : Upd [h + 1] w10 w13 := (huB.mono (by simp)).trans hu13 (by simp; omega)
        have hpw13 : p < w13.heap.size := hbp13.lt
        have hur13 := UP.out _ _ _ hurB hu13 (by simp; omega)
        have hF13 := hF10.updB HL.out hC13 (by simp; omega) (by simp)
        have hd13 := hd10.upd hC13 (by simp; omega) (by simp; omega)
        have hs13 := hs10.upd hC13 (by simp; omega) (by simp; omega)
        have hp13 := hp10.upd hC13 (by simp; omega) (by simp; omega)
        have HST2 := hid (show ctStep M2 (k, ed) = (lpsIn 2 (some (x1, r1))).map fun l => M2.setStamps (M2.stamps ++ l) by rw [HST.out]; unfold listsP; rw [hr2])
        clear hr2 hp hu13 hbp13 hyp hnp hsdB hmB hurB hbp H HWB HP0 huB hF10 hs10 hd10 hp10 hur10 HST hC13
        obtain ⟨A9, c9, e9, -, hy9, -⟩ := hsp13.open_
        have HE3 := hid (Empty_any hy9)
        clear hy9
        go_wp2_with fail
        refine HE3.out.mono ?_
        rintro e w14 ⟨rfl, rfl⟩
        by_cases hx0 : x1 = []
        · have HN := hid (HBS.out (by rw [blockE_stop (stp := ctStep) (m := M2) HE1.out (by rw [HST2.out, hx0, lpsIn_nil]; rfl)]))
          subst hx0
          go_wp2
          go_ret
          exact HNO.out _ hur13 HN.out
        rw [decide_eq_false hx0]
        have HX0 := hid hx0
        have hop0 := hF13.op
        obtain ⟨ts0, hown0, hall0⟩ := hop0
        have AL0 : ALoop 22 B p m 135 (fun z => #[.slice Av (us.length + 1) cv, vs, z, .bool false, .bool false]) (s + 1) w13 vp x1 vp ts0 w13 := ⟨hsp13, hm13, hown0, nextV.refl _ _, Upd.refl _ _⟩
        have HTL0 := hid hall0.length
        have hvg : ∀ j, vp.ownBlock = some j → j ≠ g + 1 := fun j hj => by
          have hd' := hd13
          obtain ⟨-, pv, hpb, -⟩ := hd'
          exact hown0.ne hpb (by decide) j hj
        have HVG := hid hvg
        clear hx0 hsp13 hm13 e9 HE3 hvg
        go_wp2_with fail
        go_loopg [12] x1.length (fun gk _ wr => LRelA 2 B p m 135 (fun z => #[.slice Av (us.length + 1) cv, vs, z, .bool false, .bool false]) (s + 1) w13 vp M2.stamps x1 (ts0.length + x1.length) gk wr)
        case atStart => exact ⟨x1, vp, ts0, [], rfl, AL0, by rw [List.append_nil]; exact hall0, by cases lps 2 x1 <;> rfl, Nat.le_refl _⟩
        case round =>
          obtain ⟨x2, vv, ts, l, rfl, AL, hall, heq, hbnd⟩ := hrel
          obtain ⟨wi, rfl⟩ : ∃ wi : World, wi = wr := ⟨_, rfl⟩
          have HEQ := hid heq
          have HALL := hid hall
          have HUL2 := hid hall.length
          clear heq hall AL0 hall0 hown0
          obtain ⟨A9, c9, e9, -, hy9, -⟩ := AL.sv.open_
          have HE9 := hid (Empty_any hy9)
          clear hy9
          go_wp2_with fail
          refine HE9.out.mono ?_
          rintro e w14 ⟨rfl, rfl⟩
          have hrow : ∀ j ∈ p :: m :: vp.ownBlock.toList, B ≤ j ∧ j ≠ h + 1 ∧ j ≠ g + 1 ∧ j ≠ s ∧ j ≠ ps ∧ (∀ h', (Value.slice Av (us.length + 1) cv).ownBlock = some h' → h' ≠ j) := by
            intro j hj
            obtain ⟨l2, l4⟩ := HL.out
            have a24 := hF13.a
            rcases List.mem_cons.1 hj with hj | hj
            · subst hj
              exact ⟨by omega, by omega, by omega, by omega, by omega, fun h' hh => by have := l2 h' hh; omega⟩
            · rcases List.mem_cons.1 hj with hj | hj
              · subst hj
                exact ⟨by omega, by omega, by omega, by omega, fun h => hps h.symm, fun h' hh => by have := l2 h' hh; omega⟩
              · have hj := Option.mem_toList.1 hj
                have hjj := l4 j hj
                exact ⟨by omega, by omega, HVG.out j hj, by omega, by omega, fun h' hh he => by subst he; exact a24 _ hh hj⟩
          have hurr : Upd [m, ps] w wi := hur13.trans AL.up (fun j hj => by
            rcases List.mem_cons.1 hj with hj | hj
            · right; have := HS.out; omega
            · rcases List.mem_cons.1 hj with hj | hj
              · left; simp [hj]
              · right; have hj := Option.mem_toList.1 hj; have : s + 1 ≤ j := (HL.out.2 j hj).1; have := HS.out; omega)
          by_cases hx2 : x2 = []
          · have hxr := hsd13.upd AL.up (fun j hj => (hrow j hj).1) (fun hj => (hrow _ hj).2.1 rfl)
            have hdr := hd13.upd AL.up (fun j hj => (hrow j hj).1) (fun hj => (hrow _ hj).2.2.1 rfl)
            have hsr := hs13.upd AL.up (fun j hj => (hrow j hj).1) (fun hj => (hrow _ hj).2.2.2.1 rfl)
            have hpr := hp13.upd AL.up (fun j hj => (hrow j hj).1) (fun hj => (hrow _ hj).2.2.2.2.1 rfl)
            have heq : lps 2 x1 = some l := by rw [HEQ.out, hx2, lps_nil]; simp
            have hln : l ≠ [] := fun e => by
              have h1 := (lps_size2 x1.length x1 l (Nat.le_refl _) heq)
              rw [e] at h1
              exact HX0.out (List.eq_nil_of_length_eq_zero h1.symm)
            have hFr := hF13.putP (l := M2.stamps ++ l) AL.up (fun j hj => (hrow j hj).1) (fun j hj h' => (hrow j hj).2.2.2.2.2 j h' rfl) ⟨ts, AL.own, HALL.out⟩ AL.nx (fun e => hln (List.append_eq_nil_iff.1 e).2)
            have hmr := AL.hm
            have hsz : h + 2 ≤ wi.heap.size := by have := AL.up.size; omega
            have hll : (M2.stamps ++ l).length ≤ M2.stamps.length + x1.length := by
              have h1 := HUL2.out
              have h2 := hbnd
              have h3 := HTL0.out
              omega
            have HEQ2 := hid heq
            obtain ⟨A8, c8, e8, e8f, hy8, -⟩ := hxr.open_
            have H8 := hid (Empty_any hy8)
            have HLL := hid hll
            clear hy8 heq AL hsd13 hs13 hd13 hp13 hur13 hF13 hrow HE9 hxr hln hll
            subst hx2
            go_wp2_with fail
            refine H8.out.mono ?_
            rintro e w15 ⟨rfl, rfl⟩
            by_cases he : r1 = []
            · have HN := hid (blockE_go (m' := M2.setStamps (M2.stamps ++ l)) HE1.out (show ctStep M2 (k, ed) = some (M2.setStamps (M2.stamps ++ l)) by rw [HST2.out, he, lpsIn_some 2 HX0.out, HEQ2.out]; rfl))
              go_wp2
              go_roundg rest.length
              case measure => omega
              case rel => exact ⟨rest, M2.setStamps (M2.stamps ++ l), _, vs, vv, rfl, hdr, hsr, hpr, hmr, hFr, hurr, by omega, by rw [HE2.out]; exact HN.out, HN3.out, by show (M2.stamps ++ l).length + _ ≤ _; have := HLL.out; omega⟩
            · have HN := hid (HBS.out (by rw [blockE_stop (stp := ctStep) (m := M2) HE1.out (by
                rw [HST2.out]
                cases r1 with
                | nil => exact absurd rfl he
                | cons y t => rw [lpsIn_more]; rfl)]))
              go_wp2
              go_ret
              exact HNO.out _ hurr HN.out
          obtain ⟨wq, hwq⟩ : ∃ wq, wi.alloc (.cells #[.slice none 0 0] 22) = wq := ⟨_, rfl⟩
          obtain ⟨q, hq0⟩ : ∃ q, wi.heap.size = q := ⟨_, rfl⟩
          have huq : Upd [] wi wq := by rw [← hwq]; exact (Upd.refl _ _).alloc _
          have hbq : Blk wq q 22 #[.slice none 0 0] := by rw [← hwq, ← hq0]; exact Blk.new _ _ _
          have hqw : wi.heap.size ≤ q := by omega
          have hpq : p < q := by have := AL.up.size; omega
          have hspq := AL.sv.upd huq (by simp) (by simp)
          have hmq := AL.hm.upd huq (by simp)
          have hurq2 := hurr.trans huq (by simp)
          have HWQ := hid hwq
          have HQ0 := hid hq0
          clear hwq hq0 HE9 hrow hurr
          have stop : Hid (lps 2 x2 = none → ∀ x r, lp 3 d0 = some (x, r) → ctL Ct.zero x = none) := hid (fun hn => HBS.out (by
            rw [blockE_stop (stp := ctStep) (m := M2) HE1.out (by
              rw [HST2.out, lpsIn_bad 2 r1 (by rw [HEQ.out, hn]; rfl)]; rfl)]))
          have HX2 := hid hx2
          have H := hid (tlsLP16_any hspq (k := 0) hbq (by simp) (by omega) (by omega))
          go_wp2_with fail
          rw [HWQ.out, HQ0.out]
          refine H.out.mono ?_
          intro e w15 hp
          clear hx2
          rcases hr3 : lp 2 x2 with _ | ⟨ca, x3⟩
          · obtain ⟨rfl, hu15⟩ := hp.no hr3
            have hx1 := hid (stop.out (lps_none HX2.out (fun y x r h => (by rw [hr3] at h; cases h))))
            clear hr3
            go_wp2
            go_ret
            exact HNO.out _ (UP.out _ _ _ hurq2 hu15 (by simp; omega)) hx1.out
          obtain ⟨u5, rfl, hu15, hs15, hb15, hyu, hnu⟩ := hp.yes hr3
          have hs15 : Sv w15 B p x3 True := hs15
          obtain ⟨A5, c5, rfl, hyu, -, -⟩ := Byt.form hyu rfl
          have hb15 : Blk w15 q 22 #[.slice A5 ca.length c5] := hb15
          have hx2l := lp_len hr3
          by_cases hca : ca = []
          · have hx1 := hid (stop.out (lps_none HX2.out (fun y x r h => (by rw [hr3, hca] at h; cases h))))
            have c1 := hb15.cell 0
            simp at c1
            have hz0 : ca.length = 0 := by rw [hca]; rfl
            rw [hz0] at c1
            clear hr3 hca hz0
            go_wp2
            go_ret
            exact HNO.out _ (UP.out _ _ _ hurq2 hu15 (by simp; omega)) hx1.out
          have HL2 := hid (lps_step hr3 hca)
          have hz : ((ca.length : Int) == 0) = false := by have := List.length_pos_iff.2 hca; rw [beq_eq_false_iff_ne]; omega
          have hcal : 0 < ca.length := List.length_pos_iff.2 hca
          clear hr3 hca hp
          have hm15 := hmq.upd hu15 (by simp; omega)
          have hu25 : Upd [p] wi w15 := (huq.mono (by simp)).trans hu15 (by simp; omega)
          have hown15 : Own w15 (s + 1) 22 vv ts := AL.own.upd hu25 (fun h hh hk => by
            obtain ⟨_, pv, hpb, _⟩ := AL.sv
            have := AL.own.ne hpb (by decide) h hh
            simp at hk; exact this hk)
          have hsz15 : s + 1 ≤ w15.heap.size := by have := hu25.size; have := AL.up.size; omega
          have hnm : m ∉ vv.ownBlock.toList := fun hm' => by have := AL.own.ne AL.hm (by decide) m (Option.mem_toList.1 hm'); exact this rfl
          obtain ⟨Aw, cw, rfl⟩ := AL.own.formN (n := ts.length) rfl
          have c0 := hm15.cell 2
          have c0f := hm15.frozen 2
          have c1 := hb15.cell 0
          have a0 := (hm15.alloc (.cells #[.slice A5 ca.length c5] 22)).cell 2
          have a0f := (hm15.alloc (.cells #[.slice A5 ca.length c5] 22)).frozen 2
          have a1 := (hb15.alloc (.cells #[.slice A5 ca.length c5] 22)).cell 0
          simp at c0 c1 a0 a1
          have hl2 : ts.length + 1 ≤ 16777216 := by have h3 := HTL0.out; omega
          have HAL := hid AL
          have HYU := hid hyu
          clear AL hspq hmq hbq hurq2 huq H hur13 hF13 hsd13 hs13 hd13 hp13 hyu stop
          go_wp2_with fail
          go_region_law (first | (refine step_append_row (v := .slice Aw ts.length cw) _ rfl _ _ 24 rfl (s + 1) 22 (.slice none 0 0) 24 Try.underlying24 info_bytes rfl rfl (hown15.upd (((Upd.refl [] _).alloc _).drew) (by simp)) rfl (Row.drew (Row.one w15 22 (.slice A5 ca.length c5))) (by intro u hu; simp at hu; subst hu; rfl) (by simp; omega) (by simp; omega) (by simp; omega) ?_; intro v3' w3 hap; obtain ⟨A3', c3', hv3⟩ := Own.formN (n := ts.length + 1) hap.1 (by simp); subst hv3; have hm3 := ((hm15.alloc (.cells #[.slice A5 ca.length c5] 22)).drew).upd hap.2.1 hnm; have e0 := hm3.cell 2; simp at e0; have g0 := hm3.frozen 2))
          all_goals
            go_wp2
            go_roundg x3.length
            case measure => omega
            case rel =>
              have hup : Upd [m] w3 (w3.setCell ⟨m, 2, none⟩ (.slice A3' (ts.length + 1) c3')) := (Upd.refl _ _).setCell (by simp) _
              have hAL := HAL.out.step (by omega) (by omega) hB (by decide) (by decide) hu25 hs15 (((Upd.refl [] _).alloc _).drew) hap hup (hm3.set_ 2 _)
              have hB4 : ∀ (u : Value) (l : List UInt8), Byt wi B u l → Byt (w3.setCell ⟨m, 2, none⟩ (.slice A3' (ts.length + 1) c3')) B u l := fun u l hb => by
                have h1 := Row.drew (Row.alloc (Row.upd hb hu25 (by simp; omega)) (.cells #[.slice A5 ca.length c5] 22))
                exact Row.upd (Row.upd h1 hap.2.1 (fun k hk => by have := (hown15.ge (Option.mem_toList.1 hk)).1; omega)) hup (by simp; omega)
              have hB5 : Byt (w3.setCell ⟨m, 2, none⟩ (.slice A3' (ts.length + 1) c3')) B (.slice A5 ca.length c5) ca := by
                have h1 := Row.drew (Row.alloc HYU.out (.cells #[.slice A5 ca.length c5] 22))
                exact Row.upd (Row.upd h1 hap.2.1 (fun k hk => by have := (hown15.ge (Option.mem_toList.1 hk)).1; omega)) hup (by simp; omega)
              refine ⟨x3, _, ts ++ [.slice A5 ca.length c5], l ++ [ca], rfl, hAL, ?_, ?_, ?_⟩
              · rw [← List.append_assoc]; exact All2.snoc (HALL.out.imp hB4) hB5
              · rw [HEQ.out, HL2.out]; cases lps 2 x3 <;> simp
              · simp; omega
      rw [decide_eq_false hk18] at d18
      have HN := hid (blockE_go (m' := M2) HE1.out (show ctStep M2 (k, ed) = some M2 by unfold ctStep; rw [if_neg HM1.out, if_neg hk5, if_neg hk18]))
      clear hk5 hk18
      go_wp2
      go_roundg rest.length
      case measure => omega
      case rel => exact ⟨rest, M2, _, vs, vp, rfl, hd10, hs10, hp10, hm10, hF10, hur10, by omega, by rw [HE2.out]; exact HN.out, HN3.out, by omega⟩
end
end Go.Proofs.Ytddkjhlngofkaaa

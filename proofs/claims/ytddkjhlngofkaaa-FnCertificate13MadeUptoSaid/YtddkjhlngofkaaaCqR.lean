/- CertificateRequest of TLS 1.3: read by the reference (printed by gen_cqr.py). -/
import Derived.Test.YtddkjhlngofkaaaCqV
import Derived.Test.YtddkjhlngofkaaaLoops
import Derived.Test.YtddkjhlngofkaaaSpecE
import Derived.Test.YtddkjhlngofkaaaReader
import Derived.Deep.LoopGhost
namespace Go.Proofs.Ytddkjhlngofkaaa
open Go.RowKit
set_option maxRecDepth 100000

/-- own rows between two bounds -/
def OwnIn (w : World) (lo hi : Nat) (e : TypeId) (v : Value) (xs : List Value) : Prop := (∃ b, Own w b e v xs) ∧ ∀ g, v.ownBlock = some g → lo ≤ g ∧ g < hi
def VecsIn (w : World) (B lo hi : Nat) (v : Value) (xs : List (List UInt8)) : Prop := (∃ b, Vecs w b B v xs) ∧ ∀ g, v.ownBlock = some g → lo ≤ g ∧ g < hi
section
variable {w w' : World} {lo hi lo' hi' B r m N : Nat} {e : TypeId} {v : Value} {xs : List Value} {ls : List (List UInt8)} {S : List Nat} {s : R} {data : List UInt8}
theorem OwnIn.upd (h : OwnIn w lo hi e v xs) (hu : Upd S w w') (hS : ∀ k ∈ S, k < lo ∨ hi ≤ k) : OwnIn w' lo hi e v xs := by
  obtain ⟨⟨b, h1⟩, h2⟩ := h
  exact ⟨⟨b, h1.upd hu fun g hg hk => by have := h2 g hg; have := hS g hk; omega⟩, h2⟩
theorem VecsIn.upd (h : VecsIn w B lo hi v ls) (hu : Upd S w w') (hS : ∀ k ∈ S, k < lo ∨ hi ≤ k) (hB : ∀ k ∈ S, B ≤ k) : VecsIn w' B lo hi v ls := by
  obtain ⟨⟨b, h1⟩, h2⟩ := h
  exact ⟨⟨b, h1.upd hu (fun g hg hk => by have := h2 g hg; have := hS g hk; omega) hB⟩, h2⟩
theorem OwnIn.wide (h : OwnIn w lo hi e v xs) (h1 : lo' ≤ lo) (h2 : hi ≤ hi') : OwnIn w lo' hi' e v xs := ⟨h.1, fun g hg => by have := h.2 g hg; omega⟩
theorem VecsIn.wide (h : VecsIn w B lo hi v ls) (h1 : lo' ≤ lo) (h2 : hi ≤ hi') : VecsIn w B lo' hi' v ls := ⟨h.1, fun g hg => by have := h.2 g hg; omega⟩
theorem OwnIn.nil_ (w : World) (lo hi : Nat) (e : TypeId) : OwnIn w lo hi e (.slice none 0 0) [] := ⟨⟨0, Own.nil_ _ _ _⟩, fun _ h => by cases h⟩
theorem VecsIn.nil_ (w : World) (B lo hi : Nat) : VecsIn w B lo hi (.slice none 0 0) [] := ⟨⟨0, [], Own.nil_ _ _ _, trivial⟩, fun _ h => by cases h⟩
theorem OwnIn.new {b : Nat} (h : Own w b e v xs) : OwnIn w b w.heap.size e v xs := ⟨⟨b, h⟩, fun _ hg => h.ge hg⟩
theorem VecsIn.new {b : Nat} (h : Vecs w b B v ls) : VecsIn w B b w.heap.size v ls := ⟨⟨b, h⟩, fun g hg => by obtain ⟨us, h1, -⟩ := h; exact h1.ge hg⟩
theorem Vecs.formL {b : Nat} (h : Vecs w b B v ls) : ∃ A c, v = .slice A ls.length c := by
  obtain ⟨us, h1, h2⟩ := h
  exact h1.formN h2.length
theorem cq_vec_len (s : R) (n lo hi : Nat) (hn : n ≤ 2) : (s.vec n lo hi).1.length < 65536 := by
  unfold R.vec
  simp only
  split
  · rw [take_len]
    have h1 := beNat_lt (s.take n).1
    rw [take_len] at h1
    have h2 : 256 ^ n ≤ 256 ^ 2 := Nat.pow_le_pow_right (by omega) (by omega)
    show beNat (s.take n).1 < _
    omega
  · simp
theorem cq_within_len (s : R) (b : List UInt8) : (s.within b).bs.length ≤ b.length := by
  unfold R.within
  simp only
  split <;> simp
theorem cq_words_len (s : R) (b : List UInt8) : (s.words b).1.length ≤ b.length := by
  have h := cq_within_len s b
  have h2 : (s.words b).1 = wordsOf (s.within b).bs := rfl
  rw [h2]
  exact Nat.le_trans (wordsOf_le _) h
theorem cq_wordsV_len (s : R) : (s.wordsV 2 65535).1.length ≤ 1099511627776 := by
  have h1 := cq_words_len (s.vec 2 2 65535).2 (s.vec 2 2 65535).1
  have h2 := cq_vec_len s 2 2 65535 (by omega)
  unfold R.wordsV
  omega
theorem cq_extsGo_data (f : Nat) (x : R) (out : List Ex) (h : ∀ e ∈ out, e.2.length < 65536) : ∀ e ∈ (R.extsGo f x out).1, e.2.length < 65536 := by
  induction f generalizing x out with
  | zero => exact h
  | succ f ih =>
    rw [R.extsGo_succ]
    by_cases h0 : x.bs = []
    · rw [if_pos h0]; exact h
    · rw [if_neg h0]
      refine ih _ _ fun e he => ?_
      rcases List.mem_append.1 he with he | he
      · exact h e he
      · simp at he
        rw [he]
        exact cq_vec_len _ _ _ _ (by omega)
theorem cq_exts_data (s : R) : ∀ e ∈ s.exts.1, e.2.length < 65536 := cq_extsGo_data _ _ _ (by simp)
theorem cq_rest_take (x : R) : x.take x.bs.length = (x.bs, ⟨[], x.code⟩) := by
  unfold R.take
  rw [if_neg (show ¬ x.bs.length < x.bs.length by omega)]
  simp
set_option maxHeartbeats 2000000 in
theorem context_any (hr : Rd w N r s) : Calls Try.prog 63 #[.pointer (some ⟨r, 0, none⟩)] w fun e w' => e = .returned (.tuple #[]) ∧ Upd [r] w w' ∧ Rd w' N r s.context := by
  have H1 := hid (vec_any hr 1 0 255 (by omega))
  by_cases h0 : 0 < (s.vec 1 0 255).1.length
  · have HC := hid (show s.context = (s.vec 1 0 255).2.fail 1 by unfold R.context; rw [if_pos h0])
    have H0 := hid h0
    clear h0
    go_enter Try.func63, Try.ntmps63
    go_wp2_with fail
    refine H1.out.mono ?_
    rintro e w1 ⟨v1, rfl, hu1, hr1, hy1⟩
    obtain ⟨A1, c1, rfl, hy1, -, -⟩ := Byt.form hy1 rfl
    have h0 := H0.out
    have H2 := hid (fail_any hr1 1)
    clear hr1 hy1 H1
    go_wp2_with fail
    refine H2.out.mono ?_
    rintro e w2 ⟨rfl, hu2, hr2⟩
    go_wp2
    go_end0
    rw [HC.out]
    exact ⟨rfl, hu1.trans hu2 (by simp), hr2⟩
  · have HC := hid (show s.context = (s.vec 1 0 255).2 by unfold R.context; rw [if_neg h0])
    have H0 := hid h0
    clear h0
    go_enter Try.func63, Try.ntmps63
    go_wp2_with fail
    refine H1.out.mono ?_
    rintro e w1 ⟨v1, rfl, hu1, hr1, hy1⟩
    obtain ⟨A1, c1, rfl, hy1, -, -⟩ := Byt.form hy1 rfl
    have h0 := H0.out
    clear hy1 H1
    go_wp2
    go_end0
    rw [HC.out]
    exact ⟨rfl, hu1, hr1⟩
/-- the loop over extensions -/
def CqSRel (w : World) (N q mb rb base : Nat) (v : Value) (L : List Ex) (r0 : R) (gk : Nat) (i : Value) (wr : World) : Prop :=
  ∃ (j : Nat) (M : Cq) (r : R) (A2 A3 A4 : Option Addr) (c2 c3 c4 : Nat), j + gk = L.length ∧ i = .int .i64 (j : Int) ∧ Blk wr mb 35 #[.bool M.ocsp, .bool M.scts, .slice A2 M.sig.length c2, .slice A3 M.sigc.length c3, .slice A4 M.cas.length c4] ∧ Blk wr rb 35 #[.bool false, .bool false, .slice none 0 0, .slice none 0 0, .slice none 0 0] ∧ Rd wr N q r ∧ EOwn wr base N v L ∧
    OwnIn wr (q + 1) wr.heap.size 85 (.slice A2 M.sig.length c2) (M.sig.map wv) ∧ OwnIn wr (q + 1) wr.heap.size 85 (.slice A3 M.sigc.length c3) (M.sigc.map wv) ∧ VecsIn wr N (q + 1) wr.heap.size (.slice A4 M.cas.length c4) M.cas ∧
    M.sig.length ≤ 1099511627776 ∧ M.sigc.length ≤ 1099511627776 ∧ Upd [] w wr ∧ specE cqRd L (Cq.zero, r0) = specE cqRd (L.drop j) (M, r)

set_option maxHeartbeats 8000000 in
theorem ReadCq_any (hv : Byt w B v data) (hB : B ≤ w.heap.size) : Calls Try.prog 27 #[v] w (RefG CqV w (cqSpec data).1 (cqSpec data).2.code) := by
  obtain ⟨A, c, rfl, hv, hl, hc⟩ := Byt.form hv rfl
  obtain ⟨w1, hw1⟩ : ∃ w1, (w.alloc (.cells #[.bool false, .bool false, .slice none 0 0, .slice none 0 0, .slice none 0 0] 35)).alloc (.cells #[.bool false, .bool false, .slice none 0 0, .slice none 0 0, .slice none 0 0] 35) = w1 := ⟨_, rfl⟩
  obtain ⟨s, hs⟩ : ∃ s, w.heap.size = s := ⟨_, rfl⟩
  have hu1 : Upd [] w w1 := by rw [← hw1]; exact ((Upd.refl _ _).alloc _).alloc _
  have hb1 : Blk w1 s 35 #[.bool false, .bool false, .slice none 0 0, .slice none 0 0, .slice none 0 0] := by rw [← hw1, ← hs]; exact (Blk.new _ _ _).alloc _
  have hm1 : Blk w1 (s + 1) 35 #[.bool false, .bool false, .slice none 0 0, .slice none 0 0, .slice none 0 0] := by
    rw [← hw1, ← hs]
    have := Blk.new (w.alloc (.cells #[.bool false, .bool false, .slice none 0 0, .slice none 0 0, .slice none 0 0] 35)) 35 #[.bool false, .bool false, .slice none 0 0, .slice none 0 0, .slice none 0 0]
    rwa [show (w.alloc (.cells #[.bool false, .bool false, .slice none 0 0, .slice none 0 0, .slice none 0 0] 35)).heap.size = w.heap.size + 1 by simp] at this
  have hs1 : w1.heap.size = s + 2 := by rw [← hw1, ← hs]; simp
  have H1 := hid (body_any (w := w1) (N := B) (by have := hu1.size; omega) (Row.upd hv hu1 (by simp)) 13)
  have HW := hid hw1
  have HS1 := hid hs1
  clear hw1 hs1
  go_enter Try.func27, Try.ntmps27
  go_wp2_with fail
  rw [HW.out]
  refine (H1.out).mono ?_
  rintro e w2 ⟨rfl, hu2, hr2⟩
  rw [HS1.out] at hr2
  rw [HS1.out]
  have hU2 := hu1.trans hu2 (by simp)
  have hb2 := hb1.upd hu2 (by simp)
  have hm2 := hm1.upd hu2 (by simp)
  clear hb1 hm1 hu1 hu2 H1
  have H := hid (context_any hr2)
  go_wp2_with fail
  refine H.out.mono ?_
  rintro e w3 ⟨rfl, hu3, hr3⟩
  have hU3 := hU2.trans hu3 (by simp; omega)
  have hb3 := hb2.upd hu3 (by simp)
  have hm3 := hm2.upd hu3 (by simp)
  clear hb2 hm2 hU2 hu3 hr2 H
  -- the extensions
  have H := hid (extensions_any hr3)
  go_wp2_with fail
  refine H.out.mono ?_
  rintro e w11 ⟨v11, rfl, ho11, hu11, hr11⟩
  obtain ⟨A5, c5, rfl, hl5, hc5⟩ := ho11.form
  obtain ⟨L, hL⟩ : ∃ L, (cqS data).exts.1 = L := ⟨_, rfl⟩
  obtain ⟨r5, hr5⟩ : ∃ r, (cqS data).exts.2 = r := ⟨_, rfl⟩
  have hLd : ∀ e ∈ L, e.2.length < 65536 := by rw [← hL]; exact cq_exts_data _
  have hS : cqSpec data = specE cqRd L (Cq.zero, r5.fin) := by unfold cqSpec; rw [hL, hr5]
  rw [show (bodyR 13 data).context.exts.2 = r5 from hr5] at hr11
  rw [show (bodyR 13 data).context.exts.1 = L from hL] at ho11 hl5
  rw [show (bodyR 13 data).context.exts.1 = L from hL]
  have HLD := hid hLd
  have HSP := hid hS
  clear hL hr5 hLd hS
  have hU11 := hU3.trans hu11 (by simp; omega)
  have hb11 := hb3.upd hu11 (by simp)
  have hm11 := hm3.upd hu11 (by simp)
  have hsz10 : s + 2 < w3.heap.size := by have := hr3.lt; omega
  generalize w3.heap.size = base at ho11 hsz10
  clear hb3 hm3 hU3 hu11 H hr3
  have hne : ∀ g, (Value.slice A5 L.length c5).ownBlock = some g → s + 2 < g := fun g hg => by have := (ho11.ge hg).1; omega
  have H := hid (end_any hr11)
  go_wp2_with fail
  refine H.out.mono ?_
  rintro e w12 ⟨rfl, hu12, hr12⟩
  have hU12 := hU11.trans hu12 (by simp; omega)
  have hb12 := hb11.upd hu12 (by simp)
  have hm12 := hm11.upd hu12 (by simp)
  have ho12 := ho11.upd hu12 (fun g hg hm => by have := hne g hg; simp at hm; omega) (by simp; omega)
  clear hb11 hm11 hU11 hu12 H hr11 ho11
  go_wp2_with fail
  go_loopg [20] L.length (fun gk i wr => CqSRel w B (s + 2) (s + 1) s base (.slice A5 L.length c5) L r5.fin gk i wr)
  case atStart => exact ⟨0, Cq.zero, r5.fin, none, none, none, 0, 0, 0, by omega, rfl, hm12, hb12, hr12, ho12, OwnIn.nil_ _ _ _ _, OwnIn.nil_ _ _ _ _, VecsIn.nil_ _ _ _ _, by simp [Cq.zero], by simp [Cq.zero], hU12, rfl⟩
  case round =>
    obtain ⟨j, M, r, A2, A3, A4, c2, c3, c4, hj0, rfl, hmr, hbr, hrr, how, hf2, hf3, hf4, hz2, hz3, hur, hE⟩ := hrel
    have HJ := hid hj0
    have HE := hid hE
    have hus := hur.size
    clear hm12 hb12 hr12 ho12 hU12 hj0 hE
    by_cases hlt : j < L.length
    · obtain ⟨b, o, rfl, hb', hj', A', c', e0, e1, hy, hy1, hy2⟩ := how.exr.at_ hlt
      have hxm := HLD.out _ (List.getElem_mem hlt)
      have hdrop := List.drop_eq_getElem_cons hlt
      generalize L[j] = x at e0 e1 hy hy1 hy2 hxm hdrop
      obtain ⟨xk, xd⟩ := x
      have hstep : specE cqRd (L.drop j) (M, r) = specE cqRd (L.drop (j + 1)) ((cqRd M xk (r.within xd)).1, r.done (cqRd M xk (r.within xd)).2) := by
        rw [hdrop]; rfl
      have HST := hid hstep
      have hxm : xd.length < 65536 := hxm
      clear hstep hdrop
      obtain ⟨wA, hwA⟩ : ∃ wA, wr.alloc (.cells #[wv xk, .slice A' xd.length c'] 96) = wA := ⟨_, rfl⟩
      obtain ⟨g, hg⟩ : ∃ g, wr.heap.size = g := ⟨_, rfl⟩
      have huA : Upd [] wr wA := by rw [← hwA]; exact (Upd.refl _ _).alloc _
      have hbg : Blk wA g 96 #[wv xk, .slice A' xd.length c'] := by rw [← hwA, ← hg]; exact Blk.new _ _ _
      have hsg : s + 2 < g := by have := hrr.lt; omega
      have hob : ∀ g', (Value.slice (some ⟨b, o, none⟩) L.length c5).ownBlock = some g' → g' < g := fun g' hg' => by have := (how.ge hg').2; omega
      rw [hg] at hf2 hf3 hf4
      have hmA := hmr.upd huA (by simp)
      have hbA := hbr.upd huA (by simp)
      have hrA := hrr.upd huA (by simp) (by simp)
      have hoA := how.upd huA (by simp) (by simp)
      have hf2A := hf2.upd huA (by simp)
      have hf3A := hf3.upd huA (by simp)
      have hf4A := hf4.upd huA (by simp) (by simp)
      have hurA := hur.trans huA (by simp)
      have hyA : Byt wA B (.slice A' xd.length c') xd := Row.upd hy huA (by simp)
      have hgl := hbg.lt
      have HH := hid (within_any hrA (N' := B) (by omega) hyA)
      have d0 := hbg.cell 0
      have d1 := hbg.cell 1
      simp at d0 d1
      have HWA := hid hwA
      have Hg := hid hg
      clear hwA hg hmr hrr how hf2 hf3 hf4 hur huA hy
      go_wp2_with fail
      rw [HWA.out, Hg.out]
      go_wp2_with fail
      refine HH.out.mono ?_
      rintro e w13 ⟨rfl, hu13, hq13⟩
      have hgq : g < wA.heap.size := hgl
      generalize wA.heap.size = q at hq13 hgq
      have hm13 := hmA.upd hu13 (by simp)
      have hb13 := hbA.upd hu13 (by simp)
      have hr13 := hrA.upd hu13 (by simp) (by simp)
      have ho13 := hoA.upd hu13 (by simp) (by simp)
      have hf213 := hf2A.upd hu13 (by simp)
      have hf313 := hf3A.upd hu13 (by simp)
      have hf413 := hf4A.upd hu13 (by simp) (by simp)
      have hur13 := hurA.trans hu13 (by simp)
      have hbg13 := hbg.upd hu13 (by simp)
      have d0 := hbg13.cell 0
      simp at d0
      have hwl := cq_within_len r xd
      have hoq : ∀ g', (Value.slice (some ⟨b, o, none⟩) L.length c5).ownBlock = some g' → g' < g ∧ s + 2 < g' := fun g' hg' => ⟨hob g' hg', hne g' hg'⟩
      clear hmA hrA hoA hf2A hf3A hf4A hurA hyA hu13 hbg HH d1 hob
      obtain ⟨p0, p1, p2, p3, p4, g0, g1, g2, g3, g4⟩ := cq_cells hm13
      obtain ⟨Aq, cq, q0, q1, qf0, qf1, hql, hqc⟩ := hq13.open_
      have d5 := u16_eq xk 5
      have d18 := u16_eq xk 18
      have d13 := u16_eq xk 13
      have d50 := u16_eq xk 50
      have d47 := u16_eq xk 47
      rw [show ((5 : UInt16).toNat : Int) = 5 from rfl] at d5
      rw [show ((18 : UInt16).toNat : Int) = 18 from rfl] at d18
      rw [show ((13 : UInt16).toNat : Int) = 13 from rfl] at d13
      rw [show ((50 : UInt16).toNat : Int) = 50 from rfl] at d50
      rw [show ((47 : UInt16).toNat : Int) = 47 from rfl] at d47
      generalize hxx : r.within xd = xx at hq13 hwl hql q0 HST
      clear hxx
      by_cases h5 : xk = 5
      · rw [decide_eq_true h5] at d5
        have HRD := hid (show cqRd M xk xx = (M.setOcsp, xx) by rw [h5]; rfl)
        clear h5
        obtain ⟨wX, hwX⟩ : ∃ wX, w13.setCell ⟨s + 1, 0, none⟩ (.bool true) = wX := ⟨_, rfl⟩
        have hu3X : Upd [q, s + 1] w13 wX := by rw [← hwX]; exact (Upd.refl _ _).setCell (by simp) _
        have hmX : Blk wX (s + 1) 35 #[.bool true, .bool M.scts, .slice A2 M.sig.length c2, .slice A3 M.sigc.length c3, .slice A4 M.cas.length c4] := by rw [← hwX]; exact hm13.set_ 0 _
        have hqX := hq13.upd (by rw [← hwX]; exact (Upd.refl [s + 1] _).setCell (by simp) _ : Upd [s + 1] w13 wX) (by simp; omega) (by simp; omega)
        have hszX : g < wX.heap.size := by have := hqX.lt; omega
        have HWX := hid hwX
        clear hwX
        have hbX := hb13.upd hu3X (by simp; omega)
        have hrX := hr13.upd hu3X (by simp; omega) (by simp; omega)
        have hoX := ho13.upd hu3X (fun g' hg' hm => by have := hoq g' hg'; simp at hm; omega) (by simp; omega)
        have hf2X := hf213.upd hu3X (by simp; omega)
        have hf3X := hf313.upd hu3X (by simp; omega)
        have hf4X := hf413.upd hu3X (by simp; omega) (by simp; omega)
        have hurX := hur13.trans hu3X (by simp; omega)
        have HD := hid (done_any hrX hqX (by omega) (by omega))
        have hqlt := hqX.lt
        clear hm13 hb13 hr13 hq13 ho13 hf213 hf313 hf413 hur13 hu3X
        go_wp2_with fail
        rw [HWX.out]
        clear p0 p1 p2 p3 p4 g0 g1 g2 g3 g4 q0 q1 qf0 qf1
        refine HD.out.mono ?_
        rintro e w16 ⟨rfl, hu16, hr16⟩
        have hm16 := hmX.upd hu16 (by simp; omega)
        have hb16 := hbX.upd hu16 (by simp; omega)
        have ho16 := hoX.upd hu16 (fun g' hg' hm => by have := hoq g' hg'; simp at hm; omega) (by simp; omega)
        have hsz16 := hu16.size
        have hf216 := (hf2X.upd hu16 (by simp; omega)).wide (lo' := s + 3) (hi' := w16.heap.size) (by omega) (by omega)
        have hf316 := (hf3X.upd hu16 (by simp; omega)).wide (lo' := s + 3) (hi' := w16.heap.size) (by omega) (by omega)
        have hf416 := (hf4X.upd hu16 (by simp; omega) (by simp; omega)).wide (lo' := s + 3) (hi' := w16.heap.size) (by omega) (by omega)
        have hur16 := hurX.trans hu16 (by simp; omega)
        clear hmX hoX hf2X hf3X hf4X hurX hu16 hrX hqX HD HWX
        go_wp2
        go_roundg (L.length - (j + 1))
        case measure => have := HJ.out; omega
        case rel => exact ⟨j + 1, M.setOcsp, _, A2, A3, A4, c2, c3, c4, by have := HJ.out; omega, by go_num, hm16, hb16, hr16, ho16, hf216, hf316, hf416, hz2, hz3, hur16, by rw [HE.out, HST.out, HRD.out]⟩
      rw [decide_eq_false h5] at d5
      by_cases h18 : xk = 18
      · rw [decide_eq_true h18] at d18
        have HRD := hid (show cqRd M xk xx = (M.setScts, xx) by rw [h18]; rfl)
        clear h18
        obtain ⟨wX, hwX⟩ : ∃ wX, w13.setCell ⟨s + 1, 1, none⟩ (.bool true) = wX := ⟨_, rfl⟩
        have hu3X : Upd [q, s + 1] w13 wX := by rw [← hwX]; exact (Upd.refl _ _).setCell (by simp) _
        have hmX : Blk wX (s + 1) 35 #[.bool M.ocsp, .bool true, .slice A2 M.sig.length c2, .slice A3 M.sigc.length c3, .slice A4 M.cas.length c4] := by rw [← hwX]; exact hm13.set_ 1 _
        have hqX := hq13.upd (by rw [← hwX]; exact (Upd.refl [s + 1] _).setCell (by simp) _ : Upd [s + 1] w13 wX) (by simp; omega) (by simp; omega)
        have hszX : g < wX.heap.size := by have := hqX.lt; omega
        have HWX := hid hwX
        clear hwX
        have hbX := hb13.upd hu3X (by simp; omega)
        have hrX := hr13.upd hu3X (by simp; omega) (by simp; omega)
        have hoX := ho13.upd hu3X (fun g' hg' hm => by have := hoq g' hg'; simp at hm; omega) (by simp; omega)
        have hf2X := hf213.upd hu3X (by simp; omega)
        have hf3X := hf313.upd hu3X (by simp; omega)
        have hf4X := hf413.upd hu3X (by simp; omega) (by simp; omega)
        have hurX := hur13.trans hu3X (by simp; omega)
        have HD := hid (done_any hrX hqX (by omega) (by omega))
        have hqlt := hqX.lt
        clear hm13 hb13 hr13 hq13 ho13 hf213 hf313 hf413 hur13 hu3X
        go_wp2_with fail
        rw [HWX.out]
        clear p0 p1 p2 p3 p4 g0 g1 g2 g3 g4 q0 q1 qf0 qf1
        refine HD.out.mono ?_
        rintro e w16 ⟨rfl, hu16, hr16⟩
        have hm16 := hmX.upd hu16 (by simp; omega)
        have hb16 := hbX.upd hu16 (by simp; omega)
        have ho16 := hoX.upd hu16 (fun g' hg' hm => by have := hoq g' hg'; simp at hm; omega) (by simp; omega)
        have hsz16 := hu16.size
        have hf216 := (hf2X.upd hu16 (by simp; omega)).wide (lo' := s + 3) (hi' := w16.heap.size) (by omega) (by omega)
        have hf316 := (hf3X.upd hu16 (by simp; omega)).wide (lo' := s + 3) (hi' := w16.heap.size) (by omega) (by omega)
        have hf416 := (hf4X.upd hu16 (by simp; omega) (by simp; omega)).wide (lo' := s + 3) (hi' := w16.heap.size) (by omega) (by omega)
        have hur16 := hurX.trans hu16 (by simp; omega)
        clear hmX hoX hf2X hf3X hf4X hurX hu16 hrX hqX HD HWX
        go_wp2
        go_roundg (L.length - (j + 1))
        case measure => have := HJ.out; omega
        case rel => exact ⟨j + 1, M.setScts, _, A2, A3, A4, c2, c3, c4, by have := HJ.out; omega, by go_num, hm16, hb16, hr16, ho16, hf216, hf316, hf416, hz2, hz3, hur16, by rw [HE.out, HST.out, HRD.out]⟩
      rw [decide_eq_false h18] at d18
      by_cases h13 : xk = 13
      · rw [decide_eq_true h13] at d13
        have HRD := hid (show cqRd M xk xx = (M.setSig (xx.wordsV 2 65535).1, (xx.wordsV 2 65535).2) by rw [h13]; rfl)
        have hvl := cq_vec_len xx 2 2 65535 (by omega)
        have hpl := cq_wordsV_len xx
        clear h13
        have H := hid (vec_any hq13 2 2 65535 (by omega))
        go_wp2_with fail
        refine H.out.mono ?_
        rintro e w14 ⟨v14, rfl, hu14, hq14, hy14⟩
        have H2 := hid (words_any hq14 hy14 (by omega))
        have hs14 := hu14.size
        have hq14l := hq14.lt
        rw [show ((xx.vec 2 2 65535).2.words (xx.vec 2 2 65535).1) = xx.wordsV 2 65535 from rfl] at H2
        obtain ⟨pp, hpp⟩ : ∃ pp, xx.wordsV 2 65535 = pp := ⟨_, rfl⟩
        rw [hpp] at H2 HRD hpl
        clear hpp H hy14
        go_wp2_with fail
        refine H2.out.mono ?_
        rintro e w15 ⟨v15, rfl, ho15, hu15, hq15⟩
        obtain ⟨A6, c6, rfl⟩ := ho15.formN (n := pp.1.length) (by simp)
        have hu145 := hu14.trans hu15 (by simp)
        have hm15 := hm13.upd hu145 (by simp; omega)
        have hs15 := hu15.size
        have hN := OwnIn.new ho15
        clear p0 p1 p2 p3 p4 g0 g1 g2 g3 g4 q0 q1 qf0 qf1
        obtain ⟨p0, p1, p2, p3, p4, g0, g1, g2, g3, g4⟩ := cq_cells hm15
        have q0 := True.intro
        have q1 := True.intro
        have qf0 := True.intro
        have qf1 := True.intro
        obtain ⟨wX, hwX⟩ : ∃ wX, w15.setCell ⟨s + 1, 2, none⟩ (.slice A6 pp.1.length c6) = wX := ⟨_, rfl⟩
        have hu4X : Upd [s + 1] w15 wX := by rw [← hwX]; exact (Upd.refl _ _).setCell (by simp) _
        have hu3X : Upd [q, s + 1] w13 wX := (hu145.mono (by simp)).trans hu4X (by simp)
        have hmX : Blk wX (s + 1) 35 #[.bool M.ocsp, .bool M.scts, .slice A6 pp.1.length c6, .slice A3 M.sigc.length c3, .slice A4 M.cas.length c4] := by rw [← hwX]; exact hm15.set_ 2 _
        have hqX := hq15.upd hu4X (by simp; omega) (by simp; omega)
        have hsX := hu4X.size
        have hszX : g < wX.heap.size := by omega
        have hNX := (hN.upd hu4X (by simp; omega)).wide (lo' := w14.heap.size) (hi' := wX.heap.size) (by omega) (by omega)
        have HWX := hid hwX
        clear hwX hm15 hq14 hq15 hu4X H2 hu14 hu15 hu145 ho15 hN
        have hbX := hb13.upd hu3X (by simp; omega)
        have hrX := hr13.upd hu3X (by simp; omega) (by simp; omega)
        have hoX := ho13.upd hu3X (fun g' hg' hm => by have := hoq g' hg'; simp at hm; omega) (by simp; omega)
        have hf2X := True.intro
        have hf3X := hf313.upd hu3X (by simp; omega)
        have hf4X := hf413.upd hu3X (by simp; omega) (by simp; omega)
        have hurX := hur13.trans hu3X (by simp; omega)
        have HD := hid (done_any hrX hqX (by omega) (by omega))
        have hqlt := hqX.lt
        clear hm13 hb13 hr13 hq13 ho13 hf213 hf313 hf413 hur13 hu3X
        go_wp2_with fail
        rw [HWX.out]
        clear p0 p1 p2 p3 p4 g0 g1 g2 g3 g4 q0 q1 qf0 qf1
        refine HD.out.mono ?_
        rintro e w16 ⟨rfl, hu16, hr16⟩
        have hm16 := hmX.upd hu16 (by simp; omega)
        have hb16 := hbX.upd hu16 (by simp; omega)
        have ho16 := hoX.upd hu16 (fun g' hg' hm => by have := hoq g' hg'; simp at hm; omega) (by simp; omega)
        have hsz16 := hu16.size
        have hf216 := (hNX.upd hu16 (by simp; omega)).wide (lo' := s + 3) (hi' := w16.heap.size) (by omega) (by omega)
        have hf316 := (hf3X.upd hu16 (by simp; omega)).wide (lo' := s + 3) (hi' := w16.heap.size) (by omega) (by omega)
        have hf416 := (hf4X.upd hu16 (by simp; omega) (by simp; omega)).wide (lo' := s + 3) (hi' := w16.heap.size) (by omega) (by omega)
        have hur16 := hurX.trans hu16 (by simp; omega)
        clear hmX hoX hf2X hf3X hf4X hurX hu16 hrX hqX HD HWX
        go_wp2
        go_roundg (L.length - (j + 1))
        case measure => have := HJ.out; omega
        case rel => exact ⟨j + 1, M.setSig pp.1, _, A6, A3, A4, c6, c3, c4, by have := HJ.out; omega, by go_num, hm16, hb16, hr16, ho16, hf216, hf316, hf416, hpl, hz3, hur16, by rw [HE.out, HST.out, HRD.out]⟩
      rw [decide_eq_false h13] at d13
      by_cases h50 : xk = 50
      · rw [decide_eq_true h50] at d50
        have HRD := hid (show cqRd M xk xx = (M.setSigc (xx.wordsV 2 65535).1, (xx.wordsV 2 65535).2) by rw [h50]; rfl)
        have hvl := cq_vec_len xx 2 2 65535 (by omega)
        have hpl := cq_wordsV_len xx
        clear h50
        have H := hid (vec_any hq13 2 2 65535 (by omega))
        go_wp2_with fail
        refine H.out.mono ?_
        rintro e w14 ⟨v14, rfl, hu14, hq14, hy14⟩
        have H2 := hid (words_any hq14 hy14 (by omega))
        have hs14 := hu14.size
        have hq14l := hq14.lt
        rw [show ((xx.vec 2 2 65535).2.words (xx.vec 2 2 65535).1) = xx.wordsV 2 65535 from rfl] at H2
        obtain ⟨pp, hpp⟩ : ∃ pp, xx.wordsV 2 65535 = pp := ⟨_, rfl⟩
        rw [hpp] at H2 HRD hpl
        clear hpp H hy14
        go_wp2_with fail
        refine H2.out.mono ?_
        rintro e w15 ⟨v15, rfl, ho15, hu15, hq15⟩
        obtain ⟨A6, c6, rfl⟩ := ho15.formN (n := pp.1.length) (by simp)
        have hu145 := hu14.trans hu15 (by simp)
        have hm15 := hm13.upd hu145 (by simp; omega)
        have hs15 := hu15.size
        have hN := OwnIn.new ho15
        clear p0 p1 p2 p3 p4 g0 g1 g2 g3 g4 q0 q1 qf0 qf1
        obtain ⟨p0, p1, p2, p3, p4, g0, g1, g2, g3, g4⟩ := cq_cells hm15
        have q0 := True.intro
        have q1 := True.intro
        have qf0 := True.intro
        have qf1 := True.intro
        obtain ⟨wX, hwX⟩ : ∃ wX, w15.setCell ⟨s + 1, 3, none⟩ (.slice A6 pp.1.length c6) = wX := ⟨_, rfl⟩
        have hu4X : Upd [s + 1] w15 wX := by rw [← hwX]; exact (Upd.refl _ _).setCell (by simp) _
        have hu3X : Upd [q, s + 1] w13 wX := (hu145.mono (by simp)).trans hu4X (by simp)
        have hmX : Blk wX (s + 1) 35 #[.bool M.ocsp, .bool M.scts, .slice A2 M.sig.length c2, .slice A6 pp.1.length c6, .slice A4 M.cas.length c4] := by rw [← hwX]; exact hm15.set_ 3 _
        have hqX := hq15.upd hu4X (by simp; omega) (by simp; omega)
        have hsX := hu4X.size
        have hszX : g < wX.heap.size := by omega
        have hNX := (hN.upd hu4X (by simp; omega)).wide (lo' := w14.heap.size) (hi' := wX.heap.size) (by omega) (by omega)
        have HWX := hid hwX
        clear hwX hm15 hq14 hq15 hu4X H2 hu14 hu15 hu145 ho15 hN
        have hbX := hb13.upd hu3X (by simp; omega)
        have hrX := hr13.upd hu3X (by simp; omega) (by simp; omega)
        have hoX := ho13.upd hu3X (fun g' hg' hm => by have := hoq g' hg'; simp at hm; omega) (by simp; omega)
        have hf2X := hf213.upd hu3X (by simp; omega)
        have hf3X := True.intro
        have hf4X := hf413.upd hu3X (by simp; omega) (by simp; omega)
        have hurX := hur13.trans hu3X (by simp; omega)
        have HD := hid (done_any hrX hqX (by omega) (by omega))
        have hqlt := hqX.lt
        clear hm13 hb13 hr13 hq13 ho13 hf213 hf313 hf413 hur13 hu3X
        go_wp2_with fail
        rw [HWX.out]
        clear p0 p1 p2 p3 p4 g0 g1 g2 g3 g4 q0 q1 qf0 qf1
        refine HD.out.mono ?_
        rintro e w16 ⟨rfl, hu16, hr16⟩
        have hm16 := hmX.upd hu16 (by simp; omega)
        have hb16 := hbX.upd hu16 (by simp; omega)
        have ho16 := hoX.upd hu16 (fun g' hg' hm => by have := hoq g' hg'; simp at hm; omega) (by simp; omega)
        have hsz16 := hu16.size
        have hf216 := (hf2X.upd hu16 (by simp; omega)).wide (lo' := s + 3) (hi' := w16.heap.size) (by omega) (by omega)
        have hf316 := (hNX.upd hu16 (by simp; omega)).wide (lo' := s + 3) (hi' := w16.heap.size) (by omega) (by omega)
        have hf416 := (hf4X.upd hu16 (by simp; omega) (by simp; omega)).wide (lo' := s + 3) (hi' := w16.heap.size) (by omega) (by omega)
        have hur16 := hurX.trans hu16 (by simp; omega)
        clear hmX hoX hf2X hf3X hf4X hurX hu16 hrX hqX HD HWX
        go_wp2
        go_roundg (L.length - (j + 1))
        case measure => have := HJ.out; omega
        case rel => exact ⟨j + 1, M.setSigc pp.1, _, A2, A6, A4, c2, c6, c4, by have := HJ.out; omega, by go_num, hm16, hb16, hr16, ho16, hf216, hf316, hf416, hz2, hpl, hur16, by rw [HE.out, HST.out, HRD.out]⟩
      rw [decide_eq_false h50] at d50
      by_cases h47 : xk = 47
      · rw [decide_eq_true h47] at d47
        have HRD := hid (show cqRd M xk xx = (M.setCas (xx.listsV 2 3 65535 2).1, (xx.listsV 2 3 65535 2).2) by rw [h47]; rfl)
        have hvl := cq_vec_len xx 2 3 65535 (by omega)
        have hpl := True.intro
        clear h47
        have H := hid (vec_any hq13 2 3 65535 (by omega))
        go_wp2_with fail
        refine H.out.mono ?_
        rintro e w14 ⟨v14, rfl, hu14, hq14, hy14⟩
        have H2 := hid (vectors_any2 hq14 hy14 (by omega) 1)
        have hs14 := hu14.size
        have hq14l := hq14.lt
        rw [show ((xx.vec 2 3 65535).2.vectors (xx.vec 2 3 65535).1 2 1) = xx.listsV 2 3 65535 2 from rfl] at H2
        obtain ⟨pp, hpp⟩ : ∃ pp, xx.listsV 2 3 65535 2 = pp := ⟨_, rfl⟩
        rw [hpp] at H2 HRD
        clear hpp H hy14
        go_wp2_with fail
        refine H2.out.mono ?_
        rintro e w15 ⟨v15, rfl, ho15, hu15, hq15⟩
        obtain ⟨A6, c6, rfl⟩ := ho15.formL
        have hu145 := hu14.trans hu15 (by simp)
        have hm15 := hm13.upd hu145 (by simp; omega)
        have hs15 := hu15.size
        have hN := VecsIn.new ho15
        clear p0 p1 p2 p3 p4 g0 g1 g2 g3 g4 q0 q1 qf0 qf1
        obtain ⟨p0, p1, p2, p3, p4, g0, g1, g2, g3, g4⟩ := cq_cells hm15
        have q0 := True.intro
        have q1 := True.intro
        have qf0 := True.intro
        have qf1 := True.intro
        obtain ⟨wX, hwX⟩ : ∃ wX, w15.setCell ⟨s + 1, 4, none⟩ (.slice A6 pp.1.length c6) = wX := ⟨_, rfl⟩
        have hu4X : Upd [s + 1] w15 wX := by rw [← hwX]; exact (Upd.refl _ _).setCell (by simp) _
        have hu3X : Upd [q, s + 1] w13 wX := (hu145.mono (by simp)).trans hu4X (by simp)
        have hmX : Blk wX (s + 1) 35 #[.bool M.ocsp, .bool M.scts, .slice A2 M.sig.length c2, .slice A3 M.sigc.length c3, .slice A6 pp.1.length c6] := by rw [← hwX]; exact hm15.set_ 4 _
        have hqX := hq15.upd hu4X (by simp; omega) (by simp; omega)
        have hsX := hu4X.size
        have hszX : g < wX.heap.size := by omega
        have hNX := (hN.upd hu4X (by simp; omega) (by simp; omega)).wide (lo' := w14.heap.size) (hi' := wX.heap.size) (by omega) (by omega)
        have HWX := hid hwX
        clear hwX hm15 hq14 hq15 hu4X H2 hu14 hu15 hu145 ho15 hN
        have hbX := hb13.upd hu3X (by simp; omega)
        have hrX := hr13.upd hu3X (by simp; omega) (by simp; omega)
        have hoX := ho13.upd hu3X (fun g' hg' hm => by have := hoq g' hg'; simp at hm; omega) (by simp; omega)
        have hf2X := hf213.upd hu3X (by simp; omega)
        have hf3X := hf313.upd hu3X (by simp; omega)
        have hf4X := True.intro
        have hurX := hur13.trans hu3X (by simp; omega)
        have HD := hid (done_any hrX hqX (by omega) (by omega))
        have hqlt := hqX.lt
        clear hm13 hb13 hr13 hq13 ho13 hf213 hf313 hf413 hur13 hu3X
        go_wp2_with fail
        rw [HWX.out]
        clear p0 p1 p2 p3 p4 g0 g1 g2 g3 g4 q0 q1 qf0 qf1
        refine HD.out.mono ?_
        rintro e w16 ⟨rfl, hu16, hr16⟩
        have hm16 := hmX.upd hu16 (by simp; omega)
        have hb16 := hbX.upd hu16 (by simp; omega)
        have ho16 := hoX.upd hu16 (fun g' hg' hm => by have := hoq g' hg'; simp at hm; omega) (by simp; omega)
        have hsz16 := hu16.size
        have hf216 := (hf2X.upd hu16 (by simp; omega)).wide (lo' := s + 3) (hi' := w16.heap.size) (by omega) (by omega)
        have hf316 := (hf3X.upd hu16 (by simp; omega)).wide (lo' := s + 3) (hi' := w16.heap.size) (by omega) (by omega)
        have hf416 := (hNX.upd hu16 (by simp; omega) (by simp; omega)).wide (lo' := s + 3) (hi' := w16.heap.size) (by omega) (by omega)
        have hur16 := hurX.trans hu16 (by simp; omega)
        clear hmX hoX hf2X hf3X hf4X hurX hu16 hrX hqX HD HWX
        go_wp2
        go_roundg (L.length - (j + 1))
        case measure => have := HJ.out; omega
        case rel => exact ⟨j + 1, M.setCas pp.1, _, A2, A3, A6, c2, c3, c6, by have := HJ.out; omega, by go_num, hm16, hb16, hr16, ho16, hf216, hf316, hf416, hz2, hz3, hur16, by rw [HE.out, HST.out, HRD.out]⟩
      rw [decide_eq_false h47] at d47
      have HRD := hid (show cqRd M xk xx = (M, ⟨[], xx.code⟩) by unfold cqRd; rw [if_neg h5, if_neg h18, if_neg h13, if_neg h50, if_neg h47, cq_rest_take])
      clear h5 h18 h13 h50 h47
      have H := hid (take_any hq13 xx.bs.length (by omega))
      go_wp2_with fail
      refine H.out.mono ?_
      rintro e w14 ⟨u14, rfl, hu14, hqX, -, -⟩
      rw [cq_rest_take] at hqX
      have hmX := hm13.upd hu14 (by simp; omega)
      have hu3X : Upd [q, s + 1] w13 w14 := hu14.mono (by simp)
      have hszX : g < w14.heap.size := by have := hqX.lt; omega
      have HWX := hid (rfl : w14 = w14)
      clear H hu14
      have hbX := hb13.upd hu3X (by simp; omega)
      have hrX := hr13.upd hu3X (by simp; omega) (by simp; omega)
      have hoX := ho13.upd hu3X (fun g' hg' hm => by have := hoq g' hg'; simp at hm; omega) (by simp; omega)
      have hf2X := hf213.upd hu3X (by simp; omega)
      have hf3X := hf313.upd hu3X (by simp; omega)
      have hf4X := hf413.upd hu3X (by simp; omega) (by simp; omega)
      have hurX := hur13.trans hu3X (by simp; omega)
      have HD := hid (done_any hrX hqX (by omega) (by omega))
      have hqlt := hqX.lt
      clear hm13 hb13 hr13 hq13 ho13 hf213 hf313 hf413 hur13 hu3X
      go_wp2_with fail
      clear p0 p1 p2 p3 p4 g0 g1 g2 g3 g4 q0 q1 qf0 qf1
      refine HD.out.mono ?_
      rintro e w16 ⟨rfl, hu16, hr16⟩
      have hm16 := hmX.upd hu16 (by simp; omega)
      have hb16 := hbX.upd hu16 (by simp; omega)
      have ho16 := hoX.upd hu16 (fun g' hg' hm => by have := hoq g' hg'; simp at hm; omega) (by simp; omega)
      have hsz16 := hu16.size
      have hf216 := (hf2X.upd hu16 (by simp; omega)).wide (lo' := s + 3) (hi' := w16.heap.size) (by omega) (by omega)
      have hf316 := (hf3X.upd hu16 (by simp; omega)).wide (lo' := s + 3) (hi' := w16.heap.size) (by omega) (by omega)
      have hf416 := (hf4X.upd hu16 (by simp; omega) (by simp; omega)).wide (lo' := s + 3) (hi' := w16.heap.size) (by omega) (by omega)
      have hur16 := hurX.trans hu16 (by simp; omega)
      clear hmX hoX hf2X hf3X hf4X hurX hu16 hrX hqX HD HWX
      go_wp2
      go_roundg (L.length - (j + 1))
      case measure => have := HJ.out; omega
      case rel => exact ⟨j + 1, M, _, A2, A3, A4, c2, c3, c4, by have := HJ.out; omega, by go_num, hm16, hb16, hr16, ho16, hf216, hf316, hf416, hz2, hz3, hur16, by rw [HE.out, HST.out, HRD.out]⟩
    · have hj0 := HJ.out
      obtain rfl : j = L.length := by omega
      have hfin : cqSpec data = (M, r) := by rw [HSP.out, HE.out, List.drop_length]; rfl
      have HFIN := hid hfin
      obtain ⟨Ar, cr, q0, q1, qf0, qf1, -, -⟩ := hrr.open_
      obtain ⟨k0, k1, k2, k3, k4, -⟩ := cq_cells hmr
      obtain ⟨p0, p1, p2, p3, p4, pf0, pf1, pf2, pf3, pf4⟩ := cq_cells hbr
      have hz : Blk (((((wr.setCell ⟨s, 0, none⟩ (.bool M.ocsp)).setCell ⟨s, 1, none⟩ (.bool M.scts)).setCell ⟨s, 2, none⟩ (.slice A2 M.sig.length c2)).setCell ⟨s, 3, none⟩ (.slice A3 M.sigc.length c3)).setCell ⟨s, 4, none⟩ (.slice A4 M.cas.length c4)) s 35 #[.bool M.ocsp, .bool M.scts, .slice A2 M.sig.length c2, .slice A3 M.sigc.length c3, .slice A4 M.cas.length c4] := by have := ((((hbr.set_ 0 (.bool M.ocsp)).set_ 1 (.bool M.scts)).set_ 2 (.slice A2 M.sig.length c2)).set_ 3 (.slice A3 M.sigc.length c3)).set_ 4 (.slice A4 M.cas.length c4); simpa using this
      have huf : Upd [s] wr (((((wr.setCell ⟨s, 0, none⟩ (.bool M.ocsp)).setCell ⟨s, 1, none⟩ (.bool M.scts)).setCell ⟨s, 2, none⟩ (.slice A2 M.sig.length c2)).setCell ⟨s, 3, none⟩ (.slice A3 M.sigc.length c3)).setCell ⟨s, 4, none⟩ (.slice A4 M.cas.length c4)).drew := (((((((Upd.refl [s] wr).setCell (.inl (by simp)) _).setCell (.inl (by simp)) _).setCell (.inl (by simp)) _).setCell (.inl (by simp)) _).setCell (.inl (by simp)) _)).drew
      have HZ := hid hz
      have HF := hid huf
      have HY2 := hid hf2
      have HY3 := hid hf3
      have HY4 := hid hf4
      have HZ2 := hid hz2
      have HZ3 := hid hz3
      clear hz huf hf2 hf3 hf4 hfin how hz2 hz3
      go_wp2_with fail
      go_region_law (fail)
      all_goals go_wp2
      all_goals obtain ⟨z0, z1, z2, z3, z4, -⟩ := cq_cells HZ.out
      all_goals
        refine bodyPost_ret (v := .tuple #[.agg #[.bool M.ocsp, .bool M.scts, .slice A2 M.sig.length c2, .slice A3 M.sigc.length c3, .slice A4 M.cas.length c4], .int .i64 (r.code : Int)]) (by simp [results, Try.results27, go_sem, z0, z1, z2, z3, z4]) rfl ?_
        rw [HFIN.out]
        obtain ⟨⟨b2, o2⟩, -⟩ := HY2.out.upd HF.out (by simp; omega)
        obtain ⟨⟨b3, o3⟩, -⟩ := HY3.out.upd HF.out (by simp; omega)
        obtain ⟨⟨b4, o4⟩, -⟩ := HY4.out.upd HF.out (by simp; omega) (by simp; omega)
        exact ⟨_, rfl, ⟨A2, c2, A3, c3, A4, c4, rfl, o2.row, o3.row, o4.lst, HZ2.out, HZ3.out⟩, hur.trans HF.out (by simp; omega)⟩
theorem rf_Cq (hv : Byt w w.heap.size v data) : Calls Try.prog 27 #[v] w (RefG CqV w (cqSpec data).1 (cqSpec data).2.code) := ReadCq_any hv (Nat.le_refl _)
end
end Go.Proofs.Ytddkjhlngofkaaa

/- NewSessionTicket of TLS 1.3: read by the reference. -/
import Derived.Test.YtcdjbciifnoajaaTkI
import Derived.Test.YtcdjbciifnoajaaSpecE
namespace Go.Proofs.Ytcdjbciifnoajaa
open Go.RowKit
set_option maxRecDepth 100000

def tkRd (m : Tk) (k : UInt16) (x : R) : Tk × R := if k = 42 then ({ m with early := UInt32.ofNat (x.num 4).1 }, (x.num 4).2) else (m, (x.take x.bs.length).2)
def tkR1 (data : List UInt8) : Nat × R := (bodyR 4 data).num 4
def tkR2 (data : List UInt8) : Nat × R := (tkR1 data).2.num 4
def tkR3 (data : List UInt8) : List UInt8 × R := (tkR2 data).2.vec 1 0 255
def tkR4 (data : List UInt8) : List UInt8 × R := (tkR3 data).2.vec 2 1 65535
def tkR5 (data : List UInt8) : List Ex × R := (tkR4 data).2.exts
def tkM0 (data : List UInt8) : Tk := ⟨UInt32.ofNat (tkR1 data).1, UInt32.ofNat (tkR2 data).1, (tkR3 data).1, (tkR4 data).1, 0⟩
def tkSpec (data : List UInt8) : Tk × R := specE tkRd (tkR5 data).1 (tkM0 data, (tkR5 data).2.fin)

theorem vec2_len (s : R) (lo hi : Nat) : (s.vec 2 lo hi).1.length < 65536 := by
  unfold R.vec
  simp only
  split
  · rw [take_len]; exact num2_lt s
  · simp
theorem extsGo_data (f : Nat) (x : R) (out : List Ex) (h : ∀ e ∈ out, e.2.length < 65536) : ∀ e ∈ (R.extsGo f x out).1, e.2.length < 65536 := by
  induction f generalizing x out with
  | zero => exact h
  | succ f ih =>
    rw [R.extsGo_succ]
    by_cases h0 : x.bs = []
    · rw [if_pos h0]; exact h
    · rw [if_neg h0]
      refine ih _ _ fun e he => ?_
      rcases List.mem_append.1 he with he | he
      · exact h e he
      · simp at he
        rw [he]
        exact vec2_len _ _ _
theorem exts_data (s : R) : ∀ e ∈ s.exts.1, e.2.length < 65536 := extsGo_data _ _ _ (by simp)
theorem num4_lt (x : R) : (x.num 4).1 < 4294967296 := by
  have := beNat_lt (x.take 4).1
  rw [take_len] at this
  exact this
theorem within_len (s : R) (b : List UInt8) : (s.within b).bs.length ≤ b.length := by
  unfold R.within
  simp only
  split <;> simp

section
variable {w w' : World} {B m : Nat} {v content : Value} {xs data : List UInt8} {e : Ending}

/-- what ReadTicket13 hands back -/
def RefT (w : World) (B : Nat) (x : Tk) (code : Nat) (e : Ending) (w' : World) : Prop :=
  ∃ v, e = .returned (.tuple #[v, .int .i64 (code : Int)]) ∧ TkV w' B v x ∧ Upd [] w w'
/-- the loop over extensions -/
def TkSRel (w : World) (N q mb rb base : Nat) (v u1 u2 : Value) (L : List Ex) (m0 : Tk) (r0 : R) (gk : Nat) (i : Value) (wr : World) : Prop :=
  ∃ (j : Nat) (mm : UInt32) (r : R), j + gk = L.length ∧ i = .int .i64 (j : Int) ∧ Blk wr mb 25 #[uv m0.life, uv m0.age, u1, u2, uv mm] ∧ Blk wr rb 25 #[.int .u32 0, .int .u32 0, .slice none 0 0, .slice none 0 0, .int .u32 0] ∧ Rd wr N q r ∧ EOwn wr base N v L ∧ Byt wr N u1 m0.nonce ∧ Byt wr N u2 m0.label ∧ Upd [] w wr ∧
    specE tkRd L (m0, r0) = specE tkRd (L.drop j) (⟨m0.life, m0.age, m0.nonce, m0.label, mm⟩, r)

set_option maxHeartbeats 8000000 in
theorem ReadTicket13_any (hv : Byt w B v data) (hB : B ≤ w.heap.size) : Calls Try.prog 23 #[v] w (RefT w B (tkSpec data).1 (tkSpec data).2.code) := by
  obtain ⟨A, c, rfl, hv, hl, hc⟩ := Byt.form hv rfl
  obtain ⟨w1, hw1⟩ : ∃ w1, (w.alloc (.cells #[.int .u32 0, .int .u32 0, .slice none 0 0, .slice none 0 0, .int .u32 0] 25)).alloc (.cells #[.int .u32 0, .int .u32 0, .slice none 0 0, .slice none 0 0, .int .u32 0] 25) = w1 := ⟨_, rfl⟩
  obtain ⟨s, hs⟩ : ∃ s, w.heap.size = s := ⟨_, rfl⟩
  have hu1 : Upd [] w w1 := by rw [← hw1]; exact ((Upd.refl _ _).alloc _).alloc _
  have hb1 : Blk w1 s 25 #[.int .u32 0, .int .u32 0, .slice none 0 0, .slice none 0 0, .int .u32 0] := by rw [← hw1, ← hs]; exact (Blk.new _ _ _).alloc _
  have hm1 : Blk w1 (s + 1) 25 #[uv 0, uv 0, .slice none 0 0, .slice none 0 0, uv 0] := by
    rw [← hw1, ← hs]
    have := Blk.new (w.alloc (.cells #[.int .u32 0, .int .u32 0, .slice none 0 0, .slice none 0 0, .int .u32 0] 25)) 25 #[.int .u32 0, .int .u32 0, .slice none 0 0, .slice none 0 0, .int .u32 0]
    rwa [show (w.alloc (.cells #[.int .u32 0, .int .u32 0, .slice none 0 0, .slice none 0 0, .int .u32 0] 25)).heap.size = w.heap.size + 1 by simp] at this
  have hs1 : w1.heap.size = s + 2 := by rw [← hw1, ← hs]; simp
  have H1 := hid (body_any (w := w1) (N := B) (by have := hu1.size; omega) (Row.upd hv hu1 (by simp)) 4)
  have HW := hid hw1
  have HS1 := hid hs1
  clear hw1 hs1
  go_enter Try.func23, Try.ntmps23
  go_wp2_with fail
  rw [HW.out]
  refine (H1.out).mono ?_
  rintro e w2 ⟨rfl, hu2, hr2⟩
  rw [HS1.out] at hr2
  rw [HS1.out]
  have hU2 := hu1.trans hu2 (by simp)
  have hb2 := hb1.upd hu2 (by simp)
  have hm2 := hm1.upd hu2 (by simp)
  clear hb1 hm1 hu1 hu2 H1
  -- the lifetime
  have H := hid (num_any hr2 4 (by omega))
  obtain ⟨n1, hn1⟩ : ∃ n, ((bodyR 4 data).num 4).1 = n := ⟨_, rfl⟩
  obtain ⟨r1, hr1⟩ : ∃ r, ((bodyR 4 data).num 4).2 = r := ⟨_, rfl⟩
  have hlt1 : n1 < 4294967296 := by rw [← hn1]; exact num4_lt _
  rw [hn1, hr1] at H
  have HN1 := hid hn1
  have HR1 := hid hr1
  clear hn1 hr1
  have g0 := hm2.cell 0
  have g0f := hm2.frozen 0
  simp at g0
  go_wp2_with fail
  refine H.out.mono ?_
  rintro e w3 ⟨rfl, hu3, hr3⟩
  have hU3 := hU2.trans hu3 (by simp; omega)
  have hb3 := hb2.upd hu3 (by simp)
  have hm3 := hm2.upd hu3 (by simp)
  clear hb2 hm2 hU2 hu3 H g0 g0f hr2
  have g0 := hm3.cell 0
  have g0f := hm3.frozen 0
  simp at g0
  obtain ⟨w4, hw4⟩ : ∃ w4, w3.setCell ⟨s + 1, 0, none⟩ (.int .u32 (n1 : Int)) = w4 := ⟨_, rfl⟩
  have hu4 : Upd [s + 1] w3 w4 := by rw [← hw4]; exact (Upd.refl _ _).setCell (by simp) _
  have hm4 : Blk w4 (s + 1) 25 #[.int .u32 (n1 : Int), uv 0, .slice none 0 0, .slice none 0 0, uv 0] := by rw [← hw4]; exact hm3.set_ 0 _
  have hb4 := hb3.upd hu4 (by simp)
  have hr4 := hr3.upd hu4 (by simp; omega) (by simp)
  have hU4 := hU3.trans hu4 (by simp; omega)
  have HW4 := hid hw4
  clear hw4 hm3 hb3 hr3 hU3 hu4
  -- the age
  have H := hid (num_any hr4 4 (by omega))
  obtain ⟨n2, hn2⟩ : ∃ n, (r1.num 4).1 = n := ⟨_, rfl⟩
  obtain ⟨r2, hr2⟩ : ∃ r, (r1.num 4).2 = r := ⟨_, rfl⟩
  have hlt2 : n2 < 4294967296 := by rw [← hn2]; exact num4_lt _
  rw [hn2, hr2] at H
  have HN2 := hid hn2
  have HR2 := hid hr2
  clear hn2 hr2
  go_wp2_with fail
  rw [HW4.out]
  refine H.out.mono ?_
  rintro e w5 ⟨rfl, hu5, hr5⟩
  have hU5 := hU4.trans hu5 (by simp; omega)
  have hb5 := hb4.upd hu5 (by simp)
  have hm5 := hm4.upd hu5 (by simp)
  clear hb4 hm4 hU4 hu5 H g0 g0f hr4
  have g0 := hm5.cell 1
  have g0f := hm5.frozen 1
  simp at g0
  obtain ⟨w6, hw6⟩ : ∃ w6, w5.setCell ⟨s + 1, 1, none⟩ (.int .u32 (n2 : Int)) = w6 := ⟨_, rfl⟩
  have hu6 : Upd [s + 1] w5 w6 := by rw [← hw6]; exact (Upd.refl _ _).setCell (by simp) _
  have hm6 : Blk w6 (s + 1) 25 #[.int .u32 (n1 : Int), .int .u32 (n2 : Int), .slice none 0 0, .slice none 0 0, uv 0] := by rw [← hw6]; exact hm5.set_ 1 _
  have hb6 := hb5.upd hu6 (by simp)
  have hr6 := hr5.upd hu6 (by simp; omega) (by simp)
  have hU6 := hU5.trans hu6 (by simp; omega)
  have HW6 := hid hw6
  clear hw6 hm5 hb5 hr5 hU5 hu6
  -- the nonce
  have H := hid (vec_any hr6 1 0 255 (by omega))
  go_wp2_with fail
  rw [HW6.out]
  refine H.out.mono ?_
  rintro e w7 ⟨u, rfl, hu7, hr7, hyn7⟩
  obtain ⟨A3, c3, rfl, hyn7, -, -⟩ := Byt.form hyn7 rfl
  obtain ⟨nc, hnc⟩ : ∃ n, (r2.vec 1 0 255).1 = n := ⟨_, rfl⟩
  obtain ⟨r3, hr3⟩ : ∃ r, (r2.vec 1 0 255).2 = r := ⟨_, rfl⟩
  rw [hr3] at hr7
  rw [hnc] at hyn7
  rw [hnc]
  have HNC := hid hnc
  have HR3 := hid hr3
  clear hnc hr3
  have hU7 := hU6.trans hu7 (by simp; omega)
  have hb7 := hb6.upd hu7 (by simp)
  have hm7 := hm6.upd hu7 (by simp)
  clear hb6 hm6 hU6 hu7 H g0 g0f hr6
  have g0 := hm7.cell 2
  have g0f := hm7.frozen 2
  simp at g0
  obtain ⟨w8, hw8⟩ : ∃ w8, w7.setCell ⟨s + 1, 2, none⟩ (.slice A3 nc.length c3) = w8 := ⟨_, rfl⟩
  have hu8 : Upd [s + 1] w7 w8 := by rw [← hw8]; exact (Upd.refl _ _).setCell (by simp) _
  have hm8 : Blk w8 (s + 1) 25 #[.int .u32 (n1 : Int), .int .u32 (n2 : Int), .slice A3 nc.length c3, .slice none 0 0, uv 0] := by rw [← hw8]; exact hm7.set_ 2 _
  have hb8 := hb7.upd hu8 (by simp)
  have hr8 := hr7.upd hu8 (by simp; omega) (by simp)
  have hU8 := hU7.trans hu8 (by simp; omega)
  have hyn8 := Row.upd hyn7 hu8 (by simp; omega)
  have HW8 := hid hw8
  clear hw8 hm7 hb7 hr7 hU7 hu8 hyn7
  -- the label
  have H := hid (vec_any hr8 2 1 65535 (by omega))
  go_wp2_with fail
  rw [HW8.out]
  refine H.out.mono ?_
  rintro e w9 ⟨u, rfl, hu9, hr9, hyl9⟩
  obtain ⟨A4, c4, rfl, hyl9, -, -⟩ := Byt.form hyl9 rfl
  obtain ⟨lb, hlb⟩ : ∃ n, (r3.vec 2 1 65535).1 = n := ⟨_, rfl⟩
  obtain ⟨r4, hr4⟩ : ∃ r, (r3.vec 2 1 65535).2 = r := ⟨_, rfl⟩
  rw [hr4] at hr9
  rw [hlb] at hyl9
  rw [hlb]
  have HLB := hid hlb
  have HR4 := hid hr4
  clear hlb hr4
  have hU9 := hU8.trans hu9 (by simp; omega)
  have hb9 := hb8.upd hu9 (by simp)
  have hm9 := hm8.upd hu9 (by simp)
  have hyn9 := Row.upd hyn8 hu9 (by simp; omega)
  clear hb8 hm8 hU8 hu9 H g0 g0f hr8 hyn8
  have g0 := hm9.cell 3
  have g0f := hm9.frozen 3
  simp at g0
  obtain ⟨w10, hw10⟩ : ∃ w10, w9.setCell ⟨s + 1, 3, none⟩ (.slice A4 lb.length c4) = w10 := ⟨_, rfl⟩
  have hu10 : Upd [s + 1] w9 w10 := by rw [← hw10]; exact (Upd.refl _ _).setCell (by simp) _
  have hm10 : Blk w10 (s + 1) 25 #[.int .u32 (n1 : Int), .int .u32 (n2 : Int), .slice A3 nc.length c3, .slice A4 lb.length c4, uv 0] := by rw [← hw10]; exact hm9.set_ 3 _
  have hb10 := hb9.upd hu10 (by simp)
  have hr10 := hr9.upd hu10 (by simp; omega) (by simp)
  have hU10 := hU9.trans hu10 (by simp; omega)
  have hyn10 := Row.upd hyn9 hu10 (by simp; omega)
  have hyl10 := Row.upd hyl9 hu10 (by simp; omega)
  have HW10 := hid hw10
  clear hw10 hm9 hb9 hr9 hU9 hu10 hyn9 hyl9
  -- the extensions
  have H := hid (extensions_any hr10)
  go_wp2_with fail
  rw [HW10.out]
  refine H.out.mono ?_
  rintro e w11 ⟨v11, rfl, ho11, hu11, hr11⟩
  obtain ⟨A5, c5, rfl, hl5, hc5⟩ := ho11.form
  obtain ⟨L, hL⟩ : ∃ L, r4.exts.1 = L := ⟨_, rfl⟩
  obtain ⟨r5, hr5⟩ : ∃ r, r4.exts.2 = r := ⟨_, rfl⟩
  have hLd : ∀ e ∈ L, e.2.length < 65536 := by rw [← hL]; exact exts_data r4
  rw [hr5] at hr11
  rw [hL] at ho11 hl5
  rw [hL]
  have HL := hid hL
  have HR5 := hid hr5
  have HLD := hid hLd
  clear hL hr5 hLd
  have hU11 := hU10.trans hu11 (by simp; omega)
  have hb11 := hb10.upd hu11 (by simp)
  have hm11 := hm10.upd hu11 (by simp)
  have hyn11 := Row.upd hyn10 hu11 (by simp; omega)
  have hyl11 := Row.upd hyl10 hu11 (by simp; omega)
  have hsz10 : s + 2 < w10.heap.size := by have := hr10.lt; omega
  generalize w10.heap.size = base at ho11 hsz10
  clear hb10 hm10 hU10 hu11 H hr10 hyn10 hyl10 g0 g0f
  have hne : ∀ g, (Value.slice A5 L.length c5).ownBlock = some g → s + 2 < g := fun g hg => by have := (ho11.ge hg).1; omega
  have H := hid (end_any hr11)
  go_wp2_with fail
  refine H.out.mono ?_
  rintro e w12 ⟨rfl, hu12, hr12⟩
  have hU12 := hU11.trans hu12 (by simp; omega)
  have hb12 := hb11.upd hu12 (by simp)
  have hm12 := hm11.upd hu12 (by simp)
  have hyn12 := Row.upd hyn11 hu12 (by simp; omega)
  have hyl12 := Row.upd hyl11 hu12 (by simp; omega)
  have ho12 := ho11.upd hu12 (fun g hg hm => by have := hne g hg; simp at hm; omega) (by simp; omega)
  have e1 : Value.int .u32 (n1 : Int) = uv (UInt32.ofNat n1) := by
    show _ = Value.int .u32 ((UInt32.ofNat n1).toNat : Int)
    rw [UInt32.toNat_ofNat_of_lt' (by simpa [UInt32.size] using hlt1)]
  have e2 : Value.int .u32 (n2 : Int) = uv (UInt32.ofNat n2) := by
    show _ = Value.int .u32 ((UInt32.ofNat n2).toNat : Int)
    rw [UInt32.toNat_ofNat_of_lt' (by simpa [UInt32.size] using hlt2)]
  rw [e1, e2] at hm12
  have HE1 := hid e1
  have HE2 := hid e2
  have hM0 : tkM0 data = ⟨UInt32.ofNat n1, UInt32.ofNat n2, nc, lb, 0⟩ := by
    unfold tkM0 tkR4 tkR3 tkR2 tkR1
    rw [HN1.out, HR1.out, HN2.out, HR2.out, HNC.out, HR3.out, HLB.out]
  have hS : tkSpec data = specE tkRd L (⟨UInt32.ofNat n1, UInt32.ofNat n2, nc, lb, 0⟩, r5.fin) := by
    unfold tkSpec
    rw [hM0]
    unfold tkR5 tkR4 tkR3 tkR2 tkR1
    rw [HR1.out, HR2.out, HR3.out, HR4.out, HL.out, HR5.out]
  have hS' := hS
  clear hS
  obtain ⟨l1, hl1⟩ : ∃ l, UInt32.ofNat n1 = l := ⟨_, rfl⟩
  obtain ⟨l2, hl2⟩ : ∃ l, UInt32.ofNat n2 = l := ⟨_, rfl⟩
  rw [hl1, hl2] at hS' hm12
  have HSP := hid hS'
  clear hb11 hm11 hU11 hu12 H hr11 hyn11 hyl11 ho11 e1 e2 hM0 hS' hl1 hl2 HN1 HR1 HN2 HR2 HNC HR3 HLB HR4 HL HR5
  go_wp2_with fail
  go_loopg [32] L.length (fun gk i wr => TkSRel w B (s + 2) (s + 1) s base (.slice A5 L.length c5) (.slice A3 nc.length c3) (.slice A4 lb.length c4) L ⟨l1, l2, nc, lb, 0⟩ r5.fin gk i wr)
  case atStart => exact ⟨0, 0, r5.fin, by omega, rfl, hm12, hb12, hr12, ho12, hyn12, hyl12, hU12, rfl⟩
  case round =>
    obtain ⟨j, mm, r, hj0, rfl, hmr, hbr, hrr, how, hyn, hyl, hur, hE⟩ := hrel
    have HJ := hid hj0
    have HE := hid hE
    have hus := hur.size
    clear hm12 hb12 hr12 ho12 hyn12 hyl12 hU12 hj0 hE
    by_cases hlt : j < L.length
    · obtain ⟨b, o, rfl, hb', hj', A', c', e0, e1, hy, hy1, hy2⟩ := how.exr.at_ hlt
      have hxm := HLD.out _ (List.getElem_mem hlt)
      have hdrop := List.drop_eq_getElem_cons hlt
      generalize L[j] = x at e0 e1 hy hy1 hy2 hxm hdrop
      obtain ⟨xk, xd⟩ := x
      have hstep : specE tkRd (L.drop j) (⟨l1, l2, nc, lb, mm⟩, r) = specE tkRd (L.drop (j + 1)) ((tkRd ⟨l1, l2, nc, lb, mm⟩ xk (r.within xd)).1, r.done (tkRd ⟨l1, l2, nc, lb, mm⟩ xk (r.within xd)).2) := by
        rw [hdrop]; rfl
      have HST := hid hstep
      have hxm : xd.length < 65536 := hxm
      clear hstep hdrop
      obtain ⟨wA, hwA⟩ : ∃ wA, wr.alloc (.cells #[wv xk, .slice A' xd.length c'] 66) = wA := ⟨_, rfl⟩
      obtain ⟨g, hg⟩ : ∃ g, wr.heap.size = g := ⟨_, rfl⟩
      have huA : Upd [] wr wA := by rw [← hwA]; exact (Upd.refl _ _).alloc _
      have hbg : Blk wA g 66 #[wv xk, .slice A' xd.length c'] := by rw [← hwA, ← hg]; exact Blk.new _ _ _
      have hsg : s + 2 < g := by have := hrr.lt; omega
      have hob : ∀ g', (Value.slice (some ⟨b, o, none⟩) L.length c5).ownBlock = some g' → g' < g := fun g' hg' => by have := (how.ge hg').2; omega
      have hgb : base ≤ g := by have := hrr.lt; have := (how.ge (g := b) rfl); omega
      have hmA := hmr.upd huA (by simp)
      have hbA := hbr.upd huA (by simp)
      have hrA := hrr.upd huA (by simp) (by simp)
      have hoA := how.upd huA (by simp) (by simp)
      have hynA := Row.upd hyn huA (by simp)
      have hylA := Row.upd hyl huA (by simp)
      have hurA := hur.trans huA (by simp)
      have hyA : Byt wA B (.slice A' xd.length c') xd := Row.upd hy huA (by simp)
      have hgl := hbg.lt
      have HH := hid (within_any hrA (N' := B) (by omega) hyA)
      have d0 := hbg.cell 0
      have d1 := hbg.cell 1
      simp at d0 d1
      have HWA := hid hwA
      have Hg := hid hg
      clear hwA hg hmr hrr how hyn hyl hur huA hy
      go_wp2_with fail
      rw [HWA.out, Hg.out]
      go_wp2_with fail
      refine HH.out.mono ?_
      rintro e w13 ⟨rfl, hu13, hq13⟩
      have hgq : g < wA.heap.size := hgl
      generalize wA.heap.size = q at hq13 hgq
      have hm13 := hmA.upd hu13 (by simp)
      have hb13 := hbA.upd hu13 (by simp)
      have hr13 := hrA.upd hu13 (by simp) (by simp)
      have ho13 := hoA.upd hu13 (by simp) (by simp)
      have hyn13 := Row.upd hynA hu13 (by simp)
      have hyl13 := Row.upd hylA hu13 (by simp)
      have hur13 := hurA.trans hu13 (by simp)
      have hbg13 := hbg.upd hu13 (by simp)
      have d0 := hbg13.cell 0
      simp at d0
      have hwl := within_len r xd
      have hoq : ∀ g', (Value.slice (some ⟨b, o, none⟩) L.length c5).ownBlock = some g' → g' < g ∧ s + 2 < g' := fun g' hg' => ⟨hob g' hg', hne g' hg'⟩
      clear hmA hrA hoA hynA hylA hurA hyA hu13 hbg HH d1 hob
      by_cases hk : xk = 42
      · have t1 : ((xk.toNat : Int) == 42) = true := by rw [hk]; rfl
        have H := hid (num_any hq13 4 (by omega))
        obtain ⟨n3, hn3⟩ : ∃ n, ((r.within xd).num 4).1 = n := ⟨_, rfl⟩
        obtain ⟨x3, hx3⟩ : ∃ x, ((r.within xd).num 4).2 = x := ⟨_, rfl⟩
        have hlt3 : n3 < 4294967296 := by rw [← hn3]; exact num4_lt _
        have hrd : tkRd ⟨l1, l2, nc, lb, mm⟩ xk (r.within xd) = (⟨l1, l2, nc, lb, UInt32.ofNat n3⟩, x3) := by
          unfold tkRd
          rw [if_pos hk, hn3, hx3]
        rw [hn3, hx3] at H
        have HRD := hid hrd
        clear hn3 hx3 hrd hk
        go_wp2_with fail
        refine H.out.mono ?_
        rintro e w14 ⟨rfl, hu14, hq14⟩
        have hm14 := hm13.upd hu14 (by simp; omega)
        have f4 := hm14.frozen 4
        have m4 := hm14.cell 4
        simp at m4
        obtain ⟨w15, hw15⟩ : ∃ w15, w14.setCell ⟨s + 1, 4, none⟩ (.int .u32 (n3 : Int)) = w15 := ⟨_, rfl⟩
        have hu15 : Upd [s + 1] w14 w15 := by rw [← hw15]; exact (Upd.refl _ _).setCell (by simp) _
        have e3 : Value.int .u32 (n3 : Int) = uv (UInt32.ofNat n3) := by
          show _ = Value.int .u32 ((UInt32.ofNat n3).toNat : Int)
          rw [UInt32.toNat_ofNat_of_lt' (by simpa [UInt32.size] using hlt3)]
        have hm15 : Blk w15 (s + 1) 25 #[uv l1, uv l2, .slice A3 nc.length c3, .slice A4 lb.length c4, uv (UInt32.ofNat n3)] := by
          rw [← hw15, ← e3]; exact hm14.set_ 4 _
        have hu35 : Upd [q, s + 1] w13 w15 := (hu14.mono (by simp)).trans hu15 (by simp)
        have hb15 := hb13.upd hu35 (by simp; omega)
        have hr15 := hr13.upd hu35 (by simp; omega) (by simp; omega)
        have hq15 := hq14.upd hu15 (by simp; omega) (by simp; omega)
        have ho15 := ho13.upd hu35 (fun g' hg' hm => by have := hoq g' hg'; simp at hm; omega) (by simp; omega)
        have hyn15 := Row.upd hyn13 hu35 (by simp; omega)
        have hyl15 := Row.upd hyl13 hu35 (by simp; omega)
        have hur15 := hur13.trans hu35 (by simp; omega)
        have HD := hid (done_any hr15 hq15 (by omega) (by omega))
        have HW15 := hid hw15
        clear hw15 hm13 hr13 hq13 ho13 hyn13 hyl13 hur13 hu14 hq14 hm14 hu15 hu35 H e3
        go_wp2_with fail
        rw [HW15.out]
        refine HD.out.mono ?_
        rintro e w16 ⟨rfl, hu16, hr16⟩
        have hm16 := hm15.upd hu16 (by simp; omega)
        have hb16 := hb15.upd hu16 (by simp; omega)
        have ho16 := ho15.upd hu16 (fun g' hg' hm => by have := hoq g' hg'; simp at hm; omega) (by simp; omega)
        have hyn16 := Row.upd hyn15 hu16 (by simp; omega)
        have hyl16 := Row.upd hyl15 hu16 (by simp; omega)
        have hur16 := hur15.trans hu16 (by simp; omega)
        clear hm15 ho15 hyn15 hyl15 hur15 hu16 hr15 hq15 HD
        go_wp2
        go_roundg (L.length - (j + 1))
        case measure => have := HJ.out; omega
        case rel => exact ⟨j + 1, UInt32.ofNat n3, r.done x3, by have := HJ.out; omega, by go_num, hm16, hb16, hr16, ho16, hyn16, hyl16, hur16, by rw [HE.out, HST.out, HRD.out]⟩
      · have t1 : ((xk.toNat : Int) == 42) = false := by
          rw [beq_eq_false_iff_ne]
          intro h
          apply hk
          apply UInt16.toNat_inj.1
          have : (42 : UInt16).toNat = 42 := rfl
          omega
        obtain ⟨Aq, cq, q0, q1, qf0, qf1, hql, hqc⟩ := hq13.open_
        have H := hid (take_any hq13 (r.within xd).bs.length (by omega))
        have hrd : tkRd ⟨l1, l2, nc, lb, mm⟩ xk (r.within xd) = (⟨l1, l2, nc, lb, mm⟩, ((r.within xd).take (r.within xd).bs.length).2) := by
          unfold tkRd
          rw [if_neg hk]
        have HRD := hid hrd
        clear hrd hk
        go_wp2_with fail
        refine H.out.mono ?_
        rintro e w14 ⟨u14, rfl, hu14, hq14, -, -⟩
        have hm14 := hm13.upd hu14 (by simp; omega)
        have hb14 := hb13.upd hu14 (by simp; omega)
        have hr14 := hr13.upd hu14 (by simp; omega) (by simp; omega)
        have ho14 := ho13.upd hu14 (fun g' hg' hm => by have := hoq g' hg'; simp at hm; omega) (by simp; omega)
        have hyn14 := Row.upd hyn13 hu14 (by simp; omega)
        have hyl14 := Row.upd hyl13 hu14 (by simp; omega)
        have hur14 := hur13.trans hu14 (by simp; omega)
        have HD := hid (done_any hr14 hq14 (by omega) (by omega))
        clear hm13 hr13 hq13 ho13 hyn13 hyl13 hur13 hu14 H q0 q1 qf0 qf1
        go_wp2_with fail
        refine HD.out.mono ?_
        rintro e w16 ⟨rfl, hu16, hr16⟩
        have hm16 := hm14.upd hu16 (by simp; omega)
        have hb16 := hb14.upd hu16 (by simp; omega)
        have ho16 := ho14.upd hu16 (fun g' hg' hm => by have := hoq g' hg'; simp at hm; omega) (by simp; omega)
        have hyn16 := Row.upd hyn14 hu16 (by simp; omega)
        have hyl16 := Row.upd hyl14 hu16 (by simp; omega)
        have hur16 := hur14.trans hu16 (by simp; omega)
        clear hm14 ho14 hyn14 hyl14 hur14 hu16 hr14 hq14 HD
        go_wp2
        go_roundg (L.length - (j + 1))
        case measure => have := HJ.out; omega
        case rel => exact ⟨j + 1, mm, _, by have := HJ.out; omega, by go_num, hm16, hb16, hr16, ho16, hyn16, hyl16, hur16, by rw [HE.out, HST.out, HRD.out]⟩
    · have hj0 := HJ.out
      obtain rfl : j = L.length := by omega
      have hfin : tkSpec data = (⟨l1, l2, nc, lb, mm⟩, r) := by rw [HSP.out, HE.out, List.drop_length]; rfl
      have HFIN := hid hfin
      obtain ⟨Ar, cr, q0, q1, qf0, qf1, -, -⟩ := hrr.open_
      obtain ⟨k0, k1, k2, k3, k4, -⟩ := five_cells hmr
      obtain ⟨p0, p1, p2, p3, p4, pf0, pf1, pf2, pf3, pf4⟩ := five_cells hbr
      have hz : Blk (((((wr.setCell ⟨s, 0, none⟩ (uv l1)).setCell ⟨s, 1, none⟩ (uv l2)).setCell ⟨s, 2, none⟩ (.slice A3 nc.length c3)).setCell ⟨s, 3, none⟩ (.slice A4 lb.length c4)).setCell ⟨s, 4, none⟩ (uv mm)) s 25 #[uv l1, uv l2, .slice A3 nc.length c3, .slice A4 lb.length c4, uv mm] := five_set hbr
      have huf : Upd [s] wr (((((wr.setCell ⟨s, 0, none⟩ (uv l1)).setCell ⟨s, 1, none⟩ (uv l2)).setCell ⟨s, 2, none⟩ (.slice A3 nc.length c3)).setCell ⟨s, 3, none⟩ (.slice A4 lb.length c4)).setCell ⟨s, 4, none⟩ (uv mm)).drew := (five_upd (Upd.refl [s] wr) (.inl (by simp))).drew
      have HZ := hid hz
      have HF := hid huf
      have HY1 := hid hyn
      have HY2 := hid hyl
      clear hz huf hyn hyl hfin how
      go_wp2_with fail
      go_region_law (fail)
      all_goals go_wp2
      all_goals obtain ⟨z0, z1, z2, z3, z4, -⟩ := five_cells HZ.out
      all_goals
        refine bodyPost_ret (v := .tuple #[.agg #[uv l1, uv l2, .slice A3 nc.length c3, .slice A4 lb.length c4, uv mm], .int .i64 (r.code : Int)]) (by simp [results, Try.results23, go_sem, z0, z1, z2, z3, z4]) rfl ?_
        rw [HFIN.out]
        exact ⟨_, rfl, ⟨A3, c3, A4, c4, rfl, Row.upd HY1.out HF.out (by simp; omega), Row.upd HY2.out HF.out (by simp; omega)⟩, hur.trans HF.out (by simp; omega)⟩
end
end Go.Proofs.Ytcdjbciifnoajaa

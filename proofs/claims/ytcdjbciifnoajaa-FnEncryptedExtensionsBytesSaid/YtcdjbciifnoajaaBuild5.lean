/- Contract of cryptobyte's Builder: addLengthPrefixed at the top, where no continuation runs. -/
import Derived.Test.YtcdjbciifnoajaaBuild4
namespace Go.Proofs.Ytcdjbciifnoajaa
open Go.RowKit
set_option maxRecDepth 100000

/-- the flag of a Builder at the top: not yet made, or down -/
def TopIc (w : World) (base : Nat) (ic : Value) : Prop := ic = .pointer none ∨ ∃ c, ic = .pointer (some ⟨c, 0, none⟩) ∧ base ≤ c ∧ Blk w c 4 #[.bool false]
/-- the Builder at block p, made behind world w0: what it has come to; only blocks made since w0 have turned -/
def TopS (w0 w : World) (p : Nat) (st : Option (List UInt8)) : Prop :=
  ∃ v ic, BS w w0.heap.size p v 0 0 ic st ∧ TopIc w w0.heap.size ic ∧ Upd [] w0 w ∧ (∀ g, v.ownBlock = some g → w0.heap.size ≤ g ∧ g ≠ p ∧ ∀ c, ic = .pointer (some ⟨c, 0, none⟩) → g ≠ c)
/-- what a method leaves -/
def TopP (w0 : World) (p : Nat) (st : Option (List UInt8)) (e : Ending) (w' : World) : Prop := e = .returned (.tuple #[]) ∧ TopS w0 w' p st

section
variable {w w0 w' : World} {base p q off pl : Nat} {v v2 content ic ic2 : Value} {xs bs : List UInt8} {st out : Option (List UInt8)} {S : List Nat}

theorem TopIc.upd (h : TopIc w base ic) (hu : Upd S w w') (hs : ∀ c, ic = .pointer (some ⟨c, 0, none⟩) → c ∉ S) : TopIc w' base ic := by
  rcases h with h | ⟨c, rfl, h1, h2⟩
  · exact .inl h
  · exact .inr ⟨c, rfl, h1, h2.upd hu (hs c rfl)⟩
theorem BS.ge (h : BS w base p v off pl ic st) : base ≤ p := by
  cases st with
  | none => exact h.1
  | some bs => exact h.1
theorem BS.isBlk (h : BS w base p v off pl ic st) : ∃ cs, Blk w p 128 cs := by
  cases st with
  | none => obtain ⟨_, cs, t, x, h1, _⟩ := h; exact ⟨cs, h1⟩
  | some bs => exact ⟨_, h.2.1⟩
theorem TopS.nec (hb : BS w base p v off pl ic st) (hi : TopIc w base ic) : ∀ c, ic = .pointer (some ⟨c, 0, none⟩) → p ≠ c := by
  intro c hc
  rcases hi with h | ⟨c', h, _, hbl⟩
  · rw [h] at hc; cases hc
  · rw [h] at hc
    injection hc with hc
    injection hc with hc
    injection hc with hc
    subst hc
    obtain ⟨cs, h1⟩ := hb.isBlk
    exact h1.ne_ hbl (by decide)
/-- a plain method of a Builder at the top -/
theorem TopS.step (hi : TopIc w w0.heap.size ic) (hb : BS w w0.heap.size p v 0 0 ic st) (hu : Upd [] w0 w) (ho : ∀ g, v.ownBlock = some g → w0.heap.size ≤ g ∧ g ≠ p ∧ ∀ c, ic = .pointer (some ⟨c, 0, none⟩) → g ≠ c)
    {st' : Option (List UInt8)} {e : Ending} (h : BSP w w0.heap.size p v 0 0 ic st' e w') : TopP w0 p st' e w' := by
  obtain ⟨he, v', h1, h2, h3⟩ := h
  have hn := TopS.nec hb hi
  have hcl : ∀ c, ic = .pointer (some ⟨c, 0, none⟩) → c < w.heap.size := by
    intro c hc
    rcases hi with h | ⟨c', h, _, hbl⟩
    · rw [h] at hc; cases hc
    · rw [h] at hc
      injection hc with hc
      injection hc with hc
      injection hc with hc
      subst hc
      exact hbl.lt
  have hpl := hb.lt
  have hp := hb.ge
  refine ⟨he, v', ic, h1, hi.upd h2 ?_, hu.trans h2 ?_, ?_⟩
  · intro c hc hm
    rcases List.mem_cons.1 hm with h | hm
    · exact hn c hc h.symm
    · exact (ho c (Option.mem_toList.1 hm)).2.2 c hc rfl
  · intro x hx
    right
    rcases List.mem_cons.1 hx with h | hx
    · omega
    · exact (ho x (Option.mem_toList.1 hx)).1
  · intro g hg
    rcases h3 with h | ⟨g', hg', hge⟩
    · rw [h] at hg; exact ho g hg
    · rw [hg'] at hg
      injection hg with hg
      subst hg
      have := hu.size
      exact ⟨by omega, by omega, fun c hc => by have := hcl c hc; omega⟩

/-- a Builder that has just been made -/
theorem TopS.new (w0 : World) : TopS w0 (w0.alloc (.cells (bcs (.slice none 0 0) (.pointer none) 0 0 (.pointer none)) 128)) w0.heap.size (some []) :=
  ⟨.slice none 0 0, .pointer none, ⟨Nat.le_refl _, Blk.new _ _ _, Own.nil_ _ _ _⟩, .inl rfl, (Upd.refl _ _).alloc _, fun g hg => by simp [Value.ownBlock] at hg⟩

theorem AddUint8_top (h : TopS w0 w p st) (hl : olen st ≤ 17592186044416) (n : Nat) (hn : n < 256) :
    Calls Try.prog 77 #[.pointer (some ⟨p, 0, none⟩), .int .u8 (n : Int)] w (TopP w0 p (app st (some [UInt8.ofNat n]))) := by
  obtain ⟨v, ic, hb, hi, hu, ho⟩ := h
  exact (AddUint8_any hb hl n hn).mono fun _ _ hp => TopS.step hi hb hu ho hp
theorem AddUint16_top (h : TopS w0 w p st) (hl : olen st ≤ 17592186044416) (n : Nat) (hn : n < 65536) :
    Calls Try.prog 87 #[.pointer (some ⟨p, 0, none⟩), .int .u16 (n : Int)] w (TopP w0 p (app st (some (be 2 n)))) := by
  obtain ⟨v, ic, hb, hi, hu, ho⟩ := h
  exact (AddUint16_any hb hl n hn).mono fun _ _ hp => TopS.step hi hb hu ho hp

/-- the world in which a continuation at the top begins -/
theorem top_mid {w3 : World} {c n lb : Nat} {zs : List UInt8} (hp3 : Blk w3 p 128 (bcs v2 (.pointer (some ⟨q, 0, none⟩)) off pl (.pointer (some ⟨c, 0, none⟩)))) (hq3 : Bld w3 base q v2 lb n (.pointer (some ⟨c, 0, none⟩)) zs) (hc3 : Blk w3 c 4 #[.bool false]) :
    Blk (topWorld w3 p c) p 128 (bcs v2 (.pointer (some ⟨q, 0, none⟩)) off pl (.pointer (some ⟨c, 0, none⟩))) ∧ Bld (topWorld w3 p c) base q v2 lb n (.pointer (some ⟨c, 0, none⟩)) zs ∧ Blk (topWorld w3 p c) c 4 #[.bool true] ∧
    Blk (topWorld w3 p c) w3.heap.size 125 #[.pointer (some ⟨p, 0, none⟩)] ∧ Upd [c] w3 (topWorld w3 p c) ∧ (topWorld w3 p c).heap.size = w3.heap.size + 1 := by
  have hu1 : Upd [c] w3 (w3.setCell ⟨c, 0, none⟩ (.bool true)) := (Upd.refl _ _).setCell (by simp) _
  have hsz : (w3.setCell ⟨c, 0, none⟩ (.bool true)).heap.size = w3.heap.size := by simp [World.setCell]
  have hpc : p ≠ c := hp3.ne_ hc3 (by decide)
  have hqc : q ≠ c := hq3.2.1.ne_ hc3 (by decide)
  refine ⟨(hp3.far (p := ⟨c, 0, none⟩) hpc _).alloc _, ?_, ?_, ?_, hu1.alloc _, ?_⟩
  · refine BS.upd (S := []) (st := some zs) ?_ ((Upd.refl _ _).alloc _) (by simp) (by simp)
    refine BS.upd (st := some zs) hq3 hu1 (by simpa using hqc) ?_
    intro g hg hm
    simp at hm
    exact hq3.2.2.ne hc3 (by decide) g hg hm
  · exact (hc3.set_ 0 (.bool true)).alloc _
  · have h := Blk.new (w3.setCell ⟨c, 0, none⟩ (.bool true)) 125 #[.pointer (some ⟨p, 0, none⟩)]
    rw [hsz] at h
    exact h
  · show ((w3.setCell ⟨c, 0, none⟩ (.bool true)).alloc _).heap.size = _
    simp [World.setCell]

/-- what has been come to behind the continuation -/
def TopR (T : World) (base q : Nat) (v2 : Value) (lb n c : Nat) (st : Option (List UInt8)) (w' : World) : Prop :=
  ∃ v4, BS w' base q v4 lb n (.pointer (some ⟨c, 0, none⟩)) st ∧ Upd (q :: v2.ownBlock.toList) T w' ∧ (v4.ownBlock = v2.ownBlock ∨ ∃ g, v4.ownBlock = some g ∧ T.heap.size ≤ g)

theorem top_cells {T w3 : World} {c lb n : Nat} (_hT : T.heap.size = w3.heap.size + 1) (hp : Blk T p 128 (bcs v2 (.pointer (some ⟨q, 0, none⟩)) off pl (.pointer (some ⟨c, 0, none⟩)))) (hc : Blk T c 4 #[.bool true])
    (hbb : Blk T w3.heap.size 125 #[.pointer (some ⟨p, 0, none⟩)]) (hpq : p ≠ q) (hqc : q ≠ c) (hq3 : q < w3.heap.size) (hv2 : ∀ g, v2.ownBlock = some g → g < w3.heap.size ∧ g ≠ p ∧ g ≠ c) (h : TopR T base q v2 lb n c st w') :
    w'.cell? ⟨w3.heap.size, 0, none⟩ = some (.pointer (some ⟨p, 0, none⟩)) ∧ w'.cell? ⟨p, 7, none⟩ = some (.pointer (some ⟨c, 0, none⟩)) ∧ (∃ x, w'.cell? ⟨c, 0, none⟩ = some x) ∧ w'.frozen? ⟨c, 0, none⟩ = false := by
  obtain ⟨v4, h1, hu, h3⟩ := h
  have k1 := hbb.upd hu (by
    intro hm
    rcases List.mem_cons.1 hm with h | h
    · omega
    · have := (hv2 _ (Option.mem_toList.1 h)).1; omega)
  have k2 := hp.upd hu (by
    intro hm
    rcases List.mem_cons.1 hm with h | h
    · exact hpq h
    · exact (hv2 _ (Option.mem_toList.1 h)).2.1 rfl)
  have k3 := hc.upd hu (by
    intro hm
    rcases List.mem_cons.1 hm with h | h
    · exact hqc h.symm
    · exact (hv2 _ (Option.mem_toList.1 h)).2.2 rfl)
  exact ⟨by rw [k1.cell]; rfl, by rw [k2.cell]; rfl, ⟨_, by rw [k3.cell]; rfl⟩, k3.frozen 0⟩

/-- behind the deferred call: the parent, its child, the flag -/
theorem top_down {T w4 : World} {c lb n : Nat} (hu0 : Upd [] w0 T) (hp0 : w0.heap.size ≤ p) (hq0 : w0.heap.size ≤ q) (hc0 : w0.heap.size ≤ c)
    (hp : Blk T p 128 (bcs v2 (.pointer (some ⟨q, 0, none⟩)) off pl (.pointer (some ⟨c, 0, none⟩)))) (hc : Blk T c 4 #[.bool true])
    (hpq : p ≠ q) (hqc : q ≠ c) (hpc : p ≠ c) (hv2 : ∀ g, v2.ownBlock = some g → w0.heap.size ≤ g ∧ g ≠ p ∧ g ≠ c) (h : TopR T w0.heap.size q v2 lb n c st w4) :
    ∃ v4, Blk (w4.setCell ⟨c, 0, none⟩ (.bool false)) p 128 (bcs v2 (.pointer (some ⟨q, 0, none⟩)) off pl (.pointer (some ⟨c, 0, none⟩))) ∧ BS (w4.setCell ⟨c, 0, none⟩ (.bool false)) w0.heap.size q v4 lb n (.pointer (some ⟨c, 0, none⟩)) st ∧
      Blk (w4.setCell ⟨c, 0, none⟩ (.bool false)) c 4 #[.bool false] ∧ Upd [] w0 (w4.setCell ⟨c, 0, none⟩ (.bool false)) ∧ (∀ g, v4.ownBlock = some g → w0.heap.size ≤ g ∧ g ≠ p ∧ g ≠ c) := by
  obtain ⟨v4, h1, hu, h3⟩ := h
  have hpl := hp.lt
  have hcl := hc.lt
  have hs0 := hu0.size
  have k2 := hp.upd hu (by
    intro hm
    rcases List.mem_cons.1 hm with h | h
    · exact hpq h
    · exact (hv2 _ (Option.mem_toList.1 h)).2.1 rfl)
  have k3 := hc.upd hu (by
    intro hm
    rcases List.mem_cons.1 hm with h | h
    · exact hqc h.symm
    · exact (hv2 _ (Option.mem_toList.1 h)).2.2 rfl)
  have hv4 : ∀ g, v4.ownBlock = some g → w0.heap.size ≤ g ∧ g ≠ p ∧ g ≠ c := by
    intro g hg
    rcases h3 with h | ⟨g', hg', hge⟩
    · rw [h] at hg; exact hv2 g hg
    · rw [hg'] at hg
      injection hg with hg
      subst hg
      exact ⟨by omega, by omega, by omega⟩
  refine ⟨v4, k2.far (p := ⟨c, 0, none⟩) hpc _, h1.upd ((Upd.refl [c] _).setCell (by simp) _) (by simpa using hqc) ?_, k3.set_ 0 (.bool false), (hu0.trans hu ?_).setCell (.inr hc0) _, hv4⟩
  · intro g hg hm
    simp at hm
    exact (hv4 g hg).2.2 hm
  · intro x hx
    right
    rcases List.mem_cons.1 hx with h | hx
    · omega
    · exact (hv2 x (Option.mem_toList.1 hx)).1

theorem top_fin {w4 w5 : World} {v4 : Value} {c : Nat} (hp0 : w0.heap.size ≤ p) (hq0 : w0.heap.size ≤ q) (hc0 : w0.heap.size ≤ c) (hpc : p ≠ c) (hqc : q ≠ c) (hc : Blk w4 c 4 #[.bool false]) (hu : Upd [] w0 w4)
    (hv4 : ∀ g, v4.ownBlock = some g → w0.heap.size ≤ g ∧ g ≠ p ∧ g ≠ c) (hfl : FlP w4 w0.heap.size p q v4 0 0 (.pointer (some ⟨c, 0, none⟩)) st (.returned (.tuple #[])) w5) : TopP w0 p st (.returned (.tuple #[])) w5 := by
  refine ⟨rfl, v4, .pointer (some ⟨c, 0, none⟩), hfl.2.1, .inr ⟨c, rfl, hc0, hc.upd hfl.2.2 ?_⟩, hu.trans hfl.2.2 ?_, ?_⟩
  · intro hm
    rcases List.mem_cons.1 hm with h | hm
    · exact hpc h.symm
    · rcases List.mem_cons.1 hm with h | hm
      · exact hqc h.symm
      · exact (hv4 c (Option.mem_toList.1 hm)).2.2 rfl
  · intro x hx
    right
    rcases List.mem_cons.1 hx with h | hx
    · omega
    · rcases List.mem_cons.1 hx with h | hx
      · omega
      · exact (hv4 x (Option.mem_toList.1 hx)).1
  · intro g hg
    refine ⟨(hv4 g hg).1, (hv4 g hg).2.1, fun c' hc' => ?_⟩
    injection hc' with hc'
    injection hc' with hc'
    injection hc' with hc'
    subst hc'
    exact (hv4 g hg).2.2

set_option maxHeartbeats 8000000 in
theorem addLP_top_ptr {fid : FuncId} {cap : Array Value} {need n : Nat} {c : Nat} (hb : Bld w w0.heap.size p v 0 0 (.pointer (some ⟨c, 0, none⟩)) bs) (hci : Blk w c 4 #[.bool false]) (hc0 : w0.heap.size ≤ c) (hu0 : Upd [] w0 w) (hf : Emits fid cap [] w0 out need) (hen : Enters fid) (hn : 1 ≤ n) (hn3 : n ≤ 3)
    (hl : bs.length + need + 4 ≤ 17592186044416) (hx : olen out ≤ 17592186044416) :
    Calls Try.prog 103 #[.pointer (some ⟨p, 0, none⟩), .int .i64 n, .bool false, .func (.func fid) #[] cap] w (TopP w0 p (app (some bs) (lpOut n out))) := by
  have q1 := neq_err_nil
  have q2 := neq_err_some
  obtain ⟨A, cv, hve, c0, c1, c2, c3, c4, c5, c6, c7, fz, hlc, hcm⟩ := hb.open_
  have hbp := hb.1
  have hpc : p ≠ c := hb.2.1.ne_ hci (by decide)
  have hpl := hb.2.1.lt
  have hmk : (Instr.makeSlice 23 (.int .i64 (n : Int)) (.int .i64 (n : Int))).run Try.prog w =
      .ok (.slice (some ⟨w.heap.size, 0, none⟩) n n) (w.alloc (.cells ((List.replicate n (0 : UInt8)).map bv).toArray 5)) := by
    obtain ⟨i0, hi, hz0, hz1, hz2⟩ := info_parts info_u8
    have h := run_make (P := Try.prog) w 23 5 i0 (.int .u8 0) Try.underlying23 hi hz0 .i64 .i64 (n : Int) (n : Int) (by omega) (Int.le_refl _) (by rw [hz2]; omega) (by omega)
    rw [Int.toNat_natCast] at h
    rw [← zeros_byt n]
    simpa [hz1, Value.cells] using h
  have hadd := add_lit_any (st := some bs) hb (by show bs.length ≤ _; omega) (List.replicate n 0) (by simp; omega) 5
  have ez : ((List.replicate n (0 : UInt8)).map bv).toArray = Array.replicate n (bv 0) := by simp
  rw [List.length_replicate, ez] at hadd
  rw [ez] at hmk
  clear ez
  have HADD := hid hadd
  have HF := hid hf
  have HEN := hid hen
  have HL := hid hl
  have HX := hid hx
  have HVE := hid hve
  clear hadd hf hen hl hx hve
  go_enter Try.func103, Try.ntmps103
  go_wp2_with fail
  refine HADD.out.mono ?_
  rintro e w2 ⟨rfl, v2, hb2, hu2, hv2⟩
  have hb2 : Bld w2 w0.heap.size p v2 0 0 (.pointer (some ⟨c, 0, none⟩)) (bs ++ List.replicate n 0) := hb2
  obtain ⟨A2, cv2, hve2, d0, d1, d2, d3, d4, d5, d6, d7, dz, hlc2, hcm2⟩ := hb2.open_
  have dz3 := dz 3
  have hlen2 : (bs ++ List.replicate n (0 : UInt8)).length = bs.length + n := by simp
  rw [hlen2] at d1 hve2 hlc2
  have hpl2 := hb2.2.1.lt
  have HVE2 := hid hve2
  clear hlen2 hlc2 hcm2 hlc hcm fz
  have hci2 : Blk w2 c 4 #[.bool false] := hci.upd hu2 (by
    intro hm
    rcases List.mem_cons.1 hm with h | h
    · exact hpc h.symm
    · exact hb.2.2.ne hci (by decide) _ (Option.mem_toList.1 h) rfl)
  clear dz hve2
  have hu02 : Upd [] w0 w2 := hu0.trans hu2 (fun x hx => by
    rcases List.mem_cons.1 hx with h | hx
    · right; omega
    · right; exact (hb.2.2.ge (Option.mem_toList.1 hx)).1)
  go_wp2_with fail
  have hvg2 : ∀ g, v2.ownBlock = some g → w0.heap.size ≤ g ∧ g ≠ p ∧ g ≠ c := fun g hg => ⟨(hb2.2.2.ge hg).1, hb2.2.2.ne hb2.2.1 (by decide) g hg, hb2.2.2.ne hci2 (by decide) g hg⟩
  have hvl2 : ∀ g, v2.ownBlock = some g → g < w2.heap.size := fun g hg => (hb2.2.2.ge hg).2
  have Hvg2 := hid hvg2
  have Hvl2 := hid hvl2
  clear hvg2 hvl2
  go_region
  go_wp2_with fail
  obtain ⟨hp3, hq3, hc3, hu3, hsz3⟩ := lp_mid (n := n) hb2 bs.length hci2
  obtain ⟨w3, hw3⟩ : ∃ w3, w3of w2 p v2 bs.length n (.pointer (some ⟨c, 0, none⟩)) = w3 := ⟨_, rfl⟩
  have hw3' : ((w2.setCell ⟨p, 3, none⟩ (.pointer (some ⟨w2.heap.size, 0, none⟩))).alloc (.cells #[.nilIface, .slice A2 (bs.length + n) cv2, .bool false, .pointer none, .int .i64 (bs.length : Int), .int .i64 (n : Int), .bool false, .pointer (some ⟨c, 0, none⟩)] 128)).drew = w3 := by
    rw [← hw3, HVE2.out]; rfl
  rw [hw3']
  rw [hw3] at hp3 hq3 hc3 hu3 hsz3
  clear hw3 hw3'
  obtain ⟨hpT, hqT, hcT, hbT, huT, hszT⟩ := top_mid hp3 hq3 hc3
  obtain ⟨T, hT⟩ : ∃ T, topWorld w3 p c = T := ⟨_, rfl⟩
  rw [hT] at hpT hqT hcT hbT huT hszT
  have hu0T : Upd [] w0 T := (hu02.trans hu3 (by simp; omega)).trans huT (by simp; omega)
  have hcall := HF.out T hu0T w0.heap.size w2.heap.size v2 bs.length n (.pointer (some ⟨c, 0, none⟩)) (bs ++ List.replicate n 0) hqT ⟨c, rfl, hcT⟩ hu02.size (fun g hg => .inr (Hvg2.out g hg).1) (by have := HL.out; simp; omega)
  rw [← hT] at hcall
  have hpq : p ≠ w2.heap.size := by omega
  have hcl := hci2.lt
  have hqc : w2.heap.size ≠ c := by omega
  refine (callCont_top (c := c) (R := TopR (topWorld w3 p c) w0.heap.size w2.heap.size v2 bs.length n c (app (some (bs ++ List.replicate n 0)) out)) (by rw [hp3.cell]; rfl) (by rw [hc3.cell]; rfl) (hc3.frozen 0)
    (hcall.mono fun e w' h => ⟨h.1, h.2⟩) (fun w' h => by rw [hT] at h; exact top_cells hszT hpT hcT hbT hpq hqc (by omega) (fun g hg => ⟨by have := Hvl2.out g hg; omega, (Hvg2.out g hg).2⟩) h) HEN.out).mono ?_
  rintro e w4' ⟨rfl, w4, hR, rfl⟩
  rw [hT] at hR
  obtain ⟨v4, hp4, hq4, hc4, hu4, hv4⟩ := top_down hu0T hbp hu02.size hc0 hpT hcT hpq hqc hpc Hvg2.out hR
  go_wp2_with fail
  refine (flush_any hp4 hq4 hpq hbp hn hn3 (by have := HL.out; omega) HX.out).mono ?_
  intro e w5 hfl
  have he := hfl.1
  subst he
  have k3 := hfl.2.1.child
  go_wp2
  go_end0
  exact top_fin hbp hu02.size hc0 hpc hqc hc4 hu4 hv4 hfl

set_option maxHeartbeats 8000000 in
theorem addLP_top_nil {fid : FuncId} {cap : Array Value} {need n : Nat} (hb : Bld w w0.heap.size p v 0 0 (.pointer none) bs) (hu0 : Upd [] w0 w) (hf : Emits fid cap [] w0 out need) (hen : Enters fid) (hn : 1 ≤ n) (hn3 : n ≤ 3)
    (hl : bs.length + need + 4 ≤ 17592186044416) (hx : olen out ≤ 17592186044416) :
    Calls Try.prog 103 #[.pointer (some ⟨p, 0, none⟩), .int .i64 n, .bool false, .func (.func fid) #[] cap] w (TopP w0 p (app (some bs) (lpOut n out))) := by
  have q1 := neq_err_nil
  have q2 := neq_err_some
  obtain ⟨A, cv, hve, c0, c1, c2, c3, c4, c5, c6, c7, fz, hlc, hcm⟩ := hb.open_
  have hbp := hb.1
  have hpl := hb.2.1.lt
  have hmk : (Instr.makeSlice 23 (.int .i64 (n : Int)) (.int .i64 (n : Int))).run Try.prog w =
      .ok (.slice (some ⟨w.heap.size, 0, none⟩) n n) (w.alloc (.cells ((List.replicate n (0 : UInt8)).map bv).toArray 5)) := by
    obtain ⟨i0, hi, hz0, hz1, hz2⟩ := info_parts info_u8
    have h := run_make (P := Try.prog) w 23 5 i0 (.int .u8 0) Try.underlying23 hi hz0 .i64 .i64 (n : Int) (n : Int) (by omega) (Int.le_refl _) (by rw [hz2]; omega) (by omega)
    rw [Int.toNat_natCast] at h
    rw [← zeros_byt n]
    simpa [hz1, Value.cells] using h
  have hadd := add_lit_any (st := some bs) hb (by show bs.length ≤ _; omega) (List.replicate n 0) (by simp; omega) 5
  have ez : ((List.replicate n (0 : UInt8)).map bv).toArray = Array.replicate n (bv 0) := by simp
  rw [List.length_replicate, ez] at hadd
  rw [ez] at hmk
  clear ez
  have HADD := hid hadd
  have HF := hid hf
  have HEN := hid hen
  have HL := hid hl
  have HX := hid hx
  have HVE := hid hve
  clear hadd hf hen hl hx hve
  go_enter Try.func103, Try.ntmps103
  go_wp2_with fail
  refine HADD.out.mono ?_
  rintro e w2 ⟨rfl, v2, hb2, hu2, hv2⟩
  have hb2 : Bld w2 w0.heap.size p v2 0 0 (.pointer none) (bs ++ List.replicate n 0) := hb2
  obtain ⟨A2, cv2, hve2, d0, d1, d2, d3, d4, d5, d6, d7, dz, hlc2, hcm2⟩ := hb2.open_
  have dz3 := dz 3
  have hlen2 : (bs ++ List.replicate n (0 : UInt8)).length = bs.length + n := by simp
  rw [hlen2] at d1 hve2 hlc2
  have hpl2 := hb2.2.1.lt
  have HVE2 := hid hve2
  clear hlen2 hlc2 hcm2 hlc hcm fz
  have dz7 := dz 7
  clear dz hve2
  have hu20 : Upd [p] w2 ((w2.setCell ⟨p, 7, none⟩ (.pointer (some ⟨w2.heap.size, 0, none⟩))).alloc (.cells #[.bool false] 4)) := ((Upd.refl _ _).setCell (by simp) _).alloc _
  have hsz0 : (w2.setCell ⟨p, 7, none⟩ (.pointer (some ⟨w2.heap.size, 0, none⟩))).heap.size = w2.heap.size := by simp [World.setCell]
  have hci2 : Blk ((w2.setCell ⟨p, 7, none⟩ (.pointer (some ⟨w2.heap.size, 0, none⟩))).alloc (.cells #[.bool false] 4)) w2.heap.size 4 #[.bool false] := by
    have h := Blk.new (w2.setCell ⟨p, 7, none⟩ (.pointer (some ⟨w2.heap.size, 0, none⟩))) 4 #[.bool false]
    rw [hsz0] at h
    exact h
  have hb20 : Bld ((w2.setCell ⟨p, 7, none⟩ (.pointer (some ⟨w2.heap.size, 0, none⟩))).alloc (.cells #[.bool false] 4)) w0.heap.size p v2 0 0 (.pointer (some ⟨w2.heap.size, 0, none⟩)) (bs ++ List.replicate n 0) :=
    ⟨hbp, ((hb2.2.1.set_ 7 (.pointer (some ⟨w2.heap.size, 0, none⟩))).alloc _), hb2.2.2.upd hu20 (fun g hg hm => by
      simp at hm
      exact hb2.2.2.ne hb2.2.1 (by decide) g hg hm)⟩
  have hu02 : Upd [] w0 ((w2.setCell ⟨p, 7, none⟩ (.pointer (some ⟨w2.heap.size, 0, none⟩))).alloc (.cells #[.bool false] 4)) := (hu0.trans hu2 (fun x hx => by
    rcases List.mem_cons.1 hx with h | hx
    · right; omega
    · right; exact (hb.2.2.ge (Option.mem_toList.1 hx)).1)).trans hu20 (by simp; omega)
  have hs02 := hu0.size
  have hs22 := hu2.size
  have hc0 : w0.heap.size ≤ w2.heap.size := by omega
  go_wp2_with fail
  obtain ⟨c, hcc⟩ : ∃ c, w2.heap.size = c := ⟨_, rfl⟩
  obtain ⟨w2x, hw2x⟩ : ∃ w2x, (w2.setCell ⟨p, 7, none⟩ (.pointer (some ⟨w2.heap.size, 0, none⟩))).alloc (.cells #[.bool false] 4) = w2x := ⟨_, rfl⟩
  rw [hw2x] at hu20 hci2 hb20 hu02 ⊢
  clear hw2x d0 d1 d2 d3 d4 d5 d6 d7 dz3 dz7 hsz0 hb2 hpl2
  rw [hcc] at hci2 hb20 hc0 ⊢
  have hb2 := hb20
  obtain ⟨d0, d1, d2, d3, d4, d5, d6, d7⟩ := bcs_cells hb2.2.1
  rw [HVE2.out] at d1
  have dz3 := hb2.2.1.frozen 3
  have hpl2 := hb2.2.1.lt
  have hpc : p ≠ c := hb2.2.1.ne_ hci2 (by decide)
  clear hcc hb20
  have hvg2 : ∀ g, v2.ownBlock = some g → w0.heap.size ≤ g ∧ g ≠ p ∧ g ≠ c := fun g hg => ⟨(hb2.2.2.ge hg).1, hb2.2.2.ne hb2.2.1 (by decide) g hg, hb2.2.2.ne hci2 (by decide) g hg⟩
  have hvl2 : ∀ g, v2.ownBlock = some g → g < w2x.heap.size := fun g hg => (hb2.2.2.ge hg).2
  have Hvg2 := hid hvg2
  have Hvl2 := hid hvl2
  clear hvg2 hvl2
  go_region
  go_wp2_with fail
  obtain ⟨hp3, hq3, hc3, hu3, hsz3⟩ := lp_mid (n := n) hb2 bs.length hci2
  obtain ⟨w3, hw3⟩ : ∃ w3, w3of w2x p v2 bs.length n (.pointer (some ⟨c, 0, none⟩)) = w3 := ⟨_, rfl⟩
  have hw3' : ((w2x.setCell ⟨p, 3, none⟩ (.pointer (some ⟨w2x.heap.size, 0, none⟩))).alloc (.cells #[.nilIface, .slice A2 (bs.length + n) cv2, .bool false, .pointer none, .int .i64 (bs.length : Int), .int .i64 (n : Int), .bool false, .pointer (some ⟨c, 0, none⟩)] 128)).drew = w3 := by
    rw [← hw3, HVE2.out]; rfl
  rw [hw3']
  rw [hw3] at hp3 hq3 hc3 hu3 hsz3
  clear hw3 hw3'
  obtain ⟨hpT, hqT, hcT, hbT, huT, hszT⟩ := top_mid hp3 hq3 hc3
  obtain ⟨T, hT⟩ : ∃ T, topWorld w3 p c = T := ⟨_, rfl⟩
  rw [hT] at hpT hqT hcT hbT huT hszT
  have hu0T : Upd [] w0 T := (hu02.trans hu3 (by simp; omega)).trans huT (by simp; omega)
  have hcall := HF.out T hu0T w0.heap.size w2x.heap.size v2 bs.length n (.pointer (some ⟨c, 0, none⟩)) (bs ++ List.replicate n 0) hqT ⟨c, rfl, hcT⟩ hu02.size (fun g hg => .inr (Hvg2.out g hg).1) (by have := HL.out; simp; omega)
  rw [← hT] at hcall
  have hpq : p ≠ w2x.heap.size := by omega
  have hcl := hci2.lt
  have hqc : w2x.heap.size ≠ c := by omega
  refine (callCont_top (c := c) (R := TopR (topWorld w3 p c) w0.heap.size w2x.heap.size v2 bs.length n c (app (some (bs ++ List.replicate n 0)) out)) (by rw [hp3.cell]; rfl) (by rw [hc3.cell]; rfl) (hc3.frozen 0)
    (hcall.mono fun e w' h => ⟨h.1, h.2⟩) (fun w' h => by rw [hT] at h; exact top_cells hszT hpT hcT hbT hpq hqc (by omega) (fun g hg => ⟨by have := Hvl2.out g hg; omega, (Hvg2.out g hg).2⟩) h) HEN.out).mono ?_
  rintro e w4' ⟨rfl, w4, hR, rfl⟩
  rw [hT] at hR
  obtain ⟨v4, hp4, hq4, hc4, hu4, hv4⟩ := top_down hu0T hbp hu02.size hc0 hpT hcT hpq hqc hpc Hvg2.out hR
  go_wp2_with fail
  refine (flush_any hp4 hq4 hpq hbp hn hn3 (by have := HL.out; omega) HX.out).mono ?_
  intro e w5 hfl
  have he := hfl.1
  subst he
  have k3 := hfl.2.1.child
  go_wp2
  go_end0
  exact top_fin hbp hu02.size hc0 hpc hqc hc4 hu4 hv4 hfl

/-- a vector written by a continuation, at the top -/
theorem addLP_top {fid : FuncId} {cap : Array Value} {need n : Nat} (h : TopS w0 w p st) (hf : Emits fid cap [] w0 out need) (hen : Enters fid) (hn : 1 ≤ n) (hn3 : n ≤ 3) (hl : olen st + need + 4 ≤ 17592186044416) (hx : olen out ≤ 17592186044416) :
    Calls Try.prog 103 #[.pointer (some ⟨p, 0, none⟩), .int .i64 n, .bool false, .func (.func fid) #[] cap] w (TopP w0 p (app st (lpOut n out))) := by
  obtain ⟨v, ic, hb, hi, hu, ho⟩ := h
  cases st with
  | none =>
    have q1 := neq_err_nil
    have q2 := neq_err_some
    obtain ⟨t, x, c0, -⟩ := BErr.open_ hb
    go_enter Try.func103, Try.ntmps103
    go_wp2
    exact bodyPost_ret (results_none rfl _ _ _) rfl ⟨rfl, v, ic, hb, hi, hu, ho⟩
  | some bs =>
    rcases hi with rfl | ⟨c, rfl, hc0, hci⟩
    · exact addLP_top_nil hb hu hf hen hn hn3 hl hx
    · exact addLP_top_ptr hb hci hc0 hu hf hen hn hn3 hl hx
end
end Go.Proofs.Ytcdjbciifnoajaa

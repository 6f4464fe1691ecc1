/- Contracts of cryptobyte's Builder: addLengthPrefixed, inside a continuation and at the top. -/
import Derived.Test.YtcdjbciifnoajaaBuild3
import Derived.Deep.RegionHeld3
namespace Go.Proofs.Ytcdjbciifnoajaa
open Go.RowKit
set_option maxRecDepth 100000

/-- the flag is raised: we are inside a continuation -/
def Inner (w : World) (ic : Value) : Prop := ∃ c, ic = .pointer (some ⟨c, 0, none⟩) ∧ Blk w c 4 #[.bool true]
/-- function fid is entered when it is called -/
def Enters (fid : FuncId) : Prop := ∀ (args : Array Value) (w : World), (callFunc fid args).run Try.prog w = .ok (.enter fid args) w
/-- THE CONTINUATION fid, with what it has captured, writes out: in every world that is w but for the blocks of S, to a child made after w -/
def Emits (fid : FuncId) (cap : Array Value) (S : List Nat) (w : World) (out : Option (List UInt8)) (need : Nat) : Prop :=
  ∀ w1, Upd S w w1 → ∀ base q v off pl ic bs, Bld w1 base q v off pl ic bs → Inner w1 ic → w.heap.size ≤ q → (∀ g, v.ownBlock = some g → g ∈ S ∨ w.heap.size ≤ g) → bs.length + need ≤ 17592186044416 →
    Calls Try.prog fid (#[.pointer (some ⟨q, 0, none⟩)] ++ cap) w1 (BSP w1 base q v off pl ic (app (some bs) out))

section
variable {w w' : World} {base p q off pl : Nat} {v v2 content ic ic2 : Value} {xs bs : List UInt8} {st out : Option (List UInt8)} {S : List Nat}

theorem Inner.upd (h : Inner w ic) (hu : Upd S w w') (hs : ∀ c, ic = .pointer (some ⟨c, 0, none⟩) → c ∉ S) : Inner w' ic := by
  obtain ⟨c, h1, h2⟩ := h
  exact ⟨c, h1, h2.upd hu (hs c h1)⟩
theorem FlP.ret {e : Ending} (h : FlP w base p q v2 off pl ic st e w') : e = .returned (.tuple #[]) := h.1

/-- flushChild, whatever the child has come to -/
theorem flush_any {n : Nat} (hp : Blk w p 128 (bcs v (.pointer (some ⟨q, 0, none⟩)) off pl ic)) (hq : BS w base q v2 bs.length n ic2 (app (some (bs ++ List.replicate n 0)) out)) (hpq : p ≠ q) (hbp : base ≤ p) (hn : 1 ≤ n) (hn3 : n ≤ 3)
    (hl : bs.length ≤ 17592186044416) (hx : olen out ≤ 17592186044416) :
    Calls Try.prog 107 #[.pointer (some ⟨p, 0, none⟩)] w (FlP w base p q v2 off pl ic (app (some bs) (lpOut n out))) := by
  cases out with
  | none => exact flush_err hp hq hpq hbp
  | some xs => exact flush_ok hp hq hpq hbp hn hn3 hl hx

theorem BS.child (h : BS w base p v off pl ic st) : w.cell? ⟨p, 3, none⟩ = some (.pointer none) := by
  cases st with
  | none => exact (BErr.open_ h).choose_spec.choose_spec.2
  | some bs => exact (bcs_cells h.2.1).2.2.2.1

/-- the world behind the child's making -/
def w3of (w2 : World) (p : Nat) (v2 : Value) (lb n : Nat) (ic : Value) : World :=
  ((w2.setCell ⟨p, 3, none⟩ (.pointer (some ⟨w2.heap.size, 0, none⟩))).alloc (.cells (bcs v2 (.pointer none) lb n ic) 128)).drew
theorem lp_mid {w2 : World} {c n : Nat} (hb2 : Bld w2 base p v2 off pl (.pointer (some ⟨c, 0, none⟩)) bs) (lb : Nat) {x : Bool} (hc : Blk w2 c 4 #[.bool x]) :
    Blk (w3of w2 p v2 lb n (.pointer (some ⟨c, 0, none⟩))) p 128 (bcs v2 (.pointer (some ⟨w2.heap.size, 0, none⟩)) off pl (.pointer (some ⟨c, 0, none⟩))) ∧
    Bld (w3of w2 p v2 lb n (.pointer (some ⟨c, 0, none⟩))) base w2.heap.size v2 lb n (.pointer (some ⟨c, 0, none⟩)) bs ∧
    Blk (w3of w2 p v2 lb n (.pointer (some ⟨c, 0, none⟩))) c 4 #[.bool x] ∧ Upd [p] w2 (w3of w2 p v2 lb n (.pointer (some ⟨c, 0, none⟩))) ∧
    (w3of w2 p v2 lb n (.pointer (some ⟨c, 0, none⟩))).heap.size = w2.heap.size + 1 := by
  have hu1 : Upd [p] w2 (w2.setCell ⟨p, 3, none⟩ (.pointer (some ⟨w2.heap.size, 0, none⟩))) := (Upd.refl _ _).setCell (by simp) _
  have hsz : (w2.setCell ⟨p, 3, none⟩ (.pointer (some ⟨w2.heap.size, 0, none⟩))).heap.size = w2.heap.size := by simp [World.setCell]
  have hpc : c ≠ p := fun e => hc.ne_ hb2.2.1 (by decide) e
  have hpl := hb2.2.1.lt
  have hbp := hb2.1
  refine ⟨?_, ⟨by omega, ?_, ?_⟩, ?_, ?_, ?_⟩
  · have h := (hb2.2.1.set_ 3 (.pointer (some ⟨w2.heap.size, 0, none⟩))).alloc (.cells (bcs v2 (.pointer none) lb n (.pointer (some ⟨c, 0, none⟩))) 128)
    exact h.drew
  · have h := Blk.new (w2.setCell ⟨p, 3, none⟩ (.pointer (some ⟨w2.heap.size, 0, none⟩))) 128 (bcs v2 (.pointer none) lb n (.pointer (some ⟨c, 0, none⟩)))
    rw [hsz] at h
    exact h.drew
  · refine Own.upd (hb2.2.2.upd hu1 ?_) (((Upd.refl [] _).alloc _).drew) (by simp)
    intro g hg hm
    simp at hm
    exact hb2.2.2.ne hb2.2.1 (by decide) g hg hm
  · exact ((hc.far (p := ⟨p, 3, none⟩) hpc _).alloc _).drew
  · exact (hu1.alloc _).drew
  · show ((w2.setCell ⟨p, 3, none⟩ (.pointer (some ⟨w2.heap.size, 0, none⟩))).alloc _).heap.size = _
    simp [World.setCell]

/-- the frames of addLengthPrefixed, put together -/
theorem lp_end {w2 w3 w4 w5 : World} {v4 : Value} {q : Nat} (hu2 : Upd (p :: v.ownBlock.toList) w w2) (hv2 : v2.ownBlock = v.ownBlock ∨ ∃ g, v2.ownBlock = some g ∧ w.heap.size ≤ g)
    (hu3 : Upd [p] w2 w3) (hu4 : Upd (q :: v2.ownBlock.toList) w3 w4) (hv4 : v4.ownBlock = v2.ownBlock ∨ ∃ g, v4.ownBlock = some g ∧ w3.heap.size ≤ g) (hq : w2.heap.size ≤ q)
    (hfl : FlP w4 base p q v4 off pl ic st (.returned (.tuple #[])) w5) : BSP w base p v off pl ic st (.returned (.tuple #[])) w5 := by
  have s2 := hu2.size
  have s3 := hu3.size
  have hin2 : ∀ k ∈ v2.ownBlock.toList, k ∈ p :: v.ownBlock.toList ∨ w.heap.size ≤ k := by
    intro k hk
    rcases hv2 with h | ⟨g, hg, hge⟩
    · rw [h] at hk; exact .inl (List.mem_cons_of_mem _ hk)
    · rw [hg] at hk; simp at hk; right; omega
  have hin4 : ∀ k ∈ v4.ownBlock.toList, k ∈ p :: v.ownBlock.toList ∨ w.heap.size ≤ k := by
    intro k hk
    rcases hv4 with h | ⟨g, hg, hge⟩
    · rw [h] at hk; exact hin2 k hk
    · rw [hg] at hk; simp at hk; right; omega
  refine ⟨rfl, v4, hfl.2.1, ?_, ?_⟩
  · refine ((hu2.trans hu3 (by simp)).trans hu4 ?_).trans hfl.2.2 ?_
    · intro k hk
      rcases List.mem_cons.1 hk with rfl | hk
      · right; omega
      · exact hin2 k hk
    · intro k hk
      rcases List.mem_cons.1 hk with rfl | hk
      · left; simp
      · rcases List.mem_cons.1 hk with rfl | hk
        · right; omega
        · exact hin4 k hk
  · rcases hv4 with h | ⟨g, hg, hge⟩
    · rw [h]
      exact hv2
    · exact .inr ⟨g, hg, by omega⟩

theorem zeros_byt (n : Nat) : (madeCells #[.int .u8 0] n) = ((List.replicate n (0 : UInt8)).map bv).toArray := by
  apply Array.ext'
  rw [toList_madeCells_one, List.map_replicate]
  rfl

set_option maxHeartbeats 8000000 in
theorem addLP_inner {fid : FuncId} {cap : Array Value} {need n : Nat} (hb : BS w base p v off pl ic st) (hi : Inner w ic) (hf : st ≠ none → Emits fid cap (p :: v.ownBlock.toList) w out need) (hen : Enters fid) (hn : 1 ≤ n) (hn3 : n ≤ 3)
    (hl : olen st + need + 4 ≤ 17592186044416) (hx : olen out ≤ 17592186044416) :
    Calls Try.prog 103 #[.pointer (some ⟨p, 0, none⟩), .int .i64 n, .bool false, .func (.func fid) #[] cap] w (BSP w base p v off pl ic (app st (lpOut n out))) := by
  have q1 := neq_err_nil
  have q2 := neq_err_some
  cases st with
  | none =>
    obtain ⟨t, x, c0, -⟩ := BErr.open_ hb
    go_enter Try.func103, Try.ntmps103
    go_wp2
    exact bodyPost_ret (results_none rfl _ _ _) rfl ⟨rfl, v, hb, Upd.refl _ _, .inl rfl⟩
  | some bs =>
    have hb : Bld w base p v off pl ic bs := hb
    have hf := hf (by simp)
    have hl : bs.length + need + 4 ≤ 17592186044416 := hl
    obtain ⟨c, rfl, hci⟩ := hi
    obtain ⟨A, cv, hve, c0, c1, c2, c3, c4, c5, c6, c7, fz, hlc, hcm⟩ := hb.open_
    have hbp := hb.1
    have hpl := hb.2.1.lt
    have hcl := hci.lt
    have hpc : p ≠ c := hb.2.1.ne_ hci (by decide)
    have hmk : (Instr.makeSlice 23 (.int .i64 (n : Int)) (.int .i64 (n : Int))).run Try.prog w =
        .ok (.slice (some ⟨w.heap.size, 0, none⟩) n n) (w.alloc (.cells ((List.replicate n (0 : UInt8)).map bv).toArray 5)) := by
      obtain ⟨i0, hi, hz0, hz1, hz2⟩ := info_parts info_u8
      have h := run_make (P := Try.prog) w 23 5 i0 (.int .u8 0) Try.underlying23 hi hz0 .i64 .i64 (n : Int) (n : Int) (by omega) (Int.le_refl _) (by rw [hz2]; omega) (by omega)
      rw [Int.toNat_natCast] at h
      rw [← zeros_byt n]
      simpa [hz1, Value.cells] using h
    have hadd := add_lit_any (st := some bs) hb (by show bs.length ≤ _; omega) (List.replicate n 0) (by simp; omega) 5
    have ez : ((List.replicate n (0 : UInt8)).map bv).toArray = Array.replicate n (bv 0) := by simp
    rw [List.length_replicate, ez] at hadd
    rw [ez] at hmk
    clear ez
    have HADD := hid hadd
    have HF := hid hf
    have HEN := hid hen
    have HL := hid hl
    have HX := hid hx
    have HVE := hid hve
    clear hadd hf hen hl hx hve
    go_enter Try.func103, Try.ntmps103
    go_wp2_with fail
    refine HADD.out.mono ?_
    rintro e w2 ⟨rfl, v2, hb2, hu2, hv2⟩
    have hb2 : Bld w2 base p v2 off pl (.pointer (some ⟨c, 0, none⟩)) (bs ++ List.replicate n 0) := hb2
    obtain ⟨A2, cv2, hve2, d0, d1, d2, d3, d4, d5, d6, d7, dz, hlc2, hcm2⟩ := hb2.open_
    have dz3 := dz 3
    have hlen2 : (bs ++ List.replicate n (0 : UInt8)).length = bs.length + n := by simp
    rw [hlen2] at d1 hve2 hlc2
    have hci2 : Blk w2 c 4 #[.bool true] := hci.upd hu2 (by
      intro hm
      rcases List.mem_cons.1 hm with h | h
      · exact hpc h.symm
      · exact hb.2.2.ne hci (by decide) _ (Option.mem_toList.1 h) rfl)
    have hpl2 := hb2.2.1.lt
    have HVE2 := hid hve2
    clear hve2 hlen2 dz hlc2 hcm2 hlc hcm fz
    go_wp2_with fail
    go_region
    go_wp2_with fail
    obtain ⟨hp3, hq3, hc3, hu3, hsz3⟩ := lp_mid (n := n) hb2 bs.length hci2
    obtain ⟨w3, hw3⟩ : ∃ w3, w3of w2 p v2 bs.length n (.pointer (some ⟨c, 0, none⟩)) = w3 := ⟨_, rfl⟩
    have hw3' : ((w2.setCell ⟨p, 3, none⟩ (.pointer (some ⟨w2.heap.size, 0, none⟩))).alloc (.cells #[.nilIface, .slice A2 (bs.length + n) cv2, .bool false, .pointer none, .int .i64 (bs.length : Int), .int .i64 (n : Int), .bool false, .pointer (some ⟨c, 0, none⟩)] 128)).drew = w3 := by
      rw [← hw3, HVE2.out]; rfl
    rw [hw3']
    rw [hw3] at hp3 hq3 hc3 hu3 hsz3
    have hw3l : w2.heap.size < w3.heap.size := by omega
    clear hw3 hw3' hsz3
    have hub : Upd [] w3 (w3.alloc (.cells #[.pointer (some ⟨p, 0, none⟩)] 125)) := (Upd.refl _ _).alloc _
    have hin : Upd (p :: v.ownBlock.toList) w (w3.alloc (.cells #[.pointer (some ⟨p, 0, none⟩)] 125)) := (hu2.trans hu3 (by simp)).trans hub (by simp)
    have hcall := HF.out _ hin base w2.heap.size v2 bs.length n (.pointer (some ⟨c, 0, none⟩)) (bs ++ List.replicate n 0) (BS.upd (st := some _) hq3 hub (by simp) (by simp)) ⟨c, rfl, hc3.upd hub (by simp)⟩
      hu2.size (fun g hg => by
        rcases hv2 with h | ⟨g', hg', hge⟩
        · rw [h] at hg; exact .inl (List.mem_cons_of_mem _ (Option.mem_toList.2 hg))
        · rw [hg'] at hg; injection hg with hg; right; omega) (by have := HL.out; simp; omega)
    refine (callCont_inner (c := c) (by rw [hp3.cell]; rfl) (by rw [hc3.cell]; rfl) hcall (fun _ _ h => h.1) HEN.out).mono ?_
    rintro e w4 ⟨rfl, v4, hq4, hu4, hv4⟩
    have hu4' : Upd (w2.heap.size :: v2.ownBlock.toList) w3 w4 := (hub.mono (by simp)).trans hu4 (fun x hx => .inl hx)
    have hv4' : v4.ownBlock = v2.ownBlock ∨ ∃ g, v4.ownBlock = some g ∧ w3.heap.size ≤ g := hv4.imp id fun ⟨g, h1, h2⟩ => ⟨g, h1, Nat.le_trans hub.size h2⟩
    have hp4 := hp3.upd hu4' (by
      intro hm
      rcases List.mem_cons.1 hm with h | h
      · omega
      · exact hb2.2.2.ne hb2.2.1 (by decide) _ (Option.mem_toList.1 h) rfl)
    go_wp2_with fail
    refine (flush_any hp4 hq4 (by omega) hbp hn hn3 (by have := HL.out; omega) HX.out).mono ?_
    intro e w5 hfl
    have he := hfl.1
    subst he
    have k3 := hfl.2.1.child
    go_wp2
    go_end0
    exact lp_end hu2 hv2 hu3 hu4' hv4' (Nat.le_refl _) hfl
end
end Go.Proofs.Ytcdjbciifnoajaa

/- Texts joined: Writer. -/
import Derived.Deep.RegionLaw
import Derived.Test.YtaajmfgplhfncaaGreatB01
namespace Go.Proofs.YtaajmfgplhfncaaGreat
open Go.RowKit
def Wrt (w : World) (base p : Nat) (v : Value) (s : Wr) : Prop := base ≤ p ∧ Blk w p 53 #[v, .bool s.bad] ∧ Own w base 5 v (s.b.map bv)
def WrtP (w : World) (base p : Nat) (v : Value) (s : Wr) (e : Ending) (w' : World) : Prop :=
  e = .returned (.tuple #[]) ∧ ∃ v', Wrt w' base p v' s ∧ Upd (p :: v.ownBlock.toList) w w' ∧ (v'.ownBlock = v.ownBlock ∨ ∃ g, v'.ownBlock = some g ∧ w.heap.size ≤ g)
section
variable {w w' : World} {base p : Nat} {v : Value} {s : Wr} {S : List Nat}
theorem Wrt.open_ (h : Wrt w base p v s) : ∃ A c, v = .slice A s.b.length c ∧ w.cell? ⟨p, 0, none⟩ = some (.slice A s.b.length c) ∧ w.cell? ⟨p, 1, none⟩ = some (.bool s.bad) ∧ w.frozen? ⟨p, 0, none⟩ = false ∧ w.frozen? ⟨p, 1, none⟩ = false := by
  obtain ⟨hb, h1, h2⟩ := h
  obtain ⟨A, c, e, _⟩ := h2.form
  rw [List.length_map] at e
  exact ⟨A, c, e, by rw [h1.cell, e]; rfl, by rw [h1.cell]; rfl, h1.frozen 0, h1.frozen 1⟩
theorem wrap_bv (n : Nat) : Value.int .u8 (IntKind.u8.wrap (n : Int)) = bv (UInt8.ofNat n) := by
  show _ = Value.int .u8 (((UInt8.ofNat n).toNat : Nat) : Int)
  rw [UInt8.toNat_ofNat']
  congr 1
theorem wrap_div (n j q : Nat) (hq : 256 ^ j = q) {z : Int} (hz : z = (n : Int) / (q : Int)) : Value.int .u8 (IntKind.u8.wrap z) = bv (UInt8.ofNat (n / 256 ^ j)) := by
  subst hz
  rw [hq, ← wrap_bv]
  rfl
theorem wrap_div0 (n : Nat) : Value.int .u8 (IntKind.u8.wrap (n : Int)) = bv (UInt8.ofNat (n / 256 ^ 0)) := by rw [wrap_bv]; simp
def NumRel (w : World) (base p size n : Nat) (v : Value) (s : Wr) (gk : Nat) (i : Value) (wr : World) : Prop :=
  ∃ v' b', gk ≤ size ∧ i = .int .i64 ((gk : Int) - 1) ∧ s.b ++ be size n = b' ++ be gk n ∧ b'.length + gk ≤ s.b.length + size ∧ Wrt wr base p v' ⟨b', s.bad⟩ ∧ Upd (p :: v.ownBlock.toList) w wr ∧
    (v'.ownBlock = v.ownBlock ∨ ∃ g, v'.ownBlock = some g ∧ w.heap.size ≤ g)
theorem numrel_step {size n j : Nat} {v' v3 : Value} {b' : List UInt8} {wr w3 : World} {o : Obj} {x i : Value} (hx : x = bv (UInt8.ofNat (n / 256 ^ j))) (hi : i = .int .i64 ((j : Int) - 1))
    (hgk : j + 1 ≤ size) (hb : s.b ++ be size n = b' ++ be (j + 1) n) (hl : b'.length + (j + 1) ≤ s.b.length + size) (hw : Wrt wr base p v' ⟨b', s.bad⟩) (hu : Upd (p :: v.ownBlock.toList) w wr)
    (hv : v'.ownBlock = v.ownBlock ∨ ∃ g, v'.ownBlock = some g ∧ w.heap.size ≤ g) (hpw : p < w.heap.size)
    (hap : Appended ((wr.alloc o).drew) base 5 v' (b'.map bv ++ [x]) v3 w3) : NumRel w base p size n v s j i (w3.setCell ⟨p, 0, none⟩ v3) := by
  subst hx hi
  have hap' : Appended ((wr.drew).alloc o) base 5 v' (b'.map bv ++ [bv (UInt8.ofNat (n / 256 ^ j))]) v3 w3 := hap
  obtain ⟨h1, h2, h3⟩ := hap'.one
  have h2' : Upd v'.ownBlock.toList wr w3 := ⟨h2.os, h2.tape, h2.output, h2.size, h2.block⟩
  have hps := hw.2.1.lt
  have hsz := hu.size
  have hpn : p ∉ v'.ownBlock.toList := fun hm => hw.2.2.ne hw.2.1 (by decide) _ (Option.mem_toList.1 hm) rfl
  have hp3 : ∀ g, v3.ownBlock = some g → g ∉ [p] := fun g hg hm => by
    simp at hm
    subst hm
    exact h1.ne (hw.2.1.upd h2' hpn) (by decide) _ hg rfl
  refine ⟨v3, b' ++ [UInt8.ofNat (n / 256 ^ j)], by omega, rfl, by rw [hb, be]; simp, by simp; omega, ⟨hw.1, ?_, ?_⟩, ?_, ?_⟩
  · have := (hw.2.1.upd h2' hpn).set_ 0 v3
    simpa using this
  · rw [List.map_append]
    exact h1.upd ((Upd.refl [p] _).setCell (by simp) _) hp3
  · refine (hu.trans h2' ?_).setCell (by simp) _
    intro k hk
    rcases hv with hv | ⟨g, hg, hge⟩
    · rw [hv] at hk; left; simp; right; exact Option.mem_toList.1 hk
    · rw [hg] at hk; right; simp at hk; omega
  · rcases h3 with h3 | ⟨g, hg, hge⟩
    · rw [h3]; exact hv
    · have hge' : wr.heap.size < g := hge
      exact .inr ⟨g, hg, by omega⟩
set_option maxHeartbeats 2000000 in
theorem wnum_any (hw : Wrt w base p v s) (size n : Nat) (hs : size ≤ 4) (hl : s.b.length ≤ 17592186044416) :
    Calls Tryz.prog 32 #[.pointer (some ⟨p, 0, none⟩), .int .i64 size, .int .i64 n] w (WrtP w base p v (s.num size n)) := by
  have hpw := hw.2.1.lt
  go_enter Tryz.func32, Tryz.ntmps32
  go_wp2_with fail
  go_loopg [6] size (fun gk i wr => NumRel w base p size n v s gk i wr)
  case atStart => exact ⟨v, s.b, Nat.le_refl _, by go_num, rfl, Nat.le_refl _, hw, Upd.refl _ _, .inl rfl⟩
  case round =>
    obtain ⟨v', b', hgk, rfl, hb, hbl, hw', hu, hv'⟩ := hrel
    have HB := hid hb
    have HV := hid hv'
    clear hb hv'
    obtain ⟨A, c, hvs, c0, c1, f0, f1⟩ := hw'.open_
    subst hvs
    by_cases hk : gk = 0
    · subst hk
      have hz : ¬ ((0 : Int) ≤ ((0 : Nat) : Int) - 1) := by omega
      go_wp2
      go_end0
      have hb0 : b' = s.b ++ be size n := by rw [HB.out]; simp [be]
      rw [hb0] at hw'
      rw [hb0] at HV
      exact ⟨rfl, _, hw', hu, HV.out⟩
    · obtain ⟨j, rfl⟩ : ∃ j, gk = j + 1 := ⟨gk - 1, by omega⟩
      have e : (((j + 1 : Nat) : Int) - 1) = (j : Int) := by omega
      rw [e]
      clear e hk
      have hj : j < 4 := by omega
      have hbp := hw'.1
      have hpl := hw'.2.1.lt
      have hpn : p ∉ (Value.slice A b'.length c).ownBlock.toList := fun hm => hw'.2.2.ne hw'.2.1 (by decide) _ (Option.mem_toList.1 hm) rfl
      match j, hj with
      | 0, _ =>
        have hwr : IntKind.i64.wrap 0 = 0 := by decide
        go_wp2_with fail
        go_region_law (first | (refine step_append_row _ rfl _ _ _ rfl base 5 (.int .u8 0) 1 Tryz.underlying23 info_u8 rfl rfl (Own.upd hw'.2.2 (((Upd.refl [] _).alloc _).drew) (by simp)) rfl (Row.drew (Row.one _ _ _)) (by intro u hu; simp at hu; subst hu; rfl) (by simp; omega) (by simp; omega) (by simp; omega) ?_; intro v3 w3 hap; have hb3 := ((hw'.2.1.alloc (.cells #[_] 5)).drew).upd hap.2.1 hpn; have c3 := hb3.cell 0; simp at c3; have g3 := hb3.frozen 0; obtain ⟨A3, c3', hv3⟩ := Own.formN (n := b'.length + 1) hap.1 (by simp); subst hv3))
        all_goals
          go_wp2
          go_roundg 0
          case measure => omega
          case rel =>
            have hap' : Appended ((wr.alloc (.cells #[.int .u8 (IntKind.u8.wrap (n : Int))] 5)).drew) base 5 (.slice A b'.length c) (b'.map bv ++ [.int .u8 (IntKind.u8.wrap (n : Int))]) _ _ := hap
            exact numrel_step (wrap_div0 n) (by go_num) (by omega) HB.out hbl hw' hu HV.out hpw hap'
      | 1, _ =>
        have hwr : IntKind.i64.wrap 8 = 8 := by decide
        go_wp2_with fail
        go_region_law (first | (refine step_append_row _ rfl _ _ _ rfl base 5 (.int .u8 0) 1 Tryz.underlying23 info_u8 rfl rfl (Own.upd hw'.2.2 (((Upd.refl [] _).alloc _).drew) (by simp)) rfl (Row.drew (Row.one _ _ _)) (by intro u hu; simp at hu; subst hu; rfl) (by simp; omega) (by simp; omega) (by simp; omega) ?_; intro v3 w3 hap; have hb3 := ((hw'.2.1.alloc (.cells #[_] 5)).drew).upd hap.2.1 hpn; have c3 := hb3.cell 0; simp at c3; have g3 := hb3.frozen 0; obtain ⟨A3, c3', hv3⟩ := Own.formN (n := b'.length + 1) hap.1 (by simp); subst hv3))
        all_goals
          go_wp2
          go_roundg 1
          case measure => omega
          case rel =>
            have hap' : Appended ((wr.alloc (.cells #[.int .u8 (IntKind.u8.wrap ((n : Int) / 256))] 5)).drew) base 5 (.slice A b'.length c) (b'.map bv ++ [.int .u8 (IntKind.u8.wrap ((n : Int) / 256))]) _ _ := hap
            exact numrel_step (wrap_div n 1 256 (by rfl) (z := (n : Int) / 256) (by rfl)) (by go_num) (by omega) HB.out hbl hw' hu HV.out hpw hap'
      | 2, _ =>
        have hwr : IntKind.i64.wrap 16 = 16 := by decide
        go_wp2_with fail
        go_region_law (first | (refine step_append_row _ rfl _ _ _ rfl base 5 (.int .u8 0) 1 Tryz.underlying23 info_u8 rfl rfl (Own.upd hw'.2.2 (((Upd.refl [] _).alloc _).drew) (by simp)) rfl (Row.drew (Row.one _ _ _)) (by intro u hu; simp at hu; subst hu; rfl) (by simp; omega) (by simp; omega) (by simp; omega) ?_; intro v3 w3 hap; have hb3 := ((hw'.2.1.alloc (.cells #[_] 5)).drew).upd hap.2.1 hpn; have c3 := hb3.cell 0; simp at c3; have g3 := hb3.frozen 0; obtain ⟨A3, c3', hv3⟩ := Own.formN (n := b'.length + 1) hap.1 (by simp); subst hv3))
        all_goals
          go_wp2
          go_roundg 2
          case measure => omega
          case rel =>
            have hap' : Appended ((wr.alloc (.cells #[.int .u8 (IntKind.u8.wrap ((n : Int) / 65536))] 5)).drew) base 5 (.slice A b'.length c) (b'.map bv ++ [.int .u8 (IntKind.u8.wrap ((n : Int) / 65536))]) _ _ := hap
            exact numrel_step (wrap_div n 2 65536 (by rfl) (z := (n : Int) / 65536) (by rfl)) (by go_num) (by omega) HB.out hbl hw' hu HV.out hpw hap'
      | 3, _ =>
        have hwr : IntKind.i64.wrap 24 = 24 := by decide
        go_wp2_with fail
        go_region_law (first | (refine step_append_row _ rfl _ _ _ rfl base 5 (.int .u8 0) 1 Tryz.underlying23 info_u8 rfl rfl (Own.upd hw'.2.2 (((Upd.refl [] _).alloc _).drew) (by simp)) rfl (Row.drew (Row.one _ _ _)) (by intro u hu; simp at hu; subst hu; rfl) (by simp; omega) (by simp; omega) (by simp; omega) ?_; intro v3 w3 hap; have hb3 := ((hw'.2.1.alloc (.cells #[_] 5)).drew).upd hap.2.1 hpn; have c3 := hb3.cell 0; simp at c3; have g3 := hb3.frozen 0; obtain ⟨A3, c3', hv3⟩ := Own.formN (n := b'.length + 1) hap.1 (by simp); subst hv3))
        all_goals
          go_wp2
          go_roundg 3
          case measure => omega
          case rel =>
            have hap' : Appended ((wr.alloc (.cells #[.int .u8 (IntKind.u8.wrap ((n : Int) / 16777216))] 5)).drew) base 5 (.slice A b'.length c) (b'.map bv ++ [.int .u8 (IntKind.u8.wrap ((n : Int) / 16777216))]) _ _ := hap
            exact numrel_step (wrap_div n 3 16777216 (by rfl) (z := (n : Int) / 16777216) (by rfl)) (by go_num) (by omega) HB.out hbl hw' hu HV.out hpw hap'
end
end Go.Proofs.YtaajmfgplhfncaaGreat

/- Contracts of the reference's reader: vectors, body. -/
import Derived.Test.YtnghnifihnjfeaaReader3
namespace Go.Proofs.Ytnghnifihnjfeaa
open Go.RowKit

section
variable {w w' : World} {N r : Nat} {s : R} {S : List Nat}

/-- a slice of slices of bytes whose row is the call's own, and whose elements lie below N -/
def Vecs (w : World) (base N : Nat) (v : Value) (ls : List (List UInt8)) : Prop := ∃ vs, Own w base 22 v vs ∧ All2 (fun u l => Byt w N u l) vs ls

theorem Vecs.upd {base : Nat} {v : Value} {ls : List (List UInt8)} (h : Vecs w base N v ls) (hu : Upd S w w') (hs : ∀ g, v.ownBlock = some g → g ∉ S) (hN : ∀ x ∈ S, N ≤ x) : Vecs w' base N v ls := by
  obtain ⟨vs, h1, h2⟩ := h
  exact ⟨vs, h1.upd hu hs, h2.imp fun _ _ hb => hb.upd hu hN⟩

def VectorsP (w : World) (N r : Nat) (l : List (List UInt8)) (s : R) (e : Ending) (w' : World) : Prop :=
  ∃ v, e = .returned v ∧ Vecs w' w.heap.size N v l ∧ Upd [r] w w' ∧ Rd w' N r s

def VRel (w : World) (N q size low : Nat) (x0 : R) (gk : Nat) (v : Value) (wr : World) : Prop :=
  ∃ (x : R) (l : List (List UInt8)), gk = x.bs.length ∧ l.length + x.bs.length ≤ x0.bs.length ∧ Rd wr N q x ∧ Vecs wr w.heap.size N v l ∧ Upd [] w wr ∧
    R.vecsGo size low x0.bs.length x0 = (l ++ (R.vecsGo size low x.bs.length x).1, (R.vecsGo size low x.bs.length x).2)

theorem vecsGo_unroll (size low : Nat) (hs : 1 ≤ size) (x : R) (h : x.bs ≠ []) :
    R.vecsGo size low x.bs.length x = ((x.vec size low (256 ^ size - 1)).1 :: (R.vecsGo size low (x.vec size low (256 ^ size - 1)).2.bs.length (x.vec size low (256 ^ size - 1)).2).1,
      (R.vecsGo size low (x.vec size low (256 ^ size - 1)).2.bs.length (x.vec size low (256 ^ size - 1)).2).2) := by
  have hp : 0 < x.bs.length := List.length_pos_iff.2 h
  obtain ⟨f, hf⟩ : ∃ f, x.bs.length = f + 1 := ⟨x.bs.length - 1, by omega⟩
  have hv := vec_bs_len x size low (256 ^ size - 1)
  rw [hf, R.vecsGo, if_neg h, vecsGo_eq size low hs f _ (x.vec size low (256 ^ size - 1)).2 (by omega) (Nat.le_refl _)]

theorem vrel_step {q size low : Nat} {x0 x : R} {l : List (List UInt8)} {v v3 u : Value} {vs : List Value} {wr w2 w3 : World} {o : Obj} (hs : 1 ≤ size) (hxe : x.bs ≠ [])
    (hxl : l.length + x.bs.length ≤ x0.bs.length) (hqw : w.heap.size ≤ q) (hNw : N ≤ w.heap.size)
    (hx : Rd wr N q x) (hx2 : Rd w2 N q (x.vec size low (256 ^ size - 1)).2) (hu2 : Upd [q] wr w2) (hb : Byt w2 N u (x.vec size low (256 ^ size - 1)).1)
    (hown : Own wr w.heap.size 22 v vs) (hall : All2 (fun u l => Byt wr N u l) vs l) (hu : Upd [] w wr) (hap : Appended (w2.alloc o) w.heap.size 22 v (vs ++ [u]) v3 w3)
    (hE : R.vecsGo size low x0.bs.length x0 = (l ++ (R.vecsGo size low x.bs.length x).1, (R.vecsGo size low x.bs.length x).2)) :
    VRel w N q size low x0 (x.vec size low (256 ^ size - 1)).2.bs.length v3 w3 := by
  obtain ⟨h1, h2, h3⟩ := hap.one
  have hv := vec_bs_len x size low (256 ^ size - 1)
  have hp : 0 < x.bs.length := List.length_pos_iff.2 hxe
  have hq : ∀ g, v.ownBlock = some g → g ≠ q := by
    obtain ⟨_, vx, hbx, _⟩ := hx
    exact hown.ne hbx (by decide)
  have hS : ∀ k ∈ v.ownBlock.toList, w.heap.size ≤ k ∧ k ≠ q := fun k hk => ⟨(hown.ge (Option.mem_toList.1 hk)).1, hq _ (Option.mem_toList.1 hk)⟩
  refine ⟨_, l ++ [(x.vec size low (256 ^ size - 1)).1], rfl, ?_, hx2.upd h2 ?_ ?_, ⟨vs ++ [u], h1, ?_⟩, ?_, ?_⟩
  · simp; omega
  · intro k hk
    have := hS k hk
    omega
  · intro hk
    exact (hS q hk).2 rfl
  · refine All2.snoc ?_ ?_
    · refine hall.imp fun a b hab => ?_
      exact (hab.upd hu2 (by simp; omega)).upd h2 (fun k hk => by have := hS k hk; omega)
    · exact hb.upd h2 (fun k hk => by have := hS k hk; omega)
  · refine (hu.trans hu2 ?_).trans h2 ?_
    · intro k hk; right; simp at hk; omega
    · intro k hk; right; exact (hS k hk).1
  · rw [hE, vecsGo_unroll size low hs x hxe]
    simp

set_option maxHeartbeats 1000000 in
theorem vectors_any1 (hr : Rd w N r s) {v : Value} {b : List UInt8} (hv : Byt w N v b) (hb : b.length ≤ 4294967296) (low : Nat) :
    Calls Try.prog 68 #[.pointer (some ⟨r, 0, none⟩), v, .int .i64 1, .int .i64 low] w (VectorsP w N r (s.vectors b 1 low).1 (s.vectors b 1 low).2) := by
  have hlt := hr.lt
  have hN := hr.1
  go_enter Try.func68, Try.ntmps68
  go_wp2_with (go_at_call 91; refine (within_any hr (by omega) hv).mono ?_; rintro e w1 ⟨rfl, hu1, hx1⟩)
  obtain ⟨x0, hx0⟩ : ∃ x0, s.within b = x0 := ⟨_, rfl⟩
  have hxb : x0.bs.length ≤ b.length := by rw [← hx0]; unfold R.within; simp only; split <;> simp
  have HX := hid hx0
  rw [hx0] at hx1
  clear hx0
  go_loopg [9] x0.bs.length (fun gk v wr => VRel w N w.heap.size 1 low x0 gk v wr)
  case atStart =>
    exact ⟨x0, [], rfl, by simp, hx1, ⟨[], Own.nil_ _ _ _, trivial⟩, hu1, by simp⟩
  case round =>
    obtain ⟨x, l, rfl, hxl, hx, ⟨vs, hown, hall⟩, hu, hE⟩ := hrel
    have HE := hid hE
    clear hE
    obtain ⟨A, c, c0, c1, f0, f1, hl, hc⟩ := hx.open_
    by_cases hxe : x.bs = []
    · have hz : ¬ 0 < x.bs.length := by simp [hxe]
      have Hxe := hid hxe
      clear hxe hl hc
      go_wp2_with fail
      refine (done_any (hr.upd hu (by simp) (by simp)) hx (by omega) (by omega)).mono ?_
      rintro e w2 ⟨rfl, hu2, hr2⟩
      go_wp2
      go_ret
      have hq : ∀ g, u9.ownBlock = some g → g ≠ w.heap.size := by
        obtain ⟨_, vx, hbx, _⟩ := hx
        exact hown.ne hbx (by decide)
      have hgo : ∀ size, R.vecsGo size low x.bs.length x = ([], x) := by intro size; rw [Hxe.out]; rfl
      have he := HE.out
      rw [hgo] at he
      simp only [List.append_nil] at he
      refine ⟨u9, rfl, ?_, ?_, ?_⟩
      · show Vecs w2 w.heap.size N u9 (R.vecsGo 1 low (s.within b).bs.length (s.within b)).1
        rw [HX.out, he]
        refine Vecs.upd ⟨vs, hown, hall⟩ hu2 (fun g hg hk => ?_) (by simp; omega)
        have h1 := hown.ge hg
        have h2 := hq g hg
        simp at hk
        omega
      · exact (hu.mono (by simp)).trans hu2 (by intro k hk; simp at hk ⊢; omega)
      · show Rd w2 N r (s.done (R.vecsGo 1 low (s.within b).bs.length (s.within b)).2)
        rw [HX.out, he]
        exact hr2
    · have hz : 0 < x.bs.length := List.length_pos_iff.2 hxe
      have Hxe := hid hxe
      clear hxe hl hc
      go_wp2_with fail
      refine (vec_any hx 1 low 255 (by omega)).mono ?_
      rintro e w2 ⟨y, rfl, hu2, hx2, hy⟩
      have hn2 := hx2.lt
      have hs2 : Own w2 w.heap.size 22 u9 vs := hown.upd hu2 (fun g hg => by
        obtain ⟨_, vx, hbx, _⟩ := hx
        have := hown.ne hbx (by decide) g hg
        simpa using this)
      have hvl := hall.length
      obtain ⟨yA, yc, rfl, hy, hyl, hyc⟩ := Byt.form hy rfl
      go_wp2_with (at_builtin; go_must (refine wpList_append_row _ rfl _ _ _ rfl w.heap.size 22 (.slice none 0 0) 24 Try.underlying50 info_bytes rfl rfl (Own.upd hs2 ((Upd.refl [] _).alloc _) (by simp)) rfl (Row.one _ _ _) (by intro u hu; simp at hu; subst hu; rfl) (by simp; omega) (by simp; omega) (by simp; omega) ?_; intro v3 w3 hap))
      go_roundg (x.vec 1 low 255).2.bs.length
      case measure =>
        have hv2 := vec_bs_len x 1 low 255
        omega
      case rel =>
        have hap' : Appended (w2.alloc (.cells #[.slice yA (x.vec 1 low 255).1.length yc] 22)) w.heap.size 22 u9 (vs ++ [.slice yA (x.vec 1 low 255).1.length yc]) v3 w3 := hap
        exact vrel_step (size := 1) (by omega) Hxe.out hxl (Nat.le_refl _) (by omega) hx hx2 hu2 hy hown hall hu hap' HE.out

set_option maxHeartbeats 1000000 in
theorem vectors_any2 (hr : Rd w N r s) {v : Value} {b : List UInt8} (hv : Byt w N v b) (hb : b.length ≤ 4294967296) (low : Nat) :
    Calls Try.prog 68 #[.pointer (some ⟨r, 0, none⟩), v, .int .i64 2, .int .i64 low] w (VectorsP w N r (s.vectors b 2 low).1 (s.vectors b 2 low).2) := by
  have hlt := hr.lt
  have hN := hr.1
  go_enter Try.func68, Try.ntmps68
  go_wp2_with (go_at_call 91; refine (within_any hr (by omega) hv).mono ?_; rintro e w1 ⟨rfl, hu1, hx1⟩)
  obtain ⟨x0, hx0⟩ : ∃ x0, s.within b = x0 := ⟨_, rfl⟩
  have hxb : x0.bs.length ≤ b.length := by rw [← hx0]; unfold R.within; simp only; split <;> simp
  have HX := hid hx0
  rw [hx0] at hx1
  clear hx0
  go_loopg [9] x0.bs.length (fun gk v wr => VRel w N w.heap.size 2 low x0 gk v wr)
  case atStart =>
    exact ⟨x0, [], rfl, by simp, hx1, ⟨[], Own.nil_ _ _ _, trivial⟩, hu1, by simp⟩
  case round =>
    obtain ⟨x, l, rfl, hxl, hx, ⟨vs, hown, hall⟩, hu, hE⟩ := hrel
    have HE := hid hE
    clear hE
    obtain ⟨A, c, c0, c1, f0, f1, hl, hc⟩ := hx.open_
    by_cases hxe : x.bs = []
    · have hz : ¬ 0 < x.bs.length := by simp [hxe]
      have Hxe := hid hxe
      clear hxe hl hc
      go_wp2_with fail
      refine (done_any (hr.upd hu (by simp) (by simp)) hx (by omega) (by omega)).mono ?_
      rintro e w2 ⟨rfl, hu2, hr2⟩
      go_wp2
      go_ret
      have hq : ∀ g, u9.ownBlock = some g → g ≠ w.heap.size := by
        obtain ⟨_, vx, hbx, _⟩ := hx
        exact hown.ne hbx (by decide)
      have hgo : ∀ size, R.vecsGo size low x.bs.length x = ([], x) := by intro size; rw [Hxe.out]; rfl
      have he := HE.out
      rw [hgo] at he
      simp only [List.append_nil] at he
      refine ⟨u9, rfl, ?_, ?_, ?_⟩
      · show Vecs w2 w.heap.size N u9 (R.vecsGo 2 low (s.within b).bs.length (s.within b)).1
        rw [HX.out, he]
        refine Vecs.upd ⟨vs, hown, hall⟩ hu2 (fun g hg hk => ?_) (by simp; omega)
        have h1 := hown.ge hg
        have h2 := hq g hg
        simp at hk
        omega
      · exact (hu.mono (by simp)).trans hu2 (by intro k hk; simp at hk ⊢; omega)
      · show Rd w2 N r (s.done (R.vecsGo 2 low (s.within b).bs.length (s.within b)).2)
        rw [HX.out, he]
        exact hr2
    · have hz : 0 < x.bs.length := List.length_pos_iff.2 hxe
      have Hxe := hid hxe
      clear hxe hl hc
      go_wp2_with fail
      refine (vec_any hx 2 low 65535 (by omega)).mono ?_
      rintro e w2 ⟨y, rfl, hu2, hx2, hy⟩
      have hn2 := hx2.lt
      have hs2 : Own w2 w.heap.size 22 u9 vs := hown.upd hu2 (fun g hg => by
        obtain ⟨_, vx, hbx, _⟩ := hx
        have := hown.ne hbx (by decide) g hg
        simpa using this)
      have hvl := hall.length
      obtain ⟨yA, yc, rfl, hy, hyl, hyc⟩ := Byt.form hy rfl
      go_wp2_with (at_builtin; go_must (refine wpList_append_row _ rfl _ _ _ rfl w.heap.size 22 (.slice none 0 0) 24 Try.underlying50 info_bytes rfl rfl (Own.upd hs2 ((Upd.refl [] _).alloc _) (by simp)) rfl (Row.one _ _ _) (by intro u hu; simp at hu; subst hu; rfl) (by simp; omega) (by simp; omega) (by simp; omega) ?_; intro v3 w3 hap))
      go_roundg (x.vec 2 low 65535).2.bs.length
      case measure =>
        have hv2 := vec_bs_len x 2 low 65535
        omega
      case rel =>
        have hap' : Appended (w2.alloc (.cells #[.slice yA (x.vec 2 low 65535).1.length yc] 22)) w.heap.size 22 u9 (vs ++ [.slice yA (x.vec 2 low 65535).1.length yc]) v3 w3 := hap
        exact vrel_step (size := 2) (by omega) Hxe.out hxl (Nat.le_refl _) (by omega) hx hx2 hu2 hy hown hall hu hap' HE.out

set_option maxHeartbeats 1000000 in
theorem vectors_any3 (hr : Rd w N r s) {v : Value} {b : List UInt8} (hv : Byt w N v b) (hb : b.length ≤ 4294967296) (low : Nat) :
    Calls Try.prog 68 #[.pointer (some ⟨r, 0, none⟩), v, .int .i64 3, .int .i64 low] w (VectorsP w N r (s.vectors b 3 low).1 (s.vectors b 3 low).2) := by
  have hlt := hr.lt
  have hN := hr.1
  go_enter Try.func68, Try.ntmps68
  go_wp2_with (go_at_call 91; refine (within_any hr (by omega) hv).mono ?_; rintro e w1 ⟨rfl, hu1, hx1⟩)
  obtain ⟨x0, hx0⟩ : ∃ x0, s.within b = x0 := ⟨_, rfl⟩
  have hxb : x0.bs.length ≤ b.length := by rw [← hx0]; unfold R.within; simp only; split <;> simp
  have HX := hid hx0
  rw [hx0] at hx1
  clear hx0
  go_loopg [9] x0.bs.length (fun gk v wr => VRel w N w.heap.size 3 low x0 gk v wr)
  case atStart =>
    exact ⟨x0, [], rfl, by simp, hx1, ⟨[], Own.nil_ _ _ _, trivial⟩, hu1, by simp⟩
  case round =>
    obtain ⟨x, l, rfl, hxl, hx, ⟨vs, hown, hall⟩, hu, hE⟩ := hrel
    have HE := hid hE
    clear hE
    obtain ⟨A, c, c0, c1, f0, f1, hl, hc⟩ := hx.open_
    by_cases hxe : x.bs = []
    · have hz : ¬ 0 < x.bs.length := by simp [hxe]
      have Hxe := hid hxe
      clear hxe hl hc
      go_wp2_with fail
      refine (done_any (hr.upd hu (by simp) (by simp)) hx (by omega) (by omega)).mono ?_
      rintro e w2 ⟨rfl, hu2, hr2⟩
      go_wp2
      go_ret
      have hq : ∀ g, u9.ownBlock = some g → g ≠ w.heap.size := by
        obtain ⟨_, vx, hbx, _⟩ := hx
        exact hown.ne hbx (by decide)
      have hgo : ∀ size, R.vecsGo size low x.bs.length x = ([], x) := by intro size; rw [Hxe.out]; rfl
      have he := HE.out
      rw [hgo] at he
      simp only [List.append_nil] at he
      refine ⟨u9, rfl, ?_, ?_, ?_⟩
      · show Vecs w2 w.heap.size N u9 (R.vecsGo 3 low (s.within b).bs.length (s.within b)).1
        rw [HX.out, he]
        refine Vecs.upd ⟨vs, hown, hall⟩ hu2 (fun g hg hk => ?_) (by simp; omega)
        have h1 := hown.ge hg
        have h2 := hq g hg
        simp at hk
        omega
      · exact (hu.mono (by simp)).trans hu2 (by intro k hk; simp at hk ⊢; omega)
      · show Rd w2 N r (s.done (R.vecsGo 3 low (s.within b).bs.length (s.within b)).2)
        rw [HX.out, he]
        exact hr2
    · have hz : 0 < x.bs.length := List.length_pos_iff.2 hxe
      have Hxe := hid hxe
      clear hxe hl hc
      go_wp2_with fail
      refine (vec_any hx 3 low 16777215 (by omega)).mono ?_
      rintro e w2 ⟨y, rfl, hu2, hx2, hy⟩
      have hn2 := hx2.lt
      have hs2 : Own w2 w.heap.size 22 u9 vs := hown.upd hu2 (fun g hg => by
        obtain ⟨_, vx, hbx, _⟩ := hx
        have := hown.ne hbx (by decide) g hg
        simpa using this)
      have hvl := hall.length
      obtain ⟨yA, yc, rfl, hy, hyl, hyc⟩ := Byt.form hy rfl
      go_wp2_with (at_builtin; go_must (refine wpList_append_row _ rfl _ _ _ rfl w.heap.size 22 (.slice none 0 0) 24 Try.underlying50 info_bytes rfl rfl (Own.upd hs2 ((Upd.refl [] _).alloc _) (by simp)) rfl (Row.one _ _ _) (by intro u hu; simp at hu; subst hu; rfl) (by simp; omega) (by simp; omega) (by simp; omega) ?_; intro v3 w3 hap))
      go_roundg (x.vec 3 low 16777215).2.bs.length
      case measure =>
        have hv2 := vec_bs_len x 3 low 16777215
        omega
      case rel =>
        have hap' : Appended (w2.alloc (.cells #[.slice yA (x.vec 3 low 16777215).1.length yc] 22)) w.heap.size 22 u9 (vs ++ [.slice yA (x.vec 3 low 16777215).1.length yc]) v3 w3 := hap
        exact vrel_step (size := 3) (by omega) Hxe.out hxl (Nat.le_refl _) (by omega) hx hx2 hu2 hy hown hall hu hap' HE.out

end
end Go.Proofs.Ytnghnifihnjfeaa

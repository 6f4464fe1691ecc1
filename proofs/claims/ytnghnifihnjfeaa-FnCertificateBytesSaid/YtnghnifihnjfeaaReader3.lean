/- Contracts of the reference's reader: words, vectors, body. -/
import Derived.Test.YtnghnifihnjfeaaReader2
import Derived.Deep.DeepMust
import Derived.Deep.LoopGhost
namespace Go.Proofs.Ytnghnifihnjfeaa
open Go.RowKit

abbrev wv (u : UInt16) : Value := .int .u16 (u.toNat : Int)
theorem info_u16 : (Try.prog.info? 42).map (fun i => (i.zero, i.size, i.bytes)) = some (some (.int .u16 0), 1, 2) := by kernel_rfl
theorem info_bytes : (Try.prog.info? 22).map (fun i => (i.zero, i.size, i.bytes)) = some (some (.slice none 0 0), 1, 24) := by kernel_rfl

section
variable {w w' : World} {N r : Nat} {s : R} {S : List Nat}

theorem words_step2 (a b : UInt8) (t : List UInt8) (c : Nat) :
    (R.mk (a :: b :: t) c).num 2 = (a.toNat * 256 + b.toNat, ⟨t, c⟩) := by
  have h : (R.mk (a :: b :: t) c).take 2 = ([a, b], ⟨t, c⟩) := by
    unfold R.take
    rw [if_neg (by simp)]
    rfl
  simp [R.num, h, beNat]
theorem words_step1 (a : UInt8) (c : Nat) : (R.mk [a] c).num 2 = (0, (R.mk [a] c).fail 3) := by
  simp [R.num, R.take, beNat]

def WordsP (w : World) (N r : Nat) (l : List UInt16) (s : R) (e : Ending) (w' : World) : Prop :=
  ∃ v, e = .returned v ∧ Own w' w.heap.size 42 v (l.map wv) ∧ Upd [r] w w' ∧ Rd w' N r s

def WRel (w : World) (N q : Nat) (x0 : R) (l0 : List UInt16) (gk : Nat) (v : Value) (wr : World) : Prop :=
  ∃ (x : R) (l : List UInt16), gk = x.bs.length ∧ l.length + x.bs.length ≤ x0.bs.length + 1 ∧ Rd wr N q x ∧ Own wr w.heap.size 42 v (l.map wv) ∧ Upd [] w wr ∧ l0 = l ++ wordsOf x.bs ∧ x.wEnd = x0.wEnd

theorem wv_ofNat (n : Nat) (h : n < 65536) : Value.int .u16 (n : Int) = wv (UInt16.ofNat n) := by
  show _ = Value.int .u16 (((UInt16.ofNat n).toNat : Nat) : Int)
  rw [UInt16.toNat_ofNat', Nat.mod_eq_of_lt h]

/-- what one round appends -/
theorem own_snoc {base : Nat} {w1 w2 : World} {v v' : Value} {l : List UInt16} (u : UInt16) (h : Appended w1 base 42 v (l.map wv ++ [wv u]) v' w2) : Own w2 base 42 v' ((l ++ [u]).map wv) := by
  rw [List.map_append]
  exact h.1

theorem wrel_step {N q : Nat} {x0 x x2 : R} {l : List UInt16} {u : UInt16} {v v3 : Value} {wr w2 w3 : World} {o : Obj} {l0 : List UInt16}
    (hxl : (l ++ [u]).length + x2.bs.length ≤ x0.bs.length + 1) (hqw : w.heap.size ≤ q) (hNw : N ≤ w.heap.size)
    (hx : Rd wr N q x) (hx2 : Rd w2 N q x2) (hu2 : Upd [q] wr w2)
    (hown : Own wr w.heap.size 42 v (l.map wv)) (hu : Upd [] w wr) (hap : Appended (w2.alloc o) w.heap.size 42 v (l.map wv ++ [wv u]) v3 w3)
    (hl0 : l0 = (l ++ [u]) ++ wordsOf x2.bs) (hE : x2.wEnd = x0.wEnd) : WRel w N q x0 l0 x2.bs.length v3 w3 := by
  obtain ⟨h1, h2, h3⟩ := hap.one
  have hq : ∀ g, v.ownBlock = some g → g ≠ q := by
    obtain ⟨_, vx, hbx, _⟩ := hx
    exact hown.ne hbx (by decide)
  refine ⟨x2, l ++ [u], rfl, hxl, hx2.upd h2 ?_ ?_, ?_, ?_, hl0, hE⟩
  · intro k hk
    have := hown.ge (Option.mem_toList.1 hk)
    omega
  · intro hk
    exact hq _ (Option.mem_toList.1 hk) rfl
  · rw [List.map_append]; exact h1
  · refine (hu.trans hu2 ?_).trans h2 ?_
    · intro k hk; right; simp at hk; omega
    · intro k hk; right; exact (hown.ge (Option.mem_toList.1 hk)).1

set_option maxHeartbeats 1000000 in
theorem words_any (hr : Rd w N r s) {v : Value} {b : List UInt8} (hv : Byt w N v b) (hb : b.length ≤ 4294967296) :
    Calls Try.prog 70 #[.pointer (some ⟨r, 0, none⟩), v] w (WordsP w N r (s.words b).1 (s.words b).2) := by
  have hlt := hr.lt
  have hN := hr.1
  go_enter Try.func70, Try.ntmps70
  go_wp2_with (go_at_call 91; refine (within_any hr (by omega) hv).mono ?_; rintro e w1 ⟨rfl, hu1, hx1⟩)
  obtain ⟨x0, hx0⟩ : ∃ x0, s.within b = x0 := ⟨_, rfl⟩
  have hxb : x0.bs.length ≤ b.length := by rw [← hx0]; unfold R.within; simp only; split <;> simp
  have HX := hid hx0
  rw [hx0] at hx1
  clear hx0
  go_loopg [5] x0.bs.length (fun gk v wr => WRel w N w.heap.size x0 (wordsOf x0.bs) gk v wr)
  case atStart =>
    exact ⟨x0, [], rfl, by simp, hx1, Own.nil_ _ _ _, hu1, by simp, rfl⟩
  case round =>
    obtain ⟨x, l, rfl, hxl, hx, hown, hu, hl0, hE⟩ := hrel
    have HL := hid hl0
    have HE := hid hE
    clear hl0 hE
    obtain ⟨A, c, c0, c1, f0, f1, hl, hc⟩ := hx.open_
    obtain ⟨bs, cd⟩ := x
    match bs with
    | [] =>
      have hz : ¬ 0 < ([] : List UInt8).length := by simp
      go_wp2_with fail
      refine (done_any (hr.upd hu (by simp) (by simp)) hx (by omega) (by omega)).mono ?_
      rintro e w2 ⟨rfl, hu2, hr2⟩
      go_wp2
      go_ret
      have hq : ∀ g, u5.ownBlock = some g → g ≠ w.heap.size := by
        obtain ⟨_, vx, hbx, _⟩ := hx
        exact hown.ne hbx (by decide)
      have hl : (s.words b).1 = l := by
        show wordsOf (s.within b).bs = l
        rw [HX.out, HL.out]; simp [wordsOf]
      have hs : (s.words b).2 = s.done ⟨[], cd⟩ := by
        show s.done (s.within b).wEnd = _
        rw [HX.out, ← HE.out]
        rfl
      refine ⟨u5, rfl, ?_, ?_, ?_⟩
      · rw [hl]
        exact hown.upd hu2 (fun g hg hk => by
          have h1 := hown.ge hg
          have h2 := hq g hg
          simp at hk
          omega)
      · exact (hu.mono (by simp)).trans hu2 (by intro k hk; simp at hk ⊢; omega)
      · rw [hs]; exact hr2
    | [a1] =>
      have hn := num_any hx 2 (by omega)
      rw [words_step1] at hn
      have HN := hid hn
      clear hn hl hc
      go_wp2_with fail
      refine HN.out.mono ?_
      rintro e w2 ⟨rfl, hu2, hx2⟩
      have hn2 := hx2.lt
      have hs2 : Own w2 w.heap.size 42 u5 (l.map wv) := hown.upd hu2 (fun g hg => by
        obtain ⟨_, vx, hbx, _⟩ := hx
        have := hown.ne hbx (by decide) g hg
        simpa using this)
      simp only [List.length_cons, List.length_nil] at hxl
      go_wp2_with (at_builtin; go_must (refine wpList_append_row _ rfl _ _ _ rfl w.heap.size 42 (.int .u16 0) 2 Try.underlying56 info_u16 rfl rfl (Own.upd hs2 ((Upd.refl [] _).alloc _) (by simp)) rfl (Row.one _ _ _) (by intro u hu; simp at hu; subst hu; rfl) (by simp; omega) (by simp; omega) (by simp; omega) ?_; intro v3 w3 hap))
      go_roundg 0
      case measure => simp
      case rel =>
        have hap' : Appended (w2.alloc (.cells #[.int .u16 0] 42)) w.heap.size 42 u5 (l.map wv ++ [wv 0]) v3 w3 := hap
        refine wrel_step (x0 := x0) (l := l) (x2 := (R.mk [a1] cd).fail 3) ?_ (Nat.le_refl _) (by omega) hx hx2 hu2 hown hu hap' ?_ ?_
        · simp [fail_bs]; omega
        · rw [HL.out, fail_bs]; simp [wordsOf]
        · rw [← HE.out]; rfl
    | a1 :: a2 :: t =>
      have hn := num_any hx 2 (by omega)
      rw [words_step2] at hn
      have h1 := a1.toNat_lt
      have h2 := a2.toNat_lt
      obtain ⟨n, hnn⟩ : ∃ n : Nat, a1.toNat * 256 + a2.toNat = n := ⟨_, rfl⟩
      have hnlt : n < 65536 := by omega
      rw [hnn] at hn
      have HN := hid hn
      have Hn := hid hnn
      clear hn hnn h1 h2 hl hc
      go_wp2_with fail
      refine HN.out.mono ?_
      rintro e w2 ⟨rfl, hu2, hx2⟩
      have hn2 := hx2.lt
      have hs2 : Own w2 w.heap.size 42 u5 (l.map wv) := hown.upd hu2 (fun g hg => by
        obtain ⟨_, vx, hbx, _⟩ := hx
        have := hown.ne hbx (by decide) g hg
        simpa using this)
      simp only [List.length_cons] at hxl
      go_wp2_with (at_builtin; go_must (refine wpList_append_row _ rfl _ _ _ rfl w.heap.size 42 (.int .u16 0) 2 Try.underlying56 info_u16 rfl rfl (Own.upd hs2 ((Upd.refl [] _).alloc _) (by simp)) rfl (Row.one _ _ _) (by intro u hu; simp at hu; subst hu; rfl) (by simp; omega) (by simp; omega) (by simp; omega) ?_; intro v3 w3 hap))
      go_roundg t.length
      case measure => simp; omega
      case rel =>
        have hap' : Appended (w2.alloc (.cells #[.int .u16 n] 42)) w.heap.size 42 u5 (l.map wv ++ [.int .u16 n]) v3 w3 := hap
        rw [wv_ofNat n hnlt] at hap'
        refine wrel_step (x0 := x0) (l := l) (x2 := ⟨t, cd⟩) ?_ (Nat.le_refl _) (by omega) hx hx2 hu2 hown hu hap' ?_ ?_
        · simp; omega
        · rw [HL.out, wordsOf, Hn.out]; simp
        · rw [← HE.out, wEnd_two]
end
end Go.Proofs.Ytnghnifihnjfeaa

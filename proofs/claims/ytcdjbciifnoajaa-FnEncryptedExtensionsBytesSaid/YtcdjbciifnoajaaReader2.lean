/- Contracts of the reference's reader: end, within, done, words, vectors, body. -/
import Derived.Test.YtcdjbciifnoajaaReader
import Derived.Test.YtcdjbciifnoajaaAppend
import Derived.Deep.LoopGhost
namespace Go.Proofs.Ytcdjbciifnoajaa
open Go.RowKit

section
variable {w w' : World} {N r : Nat} {s : R} {S : List Nat}
theorem end_any (hr : Rd w N r s) :
    Calls Try.prog 48 #[.pointer (some ⟨r, 0, none⟩)] w fun e w' => e = .returned (.tuple #[]) ∧ Upd [r] w w' ∧ Rd w' N r s.fin := by
  obtain ⟨A, c, c0, c1, f0, f1, hl, hc⟩ := hr.open_
  by_cases h : s.bs = []
  · have Hf := hid (show s.fin = s by simp [R.fin, h])
    have hz : ¬ 0 < s.bs.length := by simp [h]
    clear h
    go_enter Try.func48, Try.ntmps48
    go_wp2
    go_end0
    exact ⟨rfl, Upd.refl _ _, by rw [Hf.out]; exact hr⟩
  · have Hf := hid (show s.fin = s.fail 3 by simp [R.fin, h])
    have hz : 0 < s.bs.length := List.length_pos_iff.2 h
    clear h
    go_enter Try.func48, Try.ntmps48
    go_wp2_with (go_at_call 66; refine (fail_any hr 3).mono ?_; rintro e w1 ⟨rfl, hu1, hr1⟩)
    go_end0
    exact ⟨rfl, hu1, by rw [Hf.out]; exact hr1⟩

def WithinP (w : World) (N : Nat) (s : R) (e : Ending) (w' : World) : Prop :=
  e = .returned (.pointer (some ⟨w.heap.size, 0, none⟩)) ∧ Upd [] w w' ∧ Rd w' N w.heap.size s

theorem within_any (hr : Rd w N r s) {N' : Nat} (hN : N' ≤ w.heap.size) {v : Value} {b : List UInt8} (hv : Byt w N' v b) :
    Calls Try.prog 49 #[.pointer (some ⟨r, 0, none⟩), v] w (WithinP w N' (s.within b)) := by
  obtain ⟨A, c, c0, c1, f0, f1, hl, hc⟩ := hr.open_
  obtain ⟨A', c', rfl, hv, -⟩ := Byt.form hv rfl
  by_cases h0 : s.code = 0
  · have hz : ((s.code : Int) != 0) = false := by simp [h0]
    have H := hid (show s.within b = ⟨b, s.code⟩ by simp [R.within, h0])
    clear h0
    go_enter Try.func49, Try.ntmps49
    go_wp2
    go_ret
    rw [H.out]
    exact ⟨rfl, (Upd.refl _ _).alloc _, hN, _, Blk.new _ _ _, hv.alloc _⟩
  · have hz : ((s.code : Int) != 0) = true := by simp [h0]
    have H := hid (show s.within b = ⟨[], s.code⟩ by simp [R.within, h0])
    clear h0
    go_enter Try.func49, Try.ntmps49
    go_wp2
    go_ret
    rw [H.out]
    exact ⟨rfl, (Upd.refl _ _).alloc _, hN, .slice none 0 0, Blk.new _ _ _, Row.nil_ _ _⟩

def DoneP (w : World) (N r q : Nat) (s : R) (e : Ending) (w' : World) : Prop :=
  e = .returned (.tuple #[]) ∧ Upd [r, q] w w' ∧ Rd w' N r s

theorem done_any (hr : Rd w N r s) {q N' : Nat} {x : R} (hq : Rd w N' q x) (hne : q ≠ r) (hNq : N ≤ q) :
    Calls Try.prog 51 #[.pointer (some ⟨r, 0, none⟩), .pointer (some ⟨q, 0, none⟩)] w (DoneP w N r q (s.done x)) := by
  have hr1 : ∀ w1, Upd [q] w w1 → Rd w1 N r s := fun w1 hu => hr.upd hu (by simpa using hNq) (by simpa using Ne.symm hne)
  by_cases h0 : x.fin.code = 0
  · have hz : ((x.fin.code : Int) != 0) = false := by simp [h0]
    have H := hid (show s.done x = s by simp [R.done, h0])
    clear h0
    go_enter Try.func51, Try.ntmps51
    go_wp2_with (go_at_call 48; refine (end_any hq).mono ?_; rintro e w1 ⟨rfl, hu1, hq1⟩; obtain ⟨A, c, d0, d1, g0, g1, hl1, hc1⟩ := hq1.open_)
    go_end0
    rw [H.out]
    exact ⟨rfl, hu1.mono (by simp), hr1 _ hu1⟩
  · have hz : ((x.fin.code : Int) != 0) = true := by simp [h0]
    have H := hid (show s.done x = s.fail x.fin.code by simp [R.done, h0])
    clear h0
    go_enter Try.func51, Try.ntmps51
    go_wp2_with (go_at_call 48; refine (end_any hq).mono ?_; rintro e w1 ⟨rfl, hu1, hq1⟩; obtain ⟨A, c, d0, d1, g0, g1, hl1, hc1⟩ := hq1.open_)
    refine (fail_any (hr1 _ hu1) _).mono ?_
    rintro e w2 ⟨rfl, hu2, hr2⟩
    go_wp2
    go_end0
    rw [H.out]
    exact ⟨rfl, (hu1.mono (by simp)).trans hu2 (by simp), hr2⟩
end
end Go.Proofs.Ytcdjbciifnoajaa

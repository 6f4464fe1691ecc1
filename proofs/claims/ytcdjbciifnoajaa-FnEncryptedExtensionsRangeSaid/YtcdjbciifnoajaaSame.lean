/- Contracts of the reference's comparisons. -/
import Derived.Test.YtcdjbciifnoajaaWriter5
namespace Go.Proofs.Ytcdjbciifnoajaa
open Go.RowKit
set_option maxRecDepth 20000

section
variable {w w' : World} {v u : Value} {xs ys : List UInt8}

theorem run_string_of {B : Nat} (h : Byt w B v xs) (src dst e : TypeId) (hs : Try.prog.underlying src = some (.slice e)) (he : Try.prog.underlying e = some (.int .u8)) (hd : Try.prog.underlying dst = some .string) :
    (convert src dst v).run Try.prog w = .ok (.string ⟨xs.toArray⟩) w := by
  obtain ⟨A, c, e', h1, h2, h3, h4⟩ := h
  subst e'
  cases A with
  | none =>
    have hc := h3 rfl
    subst hc
    have hx : xs = [] := by
      have : (xs.map bv).length = 0 := by omega
      simpa using this
    subst hx
    exact run_convert_bytes_nil w src e hs he _ _ dst hd
  | some a =>
    rw [List.length_map]
    refine run_convert_bytes_back w src dst e a c xs hs he hd fun j hj => ?_
    obtain ⟨b, o, ha, _, hc⟩ := h4 (by intro e; rw [List.map_eq_nil_iff] at e; rw [e] at hj; simp at hj)
    injection ha with ha
    subst ha
    rw [add_lit]
    refine hc j _ ?_
    rw [List.getElem?_map, List.getElem?_eq_getElem hj]
    rfl

theorem same_any {B C : Nat} (hv : Byt w B v xs) (hu : Byt w C u ys) :
    Calls Try.prog 42 #[v, u] w fun e w' => e = .returned (.bool (xs == ys)) ∧ w = w' := by
  have h1 := run_string_of hv 23 9 5 Try.underlying23 Try.underlying5 Try.underlying9
  have h2 := run_string_of hu 23 9 5 Try.underlying23 Try.underlying5 Try.underlying9
  go_enter Try.func42, Try.ntmps42
  go_wp2
  go_ret
  exact ⟨rfl, rfl⟩

theorem Same_any {B C : Nat} (hv : Byt w B v xs) (hu : Byt w C u ys) :
    Calls Try.prog 53 #[v, u] w fun e w' => e = .returned (.bool (xs == ys)) ∧ w = w' := by
  go_enter Try.func53, Try.ntmps53
  go_wp2_with (go_at_call 42; refine (same_any hv hu).mono ?_; rintro e w1 ⟨rfl, rfl⟩)
  go_ret
  exact ⟨rfl, rfl⟩


/-- the value v is a slice of slices of bytes that reads as ls -/
def Lst (w : World) (B : Nat) (v : Value) (ls : List (List UInt8)) : Prop := ∃ vs, Row w B v vs ∧ All2 (fun u l => Byt w B u l) vs ls
theorem Vecs.lst {base N : Nat} {v : Value} {ls : List (List UInt8)} (h : Vecs w base N v ls) : Lst w w.heap.size v ls := by
  obtain ⟨vs, h1, h2⟩ := h
  exact ⟨vs, h1.row, h2.imp fun _ _ hb => Row.shrink hb⟩
theorem Lst.upd {B : Nat} {S : List Nat} {ls : List (List UInt8)} (h : Lst w B v ls) (hu : Upd S w w') (hs : ∀ x ∈ S, B ≤ x) : Lst w' B v ls := by
  obtain ⟨vs, h1, h2⟩ := h
  exact ⟨vs, h1.upd hu hs, h2.imp fun _ _ hb => hb.upd hu hs⟩
theorem Lst.shrink {B : Nat} {ls : List (List UInt8)} (h : Lst w B v ls) : Lst w w.heap.size v ls := by
  obtain ⟨vs, h1, h2⟩ := h
  exact ⟨vs, Row.shrink h1, h2.imp fun _ _ hb => Row.shrink hb⟩
theorem Lst.more {B C : Nat} {ls : List (List UInt8)} (h : Lst w B v ls) (hB : B ≤ C) : Lst w C v ls := by
  obtain ⟨vs, h1, h2⟩ := h
  exact ⟨vs, h1.more hB, h2.imp fun _ _ hb => hb.more hB⟩
theorem Lst.nil_ (w : World) (B : Nat) : Lst w B (.slice none 0 0) [] := ⟨[], Row.nil_ _ _, trivial⟩
theorem Lst.form {B : Nat} {ls : List (List UInt8)} (h : Lst w B v ls) : ∃ A c, v = .slice A ls.length c ∧ Lst w B (.slice A ls.length c) ls ∧ ls.length ≤ c ∧ c ≤ 9223372036854775807 := by
  have h0 := h
  obtain ⟨vs, h1, h2⟩ := h
  obtain ⟨A, c, rfl, h3, h4, h5⟩ := Row.formN h1 h2.length
  exact ⟨A, c, rfl, h0, h4, h5⟩
/-- element k -/
theorem Lst.at_ {B : Nat} {A : Option Addr} {n c : Nat} {ls : List (List UInt8)} (h : Lst w B (.slice A n c) ls) {k : Nat} (hk : k < n) :
    ∃ b o, A = some ⟨b, o, none⟩ ∧ b < B ∧ ∃ hk' : k < ls.length, ∃ A' c', w.cell? ⟨b, o + k, none⟩ = some (.slice A' (ls[k]'hk').length c') ∧ Byt w B (.slice A' (ls[k]'hk').length c') (ls[k]'hk') ∧
      (ls[k]'hk').length ≤ c' ∧ c' ≤ 9223372036854775807 := by
  obtain ⟨vs, h1, h2⟩ := h
  obtain ⟨b, o, rfl, hb, hk', hc⟩ := h1.at_ hk
  have hl : k < ls.length := by rw [← h2.length]; exact hk'
  have hy := h2.get k hk' hl
  obtain ⟨A', c', e, hy', h3, h4⟩ := Byt.form hy rfl
  exact ⟨b, o, rfl, hb, hl, A', c', by rw [hc, e], hy', h3, h4⟩

end
end Go.Proofs.Ytcdjbciifnoajaa

/- Contracts of the reference's comparisons. -/
import Derived.Test.YtnghnifihnjfeaaWriter5
namespace Go.Proofs.Ytnghnifihnjfeaa
open Go.RowKit
set_option maxRecDepth 20000

section
variable {w w' : World} {v u : Value} {xs ys : List UInt8}

theorem run_string_of {B : Nat} (h : Byt w B v xs) (src dst e : TypeId) (hs : Try.prog.underlying src = some (.slice e)) (he : Try.prog.underlying e = some (.int .u8)) (hd : Try.prog.underlying dst = some .string) :
    (convert src dst v).run Try.prog w = .ok (.string ⟨xs.toArray⟩) w := by
  obtain ⟨A, c, e', h1, h2, h3, h4⟩ := h
  subst e'
  cases A with
  | none =>
    have hc := h3 rfl
    subst hc
    have hx : xs = [] := by
      have : (xs.map bv).length = 0 := by omega
      simpa using this
    subst hx
    exact run_convert_bytes_nil w src e hs he _ _ dst hd
  | some a =>
    rw [List.length_map]
    refine run_convert_bytes_back w src dst e a c xs hs he hd fun j hj => ?_
    obtain ⟨b, o, ha, _, hc⟩ := h4 (by intro e; rw [List.map_eq_nil_iff] at e; rw [e] at hj; simp at hj)
    injection ha with ha
    subst ha
    rw [add_lit]
    refine hc j _ ?_
    rw [List.getElem?_map, List.getElem?_eq_getElem hj]
    rfl

theorem same_any {B C : Nat} (hv : Byt w B v xs) (hu : Byt w C u ys) :
    Calls Try.prog 49 #[v, u] w fun e w' => e = .returned (.bool (xs == ys)) ∧ w = w' := by
  have h1 := run_string_of hv 22 9 5 Try.underlying22 Try.underlying5 Try.underlying9
  have h2 := run_string_of hu 22 9 5 Try.underlying22 Try.underlying5 Try.underlying9
  go_enter Try.func49, Try.ntmps49
  go_wp2
  go_ret
  exact ⟨rfl, rfl⟩

theorem Same_any {B C : Nat} (hv : Byt w B v xs) (hu : Byt w C u ys) :
    Calls Try.prog 17 #[v, u] w fun e w' => e = .returned (.bool (xs == ys)) ∧ w = w' := by
  go_enter Try.func17, Try.ntmps17
  go_wp2_with (go_at_call 49; refine (same_any hv hu).mono ?_; rintro e w1 ⟨rfl, rfl⟩)
  go_ret
  exact ⟨rfl, rfl⟩

theorem be2_inj (a b : UInt16) (h : be 2 a.toNat = be 2 b.toNat) : a = b := by
  have ha := a.toNat_lt
  have hb := b.toNat_lt
  simp only [be, Nat.pow_one, Nat.pow_zero, Nat.div_one, List.cons.injEq, and_true] at h
  obtain ⟨h1, h2⟩ := h
  have h1' := congrArg UInt8.toNat h1
  have h2' := congrArg UInt8.toNat h2
  simp only [UInt8.toNat_ofNat'] at h1' h2'
  apply UInt16.toNat_inj.1
  omega
theorem wordsB_inj (al bl : List UInt16) (h : wordsB al = wordsB bl) : al = bl := by
  induction al generalizing bl with
  | nil =>
    have := congrArg List.length h
    rw [wordsB_len, wordsB_len] at this
    exact (List.eq_nil_of_length_eq_zero (by simp only [List.length_nil] at this; omega)).symm
  | cons a al ih =>
    cases bl with
    | nil =>
      have := congrArg List.length h
      rw [wordsB_len, wordsB_len] at this
      simp at this
    | cons b bl =>
      have e1 : wordsB (a :: al) = be 2 a.toNat ++ wordsB al := rfl
      have e2 : wordsB (b :: bl) = be 2 b.toNat ++ wordsB bl := rfl
      rw [e1, e2] at h
      obtain ⟨h1, h2⟩ := List.append_inj h (by rw [be_len, be_len])
      rw [be2_inj a b h1, ih bl h2]
theorem wordsB_beq (al bl : List UInt16) : (wordsB al == wordsB bl) = (al == bl) := by
  by_cases h : al = bl
  · subst h; simp
  · rw [beq_eq_false_iff_ne.2 h, beq_eq_false_iff_ne]
    exact fun e => h (wordsB_inj al bl e)

theorem run_field_writer (v b : Value) (w : World) : (Instr.field 76 (.agg #[v, b]) 0).run Try.prog w = .ok v w := by kernel_rfl

theorem sameWords_any {B C : Nat} {al bl : List UInt16} (hv : Row w B v (al.map wv)) (hu : Row w C u (bl.map wv)) (ha : al.length ≤ 1099511627776) (hb : bl.length ≤ 1099511627776) :
    Calls Try.prog 72 #[v, u] w fun e w' => e = .returned (.bool (al == bl)) ∧ Upd [] w w' := by
  have H := hid (wordsB_beq al bl)
  have hfw := run_field_writer
  go_enter Try.func72, Try.ntmps72
  go_wp2_with fail
  refine (words_any_w hv ha).mono ?_
  rintro e w1 ⟨v1, rfl, hy1, hn1, ⟨A1, n1, c1, rfl⟩, hu1⟩
  go_wp2_with fail
  have hu' := Row.upd (Row.shrink hu) hu1 (by simp)
  refine (words_any_w hu' hb).mono ?_
  rintro e w2 ⟨v2, rfl, hy2, hn2, ⟨A2, n2, c2, rfl⟩, hu2⟩
  have hy1' := Row.upd hy1 hu2 (by simp)
  go_wp2_with fail
  refine (same_any hy1' hy2).mono ?_
  rintro e w3 ⟨rfl, rfl⟩
  go_wp2
  go_ret
  refine ⟨?_, hu1.two hu2⟩
  show Ending.returned (.bool (wordsB al == wordsB bl)) = _
  rw [H.out]

/-- the value v is a slice of slices of bytes that reads as ls -/
def Lst (w : World) (B : Nat) (v : Value) (ls : List (List UInt8)) : Prop := ∃ vs, Row w B v vs ∧ All2 (fun u l => Byt w B u l) vs ls
theorem Vecs.lst {base N : Nat} {v : Value} {ls : List (List UInt8)} (h : Vecs w base N v ls) : Lst w w.heap.size v ls := by
  obtain ⟨vs, h1, h2⟩ := h
  exact ⟨vs, h1.row, h2.imp fun _ _ hb => Row.shrink hb⟩
theorem Lst.upd {B : Nat} {S : List Nat} {ls : List (List UInt8)} (h : Lst w B v ls) (hu : Upd S w w') (hs : ∀ x ∈ S, B ≤ x) : Lst w' B v ls := by
  obtain ⟨vs, h1, h2⟩ := h
  exact ⟨vs, h1.upd hu hs, h2.imp fun _ _ hb => hb.upd hu hs⟩
theorem Lst.shrink {B : Nat} {ls : List (List UInt8)} (h : Lst w B v ls) : Lst w w.heap.size v ls := by
  obtain ⟨vs, h1, h2⟩ := h
  exact ⟨vs, Row.shrink h1, h2.imp fun _ _ hb => Row.shrink hb⟩
theorem Lst.more {B C : Nat} {ls : List (List UInt8)} (h : Lst w B v ls) (hB : B ≤ C) : Lst w C v ls := by
  obtain ⟨vs, h1, h2⟩ := h
  exact ⟨vs, h1.more hB, h2.imp fun _ _ hb => hb.more hB⟩
theorem Lst.nil_ (w : World) (B : Nat) : Lst w B (.slice none 0 0) [] := ⟨[], Row.nil_ _ _, trivial⟩
theorem Lst.form {B : Nat} {ls : List (List UInt8)} (h : Lst w B v ls) : ∃ A c, v = .slice A ls.length c ∧ Lst w B (.slice A ls.length c) ls ∧ ls.length ≤ c ∧ c ≤ 9223372036854775807 := by
  have h0 := h
  obtain ⟨vs, h1, h2⟩ := h
  obtain ⟨A, c, rfl, h3, h4, h5⟩ := Row.formN h1 h2.length
  exact ⟨A, c, rfl, h0, h4, h5⟩
/-- element k -/
theorem Lst.at_ {B : Nat} {A : Option Addr} {n c : Nat} {ls : List (List UInt8)} (h : Lst w B (.slice A n c) ls) {k : Nat} (hk : k < n) :
    ∃ b o, A = some ⟨b, o, none⟩ ∧ b < B ∧ ∃ hk' : k < ls.length, ∃ A' c', w.cell? ⟨b, o + k, none⟩ = some (.slice A' (ls[k]'hk').length c') ∧ Byt w B (.slice A' (ls[k]'hk').length c') (ls[k]'hk') ∧
      (ls[k]'hk').length ≤ c' ∧ c' ≤ 9223372036854775807 := by
  obtain ⟨vs, h1, h2⟩ := h
  obtain ⟨b, o, rfl, hb, hk', hc⟩ := h1.at_ hk
  have hl : k < ls.length := by rw [← h2.length]; exact hk'
  have hy := h2.get k hk' hl
  obtain ⟨A', c', e, hy', h3, h4⟩ := Byt.form hy rfl
  exact ⟨b, o, rfl, hb, hl, A', c', by rw [hc, e], hy', h3, h4⟩

theorem lists_ne (ls ms : List (List UInt8)) (i : Nat) (h : i < ls.length) (h' : i < ms.length) (hne : ls[i] ≠ ms[i]) : (ls == ms) = false := by
  rw [beq_eq_false_iff_ne]
  rintro rfl
  exact hne rfl
theorem lists_eq (ls ms : List (List UInt8)) (hl : ls.length = ms.length) (h : ls.take ls.length = ms.take ls.length) : (ls == ms) = true := by
  rw [List.take_length, hl, List.take_length] at h
  rw [h]; simp
theorem take_more (ls ms : List (List UInt8)) (i : Nat) (h : i < ls.length) (h' : i < ms.length) (he : ls[i] = ms[i]) (ht : ls.take i = ms.take i) : ls.take (i + 1) = ms.take (i + 1) := by
  rw [List.take_succ_eq_append_getElem h, List.take_succ_eq_append_getElem h', ht, he]

set_option maxHeartbeats 1000000 in
theorem SameLists_any {B C : Nat} {ls ms : List (List UInt8)} (hv : Lst w B v ls) (hu : Lst w C u ms) :
    Calls Try.prog 40 #[v, u] w fun e w' => e = .returned (.bool (ls == ms)) ∧ w = w' := by
  obtain ⟨A, c, rfl, hv, hlc, hcm⟩ := hv.form
  obtain ⟨A2, c2, rfl, hu, hlc2, hcm2⟩ := hu.form
  by_cases hlen : ls.length = ms.length
  · have HL := hid hlen
    have hne := neq_false hlen
    clear hlen
    go_enter Try.func40, Try.ntmps40
    go_wp2_with fail
    go_loopg [5, 6, 14] ls.length (fun gk _ _ i wr => ∃ j : Nat, j + gk = ls.length ∧ i = .int .i64 j ∧ w = wr ∧ ls.take j = ms.take j)
    case atStart => exact ⟨0, by omega, rfl, rfl, by simp⟩
    case round =>
      obtain ⟨j, hj0, rfl, rfl, ht⟩ := hrel
      have HT := hid ht
      have HJ := hid hj0
      have hj : j ≤ ls.length := by omega
      clear ht hj0
      by_cases hlt : j < ls.length
      · have hlt2 : j < ms.length := by have := HL.out; omega
        obtain ⟨b, o, rfl, hb, hj1, A', c', hcell, hy, hl3, hl4⟩ := hv.at_ hlt
        obtain ⟨b2, o2, rfl, hb2, hj2, A2', c2', hcell2, hy2, hl5, hl6⟩ := hu.at_ hlt2
        go_wp2_with fail
        refine (same_any hy hy2).mono ?_
        rintro e w1 ⟨rfl, rfl⟩
        by_cases he : ls[j] = ms[j]
        · have hbe : (ls[j] == ms[j]) = true := by rw [he]; simp
          have HE := hid he
          clear he
          go_wp2
          have hj0 := HJ.out
          go_roundg (ls.length - (j + 1))
          case measure => omega
          case rel => exact ⟨j + 1, by omega, by go_num, rfl, take_more ls ms j hj1 hj2 HE.out HT.out⟩
        · have hbe : (ls[j] == ms[j]) = false := by rw [beq_eq_false_iff_ne]; exact he
          have HE := hid he
          clear he
          go_wp2
          go_ret
          exact ⟨by rw [lists_ne ls ms j hj1 hj2 HE.out]; rfl, rfl⟩
      · obtain rfl : j = ls.length := by omega
        go_wp2
        go_ret
        exact ⟨by rw [lists_eq ls ms HL.out HT.out]; rfl, rfl⟩
  · have hne := neq_true hlen
    have HL := hid (show (ls == ms) = false by rw [beq_eq_false_iff_ne]; rintro rfl; exact hlen rfl)
    clear hlen
    go_enter Try.func40, Try.ntmps40
    go_wp2
    go_ret
    exact ⟨by rw [HL.out]; rfl, rfl⟩
end
end Go.Proofs.Ytnghnifihnjfeaa

/- Texts joined: Reader, Reader2, Reader3, Reader4, Reader5. -/
import Derived.Test.YtaajmfgplhfncaaGreatChecked
import Derived.Test.YtaajmfgplhfncaaGreatBase
import Derived.BigQuiet
import Derived.Deep.QuietTactic
import Derived.Deep.LoopGhost
import Derived.Deep.DeepMust

/- Contracts of the reference's reader: each method computes its plain function. -/
namespace Go.Proofs.YtaajmfgplhfncaaGreat
open Go.RowKit

theorem info_u8 : (Tryz.prog.info? 5).map (fun i => (i.zero, i.size, i.bytes)) = some (some (.int .u8 0), 1, 1) := by kernel_rfl
theorem vec_eq (s : R) (size lo hi : Nat) {n : Nat} {s1 : R} (h : s.num size = (n, s1)) :
    s.vec size lo hi = if (s1.long n).code = 0 then (((s1.long n).take n).1, ((s1.long n).take n).2.rng n lo hi) else ([], s1.long n) := by
  simp [R.vec, h]
theorem num_lt (s : R) (size : Nat) (h : size ≤ 4) : (s.num size).1 < 4294967296 := by
  have h1 := beNat_lt (s.take size).1
  rw [take_len] at h1
  have h2 : 256 ^ size ≤ 256 ^ 4 := Nat.pow_le_pow_right (by omega) (by omega)
  show beNat (s.take size).1 < _
  omega
theorem Upd.two {S : List Nat} {a b c : World} (h : Upd S a b) (k : Upd S b c) : Upd S a c := h.trans k fun _ hx => .inl hx
def Rd (w : World) (N r : Nat) (s : R) : Prop := N ≤ r ∧ ∃ v, Blk w r 84 #[v, .int .i64 (s.code : Int)] ∧ Byt w N v s.bs

section
variable {w w' : World} {N r : Nat} {s : R} {S : List Nat}
theorem Rd.lt (h : Rd w N r s) : r < w.heap.size := by obtain ⟨_, v, hb, _⟩ := h; exact hb.lt
theorem Rd.upd (h : Rd w N r s) (hu : Upd S w w') (hs : ∀ x ∈ S, N ≤ x) (hr : r ∉ S) : Rd w' N r s := by
  obtain ⟨h1, v, h2, h3⟩ := h
  exact ⟨h1, v, h2.upd hu hr, h3.upd hu hs⟩

theorem Rd.stored {code : Int} {v v' : Value} {s' : R} (hb : Blk w r 84 #[v, .int .i64 code]) (hN : N ≤ r) {bs : List UInt8} (hv : Byt w N v' bs) (hs : s' = ⟨bs, s'.code⟩) :
    Rd ((w.setCell ⟨r, 1, none⟩ (.int .i64 (s'.code : Int))).setCell ⟨r, 0, none⟩ v') N r s' := by
  refine ⟨hN, v', ?_, ?_⟩
  · have := (hb.set_ 1 (.int .i64 (s'.code : Int))).set_ 0 v'
    simpa using this
  · rw [hs]
    exact (hv.setCell (p := ⟨r, 1, none⟩) hN _).setCell (p := ⟨r, 0, none⟩) hN _

theorem Rd.open_ (h : Rd w N r s) : ∃ A c, w.cell? ⟨r, 0, none⟩ = some (.slice A s.bs.length c) ∧ w.cell? ⟨r, 1, none⟩ = some (.int .i64 (s.code : Int)) ∧ w.frozen? ⟨r, 0, none⟩ = false ∧ w.frozen? ⟨r, 1, none⟩ = false ∧
    s.bs.length ≤ c ∧ c ≤ 9223372036854775807 := by
  obtain ⟨hN, v, hb, hv⟩ := h
  obtain ⟨A, c, rfl, hv', h1, h2⟩ := Byt.form hv rfl
  exact ⟨A, c, by rw [hb.cell]; rfl, by rw [hb.cell]; rfl, hb.frozen 0, hb.frozen 1, h1, h2⟩

theorem fail_any (hr : Rd w N r s) (c : Nat) :
    Calls Tryz.prog 48 #[.pointer (some ⟨r, 0, none⟩), .int .i64 c] w fun e w' => e = .returned (.tuple #[]) ∧ Upd [r] w w' ∧ Rd w' N r (s.fail c) := by
  obtain ⟨hN, v, hb, hv⟩ := hr
  have c0 : w.cell? ⟨r, 0, none⟩ = some v := by rw [hb.cell]; rfl
  have c1 : w.cell? ⟨r, 1, none⟩ = some (.int .i64 s.code) := by rw [hb.cell]; rfl
  have f0 : w.frozen? ⟨r, 0, none⟩ = false := hb.frozen 0
  have f1 : w.frozen? ⟨r, 1, none⟩ = false := hb.frozen 1
  by_cases h0 : s.code = 0
  · have hz : ((s.code : Int) == 0) = true := by simp [h0]
    have H0 : Hid (s.code = 0) := h0
    clear h0
    go_enter Tryz.func48, Tryz.ntmps48
    go_wp2
    go_end0
    refine ⟨rfl, ((Upd.refl _ _).setCell (by simp) _).setCell (by simp) _, ?_⟩
    have := Rd.stored (v' := .slice none 0 0) (bs := []) (s' := s.fail c) hb hN (Row.nil_ _ _) rfl
    simpa [R.fail, H0.out] using this
  · have hz : ((s.code : Int) == 0) = false := by rw [beq_eq_false_iff_ne]; omega
    go_enter Tryz.func48, Tryz.ntmps48
    go_wp2
    go_end0
    refine ⟨rfl, (Upd.refl _ _).setCell (by simp) _, hN, .slice none 0 0, ?_, ?_⟩
    · have := hb.set_ 0 (.slice none 0 0)
      simpa [R.fail, h0] using this
    · exact Row.nil_ _ _


def TakeP (w : World) (N r : Nat) (s : R) (k : Nat) (e : Ending) (w' : World) : Prop :=
  ∃ v, e = .returned v ∧ Upd [r] w w' ∧ Rd w' N r (s.take k).2 ∧ Byt w' w'.heap.size v (s.take k).1 ∧ (s.bs.length < k ∨ Byt w' N v (s.take k).1)

set_option maxHeartbeats 400000 in
theorem take_any (hr : Rd w N r s) (k : Nat) (hk : k ≤ 4294967296) :
    Calls Tryz.prog 45 #[.pointer (some ⟨r, 0, none⟩), .int .i64 k] w (TakeP w N r s k) := by
  have hr0 := hr
  obtain ⟨hN, v, hb, hv⟩ := hr
  obtain ⟨A, c, rfl⟩ := Row.form hv
  have hl := hv.lenCap
  have hcn := hv.capNone
  rw [List.length_map] at hv hb hl
  have hm := hl.2
  have hlc := hl.1
  unfold maxLen at hm
  have c0 : w.cell? ⟨r, 0, none⟩ = some (.slice A s.bs.length c) := by rw [hb.cell]; rfl
  have f0 : w.frozen? ⟨r, 0, none⟩ = false := hb.frozen 0
  by_cases h : s.bs.length < k
  · have hcode : (s.take k) = (List.replicate k 0, s.fail 3) := by simp [R.take, h]
    have H : Hid (s.take k = (List.replicate k 0, s.fail 3)) := hcode
    have hmk : ∀ u : World, (Instr.makeSlice 23 (.int .i64 (k : Int)) (.int .i64 (k : Int))).run Tryz.prog u =
        .ok (.slice (some ⟨u.heap.size, 0, none⟩) k k) (u.alloc (.cells (madeCells #[.int .u8 0] k) 5)) := fun u => by
      obtain ⟨i0, hi, hz0, hz1, hz2⟩ := info_parts info_u8
      have h := run_make (P := Tryz.prog) u 23 5 i0 (.int .u8 0) Tryz.underlying23 hi hz0 .i64 .i64 (k : Int) (k : Int) (by omega) (Int.le_refl _) (by rw [hz2]; omega) (by omega)
      rw [Int.toNat_natCast] at h
      simpa [hz1, Value.cells] using h
    clear hcode hl
    go_enter Tryz.func45, Tryz.ntmps45
    go_wp2_with (go_at_call 48; refine (fail_any hr0 3).mono ?_; rintro e w1 ⟨rfl, hu1, hr1⟩)
    go_ret
    unfold TakeP
    have hn1 : N ≤ w1.heap.size := by have := hr1.lt; omega
    rw [H.out]
    have hrow : Byt (w1.alloc (.cells (madeCells #[.int .u8 0] k) 5)) (w1.alloc (.cells (madeCells #[.int .u8 0] k) 5)).heap.size (.slice (some ⟨w1.heap.size, 0, none⟩) k k) (List.replicate k 0) := by
      refine ⟨some ⟨w1.heap.size, 0, none⟩, k, by simp, by simp, by unfold maxLen; omega, fun e => (by cases e), fun _ => ⟨w1.heap.size, 0, rfl, by simp, fun j u hu => ?_⟩⟩
      rw [(Blk.new w1 5 _).cell, Nat.zero_add, ← Array.getElem?_toList, toList_madeCells_one]
      rw [List.map_replicate] at hu
      exact hu
    exact ⟨.slice (some ⟨w1.heap.size, 0, none⟩) k k, rfl, hu1.alloc _, hr1.upd (S := []) ((Upd.refl _ _).alloc _) (by simp) (by simp), hrow, Or.inl h⟩
  · have hcode : (s.take k) = (s.bs.take k, ⟨s.bs.drop k, s.code⟩) := by simp [R.take, h]
    have H : Hid (s.take k = (s.bs.take k, ⟨s.bs.drop k, s.code⟩)) := hcode
    have hN' := hb.lt
    clear hcode hl
    go_enter Tryz.func45, Tryz.ntmps45
    go_wp2
    all_goals go_ret
    all_goals unfold TakeP
    all_goals rw [H.out]
    all_goals
      have hu : ∀ u : Value, Upd [r] w (w.setCell ⟨r, 0, none⟩ u) := fun u => (Upd.refl _ _).setCell (by simp) u
      have h1 := Byt.takeTo (k := k) (m := k) hv (by omega) (by omega) (by omega) (by intro e; have := hcn e; omega)
    · rename_i hck
      have hck' : c = k := by assumption
      have h2 := Byt.cutEnd (k := k) hv (by omega) hck'
      have h1' := h1.upd (hu (.slice A (s.bs.length - k) 0)) (by simpa using hN)
      refine ⟨.slice A k k, rfl, hu _, ⟨hN, _, ?_, h2.upd (hu _) (by simpa using hN)⟩, Row.more h1' (by simp [World.setCell]; omega), Or.inr h1'⟩
      have := hb.set_ 0 (.slice A (s.bs.length - k) 0)
      simpa using this
    · have hck' : ¬ c = k := by assumption
      have h2 := Byt.cutOff (k := k) hv (by omega) hck'
      have h1' := h1.upd (hu (.slice (A.map (·.add k)) (s.bs.length - k) (c - k))) (by simpa using hN)
      refine ⟨.slice A k k, rfl, hu _, ⟨hN, _, ?_, h2.upd (hu _) (by simpa using hN)⟩, Row.more h1' (by simp [World.setCell]; omega), Or.inr h1'⟩
      have := hb.set_ 0 (.slice (A.map (·.add k)) (s.bs.length - k) (c - k))
      simpa using this

set_option maxHeartbeats 400000 in
theorem num_any (hr : Rd w N r s) (k : Nat) (hk : k ≤ 4) :
    Calls Tryz.prog 44 #[.pointer (some ⟨r, 0, none⟩), .int .i64 k] w fun e w' => e = .returned (.int .i64 ((s.num k).1 : Int)) ∧ Upd [r] w w' ∧ Rd w' N r (s.num k).2 := by
  go_enter Tryz.func44, Tryz.ntmps44
  go_wp2_with (go_at_call 45; refine (take_any hr k (by omega)).mono ?_; rintro e w1 ⟨v, rfl, hu1, hr1, hv, -⟩; obtain ⟨A, c, rfl, hv', hkc, hcm⟩ := hv.form (take_len s k); clear hv)
  go_loop [5, 7, 12] (fun n _ i => ∃ j : Nat, j ≤ k ∧ i = .int .i64 j ∧ n = .int .i64 (beNat ((s.take k).1.take j) : Int)) (fun _ _ i => k - (intOf i).toNat)
  case atStart => exact ⟨0, Nat.zero_le _, rfl, rfl⟩
  case round =>
    obtain ⟨j, hj, rfl, rfl⟩ := hrel
    by_cases hlt : j < k
    · obtain ⟨b, o, rfl, hb, hj', hcell⟩ := hv'.at_ hlt
      have hu := ((s.take k).1[j]).toNat_lt
      have hb1 : ((beNat ((s.take k).1.take j) : Nat) : Int) ≤ 4294967296 := by
        have h1 := beNat_lt ((s.take k).1.take j)
        rw [List.length_take, take_len, Nat.min_eq_left hj] at h1
        have h2 : 256 ^ j ≤ 256 ^ 4 := Nat.pow_le_pow_right (by omega) (by omega)
        omega
      have HS : Hid (beNat ((s.take k).1.take (j + 1)) = beNat ((s.take k).1.take j) * 256 + ((s.take k).1[j]).toNat) := by
        have e : (s.take k).1.take (j + 1) = (s.take k).1.take j ++ [(s.take k).1[j]] := List.take_succ_eq_append_getElem hj'
        show _ = _
        rw [e, beNat_snoc]
      go_wp2
      go_round
      case rel => exact ⟨j + 1, by omega, by go_num, by rw [HS.out, or_byte _ _ (by omega) hu]⟩
      case measure => simp [intOf]; omega
    · obtain rfl : j = k := by omega
      go_wp2
      go_ret
      refine ⟨?_, hu1, hr1⟩
      rw [List.take_of_length_le (by rw [take_len]; omega)]
      rfl

def VecP (w : World) (N r : Nat) (s : R) (size lo hi : Nat) (e : Ending) (w' : World) : Prop :=
  ∃ v, e = .returned v ∧ Upd [r] w w' ∧ Rd w' N r (s.vec size lo hi).2 ∧ Byt w' N v (s.vec size lo hi).1




set_option maxHeartbeats 400000 in
theorem vec_any (hr : Rd w N r s) (size lo hi : Nat) (hk : size ≤ 4) :
    Calls Tryz.prog 46 #[.pointer (some ⟨r, 0, none⟩), .int .i64 size, .int .i64 lo, .int .i64 hi] w (VecP w N r s size lo hi) := by
  have hnl := num_lt s size hk
  obtain ⟨n, s1, hns⟩ : ∃ n s1, s.num size = (n, s1) := ⟨_, _, rfl⟩
  have Hve := hid (vec_eq s size lo hi hns)
  have hn1 := num_any hr size hk
  rw [hns] at hn1 hnl
  have Hns := hid hns
  clear hns
  simp only [] at hn1 hnl
  have HN := hid hn1
  clear hn1
  go_enter Tryz.func46, Tryz.ntmps46
  go_wp2_with fail
  refine (HN.out).mono ?_
  rintro e w1 ⟨rfl, hu1, hr1⟩
  obtain ⟨A, c, c0, c1, f0, f1, hl, hc⟩ := hr1.open_
  by_cases h0 : s1.code = 0
  · have hz : ((s1.code : Int) == 0) = true := by simp [h0]
    by_cases hlong : s1.bs.length < n
    · -- too long
      have Hl : Hid (s1.long n = ⟨[], 3⟩) := by
        show _ = _
        simp [R.long, R.fail, h0, hlong]
      have Hf : Hid (s1.fail 3 = ⟨[], 3⟩) := by
        show _ = _
        simp [R.fail, h0]
      clear h0
      go_wp2_with fail
      refine (fail_any hr1 3).mono ?_
      rintro e w2 ⟨rfl, hu2, hr2⟩
      rw [Hf.out] at hr2
      obtain ⟨A', c', d0, d1, -⟩ := hr2.open_
      go_wp2
      go_ret
      refine ⟨.slice none 0 0, rfl, hu1.two hu2, ?_, ?_⟩
      · rw [Hve.out, Hl.out]
        exact hr2
      · rw [Hve.out, Hl.out]
        exact Row.nil_ _ _
    · have Hl : Hid (s1.long n = s1) := by
        show _ = _
        simp [R.long, hlong]
      have Hz : Hid (s1.code = 0) := h0
      have Ht := hid (show s1.take n = (s1.bs.take n, ⟨s1.bs.drop n, s1.code⟩) by simp [R.take, hlong])
      clear h0
      go_wp2_with fail
      refine (take_any hr1 n (by omega)).mono ?_
      rintro e w2 ⟨v, rfl, hu2, hr2, -, hv⟩
      have hv' := hv.resolve_left hlong
      clear hv
      by_cases hlo : n < lo
      · have HR := hid (show ∀ x : R, x.rng n lo hi = x.fail 2 by intro x; simp [R.rng, hlo])
        go_wp2_with fail
        refine (fail_any hr2 2).mono ?_
        rintro e w3 ⟨rfl, hu3, hr3⟩
        have hN := hr2.1
        go_wp2
        go_ret
        refine ⟨v, rfl, (hu1.two hu2).two hu3, ?_, ?_⟩
        · rw [Hve.out, Hl.out, if_pos Hz.out, HR.out]
          exact hr3
        · rw [Hve.out, Hl.out, if_pos Hz.out]
          exact hv'.upd hu3 (by simpa using hN)
      · by_cases hhi : hi < n
        · have HR := hid (show ∀ x : R, x.rng n lo hi = x.fail 2 by intro x; simp [R.rng, hhi])
          go_wp2_with fail
          refine (fail_any hr2 2).mono ?_
          rintro e w3 ⟨rfl, hu3, hr3⟩
          have hN := hr2.1
          go_wp2
          go_ret
          refine ⟨v, rfl, (hu1.two hu2).two hu3, ?_, ?_⟩
          · rw [Hve.out, Hl.out, if_pos Hz.out, HR.out]
            exact hr3
          · rw [Hve.out, Hl.out, if_pos Hz.out]
            exact hv'.upd hu3 (by simpa using hN)
        · have HR := hid (show ∀ x : R, x.rng n lo hi = x by intro x; simp [R.rng, hlo, hhi])
          go_wp2
          go_ret
          refine ⟨v, rfl, hu1.two hu2, ?_, ?_⟩
          · rw [Hve.out, Hl.out, if_pos Hz.out, HR.out]
            exact hr2
          · rw [Hve.out, Hl.out, if_pos Hz.out]
            exact hv'
  · have hz : ((s1.code : Int) == 0) = false := by rw [beq_eq_false_iff_ne]; omega
    have hz' : ((s1.code : Int) != 0) = true := by simp [h0]
    have Hl := hid (show s1.long n = s1 by simp [R.long, h0])
    have H0 : Hid (s1.code ≠ 0) := h0
    clear h0
    go_wp2
    go_ret
    refine ⟨.slice none 0 0, rfl, hu1, ?_, ?_⟩
    · rw [Hve.out, Hl.out, if_neg H0.out]
      exact hr1
    · rw [Hve.out, Hl.out, if_neg H0.out]
      exact Row.nil_ _ _
end
end Go.Proofs.YtaajmfgplhfncaaGreat

/- Contracts of the reference's reader: end, within, done, words, vectors, body. -/
namespace Go.Proofs.YtaajmfgplhfncaaGreat
open Go.RowKit

section
variable {w w' : World} {N r : Nat} {s : R} {S : List Nat}
theorem end_any (hr : Rd w N r s) :
    Calls Tryz.prog 50 #[.pointer (some ⟨r, 0, none⟩)] w fun e w' => e = .returned (.tuple #[]) ∧ Upd [r] w w' ∧ Rd w' N r s.fin := by
  obtain ⟨A, c, c0, c1, f0, f1, hl, hc⟩ := hr.open_
  by_cases h : s.bs = []
  · have Hf := hid (show s.fin = s by simp [R.fin, h])
    have hz : ¬ 0 < s.bs.length := by simp [h]
    clear h
    go_enter Tryz.func50, Tryz.ntmps50
    go_wp2
    go_end0
    exact ⟨rfl, Upd.refl _ _, by rw [Hf.out]; exact hr⟩
  · have Hf := hid (show s.fin = s.fail 3 by simp [R.fin, h])
    have hz : 0 < s.bs.length := List.length_pos_iff.2 h
    clear h
    go_enter Tryz.func50, Tryz.ntmps50
    go_wp2_with (go_at_call 48; refine (fail_any hr 3).mono ?_; rintro e w1 ⟨rfl, hu1, hr1⟩)
    go_end0
    exact ⟨rfl, hu1, by rw [Hf.out]; exact hr1⟩

def WithinP (w : World) (N : Nat) (s : R) (e : Ending) (w' : World) : Prop :=
  e = .returned (.pointer (some ⟨w.heap.size, 0, none⟩)) ∧ Upd [] w w' ∧ Rd w' N w.heap.size s

theorem within_any (hr : Rd w N r s) {N' : Nat} (hN : N' ≤ w.heap.size) {v : Value} {b : List UInt8} (hv : Byt w N' v b) :
    Calls Tryz.prog 52 #[.pointer (some ⟨r, 0, none⟩), v] w (WithinP w N' (s.within b)) := by
  obtain ⟨A, c, c0, c1, f0, f1, hl, hc⟩ := hr.open_
  obtain ⟨A', c', rfl, hv, -⟩ := Byt.form hv rfl
  by_cases h0 : s.code = 0
  · have hz : ((s.code : Int) != 0) = false := by simp [h0]
    have H := hid (show s.within b = ⟨b, s.code⟩ by simp [R.within, h0])
    clear h0
    go_enter Tryz.func52, Tryz.ntmps52
    go_wp2
    go_ret
    rw [H.out]
    exact ⟨rfl, (Upd.refl _ _).alloc _, hN, _, Blk.new _ _ _, hv.alloc _⟩
  · have hz : ((s.code : Int) != 0) = true := by simp [h0]
    have H := hid (show s.within b = ⟨[], s.code⟩ by simp [R.within, h0])
    clear h0
    go_enter Tryz.func52, Tryz.ntmps52
    go_wp2
    go_ret
    rw [H.out]
    exact ⟨rfl, (Upd.refl _ _).alloc _, hN, .slice none 0 0, Blk.new _ _ _, Row.nil_ _ _⟩

def DoneP (w : World) (N r q : Nat) (s : R) (e : Ending) (w' : World) : Prop :=
  e = .returned (.tuple #[]) ∧ Upd [r, q] w w' ∧ Rd w' N r s

theorem done_any (hr : Rd w N r s) {q N' : Nat} {x : R} (hq : Rd w N' q x) (hne : q ≠ r) (hNq : N ≤ q) :
    Calls Tryz.prog 54 #[.pointer (some ⟨r, 0, none⟩), .pointer (some ⟨q, 0, none⟩)] w (DoneP w N r q (s.done x)) := by
  have hr1 : ∀ w1, Upd [q] w w1 → Rd w1 N r s := fun w1 hu => hr.upd hu (by simpa using hNq) (by simpa using Ne.symm hne)
  by_cases h0 : x.fin.code = 0
  · have hz : ((x.fin.code : Int) != 0) = false := by simp [h0]
    have H := hid (show s.done x = s by simp [R.done, h0])
    clear h0
    go_enter Tryz.func54, Tryz.ntmps54
    go_wp2_with (go_at_call 50; refine (end_any hq).mono ?_; rintro e w1 ⟨rfl, hu1, hq1⟩; obtain ⟨A, c, d0, d1, g0, g1, hl1, hc1⟩ := hq1.open_)
    go_end0
    rw [H.out]
    exact ⟨rfl, hu1.mono (by simp), hr1 _ hu1⟩
  · have hz : ((x.fin.code : Int) != 0) = true := by simp [h0]
    have H := hid (show s.done x = s.fail x.fin.code by simp [R.done, h0])
    clear h0
    go_enter Tryz.func54, Tryz.ntmps54
    go_wp2_with (go_at_call 50; refine (end_any hq).mono ?_; rintro e w1 ⟨rfl, hu1, hq1⟩; obtain ⟨A, c, d0, d1, g0, g1, hl1, hc1⟩ := hq1.open_)
    refine (fail_any (hr1 _ hu1) _).mono ?_
    rintro e w2 ⟨rfl, hu2, hr2⟩
    go_wp2
    go_end0
    rw [H.out]
    exact ⟨rfl, (hu1.mono (by simp)).trans hu2 (by simp), hr2⟩
end
end Go.Proofs.YtaajmfgplhfncaaGreat

/- Contracts of the reference's reader: words, vectors, body. -/
namespace Go.Proofs.YtaajmfgplhfncaaGreat
open Go.RowKit

abbrev wv (u : UInt16) : Value := .int .u16 (u.toNat : Int)
theorem info_u16 : (Tryz.prog.info? 22).map (fun i => (i.zero, i.size, i.bytes)) = some (some (.int .u16 0), 1, 2) := by kernel_rfl
theorem info_bytes : (Tryz.prog.info? 23).map (fun i => (i.zero, i.size, i.bytes)) = some (some (.slice none 0 0), 1, 24) := by kernel_rfl

section
variable {w w' : World} {N r : Nat} {s : R} {S : List Nat}

theorem words_step2 (a b : UInt8) (t : List UInt8) (c : Nat) :
    (R.mk (a :: b :: t) c).num 2 = (a.toNat * 256 + b.toNat, ⟨t, c⟩) := by
  have h : (R.mk (a :: b :: t) c).take 2 = ([a, b], ⟨t, c⟩) := by
    unfold R.take
    rw [if_neg (by simp)]
    rfl
  simp [R.num, h, beNat]
theorem words_step1 (a : UInt8) (c : Nat) : (R.mk [a] c).num 2 = (0, (R.mk [a] c).fail 3) := by
  simp [R.num, R.take, beNat]

def WordsP (w : World) (N r : Nat) (l : List UInt16) (s : R) (e : Ending) (w' : World) : Prop :=
  ∃ v, e = .returned v ∧ Own w' w.heap.size 22 v (l.map wv) ∧ Upd [r] w w' ∧ Rd w' N r s

def WRel (w : World) (N q : Nat) (x0 : R) (l0 : List UInt16) (gk : Nat) (v : Value) (wr : World) : Prop :=
  ∃ (x : R) (l : List UInt16), gk = x.bs.length ∧ l.length + x.bs.length ≤ x0.bs.length + 1 ∧ Rd wr N q x ∧ Own wr w.heap.size 22 v (l.map wv) ∧ Upd [] w wr ∧ l0 = l ++ wordsOf x.bs ∧ x.wEnd = x0.wEnd

theorem wv_ofNat (n : Nat) (h : n < 65536) : Value.int .u16 (n : Int) = wv (UInt16.ofNat n) := by
  show _ = Value.int .u16 (((UInt16.ofNat n).toNat : Nat) : Int)
  rw [UInt16.toNat_ofNat', Nat.mod_eq_of_lt h]

/-- what one round appends -/
theorem own_snoc {base : Nat} {w1 w2 : World} {v v' : Value} {l : List UInt16} (u : UInt16) (h : Appended w1 base 22 v (l.map wv ++ [wv u]) v' w2) : Own w2 base 22 v' ((l ++ [u]).map wv) := by
  rw [List.map_append]
  exact h.1

theorem wrel_step {N q : Nat} {x0 x x2 : R} {l : List UInt16} {u : UInt16} {v v3 : Value} {wr w2 w3 : World} {o : Obj} {l0 : List UInt16}
    (hxl : (l ++ [u]).length + x2.bs.length ≤ x0.bs.length + 1) (hqw : w.heap.size ≤ q) (hNw : N ≤ w.heap.size)
    (hx : Rd wr N q x) (hx2 : Rd w2 N q x2) (hu2 : Upd [q] wr w2)
    (hown : Own wr w.heap.size 22 v (l.map wv)) (hu : Upd [] w wr) (hap : Appended (w2.alloc o) w.heap.size 22 v (l.map wv ++ [wv u]) v3 w3)
    (hl0 : l0 = (l ++ [u]) ++ wordsOf x2.bs) (hE : x2.wEnd = x0.wEnd) : WRel w N q x0 l0 x2.bs.length v3 w3 := by
  obtain ⟨h1, h2, h3⟩ := hap.one
  have hq : ∀ g, v.ownBlock = some g → g ≠ q := by
    obtain ⟨_, vx, hbx, _⟩ := hx
    exact hown.ne hbx (by decide)
  refine ⟨x2, l ++ [u], rfl, hxl, hx2.upd h2 ?_ ?_, ?_, ?_, hl0, hE⟩
  · intro k hk
    have := hown.ge (Option.mem_toList.1 hk)
    omega
  · intro hk
    exact hq _ (Option.mem_toList.1 hk) rfl
  · rw [List.map_append]; exact h1
  · refine (hu.trans hu2 ?_).trans h2 ?_
    · intro k hk; right; simp at hk; omega
    · intro k hk; right; exact (hown.ge (Option.mem_toList.1 hk)).1

set_option maxHeartbeats 1000000 in
theorem words_any (hr : Rd w N r s) {v : Value} {b : List UInt8} (hv : Byt w N v b) (hb : b.length ≤ 4294967296) :
    Calls Tryz.prog 47 #[.pointer (some ⟨r, 0, none⟩), v] w (WordsP w N r (s.words b).1 (s.words b).2) := by
  have hlt := hr.lt
  have hN := hr.1
  go_enter Tryz.func47, Tryz.ntmps47
  go_wp2_with (go_at_call 52; refine (within_any hr (by omega) hv).mono ?_; rintro e w1 ⟨rfl, hu1, hx1⟩)
  obtain ⟨x0, hx0⟩ : ∃ x0, s.within b = x0 := ⟨_, rfl⟩
  have hxb : x0.bs.length ≤ b.length := by rw [← hx0]; unfold R.within; simp only; split <;> simp
  have HX := hid hx0
  rw [hx0] at hx1
  clear hx0
  go_loopg [5] x0.bs.length (fun gk v wr => WRel w N w.heap.size x0 (wordsOf x0.bs) gk v wr)
  case atStart =>
    exact ⟨x0, [], rfl, by simp, hx1, Own.nil_ _ _ _, hu1, by simp, rfl⟩
  case round =>
    obtain ⟨x, l, rfl, hxl, hx, hown, hu, hl0, hE⟩ := hrel
    have HL := hid hl0
    have HE := hid hE
    clear hl0 hE
    obtain ⟨A, c, c0, c1, f0, f1, hl, hc⟩ := hx.open_
    obtain ⟨bs, cd⟩ := x
    match bs with
    | [] =>
      have hz : ¬ 0 < ([] : List UInt8).length := by simp
      go_wp2_with fail
      refine (done_any (hr.upd hu (by simp) (by simp)) hx (by omega) (by omega)).mono ?_
      rintro e w2 ⟨rfl, hu2, hr2⟩
      go_wp2
      go_ret
      have hq : ∀ g, u5.ownBlock = some g → g ≠ w.heap.size := by
        obtain ⟨_, vx, hbx, _⟩ := hx
        exact hown.ne hbx (by decide)
      have hl : (s.words b).1 = l := by
        show wordsOf (s.within b).bs = l
        rw [HX.out, HL.out]; simp [wordsOf]
      have hs : (s.words b).2 = s.done ⟨[], cd⟩ := by
        show s.done (s.within b).wEnd = _
        rw [HX.out, ← HE.out]
        rfl
      refine ⟨u5, rfl, ?_, ?_, ?_⟩
      · rw [hl]
        exact hown.upd hu2 (fun g hg hk => by
          have h1 := hown.ge hg
          have h2 := hq g hg
          simp at hk
          omega)
      · exact (hu.mono (by simp)).trans hu2 (by intro k hk; simp at hk ⊢; omega)
      · rw [hs]; exact hr2
    | [a1] =>
      have hn := num_any hx 2 (by omega)
      rw [words_step1] at hn
      have HN := hid hn
      clear hn hl hc
      go_wp2_with fail
      refine HN.out.mono ?_
      rintro e w2 ⟨rfl, hu2, hx2⟩
      have hn2 := hx2.lt
      have hs2 : Own w2 w.heap.size 22 u5 (l.map wv) := hown.upd hu2 (fun g hg => by
        obtain ⟨_, vx, hbx, _⟩ := hx
        have := hown.ne hbx (by decide) g hg
        simpa using this)
      simp only [List.length_cons, List.length_nil] at hxl
      go_wp2_with (at_builtin; go_must (refine wpList_append_row _ rfl _ _ _ rfl w.heap.size 22 (.int .u16 0) 2 Tryz.underlying24 info_u16 rfl rfl (Own.upd hs2 ((Upd.refl [] _).alloc _) (by simp)) rfl (Row.one _ _ _) (by intro u hu; simp at hu; subst hu; rfl) (by simp; omega) (by simp; omega) (by simp; omega) ?_; intro v3 w3 hap))
      go_roundg 0
      case measure => simp
      case rel =>
        have hap' : Appended (w2.alloc (.cells #[.int .u16 0] 22)) w.heap.size 22 u5 (l.map wv ++ [wv 0]) v3 w3 := hap
        refine wrel_step (x0 := x0) (l := l) (x2 := (R.mk [a1] cd).fail 3) ?_ (Nat.le_refl _) (by omega) hx hx2 hu2 hown hu hap' ?_ ?_
        · simp [fail_bs]; omega
        · rw [HL.out, fail_bs]; simp [wordsOf]
        · rw [← HE.out]; rfl
    | a1 :: a2 :: t =>
      have hn := num_any hx 2 (by omega)
      rw [words_step2] at hn
      have h1 := a1.toNat_lt
      have h2 := a2.toNat_lt
      obtain ⟨n, hnn⟩ : ∃ n : Nat, a1.toNat * 256 + a2.toNat = n := ⟨_, rfl⟩
      have hnlt : n < 65536 := by omega
      rw [hnn] at hn
      have HN := hid hn
      have Hn := hid hnn
      clear hn hnn h1 h2 hl hc
      go_wp2_with fail
      refine HN.out.mono ?_
      rintro e w2 ⟨rfl, hu2, hx2⟩
      have hn2 := hx2.lt
      have hs2 : Own w2 w.heap.size 22 u5 (l.map wv) := hown.upd hu2 (fun g hg => by
        obtain ⟨_, vx, hbx, _⟩ := hx
        have := hown.ne hbx (by decide) g hg
        simpa using this)
      simp only [List.length_cons] at hxl
      go_wp2_with (at_builtin; go_must (refine wpList_append_row _ rfl _ _ _ rfl w.heap.size 22 (.int .u16 0) 2 Tryz.underlying24 info_u16 rfl rfl (Own.upd hs2 ((Upd.refl [] _).alloc _) (by simp)) rfl (Row.one _ _ _) (by intro u hu; simp at hu; subst hu; rfl) (by simp; omega) (by simp; omega) (by simp; omega) ?_; intro v3 w3 hap))
      go_roundg t.length
      case measure => simp; omega
      case rel =>
        have hap' : Appended (w2.alloc (.cells #[.int .u16 n] 22)) w.heap.size 22 u5 (l.map wv ++ [.int .u16 n]) v3 w3 := hap
        rw [wv_ofNat n hnlt] at hap'
        refine wrel_step (x0 := x0) (l := l) (x2 := ⟨t, cd⟩) ?_ (Nat.le_refl _) (by omega) hx hx2 hu2 hown hu hap' ?_ ?_
        · simp; omega
        · rw [HL.out, wordsOf, Hn.out]; simp
        · rw [← HE.out, wEnd_two]
end
end Go.Proofs.YtaajmfgplhfncaaGreat

/- Contracts of the reference's reader: vectors, body. -/
namespace Go.Proofs.YtaajmfgplhfncaaGreat
open Go.RowKit

section
variable {w w' : World} {N r : Nat} {s : R} {S : List Nat}

/-- a slice of slices of bytes whose row is the call's own, and whose elements lie below N -/
def Vecs (w : World) (base N : Nat) (v : Value) (ls : List (List UInt8)) : Prop := ∃ vs, Own w base 23 v vs ∧ All2 (fun u l => Byt w N u l) vs ls

theorem Vecs.upd {base : Nat} {v : Value} {ls : List (List UInt8)} (h : Vecs w base N v ls) (hu : Upd S w w') (hs : ∀ g, v.ownBlock = some g → g ∉ S) (hN : ∀ x ∈ S, N ≤ x) : Vecs w' base N v ls := by
  obtain ⟨vs, h1, h2⟩ := h
  exact ⟨vs, h1.upd hu hs, h2.imp fun _ _ hb => hb.upd hu hN⟩

def VectorsP (w : World) (N r : Nat) (l : List (List UInt8)) (s : R) (e : Ending) (w' : World) : Prop :=
  ∃ v, e = .returned v ∧ Vecs w' w.heap.size N v l ∧ Upd [r] w w' ∧ Rd w' N r s

def VRel (w : World) (N q size low : Nat) (x0 : R) (gk : Nat) (v : Value) (wr : World) : Prop :=
  ∃ (x : R) (l : List (List UInt8)), gk = x.bs.length ∧ l.length + x.bs.length ≤ x0.bs.length ∧ Rd wr N q x ∧ Vecs wr w.heap.size N v l ∧ Upd [] w wr ∧
    R.vecsGo size low x0.bs.length x0 = (l ++ (R.vecsGo size low x.bs.length x).1, (R.vecsGo size low x.bs.length x).2)

theorem vecsGo_unroll (size low : Nat) (hs : 1 ≤ size) (x : R) (h : x.bs ≠ []) :
    R.vecsGo size low x.bs.length x = ((x.vec size low (256 ^ size - 1)).1 :: (R.vecsGo size low (x.vec size low (256 ^ size - 1)).2.bs.length (x.vec size low (256 ^ size - 1)).2).1,
      (R.vecsGo size low (x.vec size low (256 ^ size - 1)).2.bs.length (x.vec size low (256 ^ size - 1)).2).2) := by
  have hp : 0 < x.bs.length := List.length_pos_iff.2 h
  obtain ⟨f, hf⟩ : ∃ f, x.bs.length = f + 1 := ⟨x.bs.length - 1, by omega⟩
  have hv := vec_bs_len x size low (256 ^ size - 1)
  rw [hf, R.vecsGo, if_neg h, vecsGo_eq size low hs f _ (x.vec size low (256 ^ size - 1)).2 (by omega) (Nat.le_refl _)]

theorem vrel_step {q size low : Nat} {x0 x : R} {l : List (List UInt8)} {v v3 u : Value} {vs : List Value} {wr w2 w3 : World} {o : Obj} (hs : 1 ≤ size) (hxe : x.bs ≠ [])
    (hxl : l.length + x.bs.length ≤ x0.bs.length) (hqw : w.heap.size ≤ q) (hNw : N ≤ w.heap.size)
    (hx : Rd wr N q x) (hx2 : Rd w2 N q (x.vec size low (256 ^ size - 1)).2) (hu2 : Upd [q] wr w2) (hb : Byt w2 N u (x.vec size low (256 ^ size - 1)).1)
    (hown : Own wr w.heap.size 23 v vs) (hall : All2 (fun u l => Byt wr N u l) vs l) (hu : Upd [] w wr) (hap : Appended (w2.alloc o) w.heap.size 23 v (vs ++ [u]) v3 w3)
    (hE : R.vecsGo size low x0.bs.length x0 = (l ++ (R.vecsGo size low x.bs.length x).1, (R.vecsGo size low x.bs.length x).2)) :
    VRel w N q size low x0 (x.vec size low (256 ^ size - 1)).2.bs.length v3 w3 := by
  obtain ⟨h1, h2, h3⟩ := hap.one
  have hv := vec_bs_len x size low (256 ^ size - 1)
  have hp : 0 < x.bs.length := List.length_pos_iff.2 hxe
  have hq : ∀ g, v.ownBlock = some g → g ≠ q := by
    obtain ⟨_, vx, hbx, _⟩ := hx
    exact hown.ne hbx (by decide)
  have hS : ∀ k ∈ v.ownBlock.toList, w.heap.size ≤ k ∧ k ≠ q := fun k hk => ⟨(hown.ge (Option.mem_toList.1 hk)).1, hq _ (Option.mem_toList.1 hk)⟩
  refine ⟨_, l ++ [(x.vec size low (256 ^ size - 1)).1], rfl, ?_, hx2.upd h2 ?_ ?_, ⟨vs ++ [u], h1, ?_⟩, ?_, ?_⟩
  · simp; omega
  · intro k hk
    have := hS k hk
    omega
  · intro hk
    exact (hS q hk).2 rfl
  · refine All2.snoc ?_ ?_
    · refine hall.imp fun a b hab => ?_
      exact (hab.upd hu2 (by simp; omega)).upd h2 (fun k hk => by have := hS k hk; omega)
    · exact hb.upd h2 (fun k hk => by have := hS k hk; omega)
  · refine (hu.trans hu2 ?_).trans h2 ?_
    · intro k hk; right; simp at hk; omega
    · intro k hk; right; exact (hS k hk).1
  · rw [hE, vecsGo_unroll size low hs x hxe]
    simp

set_option maxHeartbeats 1000000 in
theorem vectors_any1 (hr : Rd w N r s) {v : Value} {b : List UInt8} (hv : Byt w N v b) (hb : b.length ≤ 4294967296) (low : Nat) :
    Calls Tryz.prog 61 #[.pointer (some ⟨r, 0, none⟩), v, .int .i64 1, .int .i64 low] w (VectorsP w N r (s.vectors b 1 low).1 (s.vectors b 1 low).2) := by
  have hlt := hr.lt
  have hN := hr.1
  go_enter Tryz.func61, Tryz.ntmps61
  go_wp2_with (go_at_call 52; refine (within_any hr (by omega) hv).mono ?_; rintro e w1 ⟨rfl, hu1, hx1⟩)
  obtain ⟨x0, hx0⟩ : ∃ x0, s.within b = x0 := ⟨_, rfl⟩
  have hxb : x0.bs.length ≤ b.length := by rw [← hx0]; unfold R.within; simp only; split <;> simp
  have HX := hid hx0
  rw [hx0] at hx1
  clear hx0
  go_loopg [9] x0.bs.length (fun gk v wr => VRel w N w.heap.size 1 low x0 gk v wr)
  case atStart =>
    exact ⟨x0, [], rfl, by simp, hx1, ⟨[], Own.nil_ _ _ _, trivial⟩, hu1, by simp⟩
  case round =>
    obtain ⟨x, l, rfl, hxl, hx, ⟨vs, hown, hall⟩, hu, hE⟩ := hrel
    have HE := hid hE
    clear hE
    obtain ⟨A, c, c0, c1, f0, f1, hl, hc⟩ := hx.open_
    by_cases hxe : x.bs = []
    · have hz : ¬ 0 < x.bs.length := by simp [hxe]
      have Hxe := hid hxe
      clear hxe hl hc
      go_wp2_with fail
      refine (done_any (hr.upd hu (by simp) (by simp)) hx (by omega) (by omega)).mono ?_
      rintro e w2 ⟨rfl, hu2, hr2⟩
      go_wp2
      go_ret
      have hq : ∀ g, u9.ownBlock = some g → g ≠ w.heap.size := by
        obtain ⟨_, vx, hbx, _⟩ := hx
        exact hown.ne hbx (by decide)
      have hgo : ∀ size, R.vecsGo size low x.bs.length x = ([], x) := by intro size; rw [Hxe.out]; rfl
      have he := HE.out
      rw [hgo] at he
      simp only [List.append_nil] at he
      refine ⟨u9, rfl, ?_, ?_, ?_⟩
      · show Vecs w2 w.heap.size N u9 (R.vecsGo 1 low (s.within b).bs.length (s.within b)).1
        rw [HX.out, he]
        refine Vecs.upd ⟨vs, hown, hall⟩ hu2 (fun g hg hk => ?_) (by simp; omega)
        have h1 := hown.ge hg
        have h2 := hq g hg
        simp at hk
        omega
      · exact (hu.mono (by simp)).trans hu2 (by intro k hk; simp at hk ⊢; omega)
      · show Rd w2 N r (s.done (R.vecsGo 1 low (s.within b).bs.length (s.within b)).2)
        rw [HX.out, he]
        exact hr2
    · have hz : 0 < x.bs.length := List.length_pos_iff.2 hxe
      have Hxe := hid hxe
      clear hxe hl hc
      go_wp2_with fail
      refine (vec_any hx 1 low 255 (by omega)).mono ?_
      rintro e w2 ⟨y, rfl, hu2, hx2, hy⟩
      have hn2 := hx2.lt
      have hs2 : Own w2 w.heap.size 23 u9 vs := hown.upd hu2 (fun g hg => by
        obtain ⟨_, vx, hbx, _⟩ := hx
        have := hown.ne hbx (by decide) g hg
        simpa using this)
      have hvl := hall.length
      obtain ⟨yA, yc, rfl, hy, hyl, hyc⟩ := Byt.form hy rfl
      go_wp2_with (at_builtin; go_must (refine wpList_append_row _ rfl _ _ _ rfl w.heap.size 23 (.slice none 0 0) 24 Tryz.underlying26 info_bytes rfl rfl (Own.upd hs2 ((Upd.refl [] _).alloc _) (by simp)) rfl (Row.one _ _ _) (by intro u hu; simp at hu; subst hu; rfl) (by simp; omega) (by simp; omega) (by simp; omega) ?_; intro v3 w3 hap))
      go_roundg (x.vec 1 low 255).2.bs.length
      case measure =>
        have hv2 := vec_bs_len x 1 low 255
        omega
      case rel =>
        have hap' : Appended (w2.alloc (.cells #[.slice yA (x.vec 1 low 255).1.length yc] 23)) w.heap.size 23 u9 (vs ++ [.slice yA (x.vec 1 low 255).1.length yc]) v3 w3 := hap
        exact vrel_step (size := 1) (by omega) Hxe.out hxl (Nat.le_refl _) (by omega) hx hx2 hu2 hy hown hall hu hap' HE.out

set_option maxHeartbeats 1000000 in
theorem vectors_any2 (hr : Rd w N r s) {v : Value} {b : List UInt8} (hv : Byt w N v b) (hb : b.length ≤ 4294967296) (low : Nat) :
    Calls Tryz.prog 61 #[.pointer (some ⟨r, 0, none⟩), v, .int .i64 2, .int .i64 low] w (VectorsP w N r (s.vectors b 2 low).1 (s.vectors b 2 low).2) := by
  have hlt := hr.lt
  have hN := hr.1
  go_enter Tryz.func61, Tryz.ntmps61
  go_wp2_with (go_at_call 52; refine (within_any hr (by omega) hv).mono ?_; rintro e w1 ⟨rfl, hu1, hx1⟩)
  obtain ⟨x0, hx0⟩ : ∃ x0, s.within b = x0 := ⟨_, rfl⟩
  have hxb : x0.bs.length ≤ b.length := by rw [← hx0]; unfold R.within; simp only; split <;> simp
  have HX := hid hx0
  rw [hx0] at hx1
  clear hx0
  go_loopg [9] x0.bs.length (fun gk v wr => VRel w N w.heap.size 2 low x0 gk v wr)
  case atStart =>
    exact ⟨x0, [], rfl, by simp, hx1, ⟨[], Own.nil_ _ _ _, trivial⟩, hu1, by simp⟩
  case round =>
    obtain ⟨x, l, rfl, hxl, hx, ⟨vs, hown, hall⟩, hu, hE⟩ := hrel
    have HE := hid hE
    clear hE
    obtain ⟨A, c, c0, c1, f0, f1, hl, hc⟩ := hx.open_
    by_cases hxe : x.bs = []
    · have hz : ¬ 0 < x.bs.length := by simp [hxe]
      have Hxe := hid hxe
      clear hxe hl hc
      go_wp2_with fail
      refine (done_any (hr.upd hu (by simp) (by simp)) hx (by omega) (by omega)).mono ?_
      rintro e w2 ⟨rfl, hu2, hr2⟩
      go_wp2
      go_ret
      have hq : ∀ g, u9.ownBlock = some g → g ≠ w.heap.size := by
        obtain ⟨_, vx, hbx, _⟩ := hx
        exact hown.ne hbx (by decide)
      have hgo : ∀ size, R.vecsGo size low x.bs.length x = ([], x) := by intro size; rw [Hxe.out]; rfl
      have he := HE.out
      rw [hgo] at he
      simp only [List.append_nil] at he
      refine ⟨u9, rfl, ?_, ?_, ?_⟩
      · show Vecs w2 w.heap.size N u9 (R.vecsGo 2 low (s.within b).bs.length (s.within b)).1
        rw [HX.out, he]
        refine Vecs.upd ⟨vs, hown, hall⟩ hu2 (fun g hg hk => ?_) (by simp; omega)
        have h1 := hown.ge hg
        have h2 := hq g hg
        simp at hk
        omega
      · exact (hu.mono (by simp)).trans hu2 (by intro k hk; simp at hk ⊢; omega)
      · show Rd w2 N r (s.done (R.vecsGo 2 low (s.within b).bs.length (s.within b)).2)
        rw [HX.out, he]
        exact hr2
    · have hz : 0 < x.bs.length := List.length_pos_iff.2 hxe
      have Hxe := hid hxe
      clear hxe hl hc
      go_wp2_with fail
      refine (vec_any hx 2 low 65535 (by omega)).mono ?_
      rintro e w2 ⟨y, rfl, hu2, hx2, hy⟩
      have hn2 := hx2.lt
      have hs2 : Own w2 w.heap.size 23 u9 vs := hown.upd hu2 (fun g hg => by
        obtain ⟨_, vx, hbx, _⟩ := hx
        have := hown.ne hbx (by decide) g hg
        simpa using this)
      have hvl := hall.length
      obtain ⟨yA, yc, rfl, hy, hyl, hyc⟩ := Byt.form hy rfl
      go_wp2_with (at_builtin; go_must (refine wpList_append_row _ rfl _ _ _ rfl w.heap.size 23 (.slice none 0 0) 24 Tryz.underlying26 info_bytes rfl rfl (Own.upd hs2 ((Upd.refl [] _).alloc _) (by simp)) rfl (Row.one _ _ _) (by intro u hu; simp at hu; subst hu; rfl) (by simp; omega) (by simp; omega) (by simp; omega) ?_; intro v3 w3 hap))
      go_roundg (x.vec 2 low 65535).2.bs.length
      case measure =>
        have hv2 := vec_bs_len x 2 low 65535
        omega
      case rel =>
        have hap' : Appended (w2.alloc (.cells #[.slice yA (x.vec 2 low 65535).1.length yc] 23)) w.heap.size 23 u9 (vs ++ [.slice yA (x.vec 2 low 65535).1.length yc]) v3 w3 := hap
        exact vrel_step (size := 2) (by omega) Hxe.out hxl (Nat.le_refl _) (by omega) hx hx2 hu2 hy hown hall hu hap' HE.out

set_option maxHeartbeats 1000000 in
theorem vectors_any3 (hr : Rd w N r s) {v : Value} {b : List UInt8} (hv : Byt w N v b) (hb : b.length ≤ 4294967296) (low : Nat) :
    Calls Tryz.prog 61 #[.pointer (some ⟨r, 0, none⟩), v, .int .i64 3, .int .i64 low] w (VectorsP w N r (s.vectors b 3 low).1 (s.vectors b 3 low).2) := by
  have hlt := hr.lt
  have hN := hr.1
  go_enter Tryz.func61, Tryz.ntmps61
  go_wp2_with (go_at_call 52; refine (within_any hr (by omega) hv).mono ?_; rintro e w1 ⟨rfl, hu1, hx1⟩)
  obtain ⟨x0, hx0⟩ : ∃ x0, s.within b = x0 := ⟨_, rfl⟩
  have hxb : x0.bs.length ≤ b.length := by rw [← hx0]; unfold R.within; simp only; split <;> simp
  have HX := hid hx0
  rw [hx0] at hx1
  clear hx0
  go_loopg [9] x0.bs.length (fun gk v wr => VRel w N w.heap.size 3 low x0 gk v wr)
  case atStart =>
    exact ⟨x0, [], rfl, by simp, hx1, ⟨[], Own.nil_ _ _ _, trivial⟩, hu1, by simp⟩
  case round =>
    obtain ⟨x, l, rfl, hxl, hx, ⟨vs, hown, hall⟩, hu, hE⟩ := hrel
    have HE := hid hE
    clear hE
    obtain ⟨A, c, c0, c1, f0, f1, hl, hc⟩ := hx.open_
    by_cases hxe : x.bs = []
    · have hz : ¬ 0 < x.bs.length := by simp [hxe]
      have Hxe := hid hxe
      clear hxe hl hc
      go_wp2_with fail
      refine (done_any (hr.upd hu (by simp) (by simp)) hx (by omega) (by omega)).mono ?_
      rintro e w2 ⟨rfl, hu2, hr2⟩
      go_wp2
      go_ret
      have hq : ∀ g, u9.ownBlock = some g → g ≠ w.heap.size := by
        obtain ⟨_, vx, hbx, _⟩ := hx
        exact hown.ne hbx (by decide)
      have hgo : ∀ size, R.vecsGo size low x.bs.length x = ([], x) := by intro size; rw [Hxe.out]; rfl
      have he := HE.out
      rw [hgo] at he
      simp only [List.append_nil] at he
      refine ⟨u9, rfl, ?_, ?_, ?_⟩
      · show Vecs w2 w.heap.size N u9 (R.vecsGo 3 low (s.within b).bs.length (s.within b)).1
        rw [HX.out, he]
        refine Vecs.upd ⟨vs, hown, hall⟩ hu2 (fun g hg hk => ?_) (by simp; omega)
        have h1 := hown.ge hg
        have h2 := hq g hg
        simp at hk
        omega
      · exact (hu.mono (by simp)).trans hu2 (by intro k hk; simp at hk ⊢; omega)
      · show Rd w2 N r (s.done (R.vecsGo 3 low (s.within b).bs.length (s.within b)).2)
        rw [HX.out, he]
        exact hr2
    · have hz : 0 < x.bs.length := List.length_pos_iff.2 hxe
      have Hxe := hid hxe
      clear hxe hl hc
      go_wp2_with fail
      refine (vec_any hx 3 low 16777215 (by omega)).mono ?_
      rintro e w2 ⟨y, rfl, hu2, hx2, hy⟩
      have hn2 := hx2.lt
      have hs2 : Own w2 w.heap.size 23 u9 vs := hown.upd hu2 (fun g hg => by
        obtain ⟨_, vx, hbx, _⟩ := hx
        have := hown.ne hbx (by decide) g hg
        simpa using this)
      have hvl := hall.length
      obtain ⟨yA, yc, rfl, hy, hyl, hyc⟩ := Byt.form hy rfl
      go_wp2_with (at_builtin; go_must (refine wpList_append_row _ rfl _ _ _ rfl w.heap.size 23 (.slice none 0 0) 24 Tryz.underlying26 info_bytes rfl rfl (Own.upd hs2 ((Upd.refl [] _).alloc _) (by simp)) rfl (Row.one _ _ _) (by intro u hu; simp at hu; subst hu; rfl) (by simp; omega) (by simp; omega) (by simp; omega) ?_; intro v3 w3 hap))
      go_roundg (x.vec 3 low 16777215).2.bs.length
      case measure =>
        have hv2 := vec_bs_len x 3 low 16777215
        omega
      case rel =>
        have hap' : Appended (w2.alloc (.cells #[.slice yA (x.vec 3 low 16777215).1.length yc] 23)) w.heap.size 23 u9 (vs ++ [.slice yA (x.vec 3 low 16777215).1.length yc]) v3 w3 := hap
        exact vrel_step (size := 3) (by omega) Hxe.out hxl (Nat.le_refl _) (by omega) hx hx2 hu2 hy hown hall hu hap' HE.out

end
end Go.Proofs.YtaajmfgplhfncaaGreat

/- Contract of the reference's reader: body, the head of a message. -/
namespace Go.Proofs.YtaajmfgplhfncaaGreat
open Go.RowKit

section
variable {w w' : World} {N r : Nat} {s : R} {S : List Nat}

theorem neq_true {a b : Nat} (h : a ≠ b) : (((a : Int) != (b : Int)) = true) := by rw [bne_iff_ne]; omega
theorem neq_false {a b : Nat} (h : a = b) : (((a : Int) != (b : Int)) = false) := by subst h; simp

/-- what 'body' leaves behind its number -/
def bodyK (kind : Nat) (data : List UInt8) : R := if ((R.mk data 0).num 1).1 = kind then ((R.mk data 0).num 1).2 else ((R.mk data 0).num 1).2.fail 1
theorem bodyR_eq (kind : Nat) (data : List UInt8) (h : ¬ data.length < 4) :
    bodyR kind data = if ((bodyK kind data).num 3).1 = ((bodyK kind data).num 3).2.bs.length then ((bodyK kind data).num 3).2 else ((bodyK kind data).num 3).2.fail 1 := by
  unfold bodyR
  simp only [if_neg h]
  rfl

def BodyMid (w : World) (N : Nat) (kind : Nat) (data : List UInt8) (w' : World) : Prop :=
  Upd [] w w' ∧ Rd w' N w.heap.size (bodyK kind data)

set_option maxHeartbeats 1000000 in
theorem body_any {N : Nat} (hN : N ≤ w.heap.size) {v : Value} {data : List UInt8} (hv : Byt w N v data) (kind : Nat) :
    Calls Tryz.prog 43 #[.int .i64 kind, v] w (WithinP w N (bodyR kind data)) := by
  obtain ⟨A, c, rfl, hv, hl, hc⟩ := Byt.form hv rfl
  have hr0 : Rd (w.alloc (.cells #[.slice A data.length c, .int .i64 0] 84)) N w.heap.size ⟨data, 0⟩ := ⟨hN, _, Blk.new _ _ _, hv.alloc _⟩
  by_cases h4 : data.length < 4
  · have H := hid (show bodyR kind data = (R.mk data 0).fail 1 by simp [bodyR, h4])
    go_enter Tryz.func43, Tryz.ntmps43
    go_wp2_with fail
    refine (fail_any hr0 1).mono ?_
    rintro e w1 ⟨rfl, hu1, hr1⟩
    go_wp2
    go_ret
    rw [H.out]
    exact ⟨rfl, ((Upd.refl [] w).alloc _).trans hu1 (by simp), hr1⟩
  · have H := hid (bodyR_eq kind data h4)
    have hn1 := num_any hr0 1 (by omega)
    go_enter Tryz.func43, Tryz.ntmps43
    go_wp2_with fail
    refine hn1.mono ?_
    rintro e w1 ⟨rfl, hu1, hr1⟩
    have hmid : ∀ w2, Upd [] w w2 → Rd w2 N w.heap.size (bodyK kind data) → True := fun _ _ _ => trivial
    by_cases hk : ((R.mk data 0).num 1).1 = kind
    · have Hk := hid (show bodyK kind data = ((R.mk data 0).num 1).2 by unfold bodyK; rw [if_pos hk])
      have hne := neq_false hk
      clear hk
      rw [← Hk.out] at hr1
      go_wp2_with fail
      refine (num_any hr1 3 (by omega)).mono ?_
      rintro e w2 ⟨rfl, hu2, hr2⟩
      obtain ⟨A2, c2, d0, d1, g0, g1, hl2, hc2⟩ := hr2.open_
      by_cases hL : ((bodyK kind data).num 3).1 = ((bodyK kind data).num 3).2.bs.length
      · have hne2 := neq_false hL
        rw [if_pos hL] at H
        clear hL
        go_wp2
        go_ret
        rw [H.out]
        exact ⟨rfl, (((Upd.refl [] w).alloc _).trans hu1 (by simp)).trans hu2 (by simp), hr2⟩
      · have hne2 := neq_true hL
        rw [if_neg hL] at H
        clear hL
        go_wp2_with fail
        refine (fail_any hr2 1).mono ?_
        rintro e w3 ⟨rfl, hu3, hr3⟩
        go_wp2
        go_ret
        rw [H.out]
        exact ⟨rfl, ((((Upd.refl [] w).alloc _).trans hu1 (by simp)).trans hu2 (by simp)).trans hu3 (by simp), hr3⟩
    · have Hk := hid (show bodyK kind data = ((R.mk data 0).num 1).2.fail 1 by unfold bodyK; rw [if_neg hk])
      have hne := neq_true hk
      clear hk
      go_wp2_with fail
      refine (fail_any hr1 1).mono ?_
      rintro e w1' ⟨rfl, hu1', hr1'⟩
      rw [← Hk.out] at hr1'
      go_wp2_with fail
      refine (num_any hr1' 3 (by omega)).mono ?_
      rintro e w2 ⟨rfl, hu2, hr2⟩
      obtain ⟨A2, c2, d0, d1, g0, g1, hl2, hc2⟩ := hr2.open_
      by_cases hL : ((bodyK kind data).num 3).1 = ((bodyK kind data).num 3).2.bs.length
      · have hne2 := neq_false hL
        rw [if_pos hL] at H
        clear hL
        go_wp2
        go_ret
        rw [H.out]
        exact ⟨rfl, ((((Upd.refl [] w).alloc _).trans hu1 (by simp)).trans hu1' (by simp)).trans hu2 (by simp), hr2⟩
      · have hne2 := neq_true hL
        rw [if_neg hL] at H
        clear hL
        go_wp2_with fail
        refine (fail_any hr2 1).mono ?_
        rintro e w3 ⟨rfl, hu3, hr3⟩
        go_wp2
        go_ret
        rw [H.out]
        exact ⟨rfl, (((((Upd.refl [] w).alloc _).trans hu1 (by simp)).trans hu1' (by simp)).trans hu2 (by simp)).trans hu3 (by simp), hr3⟩
end
end Go.Proofs.YtaajmfgplhfncaaGreat

/- The messages without fields. -/
import Derived.Test.YtnghnifihnjfeaaMsg
namespace Go.Proofs.Ytnghnifihnjfeaa
open Go.RowKit
set_option maxRecDepth 100000

section
variable {w w0 w' : World} {v content : Value} {xs data : List UInt8} {m B : Nat} {e : Ending} {p : Option Addr}

theorem byt_new (w : World) (bs : List UInt8) (hl : bs.length ≤ 1000) : Byt (w.alloc (.cells (bs.map bv).toArray 5)) (w.heap.size + 1) (.slice (some ⟨w.heap.size, 0, none⟩) bs.length bs.length) bs := by
  refine ⟨some ⟨w.heap.size, 0, none⟩, bs.length, by simp, by simp, by unfold maxLen; omega, fun e => (by cases e), fun _ => ⟨w.heap.size, 0, rfl, by omega, fun j u hu => ?_⟩⟩
  rw [(Blk.new w 5 _).cell, Nat.zero_add]
  simpa using hu

theorem bytes_new (w : World) (bs : List UInt8) (hl : bs.length ≤ 1000) : BytesP w (some bs) (.returned (.tuple #[.slice (some ⟨w.heap.size, 0, none⟩) bs.length bs.length, .nilIface])) (w.alloc (.cells (bs.map bv).toArray 5)) :=
  ⟨(Upd.refl _ _).alloc _, _, rfl, by simpa using byt_new w bs hl, fun k hk => by simp [Value.ownBlock] at hk; omega, ⟨_, _, _, rfl⟩⟩
theorem make4 (u : World) : (Instr.makeSlice 22 (.int .i64 4) (.int .i64 4)).run Try.prog u =
    .ok (.slice (some ⟨u.heap.size, 0, none⟩) 4 4) (u.alloc (.cells #[.int .u8 0, .int .u8 0, .int .u8 0, .int .u8 0] 5)) := by
  obtain ⟨i0, hi, hz0, hz1, hz2⟩ := info_parts info_u8
  have h := run_make (P := Try.prog) u 22 5 i0 (.int .u8 0) Try.underlying22 hi hz0 .i64 .i64 4 4 (by omega) (Int.le_refl _) (by rw [hz2]; omega) (by omega)
  have e : madeCells #[.int .u8 0] 4 = #[.int .u8 0, .int .u8 0, .int .u8 0, .int .u8 0] := by kernel_rfl
  simpa [hz1, Value.cells, e] using h

theorem marshal_hello : Calls Try.prog 77 #[.pointer p] w (BytesP w (some [0, 0, 0, 0])) := by
  go_enter Try.func77, Try.ntmps77
  go_wp2
  go_ret2
  exact bytes_new w [0, 0, 0, 0] (by simp)
theorem marshal_done : Calls Try.prog 78 #[.pointer p] w (BytesP w (some [14, 0, 0, 0])) := by
  have hmk := make4
  go_enter Try.func78, Try.ntmps78
  go_wp2
  go_ret2
  exact bytes_new w [14, 0, 0, 0] (by simp)
theorem marshal_early : Calls Try.prog 79 #[.pointer p] w (BytesP w (some [5, 0, 0, 0])) := by
  have hmk := make4
  go_enter Try.func79, Try.ntmps79
  go_wp2
  go_ret2
  exact bytes_new w [5, 0, 0, 0] (by simp)

def Is4P (w : World) (data : List UInt8) (e : Ending) (w' : World) : Prop := e = .returned (.bool (decide (data.length = 4))) ∧ Upd [] w w'
theorem unmarshal_hello (hv : Byt w B v data) : Calls Try.prog 80 #[.pointer p, v] w (Is4P w data) := by
  obtain ⟨A, c, rfl, hv, hl, hc⟩ := Byt.form hv rfl
  have H := hid (show ((data.length : Int) == 4) = decide (data.length = 4) by rw [Bool.eq_iff_iff]; simp; omega)
  go_enter Try.func80, Try.ntmps80
  go_wp2
  go_ret
  exact ⟨by rw [← H.out]; rfl, Upd.refl _ _⟩
theorem unmarshal_done (hv : Byt w B v data) : Calls Try.prog 81 #[.pointer p, v] w (Is4P w data) := by
  obtain ⟨A, c, rfl, hv, hl, hc⟩ := Byt.form hv rfl
  have H := hid (show ((data.length : Int) == 4) = decide (data.length = 4) by rw [Bool.eq_iff_iff]; simp; omega)
  go_enter Try.func81, Try.ntmps81
  go_wp2
  go_ret
  exact ⟨by rw [← H.out]; rfl, Upd.refl _ _⟩
theorem unmarshal_early (hv : Byt w B v data) : Calls Try.prog 82 #[.pointer p, v] w (Is4P w data) := by
  obtain ⟨A, c, rfl, hv, hl, hc⟩ := Byt.form hv rfl
  have H := hid (show ((data.length : Int) == 4) = decide (data.length = 4) by rw [Bool.eq_iff_iff]; simp; omega)
  go_enter Try.func82, Try.ntmps82
  go_wp2
  go_ret
  exact ⟨by rw [← H.out]; rfl, Upd.refl _ _⟩

/-- the number of the message -/
def kindE (i : Nat) : Nat := if i = 0 then 0 else if i = 1 then 14 else 5
def bytesE (i : Nat) : List UInt8 := [UInt8.ofNat (kindE i), 0, 0, 0]
def EmptiesP (w : World) (e : Ending) (w' : World) : Prop := e = .returned (.slice (some ⟨w.heap.size, 0, none⟩) 3 3) ∧ w' = w.alloc (.cells #[.int .i64 0, .int .i64 14, .int .i64 5] 3)
theorem empties_any : Calls Try.prog 20 #[] w (EmptiesP w) := by
  go_enter Try.func20, Try.ntmps20
  go_wp2
  go_ret
  exact ⟨rfl, rfl⟩

theorem tls_MarshalEmpty (i : Nat) (hi : i < 3) : Calls Try.prog 53 #[.int .i64 (i : Int)] w (BytesP w (some (bytesE i))) := by
  have h3 : i = 0 ∨ i = 1 ∨ i = 2 := by omega
  rcases h3 with rfl | rfl | rfl
  · go_enter Try.func53, Try.ntmps53
    go_wp2_with fail
    refine marshal_hello.mono ?_
    intro e w1 hp
    obtain ⟨A, n, c, x, rfl⟩ := hp.pair
    go_wp2
    go_ret2
    exact hp.up ((Upd.refl _ _).alloc _)
  · go_enter Try.func53, Try.ntmps53
    go_wp2_with fail
    refine marshal_done.mono ?_
    intro e w1 hp
    obtain ⟨A, n, c, x, rfl⟩ := hp.pair
    go_wp2
    go_ret2
    exact hp.up ((Upd.refl _ _).alloc _)
  · go_enter Try.func53, Try.ntmps53
    go_wp2_with fail
    refine marshal_early.mono ?_
    intro e w1 hp
    obtain ⟨A, n, c, x, rfl⟩ := hp.pair
    go_wp2
    go_ret2
    exact hp.up ((Upd.refl _ _).alloc _)
theorem impl_MarshalEmpty (i : Nat) (hi : i < 3) : Calls Try.prog 22 #[.int .i64 (i : Int)] w (MadeP w (some (bytesE i))) := by
  have H1 := hid (tls_MarshalEmpty (w := w) i hi)
  go_enter Try.func22, Try.ntmps22
  go_wp2_with fail
  refine (H1.out).mono ?_
  intro e w1 hp
  have q1 := eql_err_nil
  have q2 := eql_err_some
  obtain ⟨A, n, c, ⟨rfl, hr⟩ | ⟨t, x, rfl, hr⟩⟩ := hp.two
  all_goals
    have HR := hid hr
    clear hr
    go_wp2_with fail
    go_quiet (fail)
    go_wp2
    go_ret2
    exact HR.out _
theorem tls_UnmarshalEmpty (i : Nat) (hi : i < 3) (hv : Byt w B v data) : Calls Try.prog 54 #[.int .i64 (i : Int), v] w (Is4P w data) := by
  obtain ⟨A, c, rfl, hv, hl, hc⟩ := Byt.form hv rfl
  have h3 : i = 0 ∨ i = 1 ∨ i = 2 := by omega
  rcases h3 with rfl | rfl | rfl
  · go_enter Try.func54, Try.ntmps54
    go_wp2_with fail
    refine (unmarshal_hello (Row.alloc hv _)).mono ?_
    rintro e w1 ⟨rfl, hu⟩
    go_wp2
    go_ret
    exact ⟨rfl, ((Upd.refl [] w).alloc _).trans hu (by simp)⟩
  · go_enter Try.func54, Try.ntmps54
    go_wp2_with fail
    refine (unmarshal_done (Row.alloc hv _)).mono ?_
    rintro e w1 ⟨rfl, hu⟩
    go_wp2
    go_ret
    exact ⟨rfl, ((Upd.refl [] w).alloc _).trans hu (by simp)⟩
  · go_enter Try.func54, Try.ntmps54
    go_wp2_with fail
    refine (unmarshal_early (Row.alloc hv _)).mono ?_
    rintro e w1 ⟨rfl, hu⟩
    go_wp2
    go_ret
    exact ⟨rfl, ((Upd.refl [] w).alloc _).trans hu (by simp)⟩
theorem impl_UnmarshalEmpty (i : Nat) (hi : i < 3) (hv : Byt w B v data) : Calls Try.prog 23 #[.int .i64 (i : Int), v] w (Is4P w data) := by
  obtain ⟨A, c, rfl, hv, hl, hc⟩ := Byt.form hv rfl
  have H1 := hid (tls_UnmarshalEmpty i hi hv)
  go_enter Try.func23, Try.ntmps23
  go_wp2_with fail
  refine (H1.out).mono ?_
  rintro e w1 ⟨rfl, hu⟩
  go_wp2
  go_ret
  exact ⟨rfl, hu⟩
end
end Go.Proofs.Ytnghnifihnjfeaa

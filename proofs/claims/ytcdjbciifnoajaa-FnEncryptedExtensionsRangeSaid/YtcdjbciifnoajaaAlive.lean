/- MarshalKeyUpdate and the law's 'alive'. -/
import Derived.Test.YtcdjbciifnoajaaKeyUpdate
namespace Go.Proofs.Ytcdjbciifnoajaa
open Go.RowKit
set_option maxRecDepth 100000

section
variable {w w0 w' : World} {v v2 content : Value} {xs bs : List UInt8} {st : Option (List UInt8)} {S : List Nat} {e : Ending}

theorem eql_err_nil (w : World) : (binOp .eql 76 .nilIface .nilIface).run Try.prog w = .ok (.bool true) w := by kernel_rfl
theorem eql_err_some (w : World) (t : TypeId) (x : Value) : (binOp .eql 76 (.iface t x) .nilIface).run Try.prog w = .ok (.bool false) w := by kernel_rfl

/-- what impl's makers hand back: the bytes and true, or nothing and false -/
def MadeP (w0 : World) (st : Option (List UInt8)) (e : Ending) (w' : World) : Prop :=
  Upd [] w0 w' ∧ match st with
  | some bs => ∃ u, e = .returned (.tuple #[u, .bool true]) ∧ Byt w' w'.heap.size u bs ∧ NewFrom w0.heap.size u ∧ isSlice u
  | none => e = .returned (.tuple #[.slice none 0 0, .bool false])

theorem BytesP.pair (h : BytesP w0 st e w') : ∃ A n c x, e = .returned (.tuple #[.slice A n c, x]) := by
  obtain ⟨hu, h⟩ := h
  cases st with
  | some bs => obtain ⟨u, he, -, -, A, n, c, rfl⟩ := h; exact ⟨A, n, c, _, he⟩
  | none => obtain ⟨t, x, he⟩ := h; exact ⟨none, 0, 0, _, he⟩
theorem BytesP.up (h : BytesP w0 st e w') (hu : Upd [] w w0) : BytesP w st e w' := by
  obtain ⟨h1, h⟩ := h
  refine ⟨hu.trans h1 (by simp), ?_⟩
  cases st with
  | some bs => obtain ⟨u, he, hb, hn, hs⟩ := h; exact ⟨u, he, hb, fun k hk => Nat.le_trans hu.size (hn k hk), hs⟩
  | none => exact h
theorem BytesP.two (h : BytesP w0 st e w') : ∃ A n c, (e = .returned (.tuple #[.slice A n c, .nilIface]) ∧ ∀ n', MadeP w0 st (.returned (.tuple #[.slice A n c, .bool true])) (w'.drewN n')) ∨
    ∃ t x, e = .returned (.tuple #[.slice A n c, .iface t x]) ∧ ∀ n', MadeP w0 st (.returned (.tuple #[.slice A n c, .bool false])) (w'.drewN n') := by
  obtain ⟨h1, h⟩ := h
  cases st with
  | some bs =>
    obtain ⟨u, he, hb, hn, A, n, c, rfl⟩ := h
    exact ⟨A, n, c, .inl ⟨he, fun n' => ⟨h1.drewN _, _, rfl, Row.drewN hb _, hn, ⟨A, n, c, rfl⟩⟩⟩⟩
  | none =>
    obtain ⟨t, x, he⟩ := h
    exact ⟨none, 0, 0, .inr ⟨t, x, he, fun n => ⟨h1.drewN _, rfl⟩⟩⟩

theorem tls_MarshalKeyUpdate (b : Bool) : Calls Try.prog 67 #[.bool b] w (BytesP w (some (kuBytes b))) := by
  have hm0 := Blk.new w 137 #[.bool b]
  have H1 := hid (marshal_keyUpdate hm0)
  have hu0 : Upd [] w _ := (Upd.refl [] w).alloc (.cells #[.bool b] 137)
  go_enter Try.func67, Try.ntmps67
  go_wp2_with fail
  refine (H1.out).mono ?_
  intro e w1 hp
  obtain ⟨A, n, c, x, rfl⟩ := hp.pair
  go_wp2
  go_ret2
  exact hp.up hu0

theorem impl_MarshalKeyUpdate (b : Bool) : Calls Try.prog 52 #[.bool b] w (MadeP w (some (kuBytes b))) := by
  have H1 := hid (tls_MarshalKeyUpdate (w := w) b)
  go_enter Try.func52, Try.ntmps52
  go_wp2_with fail
  refine (H1.out).mono ?_
  intro e w1 hp
  have q1 := eql_err_nil
  have q2 := eql_err_some
  obtain ⟨A, n, c, ⟨rfl, hr⟩ | ⟨t, x, rfl, hr⟩⟩ := hp.two
  all_goals
    have HR := hid hr
    clear hr
    go_wp2_with fail
    go_quiet (fail)
    go_wp2
    go_ret2
    exact HR.out _

/-- a KeyUpdate by the reference -/
theorem kuBytes_spec (b : Bool) : (messageW 24 (numberW 1 (if b then 1 else 0))) = ⟨kuBytes b, false⟩ := by cases b <;> rfl

def UpdP (w : World) (bs : List UInt8) (e : Ending) (w' : World) : Prop := ∃ v, e = .returned v ∧ Byt w' w'.heap.size v bs ∧ Upd [] w w'
theorem WriteUpdate_any (b : Bool) : Calls Try.prog 54 #[.bool b] w (UpdP w (kuBytes b)) := by
  have key : ∀ b : Bool, ∀ n : Nat, n = (if b then 1 else 0) → ∀ {e : Ending} {w1 : World}, WValP w (numberW 1 n) e w1 → ∃ A m c, e = .returned (.agg #[.slice A m c, .bool false]) ∧ Byt w1 w1.heap.size (.slice A m c) (be 1 n) ∧ Upd [] w w1 := by
    rintro b n hn e w1 ⟨v, rfl, hb, -, ⟨A, m, c, rfl⟩, hu⟩
    exact ⟨A, m, c, rfl, hb, hu⟩
  cases b
  · have H1 := hid (number_any (w := w) 1 0 (by omega))
    go_enter Try.func54, Try.ntmps54
    go_wp2_with fail
    refine (H1.out).mono ?_
    intro e w1 hp
    obtain ⟨A, m, c, rfl, hb, hu⟩ := key false 0 rfl hp
    have H2 := hid (message_any 24 false hb (by simp [be_len]))
    go_wp2_with fail
    refine (H2.out).mono ?_
    intro e w2 hp
    obtain ⟨v, rfl, hb, -, ⟨A, m, c, rfl⟩, hu2⟩ := hp
    go_wp2
    go_ret
    exact ⟨_, rfl, hb, hu.trans hu2 (by simp)⟩
  · have H1 := hid (number_any (w := w) 1 1 (by omega))
    go_enter Try.func54, Try.ntmps54
    go_wp2_with fail
    refine (H1.out).mono ?_
    intro e w1 hp
    obtain ⟨A, m, c, rfl, hb, hu⟩ := key true 1 rfl hp
    have H2 := hid (message_any 24 false hb (by simp [be_len]))
    go_wp2_with fail
    refine (H2.out).mono ?_
    intro e w2 hp
    obtain ⟨v, rfl, hb, -, ⟨A, m, c, rfl⟩, hu2⟩ := hp
    go_wp2
    go_ret
    exact ⟨_, rfl, hb, hu.trans hu2 (by simp)⟩

/-- 'alive' answers true -/
def AliveP (w : World) (e : Ending) (w' : World) : Prop := e = .returned (.bool true) ∧ Upd [] w w'
theorem alive_any : Calls Try.prog 24 #[] w (AliveP w) := by
  have H1 := hid (impl_MarshalKeyUpdate (w := w) true)
  go_enter Try.func24, Try.ntmps24
  go_wp2_with fail
  refine (H1.out).mono ?_
  intro e w1 hp
  obtain ⟨hu, u, rfl, hb, -, A, n, c, rfl⟩ := hp
  have H2 := hid (WriteUpdate_any (w := w1) true)
  go_wp2_with fail
  refine (H2.out).mono ?_
  intro e w2 hp
  obtain ⟨v, rfl, hb2, hu2⟩ := hp
  have H3 := hid (Same_any (Row.upd hb hu2 (by simp)) hb2)
  go_wp2_with fail
  refine (H3.out).mono ?_
  rintro e w3 ⟨rfl, rfl⟩
  go_wp2
  go_ret
  exact ⟨by rfl, hu.trans hu2 (by simp)⟩
end
end Go.Proofs.Ytcdjbciifnoajaa

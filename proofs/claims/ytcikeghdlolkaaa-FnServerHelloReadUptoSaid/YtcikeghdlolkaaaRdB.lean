/- Contract of cryptobyte's String.ReadBytes. -/
import Derived.Test.YtcikeghdlolkaaaStr
namespace Go.Proofs.Ytcikeghdlolkaaa
open Go.RowKit
set_option maxRecDepth 100000
section
variable {w w' : World} {N b : Nat} {bs : List UInt8} {nn : Prop}
theorem ReadBytes_ok (h : Sv w N b bs nn) (n : Nat) (hn : n ≤ bs.length) (hnn : 0 < n ∨ nn) {ob k : Nat} {T : TypeId} {cs : Array Value} (ho : Blk w ob T cs) (hk : k < cs.size) (hne : ob ≠ b) (hNo : N ≤ ob) :
    Calls Try.prog 83 #[.pointer (some ⟨b, 0, none⟩), .pointer (some ⟨ob, k, none⟩), .int .i64 n] w (LpP w N b (bs.take n) (bs.drop n) ob T cs k) := by
  have q : ∀ (w : World) (a : Option Addr) (n c n' c' : Nat), (binOp .eql 23 (.slice a n c) (.slice none n' c')).run Try.prog w = .ok (.bool a.isNone) w := fun w a n c n' c' => Lib.run_eql_slice_nil w _ _ a n c n' c' Try.underlying23
  obtain ⟨y, hy0⟩ : ∃ y, cs[k]? = some y := ⟨_, Array.getElem?_eq_getElem hk⟩
  have HY := hid hy0
  clear hy0
  go_enter Try.func83, Try.ntmps83
  go_wp2_with fail
  refine (read_ok h n hn hnn).mono ?_
  rintro e w1 ⟨u, rfl, ⟨a, n', c, rfl⟩, hy, hu, hs⟩
  have ho1 := ho.upd hu (by simpa using hne)
  have c0 := (ho1.cell k).trans HY.out
  have f0 := ho1.frozen k
  go_wp2
  go_ret
  have hu2 : Upd [ob] w1 (w1.setCell ⟨ob, k, none⟩ (.slice (some a) n' c)) := (Upd.refl _ _).setCell (by simp) _
  exact ⟨_, rfl, (hu.mono (by simp)).trans hu2 (by simp), hs.upd hu2 (by simpa using hNo) (by simpa using Ne.symm hne), ho1.set_ k _, Row.upd hy hu2 (by simpa using hNo), ⟨_, _, _, rfl⟩⟩
theorem ReadBytes_bad (h : Sv w N b bs nn) (n : Nat) (hn : bs.length < n) {ob k : Nat} :
    Calls Try.prog 83 #[.pointer (some ⟨b, 0, none⟩), .pointer (some ⟨ob, k, none⟩), .int .i64 n] w (NoP w b) := by
  have q : ∀ (w : World) (a : Option Addr) (n c n' c' : Nat), (binOp .eql 23 (.slice a n c) (.slice none n' c')).run Try.prog w = .ok (.bool a.isNone) w := fun w a n c n' c' => Lib.run_eql_slice_nil w _ _ a n c n' c' Try.underlying23
  go_enter Try.func83, Try.ntmps83
  go_wp2_with fail
  refine (read_bad h n hn).mono ?_
  rintro e w1 ⟨rfl, rfl⟩
  go_wp2
  go_ret
  exact ⟨rfl, Upd.refl _ _⟩
end
end Go.Proofs.Ytcikeghdlolkaaa

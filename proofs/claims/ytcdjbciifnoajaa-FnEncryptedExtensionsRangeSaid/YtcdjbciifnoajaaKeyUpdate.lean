/- The KeyUpdate message: made by the package, and by the reference. -/
import Derived.Test.YtcdjbciifnoajaaBuild6
namespace Go.Proofs.Ytcdjbciifnoajaa
open Go.RowKit
set_option maxRecDepth 100000

section
variable {w w0 w' : World} {base p q off pl : Nat} {v v2 content ic ic2 : Value} {xs bs : List UInt8} {st out : Option (List UInt8)} {S : List Nat}

theorem enters104 : Enters 104 := by intro args w; kernel_rfl

/-- the body of a KeyUpdate -/
def kuB (b : Bool) : List UInt8 := [if b then 1 else 0]
theorem emits_keyUpdate {m k : Nat} {b : Bool} (hm : Blk w m 137 #[.bool b]) (hk : Blk w k 135 #[.pointer (some ⟨m, 0, none⟩)]) (hmS : m ∉ S) (hkS : k ∉ S) :
    Emits 104 #[.pointer (some ⟨k, 0, none⟩)] S w (some (kuB b)) 1 := by
  intro w1 hu base q v off pl ic bs hb hi hq hv hl
  have hm1 := hm.upd hu hmS
  have hk1 := hk.upd hu hkS
  have c0 := hm1.cell 0
  have d0 := hk1.cell 0
  simp at c0 d0
  cases b
  · have H := hid (AddUint8_any (st := some bs) hb (by show bs.length ≤ _; omega) 0 (by omega))
    go_enter Try.func104, Try.ntmps104
    go_wp2_with fail
    refine H.out.mono ?_
    intro e w2 hp
    have he := hp.1
    subst he
    go_wp2
    go_end0
    exact hp
  · have H := hid (AddUint8_any (st := some bs) hb (by show bs.length ≤ _; omega) 1 (by omega))
    go_enter Try.func104, Try.ntmps104
    go_wp2_with fail
    refine H.out.mono ?_
    intro e w2 hp
    have he := hp.1
    subst he
    go_wp2
    go_end0
    exact hp

/-- a KeyUpdate as bytes -/
def kuBytes (b : Bool) : List UInt8 := [24, 0, 0, 1, if b then 1 else 0]
theorem kuBytes_eq (b : Bool) : app (app (some []) (some [UInt8.ofNat 24])) (lpOut 3 (some (kuB b))) = some (kuBytes b) := by
  cases b <;> rfl

theorem marshal_keyUpdate {m : Nat} {b : Bool} (hm : Blk w m 137 #[.bool b]) :
    Calls Try.prog 90 #[.pointer (some ⟨m, 0, none⟩)] w (BytesP w (some (kuBytes b))) := by
  obtain ⟨w0, hw0⟩ : ∃ w0, w.alloc (.cells #[.pointer (some ⟨m, 0, none⟩)] 135) = w0 := ⟨_, rfl⟩
  have hk0 : Blk w0 w.heap.size 135 #[.pointer (some ⟨m, 0, none⟩)] := by rw [← hw0]; exact Blk.new _ _ _
  have hm0 : Blk w0 m 137 #[.bool b] := by rw [← hw0]; exact hm.alloc _
  have hu0 : Upd [] w w0 := by rw [← hw0]; exact (Upd.refl _ _).alloc _
  have hs0 : w0.heap.size = w.heap.size + 1 := by rw [← hw0]; simp
  have hE := emits_keyUpdate (S := []) hm0 hk0 (by simp) (by simp)
  have hmf : ∀ (fn : Fn) (first cap : Array Value) (w : World), (Instr.makeFunc fn first cap).run Try.prog w = .ok (.func fn first cap) w := fun _ _ _ _ => rfl
  have h1 := AddUint8_top (TopS.new w0) (by show 0 ≤ _; omega) 24 (by omega)
  rw [hs0, ← hw0] at h1
  have H1 := hid h1
  have HW := hid hw0
  have Hs := hid hs0
  clear h1 hw0 hs0
  go_enter Try.func90, Try.ntmps90
  go_wp2_with fail
  refine H1.out.mono ?_
  intro e w2 hp
  rw [HW.out] at hp
  obtain ⟨he, h2⟩ := hp
  subst he
  have H2 := hid (AddLP24_top h2 hE enters104 (by show 1 + 1 + 4 ≤ _; omega) (by show 1 ≤ _; omega))
  go_wp2_with fail
  refine (H2.out).mono ?_
  intro e w3 hp
  obtain ⟨he, h3⟩ := hp
  subst he
  have H3 := hid (Bytes_top h3 (by rw [kuBytes_eq]; show 5 ≤ _; omega))
  go_wp2_with fail
  refine (H3.out).mono ?_
  intro e w4 hp
  rw [kuBytes_eq] at hp
  obtain ⟨hu, u, he, hb, hn, hsl⟩ := hp
  subst he
  go_wp2
  go_ret2
  exact ⟨hu0.trans hu (by simp), u, rfl, hb, fun k hk => Nat.le_trans hu0.size (hn k hk), hsl⟩
end
end Go.Proofs.Ytcdjbciifnoajaa

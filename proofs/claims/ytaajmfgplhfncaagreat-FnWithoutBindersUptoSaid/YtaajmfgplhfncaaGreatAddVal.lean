/- Bytes that must have a given length, written by 'addBytesWithLength' through the Builder's AddValue: another length is the Builder's error. -/
import Derived.Test.YtaajmfgplhfncaaGreatEmit
import Derived.Test.YtaajmfgplhfncaaGreatEmL
namespace Go.Proofs.YtaajmfgplhfncaaGreat
open Go.RowKit
set_option maxRecDepth 100000

/-- what is written -/
def ablOut (n : Nat) (xs : List UInt8) : Option (List UInt8) := if xs.length = n then some xs else none
theorem ablOut_ok {n : Nat} {xs : List UInt8} (h : xs.length = n) : ablOut n xs = some xs := if_pos h
theorem olen_abl (n : Nat) (xs : List UInt8) : olen (ablOut n xs) ≤ xs.length := by
  unfold ablOut
  split
  · exact Nat.le_refl _
  · exact Nat.zero_le _
section
variable {w w0 w1 w2 wr w' : World} {base p q off pl a b n : Nat} {v u content ic : Value} {xs bs : List UInt8} {st out : Option (List UInt8)} {S : List Nat} {B R R' need : Nat} {F : World → Prop} {e : Ending} {fid : FuncId} {T : TypeId}
/-- what the continuation leaves: the Builder, and an error -/
def AblP (w : World) (base p : Nat) (v : Value) (off pl : Nat) (ic : Value) (st : Option (List UInt8)) (n : Nat) (xs : List UInt8) (e : Ending) (w' : World) : Prop :=
  (xs.length = n ∧ e = .returned .nilIface ∧ ∃ v', BS w' base p v' off pl ic (app st (some xs)) ∧ Upd (p :: v.ownBlock.toList) w w' ∧ (v'.ownBlock = v.ownBlock ∨ ∃ g, v'.ownBlock = some g ∧ w.heap.size ≤ g)) ∨
  (xs.length ≠ n ∧ (∃ t x, e = .returned (.iface t x)) ∧ BS w' base p v off pl ic st ∧ Upd [] w w')
set_option maxHeartbeats 1000000 in
theorem abl_1 (hb : BS w base p v off pl ic st) (ha : Blk w a 23 #[content]) (hn : Blk w b 3 #[.int .i64 n]) (hc : Src w base p v content xs) (hl : olen st ≤ 17592186044416) (hx : xs.length ≤ 17592186044416) :
    Calls Tryz.prog 141 #[.pointer (some ⟨p, 0, none⟩), .pointer (some ⟨a, 0, none⟩), .pointer (some ⟨b, 0, none⟩)] w (AblP w base p v off pl ic st n xs) := by
  have hc0 := hc
  obtain ⟨B, hy, -⟩ := hc0
  obtain ⟨A, c, rfl, hy, -, -⟩ := Byt.form hy rfl
  have d0 := ha.cell 0
  have d1 := hn.cell 0
  simp at d0 d1
  by_cases he : xs.length = n
  · have t0 : ((xs.length : Int) != (n : Int)) = false := by rw [bne_eq_false_iff_eq]; omega
    have H := hid (AddBytes_any hb hc hl hx)
    clear hb hc hy ha hn
    have HE := hid he
    clear he
    go_enter Tryz.func141, Tryz.ntmps141
    go_wp2_with fail
    refine H.out.mono ?_
    intro e1 w1 hp
    obtain ⟨he, hp⟩ := hp
    subst he
    go_wp2
    go_ret
    exact .inl ⟨HE.out, rfl, hp⟩
  · have t0 : ((xs.length : Int) != (n : Int)) = true := by rw [bne_iff_ne]; omega
    have HE := hid he
    have HB := hid hb
    clear he hb hc hy ha hn
    go_enter Tryz.func141, Tryz.ntmps141
    go_wp2_with fail
    refine (errors_New_any _).mono ?_
    rintro e1 w1 ⟨rfl, hu⟩
    go_wp2
    go_ret
    exact .inr ⟨HE.out, ⟨_, _, rfl⟩, HB.out.upd hu (by simp) (by simp), hu⟩
set_option maxHeartbeats 1000000 in
theorem abl_Marshal (hb : BS w base p v off pl ic st) (ha : Blk w a 23 #[content]) (hn : Blk w b 3 #[.int .i64 n]) (hc : Src w base p v content xs) (hl : olen st ≤ 17592186044416) (hx : xs.length ≤ 17592186044416) :
    Calls Tryz.prog 163 #[.func (.func 141) #[] #[.pointer (some ⟨a, 0, none⟩), .pointer (some ⟨b, 0, none⟩)], .pointer (some ⟨p, 0, none⟩)] w (AblP w base p v off pl ic st n xs) := by
  have H := hid (abl_1 hb ha hn hc hl hx)
  have hen : Enters 141 := by intro args w; kernel_rfl
  unfold Enters at hen
  go_enter Tryz.func163, Tryz.ntmps163
  go_wp2_with fail
  refine H.out.mono ?_
  intro e1 w1 hp
  rcases hp with ⟨h1, rfl, h2⟩ | ⟨h1, ⟨t, x, rfl⟩, h2, h3⟩
  · have HP := hid h2
    clear h2
    go_wp2
    go_ret
    exact .inl ⟨h1, rfl, HP.out⟩
  · have HP := hid h2
    clear h2
    go_wp2
    go_ret
    exact .inr ⟨h1, ⟨_, _, rfl⟩, HP.out, h3⟩
set_option maxHeartbeats 1000000 in
theorem abl_AddValue (hb : BS w base p v off pl ic st) (ha : Blk w a 23 #[content]) (hn : Blk w b 3 #[.int .i64 n]) (hc : Src w base p v content xs) (hl : olen st ≤ 17592186044416) (hx : xs.length ≤ 17592186044416) :
    Calls Tryz.prog 140 #[.pointer (some ⟨p, 0, none⟩), .iface 153 (.func (.func 141) #[] #[.pointer (some ⟨a, 0, none⟩), .pointer (some ⟨b, 0, none⟩)])] w (BSP w base p v off pl ic (app st (ablOut n xs))) := by
  have H := hid (abl_Marshal hb ha hn hc hl hx)
  go_enter Tryz.func140, Tryz.ntmps140
  go_wp2_with fail
  refine H.out.mono ?_
  intro e1 w1 hp
  have q1 := neq_err_nil
  have q2 := neq_err_some
  rcases hp with ⟨h1, rfl, h2⟩ | ⟨h1, ⟨t, x, rfl⟩, h2, h3⟩
  · have HP := hid h2
    clear h2
    go_wp2
    go_end0
    exact ⟨rfl, by rw [ablOut_ok h1]; exact HP.out⟩
  · have hp0 : base ≤ p := by cases st with
      | none => exact (h2 : BErr _ _ _).1
      | some bs => exact (h2 : Bld _ _ _ _ _ _ _ _).1
    obtain ⟨cs, hbl, hs8, h30⟩ : ∃ cs, Blk w1 p 139 cs ∧ cs.size = 8 ∧ cs[3]? = some (.pointer none) := by
      cases st with
      | none =>
        obtain ⟨-, cs, t, x, k1, k2, k3, k4⟩ := (h2 : BErr _ _ _)
        exact ⟨cs, k1, k2, k4⟩
      | some bs => exact ⟨_, (h2 : Bld _ _ _ _ _ _ _ _).2.1, rfl, rfl⟩
    have c0 : w1.cell? ⟨p, 0, none⟩ = some cs[0] := by rw [hbl.cell]; simp [hs8]
    have f0 := hbl.frozen 0
    have hb2 := hbl.set_ 0 (.iface t x)
    have HB := hid hb2
    have H3 := hid h3
    clear h2 hbl hb2 h3
    go_wp2
    go_end0
    refine ⟨rfl, v, ?_, (H3.out.mono (S' := p :: v.ownBlock.toList) (by simp)).trans (((Upd.refl [p] _).setCell (by simp) _)) (by simp), .inl rfl⟩
    have e : app st (ablOut n xs) = none := by unfold ablOut; rw [if_neg h1, app_none]
    rw [e]
    refine ⟨hp0, _, t, x, HB.out, by simp [hs8], ?_, ?_⟩
    · rw [Array.getElem?_setIfInBounds_self_of_lt (by omega)]
    · rw [Array.getElem?_setIfInBounds_ne (by omega)]; exact h30
theorem abl_any (hb : BS w base p v off pl ic st) (hc : Src w base p v content xs) (hl : olen st ≤ 17592186044416) (hx : xs.length ≤ 17592186044416) :
    Calls Tryz.prog 129 #[.pointer (some ⟨p, 0, none⟩), content, .int .i64 n] w (BSP w base p v off pl ic (app st (ablOut n xs))) := by
  have hy := hc
  obtain ⟨B, hy, -⟩ := hy
  obtain ⟨A, c, rfl, -, -, -⟩ := Byt.form hy rfl
  obtain ⟨w1, hw1⟩ : ∃ w1, (w.alloc (.cells #[.slice A xs.length c] 23)).alloc (.cells #[.int .i64 (n : Int)] 3) = w1 := ⟨_, rfl⟩
  obtain ⟨s, hs⟩ : ∃ s, w.heap.size = s := ⟨_, rfl⟩
  have hu1 : Upd [] w w1 := by rw [← hw1]; exact ((Upd.refl _ _).alloc _).alloc _
  have ha : Blk w1 s 23 #[.slice A xs.length c] := by rw [← hw1, ← hs]; exact (Blk.new _ _ _).alloc _
  have hn : Blk w1 (s + 1) 3 #[.int .i64 (n : Int)] := by
    rw [← hw1, ← hs]
    have := Blk.new (w.alloc (.cells #[.slice A xs.length c] 23)) 3 #[.int .i64 (n : Int)]
    rwa [show (w.alloc (.cells #[.slice A xs.length c] 23)).heap.size = w.heap.size + 1 by simp] at this
  have H := hid (abl_AddValue (hb.upd hu1 (by simp) (by simp)) ha hn (hc.upd hu1 (by simp)) hl hx)
  have hmf : ∀ (fn : Fn) (first cap : Array Value) (w : World), (Instr.makeFunc fn first cap).run Tryz.prog w = .ok (.func fn first cap) w := fun _ _ _ _ => rfl
  have HW := hid hw1
  have HS := hid hs
  clear hb hc hy ha hn hw1 hs
  go_enter Tryz.func129, Tryz.ntmps129
  go_wp2_with fail
  rw [HW.out, HS.out]
  refine H.out.mono ?_
  intro e w2 hp
  obtain ⟨he, v', h1, h2, h3⟩ := hp
  subst he
  have HP := hid h1
  clear h1
  go_wp2
  go_end0
  have hsz := hu1.size
  exact ⟨rfl, v', HP.out, (hu1.mono (S' := p :: v.ownBlock.toList) (by simp)).trans h2 (fun k hk => .inl hk), h3.imp id fun ⟨g, hg, hge⟩ => ⟨g, hg, by omega⟩⟩
theorem Em.abl (h : Em w1 q v base off pl ic B F st R w2) (hc : Byt w2 B content xs) (hR : R' + xs.length ≤ R) :
    Calls Tryz.prog 129 #[.pointer (some ⟨q, 0, none⟩), content, .int .i64 n] w2 (EmP w1 q v base off pl ic B F (app st (ablOut n xs)) R') := by
  obtain ⟨v2, hb, hu, hv2⟩ := h.main
  have hr := h.room
  have ho := olen_app st (ablOut n xs)
  have h1 := olen_abl n xs
  refine (abl_any hb (src_of hc h.hq ?_) (by omega) (by omega)).mono fun e w' hp => h.step hu hv2 hp (by omega)
  intro g hg
  rcases hv2 with h2 | ⟨g', h2, hg'⟩
  · rw [h2] at hg; exact h.hv g hg
  · rw [h2] at hg
    injection hg with hg
    have := h.B1
    omega
end
end Go.Proofs.YtaajmfgplhfncaaGreat

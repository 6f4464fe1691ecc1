/- The NewSessionTicket message up to TLS 1.2: read by the package. -/
import Derived.Test.YtnghnifihnjfeaaTicketR
namespace Go.Proofs.Ytnghnifihnjfeaa
open Go.RowKit
set_option maxRecDepth 100000

theorem wrap64_id (n : Int) (h : -9223372036854775808 ≤ n ∧ n ≤ 9223372036854775807) : wrap64 n = n := by unfold wrap64; omega
theorem or_u32' (a u : Nat) (k : Nat) (ha : a * 2 ^ k + 2 ^ k ≤ 4294967296) (hu : u < 2 ^ k) : bits .or .u32 ((a * 2 ^ k : Nat) : Int) (u : Int) = ((a * 2 ^ k + u : Nat) : Int) := by
  have h1 : a * 2 ^ k < 4294967296 := by have := Nat.two_pow_pos k; omega
  have h2 : u < 4294967296 := by omega
  have hn := Nat.or_lt_two_pow (n := 32) (x := a * 2 ^ k) (y := u) (by omega) (by omega)
  have e1 : (BitVec.ofInt 32 ((a * 2 ^ k : Nat) : Int)).toNat = a * 2 ^ k := by
    rw [BitVec.ofInt_natCast, BitVec.toNat_ofNat]
    exact Nat.mod_eq_of_lt (by omega)
  have e2 : (BitVec.ofInt 32 (u : Int)).toNat = u := by
    rw [BitVec.ofInt_natCast, BitVec.toNat_ofNat]
    exact Nat.mod_eq_of_lt (by omega)
  show IntKind.u32.wrap ((BitVec.ofInt 32 ((a * 2 ^ k : Nat) : Int) ||| BitVec.ofInt 32 (u : Int)).toNat : Int) = _
  rw [BitVec.toNat_or, e1, e2]
  have := Nat.shiftLeft_add_eq_or_of_lt (i := k) (b := u) hu a
  rw [Nat.shiftLeft_eq] at this
  rw [← this]
  simp only [IntKind.wrap, IntKind.signed, IntKind.bits]
  have h3 : a * 2 ^ k + u < 4294967296 := by omega
  have : ((a * 2 ^ k + u : Nat) : Int) % 2 ^ 32 = ((a * 2 ^ k + u : Nat) : Int) := by omega
  simpa using this
theorem be3_u32 (x y z : UInt8) : bits .or .u32 (bits .or .u32 ((x.toNat : Int) % 4294967296 * 65536 % 4294967296) ((y.toNat : Int) % 4294967296 * 256 % 4294967296)) ((z.toNat : Int) % 4294967296) = ((beNat [x, y, z] : Nat) : Int) := by
  have hx := x.toNat_lt
  have hy := y.toNat_lt
  have hz := z.toNat_lt
  have e1 : (x.toNat : Int) % 4294967296 * 65536 % 4294967296 = ((x.toNat * 2 ^ 16 : Nat) : Int) := by omega
  have e2 : (y.toNat : Int) % 4294967296 * 256 % 4294967296 = ((y.toNat * 256 : Nat) : Int) := by omega
  have e3 : (z.toNat : Int) % 4294967296 = (z.toNat : Int) := by omega
  rw [e1, e2, e3, or_u32' _ _ 16 (by omega) (by omega)]
  have e4 : ((x.toNat * 2 ^ 16 + y.toNat * 256 : Nat) : Int) = (((x.toNat * 256 + y.toNat) * 2 ^ 8 : Nat) : Int) := by omega
  rw [e4, or_u32' _ _ 8 (by omega) (by omega)]
  simp [beNat]
theorem take3 (data : List UInt8) (k : Nat) (h : k + 3 ≤ data.length) : (data.drop k).take 3 = [data[k]'(by omega), data[k + 1]'(by omega), data[k + 2]'(by omega)] := by
  apply List.ext_getElem
  · simp; omega
  · intro i h1 h2
    simp at h1 h2
    have : i = 0 ∨ i = 1 ∨ i = 2 := by omega
    rcases this with rfl | rfl | rfl <;> simp
theorem take2 (data : List UInt8) (k : Nat) (h : k + 2 ≤ data.length) : (data.drop k).take 2 = [data[k]'(by omega), data[k + 1]'(by omega)] := by
  apply List.ext_getElem
  · simp; omega
  · intro i h1 h2
    simp at h1 h2
    have : i = 0 ∨ i = 1 := by omega
    rcases this with rfl | rfl <;> simp
section
variable {w w' : World} {B m : Nat} {v content : Value} {xs data : List UInt8} {e : Ending}

def readTicket (data : List UInt8) : Option (List UInt8) :=
  if data.length < 10 then none else if beNat ((data.drop 1).take 3) = data.length - 4 then if beNat ((data.drop 8).take 2) = data.length - 10 then some (data.drop 10) else none else none

theorem unmarshal_Ticket (hm : Blk w m 95 #[.slice none 0 0]) (hv : Byt w B v data) (hB : B ≤ m) (hx : data.length ≤ 2147483647) :
    Calls Try.prog 74 #[.pointer (some ⟨m, 0, none⟩), v] w (UnmP w m 95 (readTicket data)) := by
  obtain ⟨A, c, rfl, hv, hl, hc⟩ := Byt.form hv rfl
  have hml := hm.lt
  have m0 := hm.cell 0
  have f0 := hm.frozen 0
  simp at m0
  by_cases h1 : data.length < 10
  · have Hk := hid (show readTicket data = none by simp [readTicket, h1])
    go_enter Try.func74, Try.ntmps74
    go_wp2
    go_ret
    rw [Hk.out]
    exact ⟨rfl, Upd.refl _ _, _, ⟨_, _, _, rfl⟩, hm, fun x h => by cases h⟩
  · obtain ⟨b, o, rfl, hb, hj⟩ : ∃ b o, A = some ⟨b, o, none⟩ ∧ b < B ∧ ∀ j (hj : j < data.length), w.cell? ⟨b, o + j, none⟩ = some (bv data[j]) := by
      obtain ⟨b, o, e, hb, _⟩ := Byt.at_ hv (k := 0) (by omega)
      refine ⟨b, o, e, hb, fun j hj => ?_⟩
      obtain ⟨b', o', e', _, _, hcell⟩ := Byt.at_ hv (k := j) hj
      rw [e] at e'
      cases e'
      exact hcell
    have c1 := hj 1 (by omega)
    have c2 := hj 2 (by omega)
    have c3 := hj 3 (by omega)
    have c8 := hj 8 (by omega)
    have c9 := hj 9 (by omega)
    have t3 := take3 data 1 (by omega)
    have t2 := take2 data 8 (by omega)
    have b3 := be3_u32 data[1] data[2] data[3]
    rw [← t3] at b3
    have HK := hid (show readTicket data = (if beNat ((data.drop 1).take 3) = data.length - 4 then if beNat ((data.drop 8).take 2) = data.length - 10 then some (data.drop 10) else none else none) by unfold readTicket; rw [if_neg h1])
    generalize data[1] = x1 at c1 b3 t3
    generalize data[2] = x2 at c2 b3 t3
    generalize data[3] = x3 at c3 b3 t3
    by_cases k1 : beNat ((data.drop 1).take 3) = data.length - 4
    · have n1 : ((data.length : Int) - 4 != bits .or .u32 (bits .or .u32 ((x1.toNat : Int) % 4294967296 * 65536 % 4294967296) ((x2.toNat : Int) % 4294967296 * 256 % 4294967296)) ((x3.toNat : Int) % 4294967296)) = false := by
        rw [b3, bne_eq_false_iff_eq]; omega
      rw [if_pos k1] at HK
      have e10 := Byt.cutOff (k := 10) hv (by omega)
      have e10' := Byt.cutEnd (k := 10) hv (by omega)
      have E10 := hid e10
      have E10' := hid e10'
      clear b3 t3 k1 e10 e10'
      generalize data[8] = x8 at c8 t2
      generalize data[8 + 1] = x9 at c9 t2
      have b2 : wrap64 (wrap64 (wrap64 (x8.toNat : Int) * 256) + wrap64 (x9.toNat : Int)) = ((beNat ((data.drop 8).take 2) : Nat) : Int) := by
        have h8 := x8.toNat_lt
        have h9 := x9.toNat_lt
        rw [wrap64_id (x8.toNat : Int) (by omega), wrap64_id (x9.toNat : Int) (by omega), wrap64_id ((x8.toNat : Int) * 256) (by omega), wrap64_id _ (by omega), t2]
        simp [beNat]
      by_cases k2 : beNat ((data.drop 8).take 2) = data.length - 10
      · have n2 : ((data.length : Int) - 10 != wrap64 (wrap64 (wrap64 (x8.toNat : Int) * 256) + wrap64 (x9.toNat : Int))) = false := by
          rw [b2, bne_eq_false_iff_eq]; omega
        rw [if_pos k2] at HK
        clear b2 t2 k2
        go_enter Try.func74, Try.ntmps74
        go_wp2_with fail
        go_quiet (fail)
        go_wp2_with fail
        go_quiet (fail)
        go_wp2
        all_goals go_ret
        all_goals rw [HK.out]
        · have hck : c = 10 := by assumption
          have hy := E10'.out hck
          refine ⟨rfl, ((Upd.refl _ _).drewN _).setCell (by simp) _, _, ⟨_, _, _, rfl⟩, Blk.set_ (hm.drewN _) 0 _, fun x h => ?_⟩
          cases h
          exact Row.shrink (Row.setCell (p := ⟨m, 0, none⟩) (Row.drewN hy _) hB _)
        · have hck : ¬ c = 10 := by assumption
          have hy := E10.out hck
          refine ⟨rfl, ((Upd.refl _ _).drewN _).setCell (by simp) _, _, ⟨_, _, _, rfl⟩, Blk.set_ (hm.drewN _) 0 _, fun x h => ?_⟩
          cases h
          exact Row.shrink (Row.setCell (p := ⟨m, 0, none⟩) (Row.drewN hy _) hB _)
      · have n2 : ((data.length : Int) - 10 != wrap64 (wrap64 (wrap64 (x8.toNat : Int) * 256) + wrap64 (x9.toNat : Int))) = true := by
          rw [b2, bne_iff_ne]; omega
        rw [if_neg k2] at HK
        clear b2 t2 k2
        go_enter Try.func74, Try.ntmps74
        go_wp2_with fail
        go_quiet (fail)
        go_wp2_with fail
        go_quiet (fail)
        go_wp2
        go_ret
        rw [HK.out]
        exact ⟨rfl, (Upd.refl _ _).drewN _, _, ⟨_, _, _, rfl⟩, hm.drewN _, fun x h => by cases h⟩
    · have n1 : ((data.length : Int) - 4 != bits .or .u32 (bits .or .u32 ((x1.toNat : Int) % 4294967296 * 65536 % 4294967296) ((x2.toNat : Int) % 4294967296 * 256 % 4294967296)) ((x3.toNat : Int) % 4294967296)) = true := by
        rw [b3, bne_iff_ne]; omega
      rw [if_neg k1] at HK
      clear b3 k1
      go_enter Try.func74, Try.ntmps74
      go_wp2_with fail
      go_quiet (fail)
      go_wp2
      go_ret
      rw [HK.out]
      exact ⟨rfl, (Upd.refl _ _).drewN _, _, ⟨_, _, _, rfl⟩, hm.drewN _, fun x h => by cases h⟩
theorem tls_UnmarshalTicket (hv : Byt w B v data) (hx : data.length ≤ 2147483647) : Calls Try.prog 48 #[v] w (UnP w (readTicket data)) := by
  obtain ⟨A, c, rfl, hv, hl, hc⟩ := Byt.form hv rfl
  have hm0 := Blk.new w 95 #[.slice none 0 0]
  have H1 := hid (unmarshal_Ticket hm0 (Row.alloc (Row.shrink hv) _) (Nat.le_refl _) hx)
  clear hx
  have hu0 : Upd [] w _ := (Upd.refl [] w).alloc (.cells #[.slice none 0 0] 95)
  go_enter Try.func48, Try.ntmps48
  go_wp2_with fail
  refine (H1.out).mono ?_
  rintro e w1 ⟨rfl, hu, u, ⟨A1, n1, c1, rfl⟩, hb, hx⟩
  have c0 := hb.cell 0
  simp at c0
  go_wp2
  go_ret2
  exact ⟨_, ⟨A1, n1, c1, rfl⟩, rfl, hu0.trans hu (by simp), hx⟩
theorem impl_UnmarshalTicket (hv : Byt w B v data) (hx : data.length ≤ 2147483647) : Calls Try.prog 16 #[v] w (UnP w (readTicket data)) := by
  obtain ⟨A, c, rfl, hv, hl, hc⟩ := Byt.form hv rfl
  have H1 := hid (tls_UnmarshalTicket hv hx)
  clear hx
  go_enter Try.func16, Try.ntmps16
  go_wp2_with fail
  refine (H1.out).mono ?_
  rintro e w1 ⟨u, ⟨A1, n1, c1, rfl⟩, rfl, hu, hx⟩
  go_wp2
  go_ret2
  exact ⟨_, ⟨A1, n1, c1, rfl⟩, rfl, hu, hx⟩
end
end Go.Proofs.Ytnghnifihnjfeaa

/- Contracts of cryptobyte's Builder: the length-prefixed methods, Bytes. -/
import Derived.Test.YtcdjbciifnoajaaBuild5
namespace Go.Proofs.Ytcdjbciifnoajaa
open Go.RowKit
set_option maxRecDepth 100000

section
variable {w w0 w' : World} {base p q off pl : Nat} {v v2 content ic ic2 : Value} {xs bs : List UInt8} {st out : Option (List UInt8)} {S : List Nat}

theorem AddLP8_inner {fid : FuncId} {cap : Array Value} {need : Nat} (hb : BS w base p v off pl ic st) (hi : Inner w ic) (hf : st ≠ none → Emits fid cap (p :: v.ownBlock.toList) w out need) (hen : Enters fid)
    (hl : olen st + need + 4 ≤ 17592186044416) (hx : olen out ≤ 17592186044416) :
    Calls Try.prog 81 #[.pointer (some ⟨p, 0, none⟩), .func (.func fid) #[] cap] w (BSP w base p v off pl ic (app st (lpOut 1 out))) := by
  have H := hid (addLP_inner hb hi hf hen (n := 1) (by omega) (by omega) hl hx)
  go_enter Try.func81, Try.ntmps81
  go_wp2_with fail
  refine H.out.mono ?_
  intro e w1 hp
  have he := hp.1
  subst he
  go_wp2
  go_end0
  exact hp
theorem AddLP8_top {fid : FuncId} {cap : Array Value} {need : Nat} (h : TopS w0 w p st) (hf : Emits fid cap [] w0 out need) (hen : Enters fid) (hl : olen st + need + 4 ≤ 17592186044416) (hx : olen out ≤ 17592186044416) :
    Calls Try.prog 81 #[.pointer (some ⟨p, 0, none⟩), .func (.func fid) #[] cap] w (TopP w0 p (app st (lpOut 1 out))) := by
  have H := hid (addLP_top h hf hen (n := 1) (by omega) (by omega) hl hx)
  go_enter Try.func81, Try.ntmps81
  go_wp2_with fail
  refine H.out.mono ?_
  intro e w1 hp
  have he := hp.1
  subst he
  go_wp2
  go_end0
  exact hp

theorem AddLP16_inner {fid : FuncId} {cap : Array Value} {need : Nat} (hb : BS w base p v off pl ic st) (hi : Inner w ic) (hf : st ≠ none → Emits fid cap (p :: v.ownBlock.toList) w out need) (hen : Enters fid)
    (hl : olen st + need + 4 ≤ 17592186044416) (hx : olen out ≤ 17592186044416) :
    Calls Try.prog 84 #[.pointer (some ⟨p, 0, none⟩), .func (.func fid) #[] cap] w (BSP w base p v off pl ic (app st (lpOut 2 out))) := by
  have H := hid (addLP_inner hb hi hf hen (n := 2) (by omega) (by omega) hl hx)
  go_enter Try.func84, Try.ntmps84
  go_wp2_with fail
  refine H.out.mono ?_
  intro e w1 hp
  have he := hp.1
  subst he
  go_wp2
  go_end0
  exact hp
theorem AddLP16_top {fid : FuncId} {cap : Array Value} {need : Nat} (h : TopS w0 w p st) (hf : Emits fid cap [] w0 out need) (hen : Enters fid) (hl : olen st + need + 4 ≤ 17592186044416) (hx : olen out ≤ 17592186044416) :
    Calls Try.prog 84 #[.pointer (some ⟨p, 0, none⟩), .func (.func fid) #[] cap] w (TopP w0 p (app st (lpOut 2 out))) := by
  have H := hid (addLP_top h hf hen (n := 2) (by omega) (by omega) hl hx)
  go_enter Try.func84, Try.ntmps84
  go_wp2_with fail
  refine H.out.mono ?_
  intro e w1 hp
  have he := hp.1
  subst he
  go_wp2
  go_end0
  exact hp

theorem AddLP24_inner {fid : FuncId} {cap : Array Value} {need : Nat} (hb : BS w base p v off pl ic st) (hi : Inner w ic) (hf : st ≠ none → Emits fid cap (p :: v.ownBlock.toList) w out need) (hen : Enters fid)
    (hl : olen st + need + 4 ≤ 17592186044416) (hx : olen out ≤ 17592186044416) :
    Calls Try.prog 78 #[.pointer (some ⟨p, 0, none⟩), .func (.func fid) #[] cap] w (BSP w base p v off pl ic (app st (lpOut 3 out))) := by
  have H := hid (addLP_inner hb hi hf hen (n := 3) (by omega) (by omega) hl hx)
  go_enter Try.func78, Try.ntmps78
  go_wp2_with fail
  refine H.out.mono ?_
  intro e w1 hp
  have he := hp.1
  subst he
  go_wp2
  go_end0
  exact hp
theorem AddLP24_top {fid : FuncId} {cap : Array Value} {need : Nat} (h : TopS w0 w p st) (hf : Emits fid cap [] w0 out need) (hen : Enters fid) (hl : olen st + need + 4 ≤ 17592186044416) (hx : olen out ≤ 17592186044416) :
    Calls Try.prog 78 #[.pointer (some ⟨p, 0, none⟩), .func (.func fid) #[] cap] w (TopP w0 p (app st (lpOut 3 out))) := by
  have H := hid (addLP_top h hf hen (n := 3) (by omega) (by omega) hl hx)
  go_enter Try.func78, Try.ntmps78
  go_wp2_with fail
  refine H.out.mono ?_
  intro e w1 hp
  have he := hp.1
  subst he
  go_wp2
  go_end0
  exact hp

/-- what Bytes hands back: the bytes, or an error -/
def BytesP (w0 : World) (st : Option (List UInt8)) (e : Ending) (w' : World) : Prop :=
  Upd [] w0 w' ∧ match st with
  | some bs => ∃ u, e = .returned (.tuple #[u, .nilIface]) ∧ Byt w' w'.heap.size u bs ∧ NewFrom w0.heap.size u ∧ isSlice u
  | none => ∃ t x, e = .returned (.tuple #[.slice none 0 0, .iface t x])

theorem Bytes_top (h : TopS w0 w p st) (hl : olen st ≤ 140737488355328) :
    Calls Try.prog 89 #[.pointer (some ⟨p, 0, none⟩)] w (BytesP w0 st) := by
  have q1 := neq_err_nil
  have q2 := neq_err_some
  obtain ⟨v, ic, hb, hi, hu, ho⟩ := h
  cases st with
  | none =>
    obtain ⟨t, x, c0, -⟩ := BErr.open_ hb
    go_enter Try.func89, Try.ntmps89
    go_wp2_with fail
    go_quiet (fail)
    go_wp2
    go_ret2
    exact ⟨hu.drewN _, t, x, rfl⟩
  | some bs =>
    have hb : Bld w w0.heap.size p v 0 0 ic bs := hb
    obtain ⟨A, c, hve, c0, c1, c2, c3, c4, c5, c6, c7, fz, hlc, hcm⟩ := hb.open_
    have hrow := hb.2.2.row
    rw [hve] at hrow
    have Hve := hid hve
    clear hve hl fz
    go_enter Try.func89, Try.ntmps89
    go_wp2_with fail
    go_quiet (fail)
    go_wp2
    go_ret2
    have hrow' : Byt w w.heap.size (.slice A bs.length c) bs := hrow
    refine ⟨hu.drewN _, .slice A bs.length c, rfl, Row.drewN hrow' _, fun k hk => ?_, ⟨_, _, _, rfl⟩⟩
    rw [← Hve.out] at hk
    exact (ho k hk).1
end
end Go.Proofs.Ytcdjbciifnoajaa

/- Contracts of cryptobyte's Builder: callContinuation. -/
import Derived.Test.YtcdjbciifnoajaaBuild2
import Derived.Recover
namespace Go.Proofs.Ytcdjbciifnoajaa
open Go.RowKit
set_option maxRecDepth 100000

section
variable {w w' : World} {base p q off pl : Nat} {v v2 content ic ic2 : Value} {xs bs : List UInt8} {st : Option (List UInt8)} {S : List Nat}

set_option maxHeartbeats 2000000 in
theorem callCont_inner {c : Nat} {fid : FuncId} {cap : Array Value} {arg : Value} {R : Ending → World → Prop} (c7 : w.cell? ⟨p, 7, none⟩ = some (.pointer (some ⟨c, 0, none⟩))) (cc : w.cell? ⟨c, 0, none⟩ = some (.bool true))
    (hf : Calls Try.prog fid (#[arg] ++ cap) (w.alloc (.cells #[.pointer (some ⟨p, 0, none⟩)] 125)) R) (hR : ∀ e w', R e w' → e = .returned (.tuple #[])) (hen : ∀ (args : Array Value) (w : World), (callFunc fid args).run Try.prog w = .ok (.enter fid args) w) :
    Calls Try.prog 106 #[.pointer (some ⟨p, 0, none⟩), .func (.func fid) #[] cap, arg] w R := by
  have hpl : p < w.heap.size := World.block_lt_of_cell? w _ c7
  have hcl : c < w.heap.size := World.block_lt_of_cell? w _ cc
  have HF := hid hf
  have HR := hid hR
  clear hf hR
  go_enter_defers Try.func106, Try.ntmps106
  go_wp2_with fail
  refine HF.out.mono ?_
  intro e w1 hr
  have he := HR.out e w1 hr
  subst he
  go_wp2_with fail
  exact ⟨_, results_none rfl _ _ _, hr⟩

theorem catch_idle {bb c : Nat} {x : Value} (hb : w.cell? ⟨bb, 0, none⟩ = some (.pointer (some ⟨p, 0, none⟩))) (h7 : w.cell? ⟨p, 7, none⟩ = some (.pointer (some ⟨c, 0, none⟩))) (hc : w.cell? ⟨c, 0, none⟩ = some x) (hz : w.frozen? ⟨c, 0, none⟩ = false) :
    CallsD Try.prog 108 #[.pointer (some ⟨bb, 0, none⟩)] .returning w fun e u' w' => e = .returned (.tuple #[]) ∧ u' = .returning ∧ w' = w.setCell ⟨c, 0, none⟩ (.bool false) := by
  refine callsD_of_wpS Try.func108 rfl fun c₀ cs hu => ?_
  apply wpS_seq
  apply wpS_region
  simp [wpOpsS, go_sem, hb, h7, hc, hz, Try.ntmps108, Exit.thenS]
  apply wpS_seq
  apply wpS_region
  simp [wpOpsS, go_sem, recoverD, hu, Exit.thenS]
  apply wpS_seq
  apply wpS_seq
  apply wpS_region
  simp [wpOpsS, go_sem, Exit.thenS]
  refine wpS_cond (t := true) (by simp [Act.eval, Array.replicate]) ?_
  simp only [if_true]
  refine wpS_of_wp (wp_ret ?_)
  simp only [Exit.thenS]
  exact ⟨rfl, .returning, by rw [← hu], _, results_none rfl _ _ _, rfl, rfl, rfl⟩

/-- what the continuation finds where the flag has just been raised -/
def topWorld (w : World) (p c : Nat) : World := (w.setCell ⟨c, 0, none⟩ (.bool true)).alloc (.cells #[.pointer (some ⟨p, 0, none⟩)] 125)

set_option maxHeartbeats 2000000 in
theorem callCont_top {c : Nat} {fid : FuncId} {cap : Array Value} {arg : Value} {R : World → Prop} (c7 : w.cell? ⟨p, 7, none⟩ = some (.pointer (some ⟨c, 0, none⟩))) (cc : w.cell? ⟨c, 0, none⟩ = some (.bool false)) (cz : w.frozen? ⟨c, 0, none⟩ = false)
    (hf : Calls Try.prog fid (#[arg] ++ cap) (topWorld w p c) fun e w' => e = .returned (.tuple #[]) ∧ R w')
    (hR : ∀ w', R w' → w'.cell? ⟨w.heap.size, 0, none⟩ = some (.pointer (some ⟨p, 0, none⟩)) ∧ w'.cell? ⟨p, 7, none⟩ = some (.pointer (some ⟨c, 0, none⟩)) ∧ (∃ x, w'.cell? ⟨c, 0, none⟩ = some x) ∧ w'.frozen? ⟨c, 0, none⟩ = false)
    (hen : ∀ (args : Array Value) (w : World), (callFunc fid args).run Try.prog w = .ok (.enter fid args) w) :
    Calls Try.prog 106 #[.pointer (some ⟨p, 0, none⟩), .func (.func fid) #[] cap, arg] w fun e w' => e = .returned (.tuple #[]) ∧ ∃ w1, R w1 ∧ w' = w1.setCell ⟨c, 0, none⟩ (.bool false) := by
  have hmf : ∀ (fn : Fn) (first cap : Array Value) (w : World), (Instr.makeFunc fn first cap).run Try.prog w = .ok (.func fn first cap) w := fun _ _ _ _ => rfl
  have hpl : p < w.heap.size := World.block_lt_of_cell? w _ c7
  have hcl : c < w.heap.size := World.block_lt_of_cell? w _ cc
  have HF := hid hf
  have HR := hid hR
  clear hf hR
  go_enter_defers Try.func106, Try.ntmps106
  go_wp2_with fail
  refine HF.out.mono ?_
  rintro e w1 ⟨rfl, hr⟩
  obtain ⟨b0, b7, ⟨x, bc⟩, bz⟩ := HR.out w1 hr
  go_wp2_with fail
  refine leaves_cons (f := 108) (args := #[.pointer (some ⟨w.heap.size, 0, none⟩)]) (by simp) (by simp [go_sem]) ?_
  refine (catch_idle b0 b7 bc bz).mono ?_
  rintro e u' w'' ⟨rfl, rfl, rfl⟩
  exact ⟨_, results_none rfl _ _ _, rfl, w1, hr, rfl⟩
end
end Go.Proofs.Ytcdjbciifnoajaa

/- Texts joined: ChT2, None. -/
import Derived.Deep.LoopGhost
import Derived.Test.YtaajmfgplhfncaaB10
import Derived.Test.YtaajmfgplhfncaaB03
namespace Go.Proofs.Ytaajmfgplhfncaa
open Go.RowKit
set_option maxRecDepth 100000
section
variable {w w' : World} {B m : Nat} {v : Value} {t : Ch} {cs : Array Value} {xs : List UInt8}
end
end Go.Proofs.Ytaajmfgplhfncaa
namespace Go.Proofs.Ytaajmfgplhfncaa
open Go.RowKit
set_option maxRecDepth 100000
def noneB (ls : List (List UInt8)) (lo hi : Nat) : Bool := ls.all fun x => !(decide (lo ≤ x.length) && decide (x.length ≤ hi))
theorem noneB_bad {ls : List (List UInt8)} {lo hi j : Nat} (h : j < ls.length) (h1 : lo ≤ ls[j].length) (h2 : ls[j].length ≤ hi) : noneB ls lo hi = false := by
  unfold noneB
  rw [List.all_eq_false]
  exact ⟨ls[j], List.getElem_mem h, by simp [h1, h2]⟩
theorem noneB_step {ls : List (List UInt8)} {lo hi j : Nat} (h : j < ls.length) (hn : ¬ (lo ≤ ls[j].length ∧ ls[j].length ≤ hi)) (ht : noneB (ls.take j) lo hi = true) : noneB (ls.take (j + 1)) lo hi = true := by
  unfold noneB at ht ⊢
  rw [List.take_succ_eq_append_getElem h, List.all_append, ht]
  simp only [List.all_cons, List.all_nil, Bool.and_true, Bool.true_and, Bool.not_eq_true', Bool.and_eq_false_iff, decide_eq_false_iff_not]
  by_cases h1 : lo ≤ ls[j].length
  · exact .inr (fun h2 => hn ⟨h1, h2⟩)
  · exact .inl h1
section
variable {w w' : World} {B : Nat} {content : Value} {ls : List (List UInt8)}
set_option maxHeartbeats 1000000 in
theorem none_any (hc : Lst w B content ls) (lo hi : Nat) : Calls Try.prog 19 #[content, .int .i64 lo, .int .i64 hi] w fun e w' => e = .returned (.bool (noneB ls lo hi)) ∧ w = w' := by
  obtain ⟨A, c, rfl, hcr, hlc, hm⟩ := hc.shrink.form
  go_enter Try.func19, Try.ntmps19
  go_wp2
  go_loopg [8, 11] ls.length (fun gk _ i wr => ∃ j : Nat, j + gk = ls.length ∧ i = .int .i64 j ∧ w = wr ∧ noneB (ls.take j) lo hi = true)
  case atStart => exact ⟨0, by omega, rfl, rfl, rfl⟩
  case round =>
    obtain ⟨j, hj0, rfl, rfl, hall⟩ := hrel
    have HJ := hid hj0
    have HA := hid hall
    have hj : j ≤ ls.length := by omega
    clear hj0 hall
    by_cases hlt : j < ls.length
    · obtain ⟨b, o, rfl, hb', hj', A', c', hcell, hy, hl1, hl2⟩ := hcr.at_ hlt
      by_cases h1 : lo ≤ (ls[j]).length
      · have h1' : decide (lo ≤ (ls[j]).length) = true := decide_eq_true (by omega)
        by_cases h2 : (ls[j]).length ≤ hi
        · have h2' : decide ((ls[j]).length ≤ hi) = true := decide_eq_true (by omega)
          have HN := hid (noneB_bad hlt h1 h2)
          clear h1 h2
          go_wp2
          go_ret
          exact ⟨by rw [HN.out]; rfl, rfl⟩
        · have h2' : decide ((ls[j]).length ≤ hi) = false := decide_eq_false (by omega)
          have HN := hid (noneB_step hlt (fun h => h2 h.2) HA.out)
          clear h1 h2
          go_wp2
          have hj0 := HJ.out
          go_roundg (ls.length - (j + 1))
          case measure => omega
          case rel => exact ⟨j + 1, by omega, by go_num, rfl, HN.out⟩
      · have h1' : decide (lo ≤ (ls[j]).length) = false := decide_eq_false (by omega)
        have HN := hid (noneB_step hlt (fun h => h1 h.1) HA.out)
        clear h1
        go_wp2
        have hj0 := HJ.out
        go_roundg (ls.length - (j + 1))
        case measure => omega
        case rel => exact ⟨j + 1, by omega, by go_num, rfl, HN.out⟩
    · obtain rfl : j = ls.length := by omega
      go_wp2
      go_ret
      refine ⟨?_, rfl⟩
      have := HA.out
      rw [List.take_length] at this
      rw [this]; rfl
end
end Go.Proofs.Ytaajmfgplhfncaa

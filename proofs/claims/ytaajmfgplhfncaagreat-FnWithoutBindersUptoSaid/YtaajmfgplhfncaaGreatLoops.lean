/- Loops within an extension that append to a field of the message: what each round leaves. -/
import Derived.Test.YtaajmfgplhfncaaGreatStr
import Derived.Test.YtaajmfgplhfncaaGreatReader
import Derived.Test.YtaajmfgplhfncaaGreatLists
import Derived.Deep.RegionLaw
namespace Go.Proofs.YtaajmfgplhfncaaGreat
open Go.RowKit
set_option maxRecDepth 100000

/-- two slices own no block in common; a slice owns what another one did, or a block from n on -/
def apartV (u v : Value) : Prop := ∀ g, u.ownBlock = some g → v.ownBlock ≠ some g
def nextV (v v' : Value) (n : Nat) : Prop := v'.ownBlock = v.ownBlock ∨ ∃ k, v'.ownBlock = some k ∧ n ≤ k
theorem apartV.symm {u v : Value} (h : apartV u v) : apartV v u := fun g hg he => h g he hg
theorem apartV.next {u v v' : Value} {n : Nat} (h : apartV u v) (hn : nextV v v' n) (hu : ∀ g, u.ownBlock = some g → g < n) : apartV u v' := by
  intro g hg he
  rcases hn with hn | ⟨k, hn, hk⟩
  · rw [hn] at he; exact h g hg he
  · rw [hn] at he; injection he with he; have := hu g hg; omega
theorem nextV.refl (v : Value) (n : Nat) : nextV v v n := .inl rfl
theorem nextV.trans {v v' v'' : Value} {n n' : Nat} (h : nextV v v' n) (h' : nextV v' v'' n') (hn : n ≤ n') : nextV v v'' n := by
  rcases h' with h' | ⟨k, h', hk⟩
  · rcases h with h | ⟨j, h, hj⟩
    · exact .inl (h'.trans h)
    · exact .inr ⟨j, h'.trans h, hj⟩
  · exact .inr ⟨k, h', Nat.le_trans hn hk⟩

/-- a loop that reads values out of the String at block p and appends them to a field of the message in block m -/
structure ALoop (e : TypeId) (B p m : Nat) (T : TypeId) (CS : Value → Array Value) (lo : Nat) (wE : World) (v0 : Value) (x : List UInt8) (v : Value) (us : List Value) (wr : World) : Prop where
  sv : Sv wr B p x True
  hm : Blk wr m T (CS v)
  own : Own wr lo e v us
  nx : nextV v0 v wE.heap.size
  up : Upd (p :: m :: v0.ownBlock.toList) wE wr
section
variable {e : TypeId} {B p m lo : Nat} {T : TypeId} {CS : Value → Array Value} {wE wr w2 W2 w3 w4 : World} {v0 v v3 u : Value} {x x2 : List UInt8} {us : List Value}
theorem ALoop.lt (h : ALoop e B p m T CS lo wE v0 x v us wr) : ∀ g, v.ownBlock = some g → lo ≤ g ∧ g < wr.heap.size := fun g hg => h.own.ge hg
/-- a round -/
theorem ALoop.step (h : ALoop e B p m T CS lo wE v0 x v us wr) (hB : B ≤ lo) (hpm : p ≠ m) (hBm : B ≤ m) (he : e ≠ T) (hes : e ≠ 116) (hu2 : Upd [p] wr w2) (hsv : Sv w2 B p x2 True) (hW : Upd [] w2 W2)
    (hap : Appended W2 lo e v (us ++ [u]) v3 w3) (hu4 : Upd [m] w3 w4) (hm4 : Blk w4 m T (CS v3)) : ALoop e B p m T CS lo wE v0 x2 v3 (us ++ [u]) w4 := by
  obtain ⟨h1, h2, h3⟩ := hap
  have hsv0 := hsv
  obtain ⟨-, pv, hpb, -⟩ := hsv0
  have hmW : Blk W2 m T (CS v) := (h.hm.upd hu2 (by simpa using Ne.symm hpm)).upd hW (by simp)
  have hoW : Own W2 lo e v us := (h.own.upd hu2 (fun g hg hk => by
    obtain ⟨_, qv, hq, _⟩ := h.sv
    have := h.own.ne hq hes g hg
    simp at hk; exact this hk)).upd hW (by simp)
  have hnm : ∀ g, v.ownBlock = some g → g ≠ m := hoW.ne hmW he
  have hnp : ∀ g, v.ownBlock = some g → g ≠ p := hoW.ne (hpb.upd hW (by simp)) hes
  have hlo : ∀ g, v.ownBlock = some g → lo ≤ g := fun g hg => (hoW.ge hg).1
  have hsz : wE.heap.size ≤ W2.heap.size := Nat.le_trans h.up.size (Nat.le_trans hu2.size hW.size)
  have hm3 : Blk w3 m T (CS v) := hmW.upd h2 (fun hk => hnm m (Option.mem_toList.1 hk) rfl)
  refine ⟨((hsv.upd hW (by simp) (by simp)).upd h2 (fun k hk => Nat.le_trans hB (hlo k (Option.mem_toList.1 hk))) (fun hk => hnp p (Option.mem_toList.1 hk) rfl)).upd hu4 (by simpa using hBm) (by simpa using hpm), hm4, h1.upd hu4 (fun g hg hk => ?_), ?_, ?_⟩
  · have := h1.ne hm3 he g hg
    simp at hk; exact this hk
  · refine h.nx.trans (n' := wE.heap.size) ?_ (Nat.le_refl _)
    rcases h3 with h3 | h3
    · exact .inl h3
    · exact .inr ⟨_, h3, hsz⟩
  · refine (((h.up.trans hu2 (by simp)).trans hW (by simp)).trans h2 (fun k hk => ?_)).trans hu4 (by simp)
    rcases h.nx with hn | ⟨j, hn, hj⟩
    · left; rw [hn] at hk; exact List.mem_cons_of_mem _ (List.mem_cons_of_mem _ hk)
    · right
      rw [hn] at hk
      have : k = j := by simpa using hk
      omega
end
theorem u16_eq (k n : UInt16) : ((k.toNat : Int) == (n.toNat : Int)) = decide (k = n) := by
  by_cases h : k = n
  · subst h; simp
  · rw [decide_eq_false h, beq_eq_false_iff_ne]
    intro e
    exact h (UInt16.toNat_inj.1 (by omega))
theorem wordsOf_nil : wordsOf [] = [] := rfl
theorem wordsOf_len : ∀ x : List UInt8, (wordsOf x).length ≤ x.length
  | [] => Nat.le_refl _
  | [_] => Nat.le_refl _
  | _ :: _ :: t => by have := wordsOf_len t; simp [wordsOf]; omega
theorem wordsOf_two (a b : UInt8) (t : List UInt8) : wordsOf (a :: b :: t) = UInt16.ofNat (a.toNat * 256 + b.toNat) :: wordsOf t := rfl
/-- the loop over words -/
def WRelA (B p m : Nat) (T : TypeId) (CS : Value → Array Value) (lo : Nat) (wE : World) (v0 : Value) (tot : List UInt16) (par bound : Nat) (gk : Nat) (wr : World) : Prop :=
  ∃ (x : List UInt8) (v : Value) (l : List UInt16), gk = x.length ∧ ALoop 22 B p m T CS lo wE v0 x v (l.map wv) wr ∧ tot = l ++ wordsOf x ∧ x.length % 2 = par ∧ l.length + x.length ≤ bound
/-- the loop over vectors -/
def LRelA (size B p m : Nat) (T : TypeId) (CS : Value → Array Value) (lo : Nat) (wE : World) (v0 : Value) (ls0 : List (List UInt8)) (x0 : List UInt8) (bound : Nat) (gk : Nat) (wr : World) : Prop :=
  ∃ (x : List UInt8) (v : Value) (us : List Value) (l : List (List UInt8)), gk = x.length ∧ ALoop 23 B p m T CS lo wE v0 x v us wr ∧ All2 (fun u l => Byt wr B u l) us (ls0 ++ l) ∧ lps size x0 = (lps size x).map (l ++ ·) ∧ us.length + x.length ≤ bound
end Go.Proofs.YtaajmfgplhfncaaGreat

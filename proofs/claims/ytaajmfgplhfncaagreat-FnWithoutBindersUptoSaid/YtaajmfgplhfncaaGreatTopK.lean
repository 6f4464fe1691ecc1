/- A Builder at the top, step by step, beside a block of another type that stays as it is. -/
import Derived.Test.YtaajmfgplhfncaaGreatEmV
namespace Go.Proofs.YtaajmfgplhfncaaGreat
open Go.RowKit
set_option maxRecDepth 100000
section
variable {w w0 w' : World} {p g : Nat} {xs bs : List UInt8} {st st' out : Option (List UInt8)} {B need : Nat} {F : World → Prop} {fid : FuncId} {cap : Array Value} {T : TypeId} {c1 : Array Value}
theorem TopS.cast {w0 w : World} {p : Nat} {st st' : Option (List UInt8)} (h : TopS w0 w p st) (e : st = st') : TopS w0 w p st' := e ▸ h
theorem TopS.up {w0 w : World} {p : Nat} {st : Option (List UInt8)} (h : TopS w0 w p st) : Upd [] w0 w := by
  obtain ⟨_, _, _, _, h, _⟩ := h
  exact h
theorem TopS.new_ (h : TopS w0 w p st) (hu : Upd [] w w') : TopS w0 w' p st := by
  obtain ⟨v, ic, hb, hi, hu0, ho⟩ := h
  exact ⟨v, ic, hb.upd hu (by simp) (by simp), hi.upd hu (by simp), hu0.trans hu (by simp), ho⟩
theorem AddUint16_topK (h : TopS w0 w p st) (hg : Blk w g T c1) (hT : 5 ≠ T ∧ 139 ≠ T ∧ 4 ≠ T) (hl : olen st ≤ 17592186044416) (n : Nat) (hn : n < 65536) :
    Calls Tryz.prog 83 #[.pointer (some ⟨p, 0, none⟩), .int .u16 (n : Int)] w (fun e w' => TopP w0 p (app st (some (be 2 n))) e w' ∧ Blk w' g T c1) := by
  obtain ⟨v, ic, hb, hi, hu, ho⟩ := h
  have hpg : g ≠ p := by
    obtain ⟨cs, hpb⟩ := hb.isBlk
    exact fun e => hpb.ne_ hg hT.2.1 e.symm
  cases st with
  | none =>
    have hb' : BS w w0.heap.size p (.slice none 0 0) 0 0 ic none := hb
    refine (AddUint16_any hb' hl n hn).mono fun e w' hp => ⟨TopS.step hi hb' hu (by simp [Value.ownBlock]) hp, ?_⟩
    obtain ⟨_, v', _, hu', _⟩ := hp
    exact hg.upd hu' (by simp [Value.ownBlock]; exact hpg)
  | some bs =>
    refine (AddUint16_any hb hl n hn).mono fun e w' hp => ⟨TopS.step hi hb hu ho hp, ?_⟩
    obtain ⟨_, v', _, hu', _⟩ := hp
    refine hg.upd hu' (fun hm => ?_)
    rcases List.mem_cons.1 hm with h | h
    · exact hpg h
    · exact (Own.ne (hb : Bld w w0.heap.size p v 0 0 ic bs).2.2 hg hT.1 g (Option.mem_toList.1 h)) rfl
theorem AddLP16_topK (h : TopS w0 w p st) (hg : Blk w g T c1) (hT : 5 ≠ T ∧ 139 ≠ T ∧ 4 ≠ T) (hE : EmitsF fid cap B F out need) (hF : F w0) (hB : B ≤ w0.heap.size) (hR : olen st + need + 4 ≤ 17592186044416) :
    Calls Tryz.prog 84 #[.pointer (some ⟨p, 0, none⟩), .func (.func fid) #[] cap] w (fun e w' => TopP w0 p (app st (lpOut 2 out)) e w' ∧ Blk w' g T c1) := by
  have H := hid (addLP_topK h hg hT (hE.2.2 w0 [] hF hB (by simp)) hE.2.1 (n := 2) (by omega) (by omega) hR (by have := hE.1; omega))
  go_enter Tryz.func84, Tryz.ntmps84
  go_wp2_with fail
  refine H.out.mono ?_
  intro e w1 hp
  have he := hp.1.1
  subst he
  go_wp2
  go_end0
  exact hp
end
end Go.Proofs.YtaajmfgplhfncaaGreat

/- The end of a reader: the whole message is loaded and stored into the result, in a region that draws its order. -/

import Derived.Test.YtddkjhlngofkaaaGen
import Derived.OrdersHeld
import Derived.Deep.MidRow
namespace Go.Proofs.Ytddkjhlngofkaaa
open Go.RowKit
set_option maxRecDepth 100000

section
variable {ops : Array Oper} {Q : Exit → Act → World → Prop} {S : World → Prop} {a : Act} {o : Oper} {T : TypeId} {g k i : Nat} {v : Value} {w : World} {cs zs : Array Value} {K : Act → World → Prop}
/-- a load of what S knows -/
theorem yieldsIf_loadvar (p : Operand) (ho : o.op = .load T p) (hw : Region.wanted o (yielded ops a.tmps) = true) (hx : a.eval p = .pointer (some ⟨g, k, none⟩)) (hS : ∀ w, S w → (loadVar T ⟨g, k, none⟩).run Try.prog w = .ok v w) : YieldsIf Try.prog ops S o v a := by
  refine .inl ⟨hw, fun w h => ?_⟩
  unfold execOp
  simp only [ho, hx, Instr.loadAt, Instr.sureAddr, Sem.run_bind, Sem.run_pure, Result.andThen_ok, hS w h]
/-- a whole struct is stored -/
theorem wpOp_store_any (hi0 : ops[i]? = some o) (hb : Blk w g T zs) (hi : (Try.prog.info? T).map (·.size) = some cs.size) (h1 : cs.all (·.oneCell') = true) (hz : zs.size = cs.size) (hw : Region.wanted o (yielded ops a.tmps) = true) (p q : Operand) (ho : o.op = .store T p q)
    (hx : a.eval p = .pointer (some ⟨g, 0, none⟩)) (hy : a.eval q = .agg cs)
    (hK : ∀ w', Blk w' g T cs → Upd [g] w w' → w'.heap.size = w.heap.size → K (a.put o.dst undef) w') : wpOp Try.prog ops Q i K a w := by
  have hu := setCells_upd g cs.toList 0 w
  have hl : 0 + cs.toList.length ≤ zs.size := by rw [hz]; simp
  have hb' := setCells_blk g T cs.toList 0 w zs hb hl
  have e : (zs.toList.take 0 ++ cs.toList ++ zs.toList.drop (0 + cs.toList.length)).toArray = cs := by
    have : zs.toList.drop (0 + cs.toList.length) = [] := by rw [List.drop_eq_nil_iff]; simp [hz]
    rw [this]; simp
  rw [e] at hb'
  unfold wpOp
  simp only [hi0, hw, if_true]
  refine .inl ?_
  refine wp_store_mid T p q ho g 0 cs hx hy ?_ hi h1 (hK _ hb' hu (setCells_size _ _ _ _))
  intro j hj
  have hjz : j < zs.size := by omega
  rw [hb.cell, hb.frozen]
  simp [hjz]
/-- a call of a function, whichever comes up -/
theorem wpOp_enter (hi0 : ops[i]? = some o) (hw : Region.wanted o (yielded ops a.tmps) = true) (f : FuncId) (args : Array Value) (he : (execOp a.eval o).run Try.prog w = .ok (.enter f args) w)
    (h : Calls Try.prog f args w fun e w' => match e with | .returned v => K (a.put o.dst v) w' | .panicked c => Q (.panic c) a w' | .outgrown => LetsOut Q) : wpOp Try.prog ops Q i K a w := by
  unfold wpOp
  simp only [hi0, hw, if_true]
  refine .inl ?_
  unfold Oper.wp
  rw [he]
  exact h.mono fun e w' h => by cases e <;> exact h
end
end Go.Proofs.Ytddkjhlngofkaaa

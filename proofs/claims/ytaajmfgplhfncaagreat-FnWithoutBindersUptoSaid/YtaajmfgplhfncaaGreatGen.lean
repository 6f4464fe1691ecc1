/- Messages as values, whatever their fields: a struct held as one array of cells. -/
import Derived.Test.YtaajmfgplhfncaaGreatEmit
import Derived.Test.YtaajmfgplhfncaaGreatLift
import Derived.Laws.Rows
import Derived.Deep.MidRow
namespace Go.Proofs.YtaajmfgplhfncaaGreat
open Go.RowKit
set_option maxRecDepth 100000

/-- V says of a value of type T that it is a message, whose bytes lie below a block -/
structure VOk {α : Type} (T : TypeId) (V : World → Nat → Value → α → Prop) : Prop where
  agg : ∀ {w B v x}, V w B v x → ∃ cs : Array Value, v = .agg cs ∧ (Tryz.prog.info? T).map (·.size) = some cs.size ∧ cs.all (·.oneCell') = true
  str : ∃ d, Tryz.prog.underlying T = some d ∧ d.isRow = true
  upd : ∀ {w w' B v x S}, V w B v x → Upd S w w' → (∀ k ∈ S, B ≤ k) → V w' B v x
  shrink : ∀ {w B v x}, V w B v x → V w w.heap.size v x
/-- a variable of type T that holds a message -/
def VB {α : Type} (T : TypeId) (V : World → Nat → Value → α → Prop) (w : World) (g : Nat) (x : α) (cs : Array Value) : Prop :=
  Blk w g T cs ∧ V w w.heap.size (.agg cs) x
/-- what a reference's reader hands back; a package's reader; a maker -/
def RefG {α : Type} (V : World → Nat → Value → α → Prop) (w : World) (x : α) (code : Nat) (e : Ending) (w' : World) : Prop :=
  ∃ v, e = .returned (.tuple #[v, .int .i64 (code : Int)]) ∧ V w' w'.heap.size v x ∧ Upd [] w w'
def UnG {α : Type} (V : World → Nat → Value → α → Prop) (w : World) (zero : α) (o : Option α) (e : Ending) (w' : World) : Prop :=
  ∃ v, e = .returned (.tuple #[v, .bool o.isSome]) ∧ V w' w'.heap.size v (o.getD zero) ∧ Upd [] w w'

/-- v is the message x, and stays it where blocks from B on and below n turn -/
def Firm {α : Type} (V : World → Nat → Value → α → Prop) (B n : Nat) (w : World) (v : Value) (x : α) : Prop :=
  V w w.heap.size v x ∧ ∀ w' S, Upd S w w' → (∀ k ∈ S, B ≤ k ∧ k < n) → V w' w'.heap.size v x
def UnF {α : Type} (V : World → Nat → Value → α → Prop) (B : Nat) (w : World) (zero : α) (o : Option α) (e : Ending) (w' : World) : Prop :=
  ∃ v, e = .returned (.tuple #[v, .bool o.isSome]) ∧ Firm V B w.heap.size w' v (o.getD zero) ∧ Upd [] w w'
section
variable {α : Type} {T : TypeId} {V : World → Nat → Value → α → Prop} {w w' : World} {B g : Nat} {v : Value} {x : α} {S : List Nat} {cs zs : Array Value}
theorem VOk.box (h : VOk T V) (hv : V w B (.agg cs) x) : VB T V (w.alloc (.cells cs T)) w.heap.size x cs :=
  ⟨Blk.new _ _ _, h.shrink (h.upd hv ((Upd.refl [] w).alloc _) (by simp))⟩
theorem VB.upd (h : VOk T V) (hb : VB T V w g x cs) (hu : Upd [] w w') : VB T V w' g x cs :=
  ⟨hb.1.upd hu (by simp), h.shrink (h.upd hb.2 hu (by simp))⟩
theorem VB.agg (h : VOk T V) (hb : VB T V w g x cs) : (Tryz.prog.info? T).map (·.size) = some cs.size := by
  obtain ⟨cs', e, h1, -⟩ := h.agg hb.2
  injection e with e
  subst e
  exact h1
theorem VB.val (hb : VB T V w g x cs) : V w w.heap.size (.agg cs) x := hb.2
theorem VB.lt (hb : VB T V w g x cs) : g < w.heap.size := hb.1.lt
/-- the whole variable, loaded -/
theorem VB.load (h : VOk T V) (hb : VB T V w g x cs) : (loadVar T ⟨g, 0, none⟩).run Tryz.prog w = .ok (.agg cs) w := by
  obtain ⟨d, hu, hd⟩ := h.str
  exact run_loadVar_row w g T T cs (0, 0) d hb.1 hu (by cases d <;> first | rfl | (cases hd)) (VB.agg h hb)
theorem VB.loadAt (h : VOk T V) (hb : VB T V w g x cs) : (Instr.loadAt T (.pointer (some ⟨g, 0, none⟩))).run Tryz.prog w = .ok (.agg cs) w := by
  simp only [Instr.loadAt, Instr.sureAddr, Sem.run_bind, Sem.run_pure, Result.andThen_ok, VB.load h hb]
theorem wpList_load_vb {ops : Array Oper} {rest : List Oper} {o : Oper} {a : Act} {Q : Exit → Act → World → Prop} (h : VOk T V) (hb : VB T V w g x cs) (p : Operand) (ho : o.op = .load T p)
    (hx : a.eval p = .pointer (some ⟨g, 0, none⟩)) (hw : Region.wanted o (yielded ops a.tmps) = true) (hK : wpList Tryz.prog ops Q rest (a.put o.dst (.agg cs)) w) : wpList Tryz.prog ops Q (o :: rest) a w := by
  obtain ⟨d, hu, hd⟩ := h.str
  exact BigFrame.wpList_want hw fun _ hK' => wp_load_row T p ho g hx T cs (0, 0) d hb.1 hu (by cases d <;> first | rfl | (cases hd)) (VB.agg h hb) (hK' _ _ hK)
/-- cells stored one by one, from the head of a block on -/
theorem setCells_blk (g : Nat) (T : TypeId) : ∀ (l : List Value) (i : Nat) (w : World) (zs : Array Value), Blk w g T zs → i + l.length ≤ zs.size → Blk (w.setCells g i l) g T (zs.toList.take i ++ l ++ zs.toList.drop (i + l.length)).toArray
  | [], i, w, zs, h, _ => by
    have e : (zs.toList.take i ++ [] ++ zs.toList.drop (i + ([] : List Value).length)).toArray = zs := by simp
    rw [e]; exact h
  | v :: r, i, w, zs, h, hl => by
    simp only [List.length_cons] at hl
    have h1 := setCells_blk g T r (i + 1) _ _ (h.set_ i v) (by simp; omega)
    rw [World.setCells]
    have e : ((zs.setIfInBounds i v).toList.take (i + 1) ++ r ++ (zs.setIfInBounds i v).toList.drop (i + 1 + r.length)).toArray = (zs.toList.take i ++ (v :: r) ++ zs.toList.drop (i + (v :: r).length)).toArray := by
      have hi : i < zs.size := by omega
      congr 1
      rw [Array.toList_setIfInBounds]
      rw [List.take_succ_eq_append_getElem (by simpa using hi), List.take_set_of_le (by omega)]
      rw [List.drop_set_of_lt (by omega)]
      simp [Nat.add_assoc, Nat.add_comm 1]
    rw [e] at h1
    exact h1
theorem setCells_upd (g : Nat) : ∀ (l : List Value) (i : Nat) (w : World), Upd [g] w (w.setCells g i l)
  | [], _, w => Upd.refl _ _
  | v :: r, i, w => by
    rw [World.setCells]
    exact ((Upd.refl [g] w).setCell (by simp) v).trans (setCells_upd g r (i + 1) _) (by simp)
theorem setCells_size (g : Nat) : ∀ (l : List Value) (i : Nat) (w : World), (w.setCells g i l).heap.size = w.heap.size
  | [], _, w => rfl
  | v :: r, i, w => by
    rw [World.setCells, setCells_size g r (i + 1)]
    simp [World.setCell]
/-- a whole value stored, whatever it holds -/
theorem wpList_store_any {ops : Array Oper} {rest : List Oper} {o : Oper} {a : Act} {Q : Exit → Act → World → Prop} (hb : Blk w g T zs) (hi : (Tryz.prog.info? T).map (·.size) = some cs.size) (h1 : cs.all (·.oneCell') = true) (hz : zs.size = cs.size) (hgd : o.guard = none) (p q : Operand) (ho : o.op = .store T p q)
    (hx : a.eval p = .pointer (some ⟨g, 0, none⟩)) (hy : a.eval q = .agg cs)
    (hK : ∀ w', Blk w' g T cs → Upd [g] w w' → w'.heap.size = w.heap.size → wpList Tryz.prog ops Q rest (a.put o.dst undef) w') : wpList Tryz.prog ops Q (o :: rest) a w := by
  have hu := setCells_upd g cs.toList 0 w
  have hl : 0 + cs.toList.length ≤ zs.size := by rw [hz]; simp
  have hb' := setCells_blk g T cs.toList 0 w zs hb hl
  have e : (zs.toList.take 0 ++ cs.toList ++ zs.toList.drop (0 + cs.toList.length)).toArray = cs := by
    have : zs.toList.drop (0 + cs.toList.length) = [] := by rw [List.drop_eq_nil_iff]; simp [hz]
    rw [this]; simp
  rw [e] at hb'
  refine wpList_store_mid hgd T p q ho g 0 cs hx hy ?_ hi h1 (hK _ hb' hu (setCells_size _ _ _ _))
  intro j hj
  have hjz : j < zs.size := by omega
  rw [hb.cell, hb.frozen]
  simp [hjz]
theorem blk_loadVar {d : TypeDesc} (hb : Blk w g T cs) (hu : Tryz.prog.underlying T = some d) (hd : d.isRow = true) (hi : (Tryz.prog.info? T).map (·.size) = some cs.size) : (loadVar T ⟨g, 0, none⟩).run Tryz.prog w = .ok (.agg cs) w :=
  run_loadVar_row w g T T cs (0, 0) d hb hu (by cases d <;> first | rfl | (cases hd)) hi
/-- a whole value stored into a variable -/
theorem wpList_store_vb {ops : Array Oper} {rest : List Oper} {o : Oper} {a : Act} {Q : Exit → Act → World → Prop} (h : VOk T V) (hb : Blk w g T zs) (hv : V w B (.agg cs) x) (hB : B ≤ g) (hz : zs.size = cs.size) (hgd : o.guard = none) (p q : Operand) (ho : o.op = .store T p q)
    (hx : a.eval p = .pointer (some ⟨g, 0, none⟩)) (hy : a.eval q = .agg cs)
    (hK : ∀ w', VB T V w' g x cs → Upd [g] w w' → w'.heap.size = w.heap.size → wpList Tryz.prog ops Q rest (a.put o.dst undef) w') : wpList Tryz.prog ops Q (o :: rest) a w := by
  obtain ⟨cs', e, h1, h2⟩ := h.agg hv
  injection e with e
  subst e
  have hu := setCells_upd g cs.toList 0 w
  have hl : 0 + cs.toList.length ≤ zs.size := by rw [hz]; simp
  have hb' := setCells_blk g T cs.toList 0 w zs hb hl
  have e : (zs.toList.take 0 ++ cs.toList ++ zs.toList.drop (0 + cs.toList.length)).toArray = cs := by
    have : zs.toList.drop (0 + cs.toList.length) = [] := by rw [List.drop_eq_nil_iff]; simp [hz]
    rw [this]; simp
  rw [e] at hb'
  refine wpList_store_mid hgd T p q ho g 0 cs hx hy ?_ h1 h2 (hK _ ⟨hb', h.shrink (h.upd hv hu (by simpa using hB))⟩ hu (setCells_size _ _ _ _))
  intro j hj
  have hjz : j < zs.size := by omega
  rw [hb.cell, hb.frozen]
  simp [hjz]
theorem results_cell2 {fn : Func} {p q : Tmp} {v b : Value} (h : fn.results = #[.cell p T, .tmp q]) (tmps : Array Value) (w : World) (hp : tmps.getD p undef = .pointer (some ⟨g, 0, none⟩)) (hq : tmps.getD q undef = b) (hb : (loadVar T ⟨g, 0, none⟩).run Tryz.prog w = .ok v w) :
    (results fn tmps).run Tryz.prog w = .ok (.tuple #[v, b]) w := by
  have hp' : tmps[p]?.getD undef = .pointer (some ⟨g, 0, none⟩) := by simpa using hp
  have hq' : tmps[q]?.getD undef = b := by simpa using hq
  simp [results, h, hp', hq', asAddr, hb]
end
end Go.Proofs.YtaajmfgplhfncaaGreat

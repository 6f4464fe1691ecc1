/- ClientHello as a value: one cell changed; zeros in new memory. -/
import Derived.Test.YtaajmfgplhfncaaGreatChO
namespace Go.Proofs.YtaajmfgplhfncaaGreat
open Go.RowKit
set_option maxRecDepth 100000
theorem GV.set_ {α : Type} {fs : α → List Fd} {w : World} {B i : Nat} {v : Value} {x y : α} {cs : Array Value} {f : Fd} (h : GV fs w B (.agg cs) x) (hv : FdOk w B v f) (hy : fs y = (fs x).set i f) : GV fs w B (.agg (cs.setIfInBounds i v)) y := by
  obtain ⟨cs', e, h1, h2⟩ := h
  injection e with e
  subst e
  refine ⟨_, rfl, by rw [hy]; simp [h1], fun j u g k1 k2 => ?_⟩
  rw [hy] at k2
  by_cases hj : j = i
  · subst hj
    have hjl : j < (fs x).length := by
      have := (List.getElem?_eq_some_iff.1 k2).1
      simpa using this
    rw [List.getElem?_set_self hjl] at k2
    rw [Array.getElem?_setIfInBounds_self_of_lt (by omega)] at k1
    injection k1 with k1
    injection k2 with k2
    rw [← k1, ← k2]; exact hv
  · rw [List.getElem?_set_ne (Ne.symm hj)] at k2
    rw [Array.getElem?_setIfInBounds_ne (Ne.symm hj)] at k1
    exact h2 j u g k1 k2
theorem run_make32 (w : World) : (Instr.makeSlice 23 (.int .i64 32) (.int .i64 32)).run Tryz.prog w = .ok (.slice (some ⟨w.heap.size, 0, none⟩) 32 32) (w.alloc (.cells (Array.replicate 32 (.int .u8 0)) 5)) := by
  obtain ⟨i0, hi, hz0, hz1, hz2⟩ := info_parts info_u8
  have h := run_make (P := Tryz.prog) w 23 5 i0 (.int .u8 0) Tryz.underlying23 hi hz0 .i64 .i64 32 32 (by omega) (Int.le_refl _) (by rw [hz2]; decide) (by decide)
  have e : madeCells #[Value.int .u8 0] 32 = Array.replicate 32 (.int .u8 0) := by kernel_rfl
  rw [← e]
  simpa [hz1, Value.cells] using h
theorem zeros_new (w : World) : Byt (w.alloc (.cells (Array.replicate 32 (.int .u8 0)) 5)) (w.alloc (.cells (Array.replicate 32 (.int .u8 0)) 5)).heap.size (.slice (some ⟨w.heap.size, 0, none⟩) 32 32) (List.replicate 32 0) := by
  refine ⟨some ⟨w.heap.size, 0, none⟩, 32, rfl, by simp, by unfold maxLen; omega, (by intro e; cases e), fun _ => ⟨w.heap.size, 0, rfl, by simp, fun j u hj => ?_⟩⟩
  rw [(Blk.new w 5 _).cell, Nat.zero_add]
  rw [List.map_replicate] at hj
  rw [List.getElem?_replicate] at hj
  rw [Array.getElem?_replicate]
  exact hj
end Go.Proofs.YtaajmfgplhfncaaGreat

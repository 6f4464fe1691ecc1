/- Texts joined: ChSuf. -/
import Derived.Test.YtaajmfgplhfncaaGreatB07
namespace Go.Proofs.YtaajmfgplhfncaaGreat
open Go.RowKit Go.Maps
set_option maxRecDepth 100000
section
variable {w : World} {xs : List UInt8}
theorem suffix_key (h0 : xs ≠ []) (h : xs.getLast? ≠ some 46) : (((ByteArray.mk xs.toArray).extract (xs.length - 1) xs.length).toList == [46]) = false := by
  rw [Lib.toList_data]
  obtain ⟨ys, c, rfl⟩ : ∃ ys c, xs = ys ++ [c] := ⟨xs.dropLast, xs.getLast h0, (List.dropLast_concat_getLast h0).symm⟩
  have hc : c ≠ 46 := fun e => h (by rw [e]; simp)
  have e : ((ByteArray.mk (ys ++ [c]).toArray).extract ((ys ++ [c]).length - 1) (ys ++ [c]).length).data.toList = [c] := by
    rw [ByteArray.data_extract]
    simp
  rw [e]
  simpa using hc
theorem suffix_lite (h0 : xs ≠ []) (hl : xs.length < 65536) (h : xs.getLast? ≠ some 46) : Calls Tryz.prog 136 #[strv xs, strv [46]] w fun e w' => e = .returned (.bool false) ∧ w' = w := by
  have hp := List.length_pos_iff.2 h0
  have hk := suffix_key h0 h
  clear h
  go_enter Tryz.func136, Tryz.ntmps136
  go_wp2
  go_ret
  exact ⟨rfl, rfl⟩
theorem suffix_dot (h0 : xs ≠ []) (hl : xs.length < 65536) (h : xs.getLast? ≠ some 46) : Calls Tryz.prog 75 #[strv xs, strv [46]] w fun e w' => e = .returned (.bool false) ∧ w' = w := by
  have H := hid (suffix_lite (w := w) h0 hl h)
  clear h h0 hl
  go_enter Tryz.func75, Tryz.ntmps75
  go_wp2_with fail
  refine H.out.mono ?_
  rintro e w2 ⟨rfl, rfl⟩
  go_wp2
  go_ret
  exact ⟨rfl, rfl⟩
end
end Go.Proofs.YtaajmfgplhfncaaGreat

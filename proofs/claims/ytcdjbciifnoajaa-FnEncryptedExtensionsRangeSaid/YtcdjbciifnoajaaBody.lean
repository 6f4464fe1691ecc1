/- Plain laws on the reader's model: what 'body' leaves, and that a found fault stays. -/
import Derived.Test.YtcdjbciifnoajaaModel
namespace Go.Proofs.Ytcdjbciifnoajaa
set_option maxRecDepth 20000

namespace R
theorem fail_code {s : R} (h : s.code ≠ 0) (c : Nat) : (s.fail c).code = s.code := by simp [fail, h]
theorem fail_code0 {s : R} (h : s.code = 0) (c : Nat) : (s.fail c).code = c := by simp [fail, h]
theorem take_code {s : R} (h : s.code ≠ 0) (k : Nat) : (s.take k).2.code = s.code := by
  unfold take; split
  · exact fail_code h 3
  · rfl
theorem num_code {s : R} (h : s.code ≠ 0) (k : Nat) : (s.num k).2.code = s.code := take_code h k
theorem long_code {s : R} (h : s.code ≠ 0) (n : Nat) : (s.long n).code = s.code := by simp [long, h]
theorem vec_code {s : R} (h : s.code ≠ 0) (size lo hi : Nat) : (s.vec size lo hi).2.code = s.code := by
  have h1 := num_code h size
  have h2 := long_code (s := (s.num size).2) (by rw [h1]; exact h) (s.num size).1
  unfold vec
  simp only
  rw [if_neg (by rw [h2, h1]; exact h)]
  rw [h2, h1]
theorem vec_out {s : R} (h : s.code ≠ 0) (size lo hi : Nat) : (s.vec size lo hi).1 = [] := by
  have h1 := num_code h size
  have h2 := long_code (s := (s.num size).2) (by rw [h1]; exact h) (s.num size).1
  unfold vec
  simp only
  rw [if_neg (by rw [h2, h1]; exact h)]
theorem fin_code {s : R} (h : s.code ≠ 0) : s.fin.code = s.code := by
  unfold fin; split
  · rfl
  · exact fail_code h 3
theorem done_code {s : R} (h : s.code ≠ 0) (x : R) : (s.done x).code = s.code := by
  unfold done; split
  · rfl
  · exact fail_code h _
end R

/-- what 'body' leaves: the rest of the message, or the code 1 -/
theorem bodyR_two (kind : Nat) (data : List UInt8) : (bodyR kind data).code = 1 ∨ (bodyR kind data = ⟨data.drop 4, 0⟩ ∧ 4 ≤ data.length ∧ beNat (data.take 1) = kind ∧ beNat ((data.drop 1).take 3) = data.length - 4) := by
  by_cases h4 : data.length < 4
  · left; simp [bodyR, h4, R.fail]
  · have h1 : ¬ data.length < 1 := by omega
    have e1 : (R.mk data 0).num 1 = (beNat (data.take 1), ⟨data.drop 1, 0⟩) := by simp [R.num, R.take, h1]
    by_cases hk : beNat (data.take 1) = kind
    · have e2 : (R.mk (data.drop 1) 0).num 3 = (beNat ((data.drop 1).take 3), ⟨data.drop 4, 0⟩) := by
        have : ¬ (data.drop 1).length < 3 := by simp; omega
        unfold R.num R.take
        simp only [if_neg this]
        simp
      by_cases hl : beNat ((data.drop 1).take 3) = (data.drop 4).length
      · right
        refine ⟨?_, by omega, hk, by rw [hl]; simp⟩
        unfold bodyR
        simp only [if_neg h4, e1, if_pos hk, e2, if_pos hl]
      · left
        unfold bodyR
        simp only [if_neg h4, e1, if_pos hk, e2, if_neg hl]
        rfl
    · left
      unfold bodyR
      simp only [if_neg h4, e1, if_neg hk]
      have hf : (R.mk (data.drop 1) 0).fail 1 = ⟨[], 1⟩ := rfl
      rw [hf]
      have e2 : (R.mk [] 1).num 3 = (0, ⟨[], 1⟩) := by simp [R.num, R.take, R.fail, beNat]
      rw [e2]
      simp
theorem bodyR_of {kind : Nat} {data : List UInt8} (h4 : 4 ≤ data.length) (hk : beNat (data.take 1) = kind) (hl : beNat ((data.drop 1).take 3) = data.length - 4) : bodyR kind data = ⟨data.drop 4, 0⟩ := by
  have h1 : ¬ data.length < 1 := by omega
  have e1 : (R.mk data 0).num 1 = (beNat (data.take 1), ⟨data.drop 1, 0⟩) := by simp [R.num, R.take, h1]
  have e2 : (R.mk (data.drop 1) 0).num 3 = (beNat ((data.drop 1).take 3), ⟨data.drop 4, 0⟩) := by
    have : ¬ (data.drop 1).length < 3 := by simp; omega
    unfold R.num R.take
    simp only [if_neg this]
    simp
  have hl' : beNat ((data.drop 1).take 3) = (data.drop 4).length := by rw [hl]; simp
  unfold bodyR
  simp only [if_neg (show ¬ data.length < 4 by omega), e1, if_pos hk, e2, if_pos hl']
end Go.Proofs.Ytcdjbciifnoajaa

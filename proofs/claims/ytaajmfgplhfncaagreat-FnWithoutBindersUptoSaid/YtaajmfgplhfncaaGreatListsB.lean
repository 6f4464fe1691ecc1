/- Words and vectors within extensions, plainly: what is written is read; how long what is read is. -/
import Derived.Test.YtaajmfgplhfncaaGreatCqPlain
import Derived.Test.YtaajmfgplhfncaaGreatOuts
namespace Go.Proofs.YtaajmfgplhfncaaGreat
set_option maxRecDepth 20000

theorem wordsOf_wordsB : ∀ l : List UInt16, wordsOf (wordsB l) = l
  | [] => rfl
  | k :: l => by
    have e : wordsB (k :: l) = be 2 k.toNat ++ wordsB l := rfl
    rw [e, be2_two]
    show UInt16.ofNat _ :: wordsOf (wordsB l) = _
    rw [u16_be2, wordsOf_wordsB l]
theorem wordsP_be {l : List UInt16} (h0 : l ≠ []) (h : 2 * l.length < 65536) : wordsP 2 (be 2 (wordsB l).length ++ wordsB l) = some l := by
  have hl := wordsB_len l
  unfold wordsP
  rw [lp_be2' _ (by omega), wordsIn_even, wordsOf_wordsB]
  · intro e
    rw [e] at hl
    have : 0 < l.length := List.length_pos_iff.2 h0
    simp at hl
    omega
  · omega
theorem lps_vecsB {ls : List (List UInt8)} (h : ∀ x ∈ ls, x ≠ [] ∧ x.length < 65536) : lps 2 (vecsB 2 ls) = some ls := by
  induction ls with
  | nil => rfl
  | cons x ls ih =>
    have hx := h x (by simp)
    have hL : lp 2 (vecsB 2 (x :: ls)) = some (x, vecsB 2 ls) := by
      rw [vecsB_cons]
      exact lp_be 2 x _ (beNat_be2 _ hx.2)
    rw [lps_step hL hx.1, ih fun y hy => h y (by simp [hy])]
    rfl
theorem vecsB_ne {ls : List (List UInt8)} (h0 : ls ≠ []) : vecsB 2 ls ≠ [] := by
  cases ls with
  | nil => exact absurd rfl h0
  | cons x ls =>
    intro e
    have := congrArg List.length e
    rw [vecsB_cons] at this
    simp [be_len] at this
theorem listsP_be {ls : List (List UInt8)} (h0 : ls ≠ []) (h : ∀ x ∈ ls, x ≠ []) (hl : (vecsB 2 ls).length < 65536) : listsP 2 2 (be 2 (vecsB 2 ls).length ++ vecsB 2 ls) = some ls := by
  unfold listsP
  rw [lp_be2' _ hl, lpsIn_some 2 (vecsB_ne h0)]
  refine lps_vecsB fun x hx => ⟨h x hx, ?_⟩
  obtain ⟨k, hk, rfl⟩ := List.getElem_of_mem hx
  exact Nat.lt_of_le_of_lt (vecsB_get 2 ls k hk) hl
theorem lps_size : ∀ (n : Nat) (d : List UInt8) (l : List (List UInt8)), d.length ≤ n → lps 2 d = some l → (vecsB 2 l).length = d.length ∧ ∀ x ∈ l, x ≠ [] := by
  intro n
  induction n with
  | zero =>
    intro d l hn h
    have : d = [] := List.eq_nil_of_length_eq_zero (by omega)
    subst this
    injection h with h
    subst h
    exact ⟨rfl, by simp⟩
  | succ n ih =>
    intro d l hn h
    by_cases h0 : d = []
    · subst h0
      injection h with h
      subst h
      exact ⟨rfl, by simp⟩
    · rcases hL : lp 2 d with _ | ⟨_ | ⟨y, x⟩, r⟩
      · rw [lps_none h0 (fun y x r h => by rw [hL] at h; cases h)] at h; cases h
      · rw [lps_none h0 (fun y x r h => by rw [hL] at h; cases h)] at h; cases h
      · rw [lps_step hL (by simp)] at h
        have hl := lp_len hL
        rcases hr : lps 2 r with _ | l'
        · rw [hr] at h; cases h
        · rw [hr] at h
          injection h with h
          subst h
          obtain ⟨a, b⟩ := ih r l' (by simp at hl; omega) hr
          refine ⟨?_, ?_⟩
          · rw [vecsB_cons]
            simp [be_len] at hl ⊢
            omega
          · intro z hz
            rcases List.mem_cons.1 hz with hz | hz
            · rw [hz]; simp
            · exact b z hz
theorem listsP_len {d : List UInt8} {l : List (List UInt8)} (h : listsP 2 2 d = some l) : 2 + (vecsB 2 l).length = d.length ∧ l ≠ [] ∧ ∀ x ∈ l, x ≠ [] := by
  unfold listsP at h
  rcases ha : lp 2 d with _ | ⟨x, _ | ⟨z, t⟩⟩
  · rw [ha] at h; cases h
  · rw [ha] at h
    by_cases hx : x = []
    · subst hx; rw [lpsIn_nil] at h; cases h
    · rw [lpsIn_some 2 hx] at h
      obtain ⟨a, b⟩ := lps_size _ x l (Nat.le_refl _) h
      have hl := lp_len ha
      refine ⟨by simp at hl; omega, ?_, b⟩
      intro e
      subst e
      have : 0 < x.length := List.length_pos_iff.2 hx
      have e : (vecsB 2 []).length = 0 := rfl
      omega
  · rw [ha, lpsIn_more] at h; cases h
/-- what the package reads as numbers, or as vectors, the reference reads, too -/
theorem wordsV_ok {size most : Nat} (hm : 256 ^ size ≤ most + 1) {d : List UInt8} {l : List UInt16} (h : wordsP size d = some l) : (R.mk d 0).wordsV size most = (l, ⟨[], 0⟩) := by
  unfold wordsP at h
  rcases ha : lp size d with _ | ⟨_ | ⟨y, x⟩, _ | ⟨z, t⟩⟩
  · rw [ha] at h; cases h
  · rw [ha] at h; cases h
  · rw [ha] at h; cases h
  · rw [ha] at h
    have h : (if (y :: x).length % 2 = 0 then some (wordsOf (y :: x)) else none) = some l := h
    split at h
    · rename_i he
      injection h with h
      have hl := lp_len ha
      have h2 : 2 ≤ (y :: x).length := by simp only [List.length_cons] at he ⊢; omega
      have hv : (R.mk d 0).vec size 2 most = (y :: x, ⟨[], 0⟩) := by rw [R.vec_some ha, R.rng_in h2 (by omega)]
      unfold R.wordsV
      rw [hv]
      show (R.mk [] 0).words (y :: x) = _
      unfold R.words
      have hw : ((R.mk [] 0).within (y :: x)) = ⟨y :: x, 0⟩ := rfl
      rw [hw, ← h]
      have he' : (R.mk (y :: x) 0).wEnd = ⟨[], 0⟩ := by unfold R.wEnd; rw [if_pos he]
      rw [he']
      rfl
    · cases h
  · rw [ha] at h; cases h
theorem listsV_ok {n low most size : Nat} (hs : 1 ≤ size) (hlow2 : low ≤ size + 1) (hm : 256 ^ n ≤ most + 1) {d : List UInt8} {l : List (List UInt8)} (h : listsP n size d = some l) : (R.mk d 0).listsV n low most size = (l, ⟨[], 0⟩) := by
  unfold listsP at h
  rcases ha : lp n d with _ | ⟨_ | ⟨y, x⟩, _ | ⟨z, t⟩⟩
  · rw [ha] at h; cases h
  · rw [ha] at h; cases h
  · rw [ha] at h; cases h
  · rw [ha] at h
    have h : lps size (y :: x) = some l := h
    have hl := lp_len ha
    have h2 := lps_low h (by simp)
    have hv : (R.mk d 0).vec n low most = (y :: x, ⟨[], 0⟩) := by rw [R.vec_some ha, R.rng_in (by omega) (by omega)]
    unfold R.listsV
    rw [hv]
    show (R.mk [] 0).vectors (y :: x) size 1 = _
    unfold R.vectors
    have hw : ((R.mk [] 0).within (y :: x)) = ⟨y :: x, 0⟩ := rfl
    rw [hw]
    rcases vecsGo_lps size hs (y :: x).length (y :: x) (Nat.le_refl _) with ⟨l', h1, h3⟩ | ⟨_, _, h3⟩
    · rw [h] at h3
      injection h3 with h3
      rw [h1, ← h3]
      rfl
    · rw [h] at h3; cases h3
  · rw [ha] at h; cases h
/-- as runE_lists, where a number's field is taken up once -/
theorem runE_listsF {σ : Type} (stp : σ → Ex → Option σ) (E : List Ex) (f : (UInt16 → Bool) → σ)
    (hstep : ∀ S e, e ∈ E → S e.1 = false → stp (f S) e = some (f fun k => S k || k == e.1))
    (hunk : ∀ S (e : Ex), 43520 ≤ e.1.toNat → e.1.toNat < 44520 → stp (f S) e = some (f S)) (l : List Ex) (hn : (l.map (·.1)).Nodup) (hl : ∀ e ∈ l, e ∈ E ∨ 43520 ≤ e.1.toNat ∧ e.1.toNat < 44520) (S : UInt16 → Bool) (hS : ∀ e ∈ l, S e.1 = false) :
    ∃ S', runE stp l (f S) = some (f S') ∧ (∀ k, S k = true → S' k = true) ∧ ∀ e ∈ l, e ∈ E → S' e.1 = true := by
  induction l generalizing S with
  | nil => exact ⟨S, rfl, fun _ h => h, by simp⟩
  | cons e l ih =>
    rw [List.map_cons, List.nodup_cons] at hn
    have hne : ∀ x ∈ l, x.1 ≠ e.1 := fun x hx h => hn.1 (List.mem_map.2 ⟨x, hx, h⟩)
    by_cases he : e ∈ E
    · obtain ⟨S', h1, h2, h3⟩ := ih hn.2 (fun x hx => hl x (List.mem_cons_of_mem _ hx)) (fun k => S k || k == e.1) (fun x hx => by
        simp only [Bool.or_eq_false_iff, beq_eq_false_iff_ne]
        exact ⟨hS x (List.mem_cons_of_mem _ hx), hne x hx⟩)
      refine ⟨S', ?_, fun k hk => h2 k (by simp [hk]), ?_⟩
      · show (stp (f S) e).bind _ = _
        rw [hstep S e he (hS e (by simp))]
        exact h1
      · intro x hx hxe
        rcases List.mem_cons.1 hx with rfl | hx
        · exact h2 _ (by simp)
        · exact h3 x hx hxe
    · rcases hl e (by simp) with h | ⟨u1, u2⟩
      · exact absurd h he
      · obtain ⟨S', h1, h2, h3⟩ := ih hn.2 (fun x hx => hl x (List.mem_cons_of_mem _ hx)) S (fun x hx => hS x (List.mem_cons_of_mem _ hx))
        refine ⟨S', ?_, h2, ?_⟩
        · show (stp (f S) e).bind _ = _
          rw [hunk S e u1 u2]
          exact h1
        · intro x hx hxe
          rcases List.mem_cons.1 hx with rfl | hx
          · exact absurd hxe he
          · exact h3 x hx hxe
theorem runE_rightF {σ : Type} (stp : σ → Ex → Option σ) (E : List Ex) (f : (UInt16 → Bool) → σ) (m : σ)
    (hstep : ∀ S e, e ∈ E → S e.1 = false → stp (f S) e = some (f fun k => S k || k == e.1))
    (hunk : ∀ S (e : Ex), 43520 ≤ e.1.toNat → e.1.toNat < 44520 → stp (f S) e = some (f S))
    (hall : ∀ S, (∀ e ∈ E, S e.1 = true) → f S = m) {L : List Ex} (hL : ListsE E L) : runE stp L (f fun _ => false) = some m := by
  obtain ⟨S', h1, _, h3⟩ := runE_listsF stp E f hstep hunk L hL.1 hL.2.1 (fun _ => false) fun _ _ => rfl
  rw [h1, hall S' fun e he => h3 e (hL.2.2 e he) he]
end Go.Proofs.YtaajmfgplhfncaaGreat

/- Plain laws: what is written is read, by the package and by the reference. No program is named here. -/
import Derived.Test.YtcdjbciifnoajaaBlock
namespace Go.Proofs.Ytcdjbciifnoajaa
set_option maxRecDepth 20000

/-- the package's loop over a list of right extensions: f S is the message, as far as the extensions of the numbers S tell it -/
theorem runE_lists {σ : Type} (stp : σ → Ex → Option σ) (E : List Ex) (f : (UInt16 → Bool) → σ)
    (hstep : ∀ S e, e ∈ E → stp (f S) e = some (f fun k => S k || k == e.1))
    (hunk : ∀ S (e : Ex), 43520 ≤ e.1.toNat → e.1.toNat < 44520 → stp (f S) e = some (f S)) (l : List Ex) (hl : ∀ e ∈ l, e ∈ E ∨ 43520 ≤ e.1.toNat ∧ e.1.toNat < 44520) (S : UInt16 → Bool) :
    ∃ S', runE stp l (f S) = some (f S') ∧ (∀ k, S k = true → S' k = true) ∧ ∀ e ∈ l, e ∈ E → S' e.1 = true := by
  induction l generalizing S with
  | nil => exact ⟨S, rfl, fun _ h => h, by simp⟩
  | cons e l ih =>
    by_cases he : e ∈ E
    · obtain ⟨S', h1, h2, h3⟩ := ih (fun x hx => hl x (List.mem_cons_of_mem _ hx)) (fun k => S k || k == e.1)
      refine ⟨S', ?_, fun k hk => h2 k (by simp [hk]), ?_⟩
      · show (stp (f S) e).bind _ = _
        rw [hstep S e he]
        exact h1
      · intro x hx hxe
        rcases List.mem_cons.1 hx with rfl | hx
        · exact h2 _ (by simp)
        · exact h3 x hx hxe
    · rcases hl e (by simp) with h | ⟨u1, u2⟩
      · exact absurd h he
      · obtain ⟨S', h1, h2, h3⟩ := ih (fun x hx => hl x (List.mem_cons_of_mem _ hx)) S
        refine ⟨S', ?_, h2, ?_⟩
        · show (stp (f S) e).bind _ = _
          rw [hunk S e u1 u2]
          exact h1
        · intro x hx hxe
          rcases List.mem_cons.1 hx with rfl | hx
          · exact absurd hxe he
          · exact h3 x hx hxe
theorem runE_right {σ : Type} (stp : σ → Ex → Option σ) (E : List Ex) (f : (UInt16 → Bool) → σ) (m : σ)
    (hstep : ∀ S e, e ∈ E → stp (f S) e = some (f fun k => S k || k == e.1))
    (hunk : ∀ S (e : Ex), 43520 ≤ e.1.toNat → e.1.toNat < 44520 → stp (f S) e = some (f S))
    (hall : ∀ S, (∀ e ∈ E, S e.1 = true) → f S = m) {L : List Ex} (hL : ListsE E L) : runE stp L (f fun _ => false) = some m := by
  obtain ⟨S', h1, _, h3⟩ := runE_lists stp E f hstep hunk L hL.2.1 fun _ => false
  rw [h1, hall S' fun e he => h3 e (hL.2.2 e he) he]
/-- what the package reads, the reference reads -/
theorem specE_conv {σ : Type} (rd : σ → UInt16 → R → σ × R) (stp : σ → Ex → Option σ) (l : List Ex)
    (h : ∀ e ∈ l, ∀ m m', stp m e = some m' → (rd m e.1 ⟨e.2, 0⟩).1 = m' ∧ (rd m e.1 ⟨e.2, 0⟩).2.fin.code = 0) (m m' : σ) (t : List UInt8) (hr : runE stp l m = some m') :
    specE rd l (m, ⟨t, 0⟩) = (m', ⟨t, 0⟩) := by
  induction l generalizing m with
  | nil => injection hr with hr; rw [hr]; rfl
  | cons e l ih =>
    have hr : (stp m e).bind (runE stp l) = some m' := hr
    rcases hs : stp m e with _ | m1
    · rw [hs] at hr; cases hr
    · rw [hs] at hr
      have hr : runE stp l m1 = some m' := hr
      obtain ⟨h1, h2⟩ := h e (by simp) m m1 hs
      have hsp : specE rd (e :: l) (m, ⟨t, 0⟩) = specE rd l ((rd m e.1 ⟨e.2, 0⟩).1, (R.mk t 0).done (rd m e.1 ⟨e.2, 0⟩).2) := rfl
      have hd : (R.mk t 0).done (rd m e.1 ⟨e.2, 0⟩).2 = ⟨t, 0⟩ := by unfold R.done; rw [if_pos h2]
      rw [hsp, hd, h1]
      exact ih (fun x hx => h x (List.mem_cons_of_mem _ hx)) m1 hr
/-- a block that is written, at a message's end -/
def blkB (L : List Ex) : List UInt8 := be 2 (exsB L).length ++ exsB L
theorem lp_blkB (L : List Ex) (h : (exsB L).length < 65536) : lp 2 (blkB L) = some (exsB L, []) := by
  have := lp_be 2 (exsB L) [] (beNat_be2 _ h)
  rw [List.append_nil] at this
  exact this
theorem exsB_short (L : List Ex) (h : (exsB L).length < 65536) : exsBad L = false := by
  by_cases hb : exsBad L = true
  · have := exsW_bad L hb; omega
  · simpa using hb
theorem lastB_blkB {σ : Type} (stp : σ → Ex → Option σ) (m : σ) (L : List Ex) (h : (exsB L).length < 65536) : lastB stp m (blkB L) = runE stp L m := by
  rw [lastB_some (lp_blkB L h)]
  unfold blockE
  rw [exts_exsB L (exsB_short L h)]
  rfl
theorem lastO_blkB {σ : Type} (stp : σ → Ex → Option σ) (m : σ) (L : List Ex) (h : (exsB L).length < 65536) (hn : (L.map (·.1)).Nodup) : lastO stp m (blkB L) = runE stp L m := by
  rw [lastO_some (lp_blkB L h), blockE_once, exts_exsB L (exsB_short L h)]
  show (if _ then _ else _) = _
  rw [if_pos hn]
theorem spec_blkB {σ : Type} (rd : σ → UInt16 → R → σ × R) (m : σ) (L : List Ex) (h : (exsB L).length < 65536) (hn : (L.map (·.1)).Nodup) :
    specE rd (R.mk (blkB L) 0).exts.1 (m, (R.mk (blkB L) 0).exts.2.fin) = specE rd L (m, ⟨[], 0⟩) := by
  have hx := exts_exsB L (exsB_short L h)
  have hl := lp_blkB L h
  rcases block_cases rd m (blkB L) with ⟨_, h1 | ⟨x, y, t, h1⟩ | ⟨x, t, h1, h2⟩⟩ | ⟨_, x, t, h1, h2⟩ | ⟨x, l, h1, h2, _, h3⟩
  · rw [hl] at h1; cases h1
  · rw [hl] at h1; cases h1
  · rw [hl] at h1; cases h1; rw [hx] at h2; cases h2
  · rw [hl] at h1; cases h1; exact absurd hn (h2 L hx)
  · rw [hl] at h1; cases h1; rw [hx] at h2; cases h2; exact h3
end Go.Proofs.Ytcdjbciifnoajaa

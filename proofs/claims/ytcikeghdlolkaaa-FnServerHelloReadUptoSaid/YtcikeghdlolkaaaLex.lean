/- A region that draws its order, whose operations only read but for the last: one order serves for all; the condition is looked at pair by pair, which is cheap for long regions. -/
import Derived.StillTailTactics
namespace Go.Proofs.Ytcikeghdlolkaaa
open Go
set_option maxRecDepth 100000

def lexWaits (oj : Oper) (i : Nat) : Bool := oj.after.any fun e => Region.binds .any e && e.on == i
def lexFast (ops : Array Oper) : List Oper → Nat → Bool
  | [], _ => true
  | o :: rest, i => o.after.all (fun e => !Region.binds .any e || decide (e.on < i)) && rest.all (fun oj => lexWaits oj i || o.apart ops oj) && lexFast ops rest (i + 1)
structure LexOk (ops : Array Oper) (s : List Oper) (k : Nat) : Prop where
  after : ∀ i o, s[i]? = some o → ∀ e ∈ o.after, Region.binds .any e = true → e.on < k + i
  pair : ∀ i j oi oj, i < j → s[i]? = some oi → s[j]? = some oj → lexWaits oj (k + i) = true ∨ oi.apart ops oj = true
theorem lexFast_ok (ops : Array Oper) : ∀ (s : List Oper) (k : Nat), lexFast ops s k = true → LexOk ops s k
  | [], k, _ => ⟨fun i o h => by simp at h, fun i j oi oj _ h => by simp at h⟩
  | o :: rest, k, h => by
    simp only [lexFast, Bool.and_eq_true] at h
    obtain ⟨⟨h1, h2⟩, h4⟩ := h
    have ih := lexFast_ok ops rest (k + 1) h4
    refine ⟨?_, ?_⟩
    · intro i o' ho e he hb
      cases i with
      | zero =>
        have : o = o' := by simpa using ho
        subst this
        have := Array.all_eq_true_iff_forall_mem.1 h1 e he
        simpa [hb] using this
      | succ i =>
        have := ih.after i o' (by simpa using ho) e he hb
        omega
    · intro i j oi oj hij hi hj
      cases j with
      | zero => omega
      | succ j =>
        cases i with
        | zero =>
          have e : o = oi := by simpa using hi
          subst e
          have hm : oj ∈ rest := List.mem_of_getElem? (by simpa using hj)
          have := List.all_eq_true.1 h2 oj hm
          simpa using this
        | succ i =>
          have := ih.pair i j oi oj (by omega) (by simpa using hi) (by simpa using hj)
          rwa [show k + (i + 1) = k + 1 + i by omega]
def lexSink : List Oper → Nat → Bool
  | [], _ => true
  | _ :: rest, i => (rest.isEmpty || rest.any fun oj => lexWaits oj i) && lexSink rest (i + 1)
theorem lexSink_ok : ∀ (s : List Oper) (k : Nat), lexSink s k = true → ∀ i, i + 1 < s.length → ∃ j oj, i < j ∧ s[j]? = some oj ∧ lexWaits oj (k + i) = true
  | [], k, _, i, h => by simp at h
  | o :: rest, k, h, i, hi => by
    simp only [lexSink, Bool.and_eq_true] at h
    obtain ⟨h3, h4⟩ := h
    cases i with
    | zero =>
      have hr : rest.isEmpty = false := by
        cases rest with
        | nil => simp at hi
        | cons a b => rfl
      rw [hr, Bool.false_or] at h3
      obtain ⟨oj, hm, hw⟩ := List.any_eq_true.1 h3
      obtain ⟨j, hj⟩ := List.getElem?_of_mem hm
      exact ⟨j + 1, oj, by omega, by simpa using hj, hw⟩
    | succ i =>
      obtain ⟨j, oj, h5, h6, h7⟩ := lexSink_ok rest (k + 1) h4 i (by simpa using hi)
      exact ⟨j + 1, oj, by omega, by simpa using h6, by rwa [show k + (i + 1) = k + 1 + i by omega]⟩
/-- the first k have come up -/
def LexL (n k : Nat) (listed : Array Bool) : Prop := listed.size = n ∧ ∀ j, j < n → listed[j]? = some (decide (j < k))
theorem LexL.start (n : Nat) : LexL n 0 (Array.replicate n false) := ⟨by simp, fun j hj => by simp [hj]⟩
theorem LexL.step {n k : Nat} {listed : Array Bool} (h : LexL n k listed) : LexL n (k + 1) (listed.setIfInBounds k true) := by
  refine ⟨by simp [h.1], fun j hj => ?_⟩
  rw [Array.getElem?_setIfInBounds]
  by_cases e : k = j
  · subst e
    rw [if_pos rfl, if_pos (by rw [h.1]; exact hj)]
    simp
  · rw [if_neg e, h.2 j hj]
    congr 1
    exact decide_eq_decide.2 (by omega)
theorem LexL.get {n k j : Nat} {listed : Array Bool} {b : Bool} (h : LexL n k listed) (hj : j < n) : listed.getD j b = decide (j < k) := by
  rw [Array.getD_eq_getD_getElem?, h.2 j hj]; rfl
theorem lex_waits {ops : Array Oper} {j i : Nat} {oj : Oper} (hj : ops[j]? = some oj) (h : lexWaits oj i = true) : Region.waitsFor .any ops j i = true := by
  unfold Region.waitsFor
  rw [hj]
  exact h
theorem filter_one (p : Nat → Bool) : ∀ (m k : Nat), k < m → (∀ j, j < m → p j = decide (j = k)) → (List.range m).filter p = [k]
  | 0, k, h, _ => by omega
  | m + 1, k, h, hp => by
    rw [List.range_succ, List.filter_append]
    by_cases e : k = m
    · subst e
      have h1 : (List.range k).filter p = [] := by
        rw [List.filter_eq_nil_iff]
        intro j hj
        have hj := List.mem_range.1 hj
        rw [hp j (by omega), decide_eq_false (by omega)]
        simp
      rw [h1, List.nil_append, List.filter_cons, if_pos (by rw [hp k h]; simp)]
      rfl
    · rw [filter_one p m k (by omega) (fun j hj => hp j (by omega)), List.filter_cons, if_neg (by rw [hp m (by omega), decide_eq_false (by omega)]; simp)]
      rfl
theorem lex_ready {l : List Oper} (h : LexOk l.toArray l 0) {m k : Nat} {listed : Array Bool} (hm : l.length = m) (hk : k < m) (hL : LexL m k listed) : k ∈ Region.ready .any l.toArray listed := by
  have ho : l[k]? = some l[k] := List.getElem?_eq_getElem (by omega)
  refine mem_ready.2 ⟨by rw [hL.get hk]; simp, l[k], by simp, fun e he hb => ?_⟩
  have h1 := h.after k _ ho e he hb
  rw [hL.get (by omega)]
  simp only [Nat.zero_add] at h1
  exact decide_eq_true h1
theorem lex_seq {l : List Oper} (h : LexOk l.toArray l 0) (n : Nat) (hc : Region.chainB .any l.toArray n = true) : ∀ (g k : Nat) (listed : Array Bool), n ≤ k → k + g = l.length → LexL l.length k listed → Region.seqB .any l.toArray g k listed = true
  | 0, k, listed, hn, hk, hL => by
    simp only [Region.seqB, List.isEmpty_iff]
    unfold Region.ready
    rw [List.filter_eq_nil_iff]
    intro i hi
    have hi := List.mem_range.1 hi
    have hi : i < l.length := by simpa using hi
    rw [hL.get hi, decide_eq_true (by omega)]
    simp
  | g + 1, k, listed, hn, hk, hL => by
    have hr : Region.ready .any l.toArray listed = [k] := by
      unfold Region.ready
      refine filter_one _ _ k (by simp; omega) fun j hj => ?_
      have hj : j < l.length := by simpa using hj
      by_cases e : j = k
      · subst e
        have := (List.mem_filter.1 (lex_ready h rfl (by omega) hL)).2
        rw [this]; simp
      · rw [decide_eq_false e, hL.get hj]
        by_cases hjk : j < k
        · simp [hjk]
        · have h1 := List.all_eq_true.1 hc j (List.mem_range.2 (by simpa using hj))
          rw [Bool.or_eq_true, decide_eq_true_eq] at h1
          rcases h1 with h1 | h1
          · omega
          · obtain ⟨oj, hoj, e1, he, hb, hon⟩ := Region.waitsFor_spec h1
            rw [hoj, Option.map_some, Option.getD_some]
            have hf : (oj.after.all fun e => !Region.binds .any e || listed.getD e.on false) = false := by
              rw [Bool.eq_false_iff]
              intro ha
              have := Array.all_eq_true_iff_forall_mem.1 ha e1 he
              rw [hb, hon, hL.get (by omega), decide_eq_false (by omega)] at this
              simp at this
            rw [hf, Bool.and_false]
    simp only [Region.seqB, hr, Bool.and_eq_true, decide_true, true_and]
    exact lex_seq h n hc g (k + 1) _ (by omega) (by omega) hL.step
theorem lex_head {l : List Oper} (h : LexOk l.toArray l 0) (n : Nat) (hn : n < l.length) (hc : Region.chainB .any l.toArray n = true) : ∀ (f k : Nat) (listed : Array Bool), k + f = n → LexL l.length k listed → Region.lexHead .any l.toArray (l.length - n) f k listed = true := by
  have hat : ∀ i, i < l.length → ∃ o, l[i]? = some o := fun i hi => ⟨l[i], List.getElem?_eq_getElem (by omega)⟩
  intro f
  induction f with
  | zero =>
    intro k listed hk hL
    exact lex_seq h n hc _ k listed (by omega) (by omega) hL
  | succ f ih =>
    intro k listed hk hL
    have hkn : k < l.length := by omega
    simp only [Region.lexHead, Bool.and_eq_true]
    refine ⟨⟨by simpa using lex_ready h rfl hkn hL, ?_⟩, ih (k + 1) _ (by omega) hL.step⟩
    obtain ⟨o, ho⟩ := hat k hkn
    unfold Region.free
    have ho' : l.toArray[k]? = some o := by simpa using ho
    rw [ho']
    simp only
    rw [List.all_eq_true]
    intro j hj
    have hj := List.mem_range.1 hj
    have hj : j < l.length := by simpa using hj
    rw [hL.get hj]
    by_cases hjk : j < k
    · simp [hjk]
    · by_cases e : j = k
      · simp [e]
      · obtain ⟨oj, hoj⟩ := hat j hj
        have hoj' : l.toArray[j]? = some oj := by simpa using hoj
        rw [hoj']
        have := h.pair k j o oj (by omega) ho hoj
        rw [Nat.zero_add] at this
        rcases this with h1 | h1
        · unfold lexWaits at h1; simp [h1]
        · simp [h1]
theorem lex_tail {l : List Oper} (n : Nat) (hn : n < l.length) (hs : Region.noSelect l.toArray = true) (hc : Region.chainB .any l.toArray n = true) (hf : lexFast l.toArray l 0 = true) (hf2 : lexSink (l.take (n + 1)) 0 = true) : Region.lexTailB .any l.toArray n = true := by
  have h := lexFast_ok _ _ _ hf
  have hsz : l.toArray.size = l.length := by simp
  unfold Region.lexTailB
  simp only [Bool.and_eq_true, decide_eq_true_eq]
  refine ⟨⟨⟨⟨hs, by omega⟩, ?_⟩, hc⟩, ?_⟩
  · unfold Region.sinkB
    rw [List.all_eq_true]
    intro i hi
    have hi := List.mem_range.1 hi
    by_cases hw : ∃ j oj, i < j ∧ j ≤ n ∧ l[j]? = some oj ∧ lexWaits oj i = true
    · obtain ⟨j, oj, h1, h0, h2, h3⟩ := hw
      rw [List.any_eq_true]
      refine ⟨j, List.mem_range.2 (by omega), ?_⟩
      rw [Bool.and_eq_true]
      exact ⟨decide_eq_true h1, lex_waits (by simpa using h2) h3⟩
    · exfalso
      obtain ⟨j, oj, h1, h2, h3⟩ := lexSink_ok _ 0 hf2 i (by rw [List.length_take]; omega)
      rw [Nat.zero_add] at h3
      have hj : j < (l.take (n + 1)).length := (List.getElem?_eq_some_iff.1 h2).1
      rw [List.length_take] at hj
      rw [List.getElem?_take_of_lt (by omega)] at h2
      exact hw ⟨j, oj, h1, by omega, h2, h3⟩
  · rw [hsz]
    exact lex_head h n hn hc n 0 _ (by omega) (LexL.start _)
theorem wp_region_still_lex {P : Program} {id : Nat} {Q : Exit → Act → World → Prop} {a : Act} {w : World} {l : List Oper} (n : Nat) (hm : P.follows .mixedOrders = true) (hn : decide (n < l.length) = true) (hs : Region.noSelect l.toArray = true) (hc : Region.chainB .any l.toArray n = true) (hf : lexFast l.toArray l 0 = true) (hf2 : lexSink (l.take (n + 1)) 0 = true)
    (h : wpStill P l.toArray { w with drawn := w.drawn + 1 } (fun a' => wpList P l.toArray Q (l.drop n) a' { w with drawn := w.drawn + 1 }) (l.take n) a) : (Code.region id l.toArray true).wp P Q a w :=
  wp_region_still_tail n hm (lex_tail n (of_decide_eq_true hn) hs hc hf hf2) h
end Go.Proofs.Ytcikeghdlolkaaa

/- Extensions, plainly: written, put into another order. No program is named here. -/
import Derived.Test.YtcdjbciifnoajaaExt
import Derived.Test.YtcdjbciifnoajaaModelW
import Derived.Test.YtcdjbciifnoajaaMsgPlain
namespace Go.Proofs.Ytcdjbciifnoajaa
set_option maxRecDepth 20000

def exB (e : Ex) : List UInt8 := be 2 e.1.toNat ++ be 2 e.2.length ++ e.2
def exsB (l : List Ex) : List UInt8 := l.flatMap exB
def exsBad (l : List Ex) : Bool := l.any fun e => decide (65536 ≤ e.2.length)
/-- extensions with their length -/
def exsW (l : List Ex) : Wr := Wr.vector 2 ⟨exsB l, exsBad l⟩
theorem exsB_nil : exsB [] = [] := rfl
theorem exsB_cons (e : Ex) (l : List Ex) : exsB (e :: l) = exB e ++ exsB l := by simp [exsB]
theorem exsB_append (a b : List Ex) : exsB (a ++ b) = exsB a ++ exsB b := by simp [exsB]
theorem exB_len (e : Ex) : (exB e).length = 4 + e.2.length := by simp [exB, be_len]; omega
theorem exsBad_append (a b : List Ex) : exsBad (a ++ b) = (exsBad a || exsBad b) := by simp [exsBad]

theorem be2_two (n : Nat) : be 2 n = [UInt8.ofNat (n / 256), UInt8.ofNat n] := by simp [be]
theorem u16_be2 (k : UInt16) : UInt16.ofNat ((UInt8.ofNat (k.toNat / 256)).toNat * 256 + (UInt8.ofNat k.toNat).toNat) = k := by
  have h := k.toNat_lt
  have : (UInt8.ofNat (k.toNat / 256)).toNat * 256 + (UInt8.ofNat k.toNat).toNat = k.toNat := by simp; omega
  rw [this]
  exact UInt16.ofNat_toNat
/-- an extension that is written is read -/
theorem ext1_exB (e : Ex) (r : List UInt8) (h : e.2.length < 65536) : ext1 (exB e ++ r) = some (e, r) := by
  obtain ⟨k, d⟩ := e
  have h1 : exB (k, d) ++ r = UInt8.ofNat (k.toNat / 256) :: UInt8.ofNat k.toNat :: (be 2 d.length ++ d ++ r) := by simp [exB, be2_two]
  rw [h1, ext1_two, lp_be 2 d r (beNat_be2 _ h)]
  show some ((UInt16.ofNat _, d), r) = _
  rw [u16_be2]
theorem exts_exsB (l : List Ex) (h : exsBad l = false) : exts (exsB l) = some l := by
  induction l with
  | nil => rfl
  | cons e l ih =>
    have he : e.2.length < 65536 ∧ exsBad l = false := by
      unfold exsBad at h ⊢
      rw [List.any_cons, Bool.or_eq_false_iff] at h
      exact ⟨by have := h.1; simp at this; omega, h.2⟩
    rw [exsB_cons, exts_step (ext1_exB e _ he.1), ih he.2]
    rfl
theorem exsW_eq (l : List Ex) : exsW l = ⟨be 2 (exsB l).length ++ exsB l, exsBad l || decide (65536 ≤ (exsB l).length)⟩ := by
  simp [exsW, Wr.vector, Wr.inner, Wr.vec, Wr.nil]
theorem exsW_bad (l : List Ex) (h : exsBad l = true) : 65536 ≤ (exsB l).length := by
  induction l with
  | nil => cases h
  | cons e l ih =>
    rw [exsB_cons, List.length_append, exB_len]
    unfold exsBad at h ih
    rw [List.any_cons, Bool.or_eq_true_iff] at h
    rcases h with h | h
    · have := of_decide_eq_true h; omega
    · have := ih h; omega
/-- too long as a whole: that is all that can be wrong -/
theorem exsW_short (l : List Ex) : (exsW l).bad = decide (65536 ≤ (exsB l).length) := by
  rw [exsW_eq]
  by_cases h : exsBad l = true
  · have := exsW_bad l h
    simp [h, this]
  · have h : exsBad l = false := by simpa using h
    simp [h]

/-- a list of extensions: 'add' -/
structure LW where
  l : List Ex
  bad : Bool
def LW.nil : LW := ⟨[], false⟩
def LW.add (s : LW) (is : Bool) (k : UInt16) (x : Wr) : LW := if is then ⟨s.l ++ [(k, x.b)], s.bad || x.bad⟩ else s
theorem LW.add_true (s : LW) (k : UInt16) (x : Wr) : s.add true k x = ⟨s.l ++ [(k, x.b)], s.bad || x.bad⟩ := rfl
theorem LW.add_false (s : LW) (k : UInt16) (x : Wr) : s.add false k x = s := rfl

/-- extensions of types that have no meaning -/
def unknownGo : Nat → List (List UInt8) → List Ex
  | _, [] => []
  | i, x :: l => (UInt16.ofNat (43520 + i), x) :: unknownGo (i + 1) l
def unknown (l : List (List UInt8)) : List Ex := unknownGo 0 l
theorem unknownGo_len (i : Nat) (l : List (List UInt8)) : (unknownGo i l).length = l.length := by
  induction l generalizing i with
  | nil => rfl
  | cons x l ih => simp [unknownGo, ih]
theorem unknownGo_snoc (i : Nat) (l : List (List UInt8)) (x : List UInt8) : unknownGo i (l ++ [x]) = unknownGo i l ++ [(UInt16.ofNat (43520 + (i + l.length)), x)] := by
  induction l generalizing i with
  | nil => rfl
  | cons y l ih =>
    show _ :: unknownGo (i + 1) (l ++ [x]) = _ :: (unknownGo (i + 1) l ++ _)
    rw [ih]
    simp [Nat.add_assoc, Nat.add_comm 1]
/-- numbers that say nothing -/
theorem unknownGo_mem {i : Nat} {l : List (List UInt8)} {e : Ex} (h : e ∈ unknownGo i l) : ∃ j, i ≤ j ∧ j < i + l.length ∧ e.1 = UInt16.ofNat (43520 + j) := by
  induction l generalizing i with
  | nil => cases h
  | cons x l ih =>
    rcases List.mem_cons.1 h with h | h
    · exact ⟨i, by omega, by simp, by rw [h]⟩
    · obtain ⟨j, h1, h2, h3⟩ := ih h
      exact ⟨j, by omega, by simp; omega, h3⟩
theorem unknownGo_nodup (i : Nat) (l : List (List UInt8)) (h : i + l.length ≤ 1000) : ((unknownGo i l).map (·.1)).Nodup := by
  induction l generalizing i with
  | nil => simp [unknownGo]
  | cons x l ih =>
    simp only [List.length_cons] at h
    show (UInt16.ofNat (43520 + i) :: (unknownGo (i + 1) l).map (·.1)).Nodup
    rw [List.nodup_cons]
    refine ⟨?_, ih (i + 1) (by omega)⟩
    intro hm
    obtain ⟨e, he, hk⟩ := List.mem_map.1 hm
    obtain ⟨j, h1, h2, h3⟩ := unknownGo_mem he
    rw [h3] at hk
    have := congrArg UInt16.toNat hk
    simp only [UInt16.toNat_ofNat'] at this
    omega
theorem unknown_ge {l : List (List UInt8)} (hl : l.length ≤ 1000) {e : Ex} (h : e ∈ unknown l) : 43520 ≤ e.1.toNat ∧ e.1.toNat < 44520 := by
  obtain ⟨j, _, h2, h3⟩ := unknownGo_mem h
  rw [h3, UInt16.toNat_ofNat']
  omega

/-- in another order: the round i of the loop -/
def ordE (l : List Ex) (s i : Nat) : Ex := (l[(i + s) % l.length]?).getD (0, [])
def ordGo (l : List Ex) (s : Nat) (other : List Ex) : Nat → List Ex × List Ex
  | 0 => ([], [])
  | i + 1 => let p := ordGo l s other i
    ((if (ordE l s i).1 = 41 then p.1 else p.1 ++ [ordE l s i]) ++ (other[i]?).toList, if (ordE l s i).1 = 41 then p.2 ++ [ordE l s i] else p.2)
def ordered (l : List Ex) (from_ : Nat) (more : List (List UInt8)) : List Ex := (ordGo l (from_ % l.length) (unknown more) l.length).1 ++ (ordGo l (from_ % l.length) (unknown more) l.length).2
theorem ordGo_perm (l : List Ex) (s : Nat) (o : List Ex) (i : Nat) : ((ordGo l s o i).1 ++ (ordGo l s o i).2).Perm ((List.range i).map (ordE l s) ++ o.take i) := by
  induction i with
  | zero => exact List.Perm.refl _
  | succ i ih =>
    have ih' := fun a => List.perm_iff_count.1 ih a
    refine List.perm_iff_count.2 fun a => ?_
    have h := ih' a
    rw [List.range_succ, List.map_append, List.take_add_one]
    unfold ordGo
    simp only [List.count_append, List.map_cons, List.map_nil] at h ⊢
    by_cases hk : (ordE l s i).1 = 41
    · simp only [if_pos hk, List.count_append]; omega
    · simp only [if_neg hk, List.count_append]; omega
theorem range_ordE (l : List Ex) (s : Nat) (hs : s < l.length) : (List.range l.length).map (ordE l s) = l.drop s ++ l.take s := by
  apply List.ext_getElem
  · simp; omega
  · intro i h1 h2
    simp at h1
    rw [List.getElem_map, List.getElem_range, List.getElem_append]
    unfold ordE
    by_cases hi : i < l.length - s
    · have : (i + s) % l.length = i + s := Nat.mod_eq_of_lt (by omega)
      rw [this, dif_pos (by simpa using hi), List.getElem?_eq_getElem (by omega), List.getElem_drop]
      simp [Nat.add_comm]
    · have : (i + s) % l.length = i + s - l.length := by
        rw [Nat.mod_eq_sub_mod (by omega), Nat.mod_eq_of_lt (by omega)]
      rw [this, dif_neg (by simpa using hi), List.getElem?_eq_getElem (by omega), List.getElem_take]
      simp
      congr 1
      omega
theorem ordered_perm (l : List Ex) (f : Nat) (more : List (List UInt8)) : (ordered l f more).Perm (l ++ (unknown more).take l.length) := by
  unfold ordered
  refine (ordGo_perm _ _ _ _).trans ?_
  refine List.Perm.append_right _ ?_
  by_cases h : l = []
  · subst h; exact List.Perm.refl _
  · have hp : 0 < l.length := List.length_pos_iff.2 h
    rw [range_ordE l _ (Nat.mod_lt _ hp)]
    exact List.perm_append_comm.trans (by rw [List.take_append_drop])
/-- what is right of a list of extensions: each number once, those of l all there, and else such as say nothing -/
def ListsE (E L : List Ex) : Prop := (L.map (·.1)).Nodup ∧ (∀ e ∈ L, e ∈ E ∨ 43520 ≤ e.1.toNat ∧ e.1.toNat < 44520) ∧ ∀ e ∈ E, e ∈ L
theorem ListsE.self {E : List Ex} (h : (E.map (·.1)).Nodup) : ListsE E E := ⟨h, fun _ he => .inl he, fun _ he => he⟩
theorem ListsE.perm {E L L' : List Ex} (h : ListsE E L) (hp : L'.Perm L) : ListsE E L' :=
  ⟨((hp.map _).nodup_iff).2 h.1, fun e he => h.2.1 e (hp.mem_iff.1 he), fun e he => hp.mem_iff.2 (h.2.2 e he)⟩
theorem ordered_lists {E : List Ex} (h : (E.map (·.1)).Nodup) (hs : ∀ e ∈ E, e.1.toNat < 43520 ∨ 44520 ≤ e.1.toNat) (f : Nat) (more : List (List UInt8)) (hm : more.length ≤ 1000) : ListsE E (ordered E f more) := by
  refine ListsE.perm ⟨?_, ?_, ?_⟩ (ordered_perm E f more)
  · have hn := unknownGo_nodup 0 more (by omega)
    rw [List.map_append, List.nodup_append]
    refine ⟨h, List.Nodup.sublist (List.Sublist.map _ (List.take_sublist _ _)) hn, ?_⟩
    intro a ha b hb hab
    obtain ⟨e, he, rfl⟩ := List.mem_map.1 ha
    obtain ⟨e', he', rfl⟩ := List.mem_map.1 hb
    have h1 := unknown_ge hm (List.mem_of_mem_take he')
    have h2 := hs e he
    rw [hab] at h2
    omega
  · intro e he
    rcases List.mem_append.1 he with he | he
    · exact .inl he
    · exact .inr (unknown_ge hm (List.mem_of_mem_take he))
  · intro e he
    exact List.mem_append_left _ he
end Go.Proofs.Ytcdjbciifnoajaa

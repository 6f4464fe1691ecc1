/- Lists of extensions put together out of items, in whatever order; plainly. -/
import Derived.Test.YtaajmfgplhfncaaGreatOuts
import Derived.Test.YtaajmfgplhfncaaGreatListsB
namespace Go.Proofs.YtaajmfgplhfncaaGreat
set_option maxRecDepth 20000

/-- an item: whether it stands, its number, its data -/
abbrev Item := Bool × UInt16 × Wr
def adds (l : List Item) (s : LW) : LW := l.foldl (fun s e => s.add e.1 e.2.1 e.2.2) s
def itemsE (l : List Item) : List Ex := (l.filter (·.1)).map fun e => (e.2.1, e.2.2.b)
def itemsBad (l : List Item) : Bool := l.any fun e => e.1 && e.2.2.bad
theorem adds_l (l : List Item) (s : LW) : (adds l s).l = s.l ++ itemsE l := by
  induction l generalizing s with
  | nil => simp [adds, itemsE]
  | cons e l ih =>
    show (adds l (s.add e.1 e.2.1 e.2.2)).l = _
    rw [ih]
    obtain ⟨b, k, x⟩ := e
    cases b
    · simp [LW.add, itemsE]
    · simp [LW.add, itemsE]
theorem adds_bad (l : List Item) (s : LW) : (adds l s).bad = (s.bad || itemsBad l) := by
  induction l generalizing s with
  | nil => simp [adds, itemsBad]
  | cons e l ih =>
    show (adds l (s.add e.1 e.2.1 e.2.2)).bad = _
    rw [ih]
    obtain ⟨b, k, x⟩ := e
    cases b
    · simp [LW.add, itemsBad]
    · simp [LW.add, itemsBad, Bool.or_assoc]
theorem itemsE_perm {l l' : List Item} (h : l.Perm l') : (itemsE l).Perm (itemsE l') := (h.filter _).map _
theorem itemsBad_perm {l l' : List Item} (h : l.Perm l') : itemsBad l = itemsBad l' := by
  unfold itemsBad
  rw [Bool.eq_iff_iff, List.any_eq_true, List.any_eq_true]
  exact ⟨fun ⟨x, hx, hb⟩ => ⟨x, h.mem_iff.1 hx, hb⟩, fun ⟨x, hx, hb⟩ => ⟨x, h.mem_iff.2 hx, hb⟩⟩
theorem itemsE_mem (l : List Item) (e : Ex) : e ∈ itemsE l ↔ ∃ i ∈ l, i.1 = true ∧ e = (i.2.1, i.2.2.b) := by
  unfold itemsE
  simp only [List.mem_map, List.mem_filter]
  constructor
  · rintro ⟨a, ⟨h1, h2⟩, rfl⟩; exact ⟨a, h1, h2, rfl⟩
  · rintro ⟨a, h1, h2, rfl⟩; exact ⟨a, ⟨h1, h2⟩, rfl⟩
theorem itemsE_keys (l : List Item) : ((itemsE l).map (·.1)).Sublist (l.map (·.2.1)) := by
  unfold itemsE
  rw [List.map_map]
  exact (List.filter_sublist (l := l)).map _
theorem itemsE_few (l : List Item) : (itemsE l).length ≤ l.length := by
  unfold itemsE
  rw [List.length_map]
  exact List.length_filter_le _ _
theorem itemsE_size (l : List Item) : (exsB (itemsE l)).length = (l.map fun i => bz i.1 (4 + i.2.2.b.length)).sum := by
  induction l with
  | nil => rfl
  | cons i l ih =>
    obtain ⟨b, k, x⟩ := i
    cases b
    · have e : itemsE ((false, k, x) :: l) = itemsE l := by simp [itemsE]
      rw [e, ih]; simp [bz]
    · have e : itemsE ((true, k, x) :: l) = (k, x.b) :: itemsE l := by simp [itemsE]
      rw [e, exsB_cons, List.length_append, exB_len, ih]; simp [bz]
/-- what the package's builder makes of items -/
def itemsOut (l : List Item) (o : Option (List UInt8)) : Option (List UInt8) := l.foldl (fun o e => app o (condOut e.1 (extOut e.2.1.toNat (ofW e.2.2)))) o
theorem itemsOut_outL (l : List Item) (s : LW) : itemsOut l (outL s) = outL (adds l s) := by
  induction l generalizing s with
  | nil => rfl
  | cons e l ih =>
    show itemsOut l (app (outL s) (condOut e.1 (extOut e.2.1.toNat (ofW e.2.2)))) = outL (adds l (s.add e.1 e.2.1 e.2.2))
    rw [← outL_add, ih]
theorem perm_of_lists {E L L' : List Ex} (h : ListsE E L) (hp : L'.Perm L) : ListsE E L' := h.perm hp
theorem exsB_nil_iff (L : List Ex) : (exsB L).length = 0 ↔ L = [] := by
  cases L with
  | nil => simp [exsB]
  | cons e L => simp [exsB_cons, exB_len]
/-- small words -/
theorem numberW_b (n k : Nat) : (numberW n k).b = be n k := by simp [numberW, Wr.num, Wr.nil]
theorem numberW_bad (n k : Nat) : (numberW n k).bad = false := rfl
theorem vector_b (n : Nat) (x : Wr) : (Wr.vector n x).b = be n x.b.length ++ x.b := by simp [Wr.vector, Wr.inner, Wr.vec, Wr.nil]
theorem vector_bad (n : Nat) (x : Wr) : (Wr.vector n x).bad = (x.bad || decide (256 ^ n ≤ x.b.length)) := by simp [Wr.vector, Wr.inner, Wr.vec, Wr.nil]
theorem exsB_sub' : ∀ (E L : List Ex), E.Nodup → (∀ e ∈ E, e ∈ L) → (exsB E).length ≤ (exsB L).length
  | [], L, _, _ => by simp [exsB]
  | e :: E, L, hn, h => by
    rw [List.nodup_cons] at hn
    have hp := List.perm_cons_erase (h e (by simp))
    have ih := exsB_sub' E (L.erase e) hn.2 (fun x hx => (List.mem_erase_of_ne (by rintro rfl; exact hn.1 hx)).2 (h x (by simp [hx])))
    rw [exsB_perm hp, exsB_cons, exsB_cons, List.length_append, List.length_append]
    omega
theorem ListsE.size' {E L : List Ex} (hn : (E.map (·.1)).Nodup) (h : ListsE E L) : (exsB E).length ≤ (exsB L).length :=
  exsB_sub' E L (List.Pairwise.of_map _ (fun a b hab e => hab (by rw [e])) hn) h.2.2
end Go.Proofs.YtaajmfgplhfncaaGreat

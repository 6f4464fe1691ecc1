/- What the reference's reader and writer compute, as plain functions on lists of bytes. No program is named here. -/
namespace Go.Proofs.Ytcdjbciifnoajaa

/-- the state of a reader: what is left, and what was found -/
structure R where
  bs : List UInt8
  code : Nat

/-- a number, its highest byte first -/
def beNat (l : List UInt8) : Nat := l.foldl (fun n u => n * 256 + u.toNat) 0
theorem beNat_snoc (l : List UInt8) (u : UInt8) : beNat (l ++ [u]) = beNat l * 256 + u.toNat := by simp [beNat]
theorem beNat_lt (l : List UInt8) : beNat l < 256 ^ l.length := by
  suffices h : ∀ l : List UInt8, beNat l.reverse < 256 ^ l.length by have := h l.reverse; simpa using this
  intro l
  induction l with
  | nil => simp [beNat]
  | cons u l ih =>
    rw [List.reverse_cons, beNat_snoc, List.length_cons, Nat.pow_succ]
    have := u.toNat_lt
    omega

namespace R
def fail (s : R) (c : Nat) : R := ⟨[], if s.code = 0 then c else s.code⟩
def take (s : R) (k : Nat) : List UInt8 × R :=
  if s.bs.length < k then (List.replicate k 0, s.fail 3) else (s.bs.take k, ⟨s.bs.drop k, s.code⟩)
def num (s : R) (k : Nat) : Nat × R := (beNat (s.take k).1, (s.take k).2)
def long (s : R) (n : Nat) : R := if s.code = 0 ∧ s.bs.length < n then s.fail 3 else s
def rng (s : R) (n lo hi : Nat) : R := if n < lo ∨ hi < n then s.fail 2 else s
def vec (s : R) (size lo hi : Nat) : List UInt8 × R :=
  let n := (s.num size).1
  let s2 := (s.num size).2.long n
  if s2.code = 0 then ((s2.take n).1, (s2.take n).2.rng n lo hi) else ([], s2)
def fin (s : R) : R := if s.bs = [] then s else s.fail 3
def within (s : R) (b : List UInt8) : R := ⟨if s.code = 0 then b else [], s.code⟩
def done (s : R) (part : R) : R := if part.fin.code = 0 then s else s.fail part.fin.code
end R

/-- 'body': the head of a message -/
def bodyR (kind : Nat) (data : List UInt8) : R :=
  let r : R := ⟨data, 0⟩
  if data.length < 4 then r.fail 1 else
  let s1 := (r.num 1).2
  let s1' := if (r.num 1).1 = kind then s1 else s1.fail 1
  let s2 := (s1'.num 3).2
  if (s1'.num 3).1 = s2.bs.length then s2 else s2.fail 1

theorem take_len (s : R) (k : Nat) : (s.take k).1.length = k := by
  unfold R.take
  split
  · simp
  · simp; omega

/-- numbers of 16 bits out of bytes -/
def wordsOf : List UInt8 → List UInt16
  | a :: b :: t => UInt16.ofNat (a.toNat * 256 + b.toNat) :: wordsOf t
  | [_] => [0]
  | [] => []
namespace R
/-- what reading words out of a reader leaves of it -/
def wEnd (x : R) : R := if x.bs.length % 2 = 0 then ⟨[], x.code⟩ else ⟨[], (x.fail 3).code⟩
def words (s : R) (b : List UInt8) : List UInt16 × R := (wordsOf (s.within b).bs, s.done (s.within b).wEnd)
def vecsGo (size low : Nat) : Nat → R → List (List UInt8) × R
  | 0, x => ([], x)
  | f + 1, x => if x.bs = [] then ([], x) else ((x.vec size low (256 ^ size - 1)).1 :: (vecsGo size low f (x.vec size low (256 ^ size - 1)).2).1, (vecsGo size low f (x.vec size low (256 ^ size - 1)).2).2)
def vectors (s : R) (b : List UInt8) (size low : Nat) : List (List UInt8) × R :=
  ((vecsGo size low (s.within b).bs.length (s.within b)).1, s.done (vecsGo size low (s.within b).bs.length (s.within b)).2)
end R

theorem fail_bs (s : R) (c : Nat) : (s.fail c).bs = [] := rfl
theorem take_bs_len (s : R) (k : Nat) : (s.take k).2.bs.length = s.bs.length - k := by
  unfold R.take
  split
  · rw [fail_bs]; simp; omega
  · simp
theorem vec_bs_len (s : R) (size lo hi : Nat) : (s.vec size lo hi).2.bs.length ≤ s.bs.length - size := by
  have h1 : (s.num size).2.bs.length = s.bs.length - size := take_bs_len s size
  have h2 : ((s.num size).2.long (s.num size).1).bs.length ≤ s.bs.length - size := by
    unfold R.long
    split
    · simp [fail_bs]
    · omega
  unfold R.vec
  simp only
  split
  · unfold R.rng
    split
    · simp [fail_bs]
    · rw [take_bs_len]; omega
  · exact h2
theorem vecsGo_eq (size low : Nat) (hs : 1 ≤ size) (f g : Nat) (x : R) (hf : x.bs.length ≤ f) (hg : x.bs.length ≤ g) : R.vecsGo size low f x = R.vecsGo size low g x := by
  induction f generalizing g x with
  | zero =>
    have hx : x.bs = [] := List.eq_nil_of_length_eq_zero (by omega)
    cases g with
    | zero => rfl
    | succ g => simp [R.vecsGo, hx]
  | succ f ih =>
    cases g with
    | zero =>
      have hx : x.bs = [] := List.eq_nil_of_length_eq_zero (by omega)
      simp [R.vecsGo, hx]
    | succ g =>
      unfold R.vecsGo
      have hv := vec_bs_len x size low (256 ^ size - 1)
      by_cases h : x.bs = []
      · rw [if_pos h, if_pos h]
      · have hp : 0 < x.bs.length := List.length_pos_iff.2 h
        rw [if_neg h, if_neg h, ih g _ (by omega) (by omega)]

theorem wEnd_two (a b : UInt8) (t : List UInt8) (c : Nat) : (R.mk (a :: b :: t) c).wEnd = (R.mk t c).wEnd := by
  unfold R.wEnd
  have h : (a :: b :: t).length % 2 = t.length % 2 := by simp only [List.length_cons]; omega
  simp only [h]
  rfl

/-- two lists, place by place -/
def All2 {α β : Type} (p : α → β → Prop) : List α → List β → Prop
  | [], [] => True
  | a :: l, b :: m => p a b ∧ All2 p l m
  | _, _ => False
theorem All2.length {α β : Type} {p : α → β → Prop} {l : List α} {m : List β} (h : All2 p l m) : l.length = m.length := by
  induction l generalizing m with
  | nil => cases m with
    | nil => rfl
    | cons b m => exact h.elim
  | cons a l ih => cases m with
    | nil => exact h.elim
    | cons b m => simp [ih h.2]
theorem All2.imp {α β : Type} {p q : α → β → Prop} {l : List α} {m : List β} (h : All2 p l m) (hpq : ∀ a b, p a b → q a b) : All2 q l m := by
  induction l generalizing m with
  | nil => cases m with
    | nil => trivial
    | cons b m => exact h.elim
  | cons a l ih => cases m with
    | nil => exact h.elim
    | cons b m => exact ⟨hpq _ _ h.1, ih h.2⟩
theorem All2.snoc {α β : Type} {p : α → β → Prop} {l : List α} {m : List β} {a : α} {b : β} (h : All2 p l m) (hab : p a b) : All2 p (l ++ [a]) (m ++ [b]) := by
  induction l generalizing m with
  | nil => cases m with
    | nil => exact ⟨hab, trivial⟩
    | cons b m => exact h.elim
  | cons a l ih => cases m with
    | nil => exact h.elim
    | cons b m => exact ⟨h.1, ih h.2⟩
theorem All2.get {α β : Type} {p : α → β → Prop} {l : List α} {m : List β} (h : All2 p l m) (i : Nat) (hl : i < l.length) (hm : i < m.length) : p l[i] m[i] := by
  induction l generalizing m i with
  | nil => simp at hl
  | cons a l ih => cases m with
    | nil => exact h.elim
    | cons b m => cases i with
      | zero => exact h.1
      | succ i => exact ih h.2 i _ _

end Go.Proofs.Ytcdjbciifnoajaa

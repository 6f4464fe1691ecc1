/- Texts joined: Body, Body2, MsgPlain, Ext, ExtW, Block, Block2. -/
import Derived.Test.YtaajmfgplhfncaaGreatBase
import Derived.Test.YtaajmfgplhfncaaGreatStr

/- Plain laws on the reader's model: what 'body' leaves, and that a found fault stays. -/
namespace Go.Proofs.YtaajmfgplhfncaaGreat
set_option maxRecDepth 20000

namespace R
theorem fail_code {s : R} (h : s.code ≠ 0) (c : Nat) : (s.fail c).code = s.code := by simp [fail, h]
theorem fail_code0 {s : R} (h : s.code = 0) (c : Nat) : (s.fail c).code = c := by simp [fail, h]
theorem take_code {s : R} (h : s.code ≠ 0) (k : Nat) : (s.take k).2.code = s.code := by
  unfold take; split
  · exact fail_code h 3
  · rfl
theorem num_code {s : R} (h : s.code ≠ 0) (k : Nat) : (s.num k).2.code = s.code := take_code h k
theorem long_code {s : R} (h : s.code ≠ 0) (n : Nat) : (s.long n).code = s.code := by simp [long, h]
theorem vec_code {s : R} (h : s.code ≠ 0) (size lo hi : Nat) : (s.vec size lo hi).2.code = s.code := by
  have h1 := num_code h size
  have h2 := long_code (s := (s.num size).2) (by rw [h1]; exact h) (s.num size).1
  unfold vec
  simp only
  rw [if_neg (by rw [h2, h1]; exact h)]
  rw [h2, h1]
theorem vec_out {s : R} (h : s.code ≠ 0) (size lo hi : Nat) : (s.vec size lo hi).1 = [] := by
  have h1 := num_code h size
  have h2 := long_code (s := (s.num size).2) (by rw [h1]; exact h) (s.num size).1
  unfold vec
  simp only
  rw [if_neg (by rw [h2, h1]; exact h)]
theorem fin_code {s : R} (h : s.code ≠ 0) : s.fin.code = s.code := by
  unfold fin; split
  · rfl
  · exact fail_code h 3
theorem done_code {s : R} (h : s.code ≠ 0) (x : R) : (s.done x).code = s.code := by
  unfold done; split
  · rfl
  · exact fail_code h _
end R

/-- what 'body' leaves: the rest of the message, or the code 1 -/
theorem bodyR_two (kind : Nat) (data : List UInt8) : (bodyR kind data).code = 1 ∨ (bodyR kind data = ⟨data.drop 4, 0⟩ ∧ 4 ≤ data.length ∧ beNat (data.take 1) = kind ∧ beNat ((data.drop 1).take 3) = data.length - 4) := by
  by_cases h4 : data.length < 4
  · left; simp [bodyR, h4, R.fail]
  · have h1 : ¬ data.length < 1 := by omega
    have e1 : (R.mk data 0).num 1 = (beNat (data.take 1), ⟨data.drop 1, 0⟩) := by simp [R.num, R.take, h1]
    by_cases hk : beNat (data.take 1) = kind
    · have e2 : (R.mk (data.drop 1) 0).num 3 = (beNat ((data.drop 1).take 3), ⟨data.drop 4, 0⟩) := by
        have : ¬ (data.drop 1).length < 3 := by simp; omega
        unfold R.num R.take
        simp only [if_neg this]
        simp
      by_cases hl : beNat ((data.drop 1).take 3) = (data.drop 4).length
      · right
        refine ⟨?_, by omega, hk, by rw [hl]; simp⟩
        unfold bodyR
        simp only [if_neg h4, e1, if_pos hk, e2, if_pos hl]
      · left
        unfold bodyR
        simp only [if_neg h4, e1, if_pos hk, e2, if_neg hl]
        rfl
    · left
      unfold bodyR
      simp only [if_neg h4, e1, if_neg hk]
      have hf : (R.mk (data.drop 1) 0).fail 1 = ⟨[], 1⟩ := rfl
      rw [hf]
      have e2 : (R.mk [] 1).num 3 = (0, ⟨[], 1⟩) := by simp [R.num, R.take, R.fail, beNat]
      rw [e2]
      simp
theorem bodyR_of {kind : Nat} {data : List UInt8} (h4 : 4 ≤ data.length) (hk : beNat (data.take 1) = kind) (hl : beNat ((data.drop 1).take 3) = data.length - 4) : bodyR kind data = ⟨data.drop 4, 0⟩ := by
  have h1 : ¬ data.length < 1 := by omega
  have e1 : (R.mk data 0).num 1 = (beNat (data.take 1), ⟨data.drop 1, 0⟩) := by simp [R.num, R.take, h1]
  have e2 : (R.mk (data.drop 1) 0).num 3 = (beNat ((data.drop 1).take 3), ⟨data.drop 4, 0⟩) := by
    have : ¬ (data.drop 1).length < 3 := by simp; omega
    unfold R.num R.take
    simp only [if_neg this]
    simp
  have hl' : beNat ((data.drop 1).take 3) = (data.drop 4).length := by rw [hl]; simp
  unfold bodyR
  simp only [if_neg (show ¬ data.length < 4 by omega), e1, if_pos hk, e2, if_pos hl']
end Go.Proofs.YtaajmfgplhfncaaGreat

/- Plain laws on the reader's model: numbers and vectors where nothing was found. -/
namespace Go.Proofs.YtaajmfgplhfncaaGreat
set_option maxRecDepth 20000

namespace R
theorem num_ok {bs : List UInt8} {k : Nat} (h : k ≤ bs.length) : (R.mk bs 0).num k = (beNat (bs.take k), ⟨bs.drop k, 0⟩) := by
  simp [num, take, show ¬ bs.length < k by omega]
theorem num_bad {bs : List UInt8} {k : Nat} (h : bs.length < k) : ((R.mk bs 0).num k).2 = ⟨[], 3⟩ := by
  simp [num, take, h, fail]
theorem vec_none {bs : List UInt8} {size : Nat} (h : lp size bs = none) (lo hi : Nat) : (R.mk bs 0).vec size lo hi = ([], ⟨[], 3⟩) := by
  unfold lp at h
  unfold vec
  by_cases h1 : size ≤ bs.length
  · rw [if_pos h1] at h
    rw [num_ok h1]
    by_cases h2 : beNat (bs.take size) ≤ (bs.drop size).length
    · rw [if_pos h2] at h; cases h
    · have e : (R.mk (bs.drop size) 0).long (beNat (bs.take size)) = ⟨[], 3⟩ := by
        unfold long
        rw [if_pos ⟨rfl, by show (bs.drop size).length < _; omega⟩]
        rfl
      simp only [e]
      rfl
  · have e := num_bad (bs := bs) (k := size) (by omega)
    have e2 : ((R.mk bs 0).num size).2.long ((R.mk bs 0).num size).1 = ⟨[], 3⟩ := by
      rw [e]
      unfold long
      rw [if_neg (by simp)]
    simp only [e2]
    rfl
theorem vec_some {bs x r : List UInt8} {size : Nat} (h : lp size bs = some (x, r)) (lo hi : Nat) : (R.mk bs 0).vec size lo hi = (x, (R.mk r 0).rng x.length lo hi) := by
  unfold lp at h
  by_cases h1 : size ≤ bs.length
  · rw [if_pos h1] at h
    by_cases h2 : beNat (bs.take size) ≤ (bs.drop size).length
    · rw [if_pos h2] at h
      injection h with h
      injection h with hx hr
      have e : (R.mk (bs.drop size) 0).long (beNat (bs.take size)) = ⟨bs.drop size, 0⟩ := by
        unfold long
        rw [if_neg (by simp at h2 ⊢; omega)]
      have hxl : x.length = beNat (bs.take size) := by rw [← hx, List.length_take]; omega
      unfold vec
      rw [num_ok h1]
      simp only [e]
      have et : (R.mk (bs.drop size) 0).take (beNat (bs.take size)) = (x, ⟨r, 0⟩) := by
        unfold take
        rw [if_neg (by simp at h2 ⊢; omega), hx, hr]
      rw [et, hxl]
      rfl
    · rw [if_neg h2] at h; cases h
  · rw [if_neg h1] at h; cases h
theorem rng_in {r : List UInt8} {n lo hi : Nat} (h : lo ≤ n) (h2 : n ≤ hi) : (R.mk r 0).rng n lo hi = ⟨r, 0⟩ := by
  unfold rng; rw [if_neg (by omega)]
theorem rng_out {r : List UInt8} {n lo hi : Nat} (h : n < lo ∨ hi < n) : (R.mk r 0).rng n lo hi = ⟨[], 2⟩ := by
  unfold rng; rw [if_pos h]; rfl
theorem fin_nil (c : Nat) : (R.mk [] c).fin = ⟨[], c⟩ := rfl
theorem fin_cons (x : UInt8) (t : List UInt8) : (R.mk (x :: t) 0).fin = ⟨[], 3⟩ := rfl
end R
/-- how long a length-prefixed vector can be -/
theorem lp_len {bs x r : List UInt8} {size : Nat} (h : lp size bs = some (x, r)) : x.length < 256 ^ size ∧ size + x.length + r.length = bs.length := by
  unfold lp at h
  by_cases h1 : size ≤ bs.length
  · rw [if_pos h1] at h
    by_cases h2 : beNat (bs.take size) ≤ (bs.drop size).length
    · rw [if_pos h2] at h
      injection h with h
      injection h with hx hr
      have h3 := beNat_lt (bs.take size)
      have h4 : (bs.take size).length = size := by simp; omega
      rw [h4] at h3
      have h5 : x.length = beNat (bs.take size) := by rw [← hx, List.length_take]; omega
      have h6 : r.length = (bs.drop size).length - beNat (bs.take size) := by rw [← hr, List.length_drop]
      simp at h2 h6
      omega
    · rw [if_neg h2] at h; cases h
  · rw [if_neg h1] at h; cases h
end Go.Proofs.YtaajmfgplhfncaaGreat

/- Plain laws of messages made and read. No program is named here. -/
namespace Go.Proofs.YtaajmfgplhfncaaGreat
set_option maxRecDepth 100000

theorem beNat_be3 (n : Nat) (h : n < 16777216) : beNat (be 3 n) = n := by
  simp [be, beNat]
  omega
theorem beNat_be2 (n : Nat) (h : n < 65536) : beNat (be 2 n) = n := by
  simp [be, beNat]
  omega
theorem lp_be (k : Nat) (x r : List UInt8) (hk : beNat (be k x.length) = x.length) : lp k (be k x.length ++ x ++ r) = some (x, r) := by
  have hl := be_len k x.length
  have e1 : (be k x.length ++ x ++ r).take k = be k x.length := by rw [List.append_assoc, List.take_append_of_le_length (by omega), List.take_of_length_le (by omega)]
  have e2 : (be k x.length ++ x ++ r).drop k = x ++ r := by
    rw [List.append_assoc]
    have := List.drop_left (l₁ := be k x.length) (l₂ := x ++ r)
    rwa [hl] at this
  unfold lp
  rw [e1, e2, hk, if_pos (by simp; omega), if_pos (by simp)]
  simp

/-- a message around a body -/
theorem message_eq (kind : Nat) (x : Wr) : messageW kind x = ⟨be 1 kind ++ be 3 x.b.length ++ x.b, x.bad || decide (256 ^ 3 ≤ x.b.length)⟩ := by
  simp [messageW, Wr.inner, Wr.vec, Wr.num, Wr.nil]

end Go.Proofs.YtaajmfgplhfncaaGreat

/- Extensions, plainly: what the reference's reader and the package's loops make of a block of them. No program is named here. -/
namespace Go.Proofs.YtaajmfgplhfncaaGreat
set_option maxRecDepth 20000

/-- an extension: its number and its bytes -/
abbrev Ex := UInt16 × List UInt8

/-- the first extension of a block, and what is behind it -/
def ext1 (bs : List UInt8) : Option (Ex × List UInt8) := match bs with
  | a :: b :: t => (lp 2 t).map fun p => ((UInt16.ofNat (a.toNat * 256 + b.toNat), p.1), p.2)
  | _ => none
theorem ext1_two (a b : UInt8) (t : List UInt8) : ext1 (a :: b :: t) = (lp 2 t).map fun p => ((UInt16.ofNat (a.toNat * 256 + b.toNat), p.1), p.2) := rfl
theorem ext1_short {bs : List UInt8} (h : bs.length < 2) : ext1 bs = none := by
  match bs, h with
  | [], _ => rfl
  | [_], _ => rfl
  | _ :: _ :: _, h => simp at h; omega
theorem ext1_len {bs : List UInt8} {e : Ex} {r : List UInt8} (h : ext1 bs = some (e, r)) : 4 + e.2.length + r.length = bs.length ∧ e.2.length < 65536 := by
  match bs, h with
  | a :: b :: t, h =>
    rw [ext1_two] at h
    rcases hL : lp 2 t with _ | ⟨x, r'⟩
    · rw [hL] at h; cases h
    · rw [hL] at h
      injection h with h
      injection h with h1 h2
      subst h1 h2
      have := lp_len hL
      simp only [List.length_cons]
      omega

/-- all extensions of a block -/
def extsGo : Nat → List UInt8 → Option (List Ex)
  | 0, _ => none
  | f + 1, bs => if bs = [] then some [] else match ext1 bs with
    | some (e, r) => (extsGo f r).map (e :: ·)
    | none => none
def exts (bs : List UInt8) : Option (List Ex) := extsGo (bs.length + 1) bs
theorem extsGo_eq (f g : Nat) (d : List UInt8) (hf : d.length < f) (hg : d.length < g) : extsGo f d = extsGo g d := by
  induction f generalizing g d with
  | zero => omega
  | succ f ih =>
    cases g with
    | zero => omega
    | succ g =>
      unfold extsGo
      by_cases h0 : d = []
      · rw [if_pos h0, if_pos h0]
      · rw [if_neg h0, if_neg h0]
        rcases hL : ext1 d with _ | ⟨e, r⟩
        · rfl
        · have := (ext1_len hL).1
          show (extsGo f r).map (e :: ·) = (extsGo g r).map (e :: ·)
          rw [ih g r (by omega) (by omega)]
theorem exts_nil : exts [] = some [] := rfl
theorem exts_none {d : List UInt8} (hL : ext1 d = none) (h0 : d ≠ []) : exts d = none := by
  unfold exts extsGo
  rw [if_neg h0, hL]
theorem exts_step {d r : List UInt8} {e : Ex} (hL : ext1 d = some (e, r)) : exts d = (exts r).map (e :: ·) := by
  have hl := (ext1_len hL).1
  have h0 : d ≠ [] := by intro h; rw [h] at hL; cases hL
  unfold exts
  rw [show extsGo (d.length + 1) d = (extsGo d.length r).map (e :: ·) by
    conv => lhs; unfold extsGo
    rw [if_neg h0, hL]]
  rw [extsGo_eq d.length (r.length + 1) r (by omega) (by omega)]

/-- the package's loop, over extensions -/
def runE {σ : Type} (stp : σ → Ex → Option σ) : List Ex → σ → Option σ
  | [], m => some m
  | e :: l, m => (stp m e).bind (runE stp l)
/-- the package's loop, over a block -/
def blockE {σ : Type} (stp : σ → Ex → Option σ) (bs : List UInt8) (m : σ) : Option σ := (exts bs).bind fun l => runE stp l m
section
variable {σ : Type} {stp : σ → Ex → Option σ}
theorem blockE_nil (m : σ) : blockE stp [] m = some m := rfl
theorem blockE_none {bs : List UInt8} (h : ext1 bs = none) (h0 : bs ≠ []) (m : σ) : blockE stp bs m = none := by
  unfold blockE; rw [exts_none h h0]; rfl
theorem blockE_step {bs r : List UInt8} {e : Ex} (h : ext1 bs = some (e, r)) (m : σ) : blockE stp bs m = (stp m e).bind (blockE stp r) := by
  unfold blockE
  rw [exts_step h]
  rcases exts r with _ | l
  · cases stp m e <;> rfl
  · rfl
theorem blockE_stop {bs r : List UInt8} {e : Ex} (h : ext1 bs = some (e, r)) {m : σ} (hs : stp m e = none) : blockE stp bs m = none := by
  rw [blockE_step h, hs]; rfl
theorem blockE_go {bs r : List UInt8} {e : Ex} (h : ext1 bs = some (e, r)) {m m' : σ} (hs : stp m e = some m') : blockE stp bs m = blockE stp r m' := by
  rw [blockE_step h, hs]; rfl
theorem runE_append (a b : List Ex) (m : σ) : runE stp (a ++ b) m = (runE stp a m).bind (runE stp b) := by
  induction a generalizing m with
  | nil => rfl
  | cons e a ih =>
    show (stp m e).bind (runE stp (a ++ b)) = ((stp m e).bind (runE stp a)).bind (runE stp b)
    cases stp m e with
    | none => rfl
    | some m' => exact ih m'
end

/-- a loop that refuses an extension that it has met -/
def once {σ : Type} (stp : σ → Ex → Option σ) (s : σ × List UInt16) (e : Ex) : Option (σ × List UInt16) := if e.1 ∈ s.2 then none else (stp s.1 e).map (·, e.1 :: s.2)
theorem runE_once {σ : Type} (stp : σ → Ex → Option σ) (l : List Ex) (m : σ) (seen : List UInt16) :
    (runE (once stp) l (m, seen)).map Prod.fst = if (∀ e ∈ l, e.1 ∉ seen) ∧ (l.map (·.1)).Nodup then runE stp l m else none := by
  induction l generalizing m seen with
  | nil => simp [runE]
  | cons e l ih =>
    show ((once stp (m, seen) e).bind (runE (once stp) l)).map Prod.fst = _
    unfold once
    by_cases h : e.1 ∈ seen
    · rw [if_pos h, if_neg (by intro hh; exact hh.1 e (by simp) h)]; rfl
    · rw [if_neg h]
      show Option.map Prod.fst (((stp m e).map (·, e.1 :: seen)).bind _) = ite _ ((stp m e).bind (runE stp l)) none
      cases hs : stp m e with
      | none => simp
      | some m' =>
        show (runE (once stp) l (m', e.1 :: seen)).map Prod.fst = ite _ (runE stp l m') none
        rw [ih]
        have hiff : ((∀ e' ∈ l, e'.1 ∉ e.1 :: seen) ∧ (l.map (·.1)).Nodup) ↔ ((∀ e' ∈ e :: l, e'.1 ∉ seen) ∧ ((e :: l).map (·.1)).Nodup) := by
          simp only [List.map_cons, List.nodup_cons, List.mem_cons, not_or, List.mem_map, not_exists, not_and]
          constructor
          · rintro ⟨h1, h2⟩
            refine ⟨?_, fun x hx he => (h1 x hx).1 he, h2⟩
            rintro e' (rfl | he')
            · exact h
            · exact (h1 e' he').2
          · rintro ⟨h1, h2, h3⟩
            exact ⟨fun e' he' => ⟨fun he => h2 e' he' he, h1 e' (.inr he')⟩, h3⟩
        by_cases hc : (∀ e' ∈ l, e'.1 ∉ e.1 :: seen) ∧ (l.map (·.1)).Nodup
        · rw [if_pos hc, if_pos (hiff.1 hc)]
        · rw [if_neg hc, if_neg (fun hh => hc (hiff.2 hh))]

/-- a found fault, where there is one -/
def R.twice (x : R) : Bool → R
  | true => x.fail 4
  | false => x
theorem R.twice_three (c : Bool) : (R.mk [] 3).twice c = ⟨[], 3⟩ := by cases c <;> rfl
/-- the reference's reader of extensions -/
def R.extsGo : Nat → R → List Ex → List Ex × R
  | 0, x, out => (out, x)
  | f + 1, x, out => if x.bs = [] then (out, x) else
    R.extsGo f (((x.num 2).2.vec 2 0 65535).2.twice (out.any (·.1 == UInt16.ofNat (x.num 2).1))) (out ++ [(UInt16.ofNat (x.num 2).1, ((x.num 2).2.vec 2 0 65535).1)])
/-- the reader of the block -/
def R.block (s : R) : R := (s.vec 2 0 65535).2.within (s.vec 2 0 65535).1
def R.exts (s : R) : List Ex × R := ((R.extsGo s.block.bs.length s.block []).1, (s.vec 2 0 65535).2.done (R.extsGo s.block.bs.length s.block []).2)

theorem rng_all {r : List UInt8} {n c : Nat} (h : n ≤ 65535) : (R.mk r c).rng n 0 65535 = ⟨r, c⟩ := by
  unfold R.rng; rw [if_neg (by omega)]
theorem vec2_none {bs : List UInt8} (h : lp 2 bs = none) : (R.mk bs 0).vec 2 0 65535 = ([], ⟨[], 3⟩) := R.vec_none h _ _
theorem vec2_some {bs x r : List UInt8} (h : lp 2 bs = some (x, r)) : (R.mk bs 0).vec 2 0 65535 = (x, ⟨r, 0⟩) := by
  rw [R.vec_some h, rng_all (by have := (lp_len h).1; omega)]
theorem num2_two (a b : UInt8) (t : List UInt8) (c : Nat) : (R.mk (a :: b :: t) c).num 2 = (a.toNat * 256 + b.toNat, ⟨t, c⟩) := by
  unfold R.num R.take
  rw [if_neg (by simp)]
  simp [beNat]
theorem num2_one (a : UInt8) : (R.mk [a] 0).num 2 = (0, ⟨[], 3⟩) := rfl

/-- what the reference finds of a block -/
theorem R.extsGo_law (f : Nat) (d : List UInt8) (out : List Ex) (hf : d.length ≤ f) (hn : (out.map (·.1)).Nodup) :
    (R.extsGo f ⟨d, 0⟩ out).2.bs = [] ∧
    (((R.extsGo f ⟨d, 0⟩ out).2.code = 0 ∧ ∃ l, Go.Proofs.YtaajmfgplhfncaaGreat.exts d = some l ∧ (R.extsGo f ⟨d, 0⟩ out).1 = out ++ l ∧ ((out ++ l).map (·.1)).Nodup) ∨
     ((R.extsGo f ⟨d, 0⟩ out).2.code = 3 ∧ Go.Proofs.YtaajmfgplhfncaaGreat.exts d = none) ∨
     ((R.extsGo f ⟨d, 0⟩ out).2.code = 4 ∧ ∀ l, Go.Proofs.YtaajmfgplhfncaaGreat.exts d = some l → ¬ ((out ++ l).map (·.1)).Nodup)) := by
  have hstop : ∀ (g : Nat) (c : Nat) (out : List Ex), R.extsGo g ⟨[], c⟩ out = (out, ⟨[], c⟩) := by
    intro g c out
    cases g with
    | zero => rfl
    | succ g => unfold R.extsGo; simp
  induction f generalizing d out with
  | zero =>
    have : d = [] := List.eq_nil_of_length_eq_zero (by omega)
    subst this
    exact ⟨rfl, .inl ⟨rfl, [], rfl, by simp [R.extsGo], by simpa using hn⟩⟩
  | succ f ih =>
    match d, hf with
    | [], _ =>
      rw [hstop]
      exact ⟨rfl, .inl ⟨rfl, [], rfl, by simp, by simpa using hn⟩⟩
    | [a], _ =>
      have hE : Go.Proofs.YtaajmfgplhfncaaGreat.exts [a] = none := exts_none rfl (by simp)
      unfold R.extsGo
      rw [if_neg (by simp)]
      simp only [num2_one]
      have hv : (R.mk [] 3).vec 2 0 65535 = ([], ⟨[], 3⟩) := rfl
      rw [hv]
      dsimp only; rw [R.twice_three, hstop]
      exact ⟨rfl, .inr (.inl ⟨rfl, hE⟩)⟩
    | a :: b :: t, hf =>
      unfold R.extsGo
      rw [if_neg (by simp)]
      simp only [num2_two]
      have h1 := ext1_two a b t
      rcases hL : lp 2 t with _ | ⟨x, r⟩
      · rw [hL] at h1
        have hE : Go.Proofs.YtaajmfgplhfncaaGreat.exts (a :: b :: t) = none := exts_none h1 (by simp)
        rw [vec2_none hL]
        dsimp only; rw [R.twice_three, hstop]
        exact ⟨rfl, .inr (.inl ⟨rfl, hE⟩)⟩
      · rw [hL] at h1
        have hlen := (lp_len hL).2
        rw [vec2_some hL]
        have hE : Go.Proofs.YtaajmfgplhfncaaGreat.exts (a :: b :: t) = (Go.Proofs.YtaajmfgplhfncaaGreat.exts r).map ((UInt16.ofNat (a.toNat * 256 + b.toNat), x) :: ·) := exts_step h1
        generalize UInt16.ofNat (a.toNat * 256 + b.toNat) = k at hE
        by_cases hany : out.any (·.1 == k) = true
        · have hx : (R.mk r 0).twice true = ⟨[], 4⟩ := rfl
          rw [hany, hx, hstop]
          refine ⟨rfl, .inr (.inr ⟨rfl, fun l hl => ?_⟩)⟩
          rw [hE] at hl
          rcases hr : Go.Proofs.YtaajmfgplhfncaaGreat.exts r with _ | l'
          · rw [hr] at hl; cases hl
          · rw [hr] at hl
            cases hl
            intro hnd
            rw [List.map_append, List.nodup_append] at hnd
            obtain ⟨e, he, hk⟩ := List.any_eq_true.1 hany
            have hk : e.1 = k := by simpa using hk
            exact hnd.2.2 k (by rw [← hk]; exact List.mem_map_of_mem he) k (by simp) rfl
        · have hany' : (out.any (·.1 == k)) = false := Bool.eq_false_iff.2 hany
          have hs : (R.mk r 0).twice false = ⟨r, 0⟩ := rfl
          rw [hany', hs]
          have hk : k ∉ out.map (·.1) := by
            intro hm
            obtain ⟨e, he, hk⟩ := List.mem_map.1 hm
            have := List.any_eq_false.1 hany' e he
            simp [hk] at this
          have hn' : ((out ++ [(k, x)]).map (·.1)).Nodup := by
            rw [List.map_append, List.nodup_append]
            refine ⟨hn, by simp, ?_⟩
            intro a ha b hb hab
            simp at hb
            subst hb hab
            exact hk ha
          obtain ⟨i1, i2⟩ := ih r (out ++ [(k, x)]) (by simp at hf hlen; omega) hn'
          refine ⟨i1, ?_⟩
          rcases i2 with ⟨c0, l, hl, ho, hnd⟩ | ⟨c3, hl⟩ | ⟨c4, hl⟩
          · exact .inl ⟨c0, (k, x) :: l, by rw [hE, hl]; rfl, by rw [ho]; simp, by simpa using hnd⟩
          · exact .inr (.inl ⟨c3, by rw [hE, hl]; rfl⟩)
          · refine .inr (.inr ⟨c4, fun l hl' => ?_⟩)
            rw [hE] at hl'
            rcases hr : Go.Proofs.YtaajmfgplhfncaaGreat.exts r with _ | l'
            · rw [hr] at hl'; cases hl'
            · rw [hr] at hl'
              cases hl'
              have := hl l' hr
              simpa using this

/-- the reference's loop over extensions -/
def specE {σ : Type} (rd : σ → UInt16 → R → σ × R) : List Ex → σ × R → σ × R
  | [], s => s
  | e :: l, s => specE rd l ((rd s.1 e.1 (s.2.within e.2)).1, s.2.done (rd s.1 e.1 (s.2.within e.2)).2)
theorem specE_append {σ : Type} (rd : σ → UInt16 → R → σ × R) (a b : List Ex) (s : σ × R) : specE rd (a ++ b) s = specE rd b (specE rd a s) := by
  induction a generalizing s with
  | nil => rfl
  | cons e a ih => exact ih _
theorem specE_code {σ : Type} (rd : σ → UInt16 → R → σ × R) (l : List Ex) (s : σ × R) (h : s.2.code ≠ 0) : (specE rd l s).2.code = s.2.code := by
  induction l generalizing s with
  | nil => rfl
  | cons e l ih =>
    have hd : (s.2.done (rd s.1 e.1 (s.2.within e.2)).2).code = s.2.code := R.done_code h _
    have := ih ((rd s.1 e.1 (s.2.within e.2)).1, s.2.done (rd s.1 e.1 (s.2.within e.2)).2) (by show R.code _ ≠ 0; rw [hd]; exact h)
    exact this.trans hd
/-- the reference's loop and the package's, side by side: 'bad' are the codes at which the package refuses -/
theorem specE_law {σ : Type} (rd : σ → UInt16 → R → σ × R) (stp : σ → Ex → Option σ) (bad : Nat → Prop) (hb0 : ¬ bad 0)
    (h : ∀ m k d, ((rd m k ⟨d, 0⟩).2.fin.code = 0 → stp m (k, d) = some (rd m k ⟨d, 0⟩).1) ∧ (bad (rd m k ⟨d, 0⟩).2.fin.code → stp m (k, d) = none))
    (l : List Ex) (m : σ) (t : List UInt8) :
    ((specE rd l (m, ⟨t, 0⟩)).2.code = 0 → runE stp l m = some (specE rd l (m, ⟨t, 0⟩)).1) ∧ (bad (specE rd l (m, ⟨t, 0⟩)).2.code → runE stp l m = none) := by
  induction l generalizing m t with
  | nil => exact ⟨fun _ => rfl, fun hb => absurd hb hb0⟩
  | cons e l ih =>
    obtain ⟨h1, h2⟩ := h m e.1 e.2
    have hw : (R.mk t 0).within e.2 = ⟨e.2, 0⟩ := rfl
    have hsp : specE rd (e :: l) (m, ⟨t, 0⟩) = specE rd l ((rd m e.1 ⟨e.2, 0⟩).1, (R.mk t 0).done (rd m e.1 ⟨e.2, 0⟩).2) := rfl
    rw [hsp]
    generalize rd m e.1 ⟨e.2, 0⟩ = q at h1 h2
    by_cases h0 : q.2.fin.code = 0
    · have hd : (R.mk t 0).done q.2 = ⟨t, 0⟩ := by unfold R.done; rw [if_pos h0]
      rw [hd]
      have : runE stp (e :: l) m = runE stp l q.1 := by
        show (stp m e).bind _ = _
        rw [show stp m e = some q.1 from h1 h0]; rfl
      rw [this]
      exact ih q.1 t
    · have hd : ((R.mk t 0).done q.2).code = q.2.fin.code := by unfold R.done; rw [if_neg h0]; exact R.fail_code0 rfl _
      have hc := specE_code rd l (q.1, (R.mk t 0).done q.2) (by show R.code _ ≠ 0; rw [hd]; exact h0)
      rw [hc, hd]
      refine ⟨fun h => absurd h h0, fun hb => ?_⟩
      show (stp m e).bind _ = none
      rw [show stp m e = none from h2 hb]; rfl

end Go.Proofs.YtaajmfgplhfncaaGreat

/- Extensions, plainly: written, put into another order. No program is named here. -/
namespace Go.Proofs.YtaajmfgplhfncaaGreat
set_option maxRecDepth 20000

def exB (e : Ex) : List UInt8 := be 2 e.1.toNat ++ be 2 e.2.length ++ e.2
def exsB (l : List Ex) : List UInt8 := l.flatMap exB
def exsBad (l : List Ex) : Bool := l.any fun e => decide (65536 ≤ e.2.length)
/-- extensions with their length -/
def exsW (l : List Ex) : Wr := Wr.vector 2 ⟨exsB l, exsBad l⟩
theorem exsB_nil : exsB [] = [] := rfl
theorem exsB_cons (e : Ex) (l : List Ex) : exsB (e :: l) = exB e ++ exsB l := by simp [exsB]
theorem exsB_append (a b : List Ex) : exsB (a ++ b) = exsB a ++ exsB b := by simp [exsB]
theorem exB_len (e : Ex) : (exB e).length = 4 + e.2.length := by simp [exB, be_len]; omega
theorem exsBad_append (a b : List Ex) : exsBad (a ++ b) = (exsBad a || exsBad b) := by simp [exsBad]

theorem be2_two (n : Nat) : be 2 n = [UInt8.ofNat (n / 256), UInt8.ofNat n] := by simp [be]
theorem u16_be2 (k : UInt16) : UInt16.ofNat ((UInt8.ofNat (k.toNat / 256)).toNat * 256 + (UInt8.ofNat k.toNat).toNat) = k := by
  have h := k.toNat_lt
  have : (UInt8.ofNat (k.toNat / 256)).toNat * 256 + (UInt8.ofNat k.toNat).toNat = k.toNat := by simp; omega
  rw [this]
  exact UInt16.ofNat_toNat
/-- an extension that is written is read -/
theorem ext1_exB (e : Ex) (r : List UInt8) (h : e.2.length < 65536) : ext1 (exB e ++ r) = some (e, r) := by
  obtain ⟨k, d⟩ := e
  have h1 : exB (k, d) ++ r = UInt8.ofNat (k.toNat / 256) :: UInt8.ofNat k.toNat :: (be 2 d.length ++ d ++ r) := by simp [exB, be2_two]
  rw [h1, ext1_two, lp_be 2 d r (beNat_be2 _ h)]
  show some ((UInt16.ofNat _, d), r) = _
  rw [u16_be2]
theorem exts_exsB (l : List Ex) (h : exsBad l = false) : exts (exsB l) = some l := by
  induction l with
  | nil => rfl
  | cons e l ih =>
    have he : e.2.length < 65536 ∧ exsBad l = false := by
      unfold exsBad at h ⊢
      rw [List.any_cons, Bool.or_eq_false_iff] at h
      exact ⟨by have := h.1; simp at this; omega, h.2⟩
    rw [exsB_cons, exts_step (ext1_exB e _ he.1), ih he.2]
    rfl
theorem exsW_eq (l : List Ex) : exsW l = ⟨be 2 (exsB l).length ++ exsB l, exsBad l || decide (65536 ≤ (exsB l).length)⟩ := by
  simp [exsW, Wr.vector, Wr.inner, Wr.vec, Wr.nil]
theorem exsW_bad (l : List Ex) (h : exsBad l = true) : 65536 ≤ (exsB l).length := by
  induction l with
  | nil => cases h
  | cons e l ih =>
    rw [exsB_cons, List.length_append, exB_len]
    unfold exsBad at h ih
    rw [List.any_cons, Bool.or_eq_true_iff] at h
    rcases h with h | h
    · have := of_decide_eq_true h; omega
    · have := ih h; omega
/-- too long as a whole: that is all that can be wrong -/
theorem exsW_short (l : List Ex) : (exsW l).bad = decide (65536 ≤ (exsB l).length) := by
  rw [exsW_eq]
  by_cases h : exsBad l = true
  · have := exsW_bad l h
    simp [h, this]
  · have h : exsBad l = false := by simpa using h
    simp [h]

/-- a list of extensions: 'add' -/
structure LW where
  l : List Ex
  bad : Bool
def LW.nil : LW := ⟨[], false⟩
def LW.add (s : LW) (is : Bool) (k : UInt16) (x : Wr) : LW := if is then ⟨s.l ++ [(k, x.b)], s.bad || x.bad⟩ else s
theorem LW.add_true (s : LW) (k : UInt16) (x : Wr) : s.add true k x = ⟨s.l ++ [(k, x.b)], s.bad || x.bad⟩ := rfl
theorem LW.add_false (s : LW) (k : UInt16) (x : Wr) : s.add false k x = s := rfl

/-- extensions of types that have no meaning -/
def unknownGo : Nat → List (List UInt8) → List Ex
  | _, [] => []
  | i, x :: l => (UInt16.ofNat (43520 + i), x) :: unknownGo (i + 1) l
def unknown (l : List (List UInt8)) : List Ex := unknownGo 0 l
theorem unknownGo_len (i : Nat) (l : List (List UInt8)) : (unknownGo i l).length = l.length := by
  induction l generalizing i with
  | nil => rfl
  | cons x l ih => simp [unknownGo, ih]
theorem unknownGo_snoc (i : Nat) (l : List (List UInt8)) (x : List UInt8) : unknownGo i (l ++ [x]) = unknownGo i l ++ [(UInt16.ofNat (43520 + (i + l.length)), x)] := by
  induction l generalizing i with
  | nil => rfl
  | cons y l ih =>
    show _ :: unknownGo (i + 1) (l ++ [x]) = _ :: (unknownGo (i + 1) l ++ _)
    rw [ih]
    simp [Nat.add_assoc, Nat.add_comm 1]
/-- numbers that say nothing -/
theorem unknownGo_mem {i : Nat} {l : List (List UInt8)} {e : Ex} (h : e ∈ unknownGo i l) : ∃ j, i ≤ j ∧ j < i + l.length ∧ e.1 = UInt16.ofNat (43520 + j) := by
  induction l generalizing i with
  | nil => cases h
  | cons x l ih =>
    rcases List.mem_cons.1 h with h | h
    · exact ⟨i, by omega, by simp, by rw [h]⟩
    · obtain ⟨j, h1, h2, h3⟩ := ih h
      exact ⟨j, by omega, by simp; omega, h3⟩
theorem unknownGo_nodup (i : Nat) (l : List (List UInt8)) (h : i + l.length ≤ 1000) : ((unknownGo i l).map (·.1)).Nodup := by
  induction l generalizing i with
  | nil => simp [unknownGo]
  | cons x l ih =>
    simp only [List.length_cons] at h
    show (UInt16.ofNat (43520 + i) :: (unknownGo (i + 1) l).map (·.1)).Nodup
    rw [List.nodup_cons]
    refine ⟨?_, ih (i + 1) (by omega)⟩
    intro hm
    obtain ⟨e, he, hk⟩ := List.mem_map.1 hm
    obtain ⟨j, h1, h2, h3⟩ := unknownGo_mem he
    rw [h3] at hk
    have := congrArg UInt16.toNat hk
    simp only [UInt16.toNat_ofNat'] at this
    omega
theorem unknown_ge {l : List (List UInt8)} (hl : l.length ≤ 1000) {e : Ex} (h : e ∈ unknown l) : 43520 ≤ e.1.toNat ∧ e.1.toNat < 44520 := by
  obtain ⟨j, _, h2, h3⟩ := unknownGo_mem h
  rw [h3, UInt16.toNat_ofNat']
  omega

/-- in another order: the round i of the loop -/
def ordE (l : List Ex) (s i : Nat) : Ex := (l[(i + s) % l.length]?).getD (0, [])
def ordGo (l : List Ex) (s : Nat) (other : List Ex) : Nat → List Ex × List Ex
  | 0 => ([], [])
  | i + 1 => let p := ordGo l s other i
    ((if (ordE l s i).1 = 41 then p.1 else p.1 ++ [ordE l s i]) ++ (other[i]?).toList, if (ordE l s i).1 = 41 then p.2 ++ [ordE l s i] else p.2)
def ordered (l : List Ex) (from_ : Nat) (more : List (List UInt8)) : List Ex := (ordGo l (from_ % l.length) (unknown more) l.length).1 ++ (ordGo l (from_ % l.length) (unknown more) l.length).2
theorem ordGo_perm (l : List Ex) (s : Nat) (o : List Ex) (i : Nat) : ((ordGo l s o i).1 ++ (ordGo l s o i).2).Perm ((List.range i).map (ordE l s) ++ o.take i) := by
  induction i with
  | zero => exact List.Perm.refl _
  | succ i ih =>
    have ih' := fun a => List.perm_iff_count.1 ih a
    refine List.perm_iff_count.2 fun a => ?_
    have h := ih' a
    rw [List.range_succ, List.map_append, List.take_add_one]
    unfold ordGo
    simp only [List.count_append, List.map_cons, List.map_nil] at h ⊢
    by_cases hk : (ordE l s i).1 = 41
    · simp only [if_pos hk, List.count_append]; omega
    · simp only [if_neg hk, List.count_append]; omega
theorem range_ordE (l : List Ex) (s : Nat) (hs : s < l.length) : (List.range l.length).map (ordE l s) = l.drop s ++ l.take s := by
  apply List.ext_getElem
  · simp; omega
  · intro i h1 h2
    simp at h1
    rw [List.getElem_map, List.getElem_range, List.getElem_append]
    unfold ordE
    by_cases hi : i < l.length - s
    · have : (i + s) % l.length = i + s := Nat.mod_eq_of_lt (by omega)
      rw [this, dif_pos (by simpa using hi), List.getElem?_eq_getElem (by omega), List.getElem_drop]
      simp [Nat.add_comm]
    · have : (i + s) % l.length = i + s - l.length := by
        rw [Nat.mod_eq_sub_mod (by omega), Nat.mod_eq_of_lt (by omega)]
      rw [this, dif_neg (by simpa using hi), List.getElem?_eq_getElem (by omega), List.getElem_take]
      simp
      congr 1
      omega
theorem ordered_perm (l : List Ex) (f : Nat) (more : List (List UInt8)) : (ordered l f more).Perm (l ++ (unknown more).take l.length) := by
  unfold ordered
  refine (ordGo_perm _ _ _ _).trans ?_
  refine List.Perm.append_right _ ?_
  by_cases h : l = []
  · subst h; exact List.Perm.refl _
  · have hp : 0 < l.length := List.length_pos_iff.2 h
    rw [range_ordE l _ (Nat.mod_lt _ hp)]
    exact List.perm_append_comm.trans (by rw [List.take_append_drop])
/-- what is right of a list of extensions: each number once, those of l all there, and else such as say nothing -/
def ListsE (E L : List Ex) : Prop := (L.map (·.1)).Nodup ∧ (∀ e ∈ L, e ∈ E ∨ 43520 ≤ e.1.toNat ∧ e.1.toNat < 44520) ∧ ∀ e ∈ E, e ∈ L
theorem ListsE.self {E : List Ex} (h : (E.map (·.1)).Nodup) : ListsE E E := ⟨h, fun _ he => .inl he, fun _ he => he⟩
theorem ListsE.perm {E L L' : List Ex} (h : ListsE E L) (hp : L'.Perm L) : ListsE E L' :=
  ⟨((hp.map _).nodup_iff).2 h.1, fun e he => h.2.1 e (hp.mem_iff.1 he), fun e he => hp.mem_iff.2 (h.2.2 e he)⟩
theorem ordered_lists {E : List Ex} (h : (E.map (·.1)).Nodup) (hs : ∀ e ∈ E, e.1.toNat < 43520 ∨ 44520 ≤ e.1.toNat) (f : Nat) (more : List (List UInt8)) (hm : more.length ≤ 1000) : ListsE E (ordered E f more) := by
  refine ListsE.perm ⟨?_, ?_, ?_⟩ (ordered_perm E f more)
  · have hn := unknownGo_nodup 0 more (by omega)
    rw [List.map_append, List.nodup_append]
    refine ⟨h, List.Nodup.sublist (List.Sublist.map _ (List.take_sublist _ _)) hn, ?_⟩
    intro a ha b hb hab
    obtain ⟨e, he, rfl⟩ := List.mem_map.1 ha
    obtain ⟨e', he', rfl⟩ := List.mem_map.1 hb
    have h1 := unknown_ge hm (List.mem_of_mem_take he')
    have h2 := hs e he
    rw [hab] at h2
    omega
  · intro e he
    rcases List.mem_append.1 he with he | he
    · exact .inl he
    · exact .inr (unknown_ge hm (List.mem_of_mem_take he))
  · intro e he
    exact List.mem_append_left _ he
end Go.Proofs.YtaajmfgplhfncaaGreat

/- Plain laws: a block of extensions at a message's end, read by the reference and by the package. No program is named here. -/
namespace Go.Proofs.YtaajmfgplhfncaaGreat
set_option maxRecDepth 20000

/-- the package: the block is the last thing -/
def lastB {σ : Type} (stp : σ → Ex → Option σ) (m : σ) (d : List UInt8) : Option σ := match lp 2 d with
  | some (x, []) => blockE stp x m
  | _ => none
/-- the same, each number once -/
def lastO {σ : Type} (stp : σ → Ex → Option σ) (m : σ) (d : List UInt8) : Option σ := match lp 2 d with
  | some (x, []) => (blockE (once stp) x (m, [])).map Prod.fst
  | _ => none
theorem lastB_none {σ : Type} {stp : σ → Ex → Option σ} {m : σ} {d : List UInt8} (h : lp 2 d = none) : lastB stp m d = none := by unfold lastB; rw [h]
theorem lastB_some {σ : Type} {stp : σ → Ex → Option σ} {m : σ} {d x : List UInt8} (h : lp 2 d = some (x, [])) : lastB stp m d = blockE stp x m := by unfold lastB; rw [h]
theorem lastB_more {σ : Type} {stp : σ → Ex → Option σ} {m : σ} {d x t : List UInt8} {y : UInt8} (h : lp 2 d = some (x, y :: t)) : lastB stp m d = none := by unfold lastB; rw [h]
theorem lastO_none {σ : Type} {stp : σ → Ex → Option σ} {m : σ} {d : List UInt8} (h : lp 2 d = none) : lastO stp m d = none := by unfold lastO; rw [h]
theorem lastO_some {σ : Type} {stp : σ → Ex → Option σ} {m : σ} {d x : List UInt8} (h : lp 2 d = some (x, [])) : lastO stp m d = (blockE (once stp) x (m, [])).map Prod.fst := by unfold lastO; rw [h]
theorem lastO_more {σ : Type} {stp : σ → Ex → Option σ} {m : σ} {d x t : List UInt8} {y : UInt8} (h : lp 2 d = some (x, y :: t)) : lastO stp m d = none := by unfold lastO; rw [h]
theorem blockE_once {σ : Type} (stp : σ → Ex → Option σ) (x : List UInt8) (m : σ) :
    (blockE (once stp) x (m, [])).map Prod.fst = (exts x).bind fun l => if (l.map (·.1)).Nodup then runE stp l m else none := by
  unfold blockE
  rcases exts x with _ | l
  · rfl
  · show (runE (once stp) l (m, [])).map Prod.fst = _
    rw [runE_once]
    show _ = if _ then _ else _
    by_cases h : (l.map (·.1)).Nodup
    · rw [if_pos h, if_pos ⟨by simp, h⟩]
    · rw [if_neg h, if_neg fun hh => h hh.2]

theorem R.exts_code {s : R} (h : s.code ≠ 0) : s.exts.2.code = s.code := by
  have h1 := R.vec_code h 2 0 65535
  have : s.exts.2 = (s.vec 2 0 65535).2.done (R.extsGo s.block.bs.length s.block []).2 := rfl
  rw [this, R.done_code (by rw [h1]; exact h), h1]
/-- a fault that was found before the block stays -/
theorem block_code {σ : Type} (rd : σ → UInt16 → R → σ × R) (m : σ) {s : R} (h : s.code ≠ 0) : (specE rd s.exts.1 (m, s.exts.2.fin)).2.code = s.code := by
  have h1 := R.exts_code h
  have h2 := R.fin_code (s := s.exts.2) (by rw [h1]; exact h)
  rw [specE_code rd _ _ (by show R.code _ ≠ 0; rw [h2, h1]; exact h)]
  show s.exts.2.fin.code = _
  rw [h2, h1]
/-- what comes of a block -/
theorem block_cases {σ : Type} (rd : σ → UInt16 → R → σ × R) (m : σ) (d : List UInt8) :
    ((specE rd (R.mk d 0).exts.1 (m, (R.mk d 0).exts.2.fin)).2.code = 3 ∧ (lp 2 d = none ∨ (∃ x y t, lp 2 d = some (x, y :: t)) ∨ ∃ x t, lp 2 d = some (x, t) ∧ exts x = none)) ∨
    ((specE rd (R.mk d 0).exts.1 (m, (R.mk d 0).exts.2.fin)).2.code = 4 ∧ ∃ x t, lp 2 d = some (x, t) ∧ ∀ l, exts x = some l → ¬ (l.map (·.1)).Nodup) ∨
    ∃ x l, lp 2 d = some (x, []) ∧ exts x = some l ∧ (l.map (·.1)).Nodup ∧ specE rd (R.mk d 0).exts.1 (m, (R.mk d 0).exts.2.fin) = specE rd l (m, ⟨[], 0⟩) := by
  have hex1 : (R.mk d 0).exts.1 = (R.extsGo (R.mk d 0).block.bs.length (R.mk d 0).block []).1 := rfl
  have hex2 : (R.mk d 0).exts.2 = ((R.mk d 0).vec 2 0 65535).2.done (R.extsGo (R.mk d 0).block.bs.length (R.mk d 0).block []).2 := rfl
  rcases hL : lp 2 d with _ | ⟨x, t⟩
  · left
    refine ⟨?_, .inl rfl⟩
    have hv : ((R.mk d 0).vec 2 0 65535).2 = ⟨[], 3⟩ := by rw [vec2_none hL]
    have h1 : (R.mk d 0).exts.2.code = 3 := by rw [hex2, R.done_code (by rw [hv]; decide), hv]
    have h2 := R.fin_code (s := (R.mk d 0).exts.2) (by rw [h1]; decide)
    rw [specE_code rd _ _ (by show R.code _ ≠ 0; rw [h2, h1]; decide)]
    show (R.mk d 0).exts.2.fin.code = 3
    rw [h2, h1]
  · have hv : (R.mk d 0).vec 2 0 65535 = (x, ⟨t, 0⟩) := vec2_some hL
    have hb : (R.mk d 0).block = ⟨x, 0⟩ := by unfold R.block; rw [hv]; rfl
    rw [hex1, hex2, hb, hv]
    obtain ⟨g1, g2⟩ := R.extsGo_law x.length x [] (Nat.le_refl _) (by simp)
    show ((specE rd (R.extsGo x.length ⟨x, 0⟩ []).1 (m, ((R.mk t 0).done (R.extsGo x.length ⟨x, 0⟩ []).2).fin)).2.code = 3 ∧ _) ∨ ((specE rd (R.extsGo x.length ⟨x, 0⟩ []).1 (m, ((R.mk t 0).done (R.extsGo x.length ⟨x, 0⟩ []).2).fin)).2.code = 4 ∧ _) ∨
      ∃ x' l, _ ∧ _ ∧ _ ∧ specE rd (R.extsGo x.length ⟨x, 0⟩ []).1 (m, ((R.mk t 0).done (R.extsGo x.length ⟨x, 0⟩ []).2).fin) = _
    generalize R.extsGo x.length ⟨x, 0⟩ [] = g at g1 g2
    obtain ⟨l, ⟨gb, gc⟩⟩ := g
    have g1 : gb = [] := g1
    subst g1
    have hfin : ∀ c, (R.mk [] c).fin = ⟨[], c⟩ := fun c => rfl
    rcases g2 with ⟨c0, l', hl', ho, hnd⟩ | ⟨c3, hl'⟩ | ⟨c4, hl'⟩
    · have c0 : gc = 0 := c0
      subst c0
      have ho : l = l' := by simpa using ho
      subst ho
      have hd : (R.mk t 0).done ⟨[], 0⟩ = ⟨t, 0⟩ := rfl
      rw [hd]
      rcases t with _ | ⟨y, t⟩
      · right; right
        exact ⟨x, l, rfl, hl', by simpa using hnd, rfl⟩
      · left
        refine ⟨?_, .inr (.inl ⟨x, y, t, rfl⟩)⟩
        rw [specE_code rd _ _ (show (3 : Nat) ≠ 0 by decide)]
        rfl
    · have c3 : gc = 3 := c3
      subst c3
      left
      refine ⟨?_, .inr (.inr ⟨x, t, rfl, hl'⟩)⟩
      have hd : (R.mk t 0).done ⟨[], 3⟩ = ⟨[], 3⟩ := rfl
      rw [hd, specE_code rd _ _ (show (3 : Nat) ≠ 0 by decide)]
      rfl
    · have c4 : gc = 4 := c4
      subst c4
      right; left
      refine ⟨?_, x, t, rfl, fun l hl => by simpa using hl' l hl⟩
      have hd : (R.mk t 0).done ⟨[], 4⟩ = ⟨[], 4⟩ := rfl
      rw [hd, specE_code rd _ _ (show (4 : Nat) ≠ 0 by decide)]
      rfl
/-- the block, where extensions may stand twice -/
theorem lastB_law {σ : Type} (rd : σ → UInt16 → R → σ × R) (stp : σ → Ex → Option σ) (bad : Nat → Prop) (hb0 : ¬ bad 0) (hb4 : ¬ bad 4)
    (h : ∀ m k d, ((rd m k ⟨d, 0⟩).2.fin.code = 0 → stp m (k, d) = some (rd m k ⟨d, 0⟩).1) ∧ (bad (rd m k ⟨d, 0⟩).2.fin.code → stp m (k, d) = none))
    (m : σ) (d : List UInt8) :
    ((specE rd (R.mk d 0).exts.1 (m, (R.mk d 0).exts.2.fin)).2.code = 0 → lastB stp m d = some (specE rd (R.mk d 0).exts.1 (m, (R.mk d 0).exts.2.fin)).1) ∧
    (bad (specE rd (R.mk d 0).exts.1 (m, (R.mk d 0).exts.2.fin)).2.code → lastB stp m d = none) := by
  rcases block_cases rd m d with ⟨c, h1 | ⟨x, y, t, h1⟩ | ⟨x, t, h1, h2⟩⟩ | ⟨c, _⟩ | ⟨x, l, h1, h2, _, h3⟩
  · rw [c]; exact ⟨fun h => (by cases h), fun _ => lastB_none h1⟩
  · rw [c]; exact ⟨fun h => (by cases h), fun _ => lastB_more h1⟩
  · rw [c]
    refine ⟨fun h => (by cases h), fun _ => ?_⟩
    cases t with
    | nil => rw [lastB_some h1]; unfold blockE; rw [h2]; rfl
    | cons y t => exact lastB_more h1
  · rw [c]; exact ⟨fun h => (by cases h), fun h => absurd h hb4⟩
  · rw [h3, lastB_some h1]
    unfold blockE
    rw [h2]
    exact specE_law rd stp bad hb0 h l m []
/-- the block, where each number stands once -/
theorem lastO_law {σ : Type} (rd : σ → UInt16 → R → σ × R) (stp : σ → Ex → Option σ) (bad : Nat → Prop) (hb0 : ¬ bad 0)
    (h : ∀ m k d, ((rd m k ⟨d, 0⟩).2.fin.code = 0 → stp m (k, d) = some (rd m k ⟨d, 0⟩).1) ∧ (bad (rd m k ⟨d, 0⟩).2.fin.code → stp m (k, d) = none))
    (m : σ) (d : List UInt8) :
    ((specE rd (R.mk d 0).exts.1 (m, (R.mk d 0).exts.2.fin)).2.code = 0 → lastO stp m d = some (specE rd (R.mk d 0).exts.1 (m, (R.mk d 0).exts.2.fin)).1) ∧
    (bad (specE rd (R.mk d 0).exts.1 (m, (R.mk d 0).exts.2.fin)).2.code → lastO stp m d = none) := by
  rcases block_cases rd m d with ⟨c, h1 | ⟨x, y, t, h1⟩ | ⟨x, t, h1, h2⟩⟩ | ⟨c, x, t, h1, h2⟩ | ⟨x, l, h1, h2, hn, h3⟩
  · rw [c]; exact ⟨fun h => (by cases h), fun _ => lastO_none h1⟩
  · rw [c]; exact ⟨fun h => (by cases h), fun _ => lastO_more h1⟩
  · rw [c]
    refine ⟨fun h => (by cases h), fun _ => ?_⟩
    cases t with
    | nil => rw [lastO_some h1, blockE_once, h2]; rfl
    | cons y t => exact lastO_more h1
  · rw [c]
    refine ⟨fun h => (by cases h), fun _ => ?_⟩
    cases t with
    | nil =>
      rw [lastO_some h1, blockE_once]
      rcases hx : exts x with _ | l
      · rfl
      · show (if _ then _ else _) = _
        rw [if_neg (h2 l hx)]
    | cons y t => exact lastO_more h1
  · rw [h3, lastO_some h1, blockE_once, h2]
    show (_ → (if _ then _ else _) = _) ∧ (_ → (if _ then _ else _) = _)
    rw [if_pos hn]
    exact specE_law rd stp bad hb0 h l m []
end Go.Proofs.YtaajmfgplhfncaaGreat

/- Plain laws: what is written is read, by the package and by the reference. No program is named here. -/
namespace Go.Proofs.YtaajmfgplhfncaaGreat
set_option maxRecDepth 20000

/-- the package's loop over a list of right extensions: f S is the message, as far as the extensions of the numbers S tell it -/
theorem runE_lists {σ : Type} (stp : σ → Ex → Option σ) (E : List Ex) (f : (UInt16 → Bool) → σ)
    (hstep : ∀ S e, e ∈ E → stp (f S) e = some (f fun k => S k || k == e.1))
    (hunk : ∀ S (e : Ex), 43520 ≤ e.1.toNat → e.1.toNat < 44520 → stp (f S) e = some (f S)) (l : List Ex) (hl : ∀ e ∈ l, e ∈ E ∨ 43520 ≤ e.1.toNat ∧ e.1.toNat < 44520) (S : UInt16 → Bool) :
    ∃ S', runE stp l (f S) = some (f S') ∧ (∀ k, S k = true → S' k = true) ∧ ∀ e ∈ l, e ∈ E → S' e.1 = true := by
  induction l generalizing S with
  | nil => exact ⟨S, rfl, fun _ h => h, by simp⟩
  | cons e l ih =>
    by_cases he : e ∈ E
    · obtain ⟨S', h1, h2, h3⟩ := ih (fun x hx => hl x (List.mem_cons_of_mem _ hx)) (fun k => S k || k == e.1)
      refine ⟨S', ?_, fun k hk => h2 k (by simp [hk]), ?_⟩
      · show (stp (f S) e).bind _ = _
        rw [hstep S e he]
        exact h1
      · intro x hx hxe
        rcases List.mem_cons.1 hx with rfl | hx
        · exact h2 _ (by simp)
        · exact h3 x hx hxe
    · rcases hl e (by simp) with h | ⟨u1, u2⟩
      · exact absurd h he
      · obtain ⟨S', h1, h2, h3⟩ := ih (fun x hx => hl x (List.mem_cons_of_mem _ hx)) S
        refine ⟨S', ?_, h2, ?_⟩
        · show (stp (f S) e).bind _ = _
          rw [hunk S e u1 u2]
          exact h1
        · intro x hx hxe
          rcases List.mem_cons.1 hx with rfl | hx
          · exact absurd hxe he
          · exact h3 x hx hxe
theorem runE_right {σ : Type} (stp : σ → Ex → Option σ) (E : List Ex) (f : (UInt16 → Bool) → σ) (m : σ)
    (hstep : ∀ S e, e ∈ E → stp (f S) e = some (f fun k => S k || k == e.1))
    (hunk : ∀ S (e : Ex), 43520 ≤ e.1.toNat → e.1.toNat < 44520 → stp (f S) e = some (f S))
    (hall : ∀ S, (∀ e ∈ E, S e.1 = true) → f S = m) {L : List Ex} (hL : ListsE E L) : runE stp L (f fun _ => false) = some m := by
  obtain ⟨S', h1, _, h3⟩ := runE_lists stp E f hstep hunk L hL.2.1 fun _ => false
  rw [h1, hall S' fun e he => h3 e (hL.2.2 e he) he]
/-- what the package reads, the reference reads -/
theorem specE_conv {σ : Type} (rd : σ → UInt16 → R → σ × R) (stp : σ → Ex → Option σ) (l : List Ex)
    (h : ∀ e ∈ l, ∀ m m', stp m e = some m' → (rd m e.1 ⟨e.2, 0⟩).1 = m' ∧ (rd m e.1 ⟨e.2, 0⟩).2.fin.code = 0) (m m' : σ) (t : List UInt8) (hr : runE stp l m = some m') :
    specE rd l (m, ⟨t, 0⟩) = (m', ⟨t, 0⟩) := by
  induction l generalizing m with
  | nil => injection hr with hr; rw [hr]; rfl
  | cons e l ih =>
    have hr : (stp m e).bind (runE stp l) = some m' := hr
    rcases hs : stp m e with _ | m1
    · rw [hs] at hr; cases hr
    · rw [hs] at hr
      have hr : runE stp l m1 = some m' := hr
      obtain ⟨h1, h2⟩ := h e (by simp) m m1 hs
      have hsp : specE rd (e :: l) (m, ⟨t, 0⟩) = specE rd l ((rd m e.1 ⟨e.2, 0⟩).1, (R.mk t 0).done (rd m e.1 ⟨e.2, 0⟩).2) := rfl
      have hd : (R.mk t 0).done (rd m e.1 ⟨e.2, 0⟩).2 = ⟨t, 0⟩ := by unfold R.done; rw [if_pos h2]
      rw [hsp, hd, h1]
      exact ih (fun x hx => h x (List.mem_cons_of_mem _ hx)) m1 hr
/-- a block that is written, at a message's end -/
def blkB (L : List Ex) : List UInt8 := be 2 (exsB L).length ++ exsB L
theorem lp_blkB (L : List Ex) (h : (exsB L).length < 65536) : lp 2 (blkB L) = some (exsB L, []) := by
  have := lp_be 2 (exsB L) [] (beNat_be2 _ h)
  rw [List.append_nil] at this
  exact this
theorem exsB_short (L : List Ex) (h : (exsB L).length < 65536) : exsBad L = false := by
  by_cases hb : exsBad L = true
  · have := exsW_bad L hb; omega
  · simpa using hb
theorem lastB_blkB {σ : Type} (stp : σ → Ex → Option σ) (m : σ) (L : List Ex) (h : (exsB L).length < 65536) : lastB stp m (blkB L) = runE stp L m := by
  rw [lastB_some (lp_blkB L h)]
  unfold blockE
  rw [exts_exsB L (exsB_short L h)]
  rfl
theorem lastO_blkB {σ : Type} (stp : σ → Ex → Option σ) (m : σ) (L : List Ex) (h : (exsB L).length < 65536) (hn : (L.map (·.1)).Nodup) : lastO stp m (blkB L) = runE stp L m := by
  rw [lastO_some (lp_blkB L h), blockE_once, exts_exsB L (exsB_short L h)]
  show (if _ then _ else _) = _
  rw [if_pos hn]
theorem spec_blkB {σ : Type} (rd : σ → UInt16 → R → σ × R) (m : σ) (L : List Ex) (h : (exsB L).length < 65536) (hn : (L.map (·.1)).Nodup) :
    specE rd (R.mk (blkB L) 0).exts.1 (m, (R.mk (blkB L) 0).exts.2.fin) = specE rd L (m, ⟨[], 0⟩) := by
  have hx := exts_exsB L (exsB_short L h)
  have hl := lp_blkB L h
  rcases block_cases rd m (blkB L) with ⟨_, h1 | ⟨x, y, t, h1⟩ | ⟨x, t, h1, h2⟩⟩ | ⟨_, x, t, h1, h2⟩ | ⟨x, l, h1, h2, _, h3⟩
  · rw [hl] at h1; cases h1
  · rw [hl] at h1; cases h1
  · rw [hl] at h1; cases h1; rw [hx] at h2; cases h2
  · rw [hl] at h1; cases h1; exact absurd hn (h2 L hx)
  · rw [hl] at h1; cases h1; rw [hx] at h2; cases h2; exact h3
end Go.Proofs.YtaajmfgplhfncaaGreat

/- What the package's builder makes and what the reference's writer makes, side by side; plainly: what is written is read. -/
import Derived.Test.YtaajmfgplhfncaaGreatEmit
import Derived.Test.YtaajmfgplhfncaaGreatSpecW
import Derived.Test.YtaajmfgplhfncaaGreatBody
namespace Go.Proofs.YtaajmfgplhfncaaGreat
set_option maxRecDepth 20000

/-- a writer's bytes, or none where a vector was too long -/
def ofW (x : Wr) : Option (List UInt8) := if x.bad then none else some x.b
theorem ofW_plain (xs : List UInt8) : ofW (Wr.plain xs) = some xs := rfl
theorem ofW_nil : ofW Wr.nil = some [] := rfl
theorem lpOut_ofW (n : Nat) (x : Wr) : lpOut n (ofW x) = ofW (Wr.vector n x) := by
  unfold ofW Wr.vector Wr.inner Wr.vec Wr.nil
  simp only [Bool.false_or]
  cases hb : x.bad
  · simp only [Bool.false_or, Bool.false_eq_true, if_false]
    show (if x.b.length < 256 ^ n then _ else _) = _
    by_cases h : x.b.length < 256 ^ n
    · rw [if_pos h, if_neg (by simp; omega)]; simp
    · rw [if_neg h, if_pos (by simp; omega)]
  · simp [lpOut]
theorem app_ofW (x y : Wr) : app (ofW x) (ofW y) = ofW (behindW x y) := by
  unfold ofW behindW
  cases x.bad <;> cases y.bad <;> simp [app]
theorem ofW_vecs_one (n : Nat) (xs : List UInt8) : ofW (vecsW n [xs]) = lpOut n (some xs) := by
  have : (some xs : Option (List UInt8)) = ofW (Wr.plain xs) := rfl
  rw [this, lpOut_ofW]
  simp [ofW, vecsW, vecsB, vecsBad, Wr.vector, Wr.inner, Wr.vec, Wr.nil, Wr.plain]
  by_cases h : 256 ^ n ≤ xs.length <;> simp [h]
/-- a list of extensions, written one behind the other -/
def outL (L : LW) : Option (List UInt8) := ofW ⟨exsB L.l, L.bad || exsBad L.l⟩
theorem outL_nil : outL LW.nil = some [] := rfl
theorem outL_add (L : LW) (is : Bool) (k : UInt16) (x : Wr) : outL (L.add is k x) = app (outL L) (condOut is (extOut k.toNat (ofW x))) := by
  cases is
  · show outL L = _
    rw [condOut_false, app_nil]
  · rw [condOut_true]
    have e : extOut k.toNat (ofW x) = ofW ⟨exB (k, x.b), x.bad || decide (65536 ≤ x.b.length)⟩ := by
      unfold extOut
      rw [lpOut_ofW]
      have : (some (be 2 k.toNat) : Option (List UInt8)) = ofW ⟨be 2 k.toNat, false⟩ := rfl
      rw [this, app_ofW]
      simp [behindW, Wr.vector, Wr.inner, Wr.vec, Wr.nil, exB]
    rw [e]
    unfold outL
    rw [app_ofW]
    congr 1
    show Wr.mk (exsB (L.l ++ [(k, x.b)])) (L.bad || x.bad || exsBad (L.l ++ [(k, x.b)])) = _
    rw [exsB_append, exsBad_append]
    simp only [behindW, exsB_cons, exsB_nil, List.append_nil]
    congr 1
    simp only [exsBad, List.any_cons, List.any_nil, Bool.or_false]
    cases L.bad <;> cases x.bad <;> cases (L.l.any fun e => decide (65536 ≤ e.2.length)) <;> simp
/-- a block of extensions -/
theorem lp2_outL (L : LW) : lpOut 2 (outL L) = ofW ⟨(exsW L.l).b, (exsW L.l).bad || L.bad⟩ := by
  unfold outL
  rw [lpOut_ofW]
  unfold Wr.vector Wr.inner Wr.vec Wr.nil exsW Wr.vector Wr.inner Wr.vec Wr.nil
  simp only [Bool.false_or]
  congr 1
  congr 1
  cases L.bad <;> cases exsBad L.l <;> simp
/-- a message around its body -/
theorem message_out (kind : Nat) (x : Wr) : app (some [UInt8.ofNat kind]) (lpOut 3 (ofW x)) = ofW (messageW kind x) := by
  rw [lpOut_ofW]
  have : (some [UInt8.ofNat kind] : Option (List UInt8)) = ofW ⟨be 1 kind, false⟩ := by simp [ofW, be]
  rw [this, app_ofW]
  simp [behindW, messageW, Wr.vector, Wr.inner, Wr.vec, Wr.num, Wr.nil]
theorem ofW_some {x : Wr} (h : x.bad = false) : ofW x = some x.b := by unfold ofW; rw [h]; rfl
theorem ofW_none {x : Wr} (h : x.bad = true) : ofW x = none := by unfold ofW; rw [h]; rfl
theorem pos_isEmpty (xs : List UInt8) : decide (0 < xs.length) = !xs.isEmpty := by cases xs <;> simp

def msgB (kind : Nat) (body : List UInt8) : List UInt8 := be 1 kind ++ be 3 body.length ++ body
theorem msgB_drop (kind : Nat) (body : List UInt8) : (msgB kind body).drop 4 = body := by
  unfold msgB; simp [be]
theorem msgB_len (kind : Nat) (body : List UInt8) : (msgB kind body).length = 4 + body.length := by
  unfold msgB; simp [be_len]; omega
theorem msgB_body (kind : Nat) (hk : kind < 256) (body : List UInt8) (h : body.length < 16777216) : bodyR kind (msgB kind body) = ⟨body, 0⟩ := by
  have hl := msgB_len kind body
  have h1 : (msgB kind body).take 1 = be 1 kind := by unfold msgB; simp [be]
  have h3 : ((msgB kind body).drop 1).take 3 = be 3 body.length := by unfold msgB; simp [be]
  rw [bodyR_of (by omega) (by rw [h1]; simp [be, beNat]; omega) (by rw [h3, beNat_be3 _ h]; omega), msgB_drop]
theorem messageW_msgB (kind : Nat) (x : Wr) : messageW kind x = ⟨msgB kind x.b, x.bad || decide (16777216 ≤ x.b.length)⟩ := by
  simp [messageW, Wr.inner, Wr.vec, Wr.num, Wr.nil, msgB]
theorem lp_be1 (x r : List UInt8) (h : x.length < 256) : lp 1 (be 1 x.length ++ x ++ r) = some (x, r) := lp_be 1 x r (by simp [be, beNat]; omega)
theorem lp_be1' (x : List UInt8) (h : x.length < 256) : lp 1 (be 1 x.length ++ x) = some (x, []) := by
  have := lp_be1 x [] h
  rwa [List.append_nil] at this
theorem lp_be2' (x : List UInt8) (h : x.length < 65536) : lp 2 (be 2 x.length ++ x) = some (x, []) := by
  have := lp_be 2 x [] (beNat_be2 _ h)
  rwa [List.append_nil] at this
theorem exsB_size (l : List Ex) : (exsB l).length = (l.map fun e => 4 + e.2.length).sum := by
  induction l with
  | nil => rfl
  | cons e l ih => rw [exsB_cons, List.length_append, exB_len, ih]; rfl
theorem exsB_perm {l l' : List Ex} (h : l.Perm l') : (exsB l).length = (exsB l').length := by
  rw [exsB_size, exsB_size]
  exact (h.map _).sum_nat
theorem exsB_le (M : Nat) : ∀ (l : List Ex), (∀ e ∈ l, e.2.length ≤ M) → (exsB l).length ≤ l.length * (4 + M)
  | [], _ => by simp [exsB]
  | e :: l, h => by
    have h1 := h e (by simp)
    have h2 := exsB_le M l (fun x hx => h x (by simp [hx]))
    rw [exsB_cons, List.length_append, exB_len, List.length_cons, Nat.add_mul]
    omega
theorem unknownGo_data (M : Nat) : ∀ (i : Nat) (l : List (List UInt8)), (∀ x ∈ l, x.length ≤ M) → ∀ e ∈ unknownGo i l, e.2.length ≤ M
  | _, [], _, e, he => by cases he
  | i, x :: l, h, e, he => by
    rcases List.mem_cons.1 he with he | he
    · rw [he]; exact h x (by simp)
    · exact unknownGo_data M (i + 1) l (fun y hy => h y (by simp [hy])) e he
theorem ordered_size (E : List Ex) (f : Nat) {more : List (List UInt8)} (hm : more.length ≤ 8) (hx : ∀ x ∈ more, x.length ≤ 2147483647) : (exsB (ordered E f more)).length ≤ (exsB E).length + 17179869208 := by
  rw [exsB_perm (ordered_perm E f more), exsB_append, List.length_append]
  have h1 : ∀ e ∈ (unknown more).take E.length, e.2.length ≤ 2147483647 := fun e he => unknownGo_data _ 0 more hx e (List.mem_of_mem_take he)
  have h2 := exsB_le _ _ h1
  have h3 : ((unknown more).take E.length).length ≤ 8 := by
    rw [List.length_take, unknown, unknownGo_len]; omega
  have h4 := Nat.mul_le_mul_right (4 + 2147483647) h3
  omega
theorem mem_add (s : LW) (is : Bool) (k : UInt16) (x : Wr) (e : Ex) : e ∈ (s.add is k x).l ↔ e ∈ s.l ∨ (is = true ∧ e = (k, x.b)) := by
  cases is <;> simp [LW.add]
theorem mem_nil (e : Ex) : e ∈ LW.nil.l ↔ False := by simp [LW.nil]
theorem keys_add {s : LW} {ks : List UInt16} (h : (s.l.map (·.1)).Sublist ks) (is : Bool) (k : UInt16) (x : Wr) : ((s.add is k x).l.map (·.1)).Sublist (ks ++ [k]) := by
  cases is
  · exact h.trans (List.sublist_append_left _ _)
  · show ((s.l ++ [(k, x.b)]).map (·.1)).Sublist _
    rw [List.map_append]
    exact List.Sublist.append h (List.Sublist.refl _)
theorem bad_add (s : LW) (is : Bool) (k : UInt16) (x : Wr) : (s.add is k x).bad = (s.bad || (is && x.bad)) := by cases is <;> simp [LW.add]
/-- a number that counts or not -/
def bz (b : Bool) (n : Nat) : Nat := cond b n 0
theorem bz_le (b : Bool) (n : Nat) : bz b n ≤ n := by cases b <;> simp [bz]
theorem bz_true (n : Nat) : bz true n = n := rfl
theorem bz_false (n : Nat) : bz false n = 0 := rfl
theorem size_add (s : LW) (is : Bool) (k : UInt16) (x : Wr) : (exsB (s.add is k x).l).length = (exsB s.l).length + bz is (4 + x.b.length) := by
  cases is
  · rfl
  · show (exsB (s.l ++ [(k, x.b)])).length = _
    rw [exsB_append, List.length_append, exsB_cons, List.length_append, exB_len]
    simp [exsB_nil, bz]
/-- extensions that were read, in size -/
theorem runE_size {σ : Type} (stp : σ → Ex → Option σ) (sz : σ → Nat) (h : ∀ m e m', stp m e = some m' → sz m' ≤ sz m + 4 + e.2.length) : ∀ (l : List Ex) (m m' : σ), runE stp l m = some m' → sz m' ≤ sz m + (exsB l).length
  | [], m, m', hr => by injection hr with hr; subst hr; omega
  | e :: l, m, m', hr => by
    have hr : (stp m e).bind (runE stp l) = some m' := hr
    rcases hs : stp m e with _ | m1
    · rw [hs] at hr; cases hr
    · rw [hs] at hr
      have := runE_size stp sz h l m1 m' hr
      have := h m e m1 hs
      rw [exsB_cons, List.length_append, exB_len]
      omega
/-- what holds of a message, step by step -/
theorem runE_inv {σ : Type} (stp : σ → Ex → Option σ) (p : σ → Prop) (h : ∀ m e m', p m → stp m e = some m' → p m') : ∀ (l : List Ex) (m m' : σ), p m → runE stp l m = some m' → p m'
  | [], m, m', hp, hr => by injection hr with hr; exact hr ▸ hp
  | e :: l, m, m', hp, hr => by
    have hr : (stp m e).bind (runE stp l) = some m' := hr
    rcases hs : stp m e with _ | m1
    · rw [hs] at hr; cases hr
    · rw [hs] at hr
      exact runE_inv stp p h l m1 m' (h m e m1 hp hs) hr
theorem exts_size : ∀ (f : Nat) (d : List UInt8) (l : List Ex), extsGo f d = some l → (exsB l).length = d.length
  | 0, _, _, h => by cases h
  | f + 1, d, l, h => by
    unfold extsGo at h
    split at h
    · rename_i h0; injection h with h; subst h; subst h0; rfl
    · split at h
      · rename_i e r hL
        rcases hr : extsGo f r with _ | l'
        · rw [hr] at h; cases h
        · rw [hr] at h
          injection h with h
          subst h
          have h1 := exts_size f r l' hr
          have h2 := (ext1_len hL).1
          rw [exsB_cons, List.length_append, exB_len, h1]
          omega
      · cases h
/-- a block at a message's end that is read: its extensions, and how long they are -/
theorem lastO_run {σ : Type} {stp : σ → Ex → Option σ} {m m' : σ} {d : List UInt8} (h : lastO stp m d = some m') : ∃ l, runE stp l m = some m' ∧ (exsB l).length < 65536 := by
  rcases hL : lp 2 d with _ | ⟨x, _ | ⟨y, t⟩⟩
  · rw [lastO_none hL] at h; cases h
  · rw [lastO_some hL, blockE_once] at h
    rcases hx : exts x with _ | l
    · rw [hx] at h; cases h
    · rw [hx] at h
      have h : (if (l.map (·.1)).Nodup then runE stp l m else none) = some m' := h
      split at h
      · have hs := exts_size _ _ _ hx
        have := (lp_len hL).1
        exact ⟨l, h, by omega⟩
      · cases h
  · rw [lastO_more hL] at h; cases h
theorem lastB_run {σ : Type} {stp : σ → Ex → Option σ} {m m' : σ} {d : List UInt8} (h : lastB stp m d = some m') : ∃ l, runE stp l m = some m' ∧ (exsB l).length < 65536 := by
  rcases hL : lp 2 d with _ | ⟨x, _ | ⟨y, t⟩⟩
  · rw [lastB_none hL] at h; cases h
  · rw [lastB_some hL] at h
    unfold blockE at h
    rcases hx : exts x with _ | l
    · rw [hx] at h; cases h
    · rw [hx] at h
      have hs := exts_size _ _ _ hx
      have := (lp_len hL).1
      exact ⟨l, h, by omega⟩
  · rw [lastB_more hL] at h; cases h
end Go.Proofs.YtaajmfgplhfncaaGreat

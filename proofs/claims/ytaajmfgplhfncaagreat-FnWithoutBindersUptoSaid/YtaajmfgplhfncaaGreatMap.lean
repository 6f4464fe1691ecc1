/- A set of numbers that the call makes ('map[uint16]bool'); bytes copied into a new slice; strings. -/
import Derived.Test.YtaajmfgplhfncaaGreatStr
import Derived.Test.YtaajmfgplhfncaaGreatReader
import Derived.Maps.OwnSet
import Derived.Maps.OwnOps
import Derived.Maps.Views
import Derived.Laws.CopyOwn
import Derived.Laws.IdiomStrings
import Derived.Laws.BytesArg
import Derived.Lib.ConvBytes
import Derived.OwnWalk
namespace Go.Proofs.YtaajmfgplhfncaaGreat
open Go.RowKit Go.Maps
set_option maxRecDepth 100000

section
variable {w w' : World} {b n : Nat} {ks : List UInt16} {S : List Nat}
/-- block b is a map that is true at just these numbers -/
def Seen (w : World) (b n : Nat) (ks : List UInt16) : Prop :=
  ∃ D : DataW Unit, w.ownsMap Tryz.prog 22 (plainElem Tryz.prog 4) b n D ∧ IsMap D ∧ ∀ k : UInt16, D.atKey (.int .u16 (k.toNat : Int)) (.lit (.bool false)) = .lit (.bool (ks.contains k))
theorem seen_keyed : Keyed Tryz.prog 22 := int_keyed Tryz.underlying22
theorem seen_key (k : UInt16) : keyOf Tryz.prog 22 (.int .u16 (k.toNat : Int)) = some (.int .u16 (k.toNat : Int)) :=
  keyOf_int_mk Tryz.underlying22 (WalkArith.wf_u16 (by have := k.toNat_lt; omega))
theorem Seen.made (w : World) : Seen (w.alloc (.map #[] 0)) w.heap.size 0 [] :=
  ⟨.map [], World.ownsMap_made _ _ _ _, isMap_empty, fun _ => rfl⟩
theorem Seen.upd (h : Seen w b n ks) (hu : Upd S w w') (hb : b ∉ S) : Seen w' b n ks := by
  obtain ⟨D, hown, h2, h3⟩ := h
  have hlt := hown.lt
  obtain ⟨es, clock, hh, F, hs, hD⟩ := hown
  exact ⟨D, ⟨es, clock, (hu.block b hlt hb).trans hh, F, hs, hD⟩, h2, h3⟩
theorem Seen.lt (h : Seen w b n ks) : b < w.heap.size := by
  obtain ⟨D, hown, h2, h3⟩ := h
  exact hown.lt
theorem Seen.drew (h : Seen w b n ks) : Seen w.drew b n ks := h.upd ((Upd.refl [] w).drew) (by simp)
theorem Seen.ne_blk {g : Nat} {t : TypeId} {cs : Array Value} (h : Seen w b n ks) (hg : Blk w g t cs) : g ≠ b := by
  rintro rfl
  obtain ⟨D, ⟨es, clock, hh, -⟩, -⟩ := h
  have hb : w.heap[g]? = some (.cells cs t (0, 0)) := hg
  rw [hh] at hb
  cases hb
theorem seen_zero (w : World) : (zeroValue 4).run Tryz.prog w = .ok (.bool false) w := by kernel_rfl
theorem wpList_seen {ops : Array Oper} {rest : List Oper} {o : Oper} {a : Act} {Q : Exit → Act → World → Prop}
    (hg : o.guard = none) (m x : Operand) (hop : o.op = Op.lookup 125 m x false) (hm : a.eval m = .map (some b)) (h : Seen w b n ks) (key : UInt16) (hx : a.eval x = .int .u16 (key.toNat : Int)) {r : Bool} (hr : ks.contains key = r)
    (hK : wpList Tryz.prog ops Q rest (a.put o.dst (.bool r)) w) :
    wpList Tryz.prog ops Q (o :: rest) a w := by
  subst hr
  refine wpList_plain hg fun K' hK' => ?_
  obtain ⟨D, hown, h2, h3⟩ := h
  obtain ⟨v, ps, hrun, hv⟩ := hown.lookup seen_keyed Tryz.underlying125 (seen_zero w) (plainElem_bool Tryz.underlying4 false) (seen_key key)
  rw [h3] at hv
  have hv2 : v = .bool (ks.contains key) := by
    unfold plainElem at hv
    rw [Tryz.underlying4] at hv
    cases v <;> simp at hv
    rw [hv.1]
    simp
  subst hv2
  unfold Oper.wp
  simp [execOp, hop, hm, hx, hrun, Result.andThen, -List.contains_eq_mem]
  exact hK' _ _ hK
theorem wpList_see {ops : Array Oper} {rest : List Oper} {o : Oper} {a : Act} {Q : Exit → Act → World → Prop}
    (hg : o.guard = none) (m x v : Operand) (hop : o.op = Op.mapUpdate 125 m x v) (hm : a.eval m = .map (some b)) (h : Seen w b n ks) (hn : n < 9223372036854775807) (key : UInt16) (hx : a.eval x = .int .u16 (key.toNat : Int)) (hv : a.eval v = .bool true)
    (hK : ∀ w', Seen w' b (n + 1) (key :: ks) → Upd [b] w w' → wpList Tryz.prog ops Q rest (a.put o.dst undef) w') :
    wpList Tryz.prog ops Q (o :: rest) a w := by
  obtain ⟨D, hown, h2, h3⟩ := h
  refine wpList_mapUpdate_own w hg m x v 125 hop 22 4 seen_keyed Tryz.underlying125 _ b n D hm hown (by unfold maxLen; omega) _ _ _ hx hv (seen_key key) _ [] (plainElem_bool Tryz.underlying4 true) ?_
  intro w' hown' hg'
  refine hK w' ⟨_, hown', h2.put _ _, fun k => ?_⟩ ((Upd.refl _ _).grown hg' (fun g hg => by cases hg; exact .inl (by simp)))
  by_cases hk : k = key
  · subst hk
    rw [atKey_put_same (k := .int .u16 (k.toNat : Int)) h2 trivial]
    simp
  · have hne : (Lit.int .u16 (k.toNat : Int)) ≠ Lit.int .u16 (key.toNat : Int) := by
      intro e
      injection e with _ e
      exact hk (UInt16.toNat_inj.1 (by omega))
    rw [atKey_put_other hne, h3]
    simp [hk]
end

section
variable {w w' : World} {N b g lo : Nat} {bs xs : List UInt8} {S : List Nat} {v : Value}
/-- bytes in a block of their own, from its head on -/
def Cpy (w : World) (lo : Nat) (v : Value) (xs : List UInt8) : Prop :=
  ∃ g c, v = .slice (some ⟨g, 0, none⟩) xs.length c ∧ lo ≤ g ∧ xs.length ≤ c ∧ c ≤ maxLen ∧ w.heap[g]? = some (.cells (xs.map bv).toArray 5 (0, 0))
theorem Cpy.upd (h : Cpy w lo v xs) (hu : Upd S w w') (hS : ∀ x ∈ S, x < lo ∨ w.heap.size ≤ x) : Cpy w' lo v xs := by
  obtain ⟨g, c, e, h1, h2, h3, h4⟩ := h
  have hlt : g < w.heap.size := (Array.getElem?_eq_some_iff.1 h4).1
  exact ⟨g, c, e, h1, h2, h3, (hu.block g hlt (fun hm => by have := hS g hm; omega)).trans h4⟩
theorem Cpy.byt (h : Cpy w lo v xs) : Byt w w.heap.size v xs := by
  obtain ⟨g, c, rfl, h1, h2, h3, h4⟩ := h
  have hlt : g < w.heap.size := (Array.getElem?_eq_some_iff.1 h4).1
  have hl : (xs.map bv).length = xs.length := by simp
  refine ⟨some ⟨g, 0, none⟩, c, by rw [hl], by rw [hl]; exact h2, h3, (by intro e; cases e), fun _ => ⟨g, 0, rfl, hlt, fun j u hj => ?_⟩⟩
  rw [Nat.zero_add]
  have hb : Blk w g 5 (xs.map bv).toArray := h4
  rw [hb.cell j]
  simpa using hj
theorem conv_bytes {B : Nat} {A : Option Addr} {c : Nat} (src : TypeId) (hs : Tryz.prog.underlying src = some (.slice 5)) (h : Byt w B (.slice A xs.length c) xs) : (convert src 9 (.slice A xs.length c)).run Tryz.prog w = .ok (.string ⟨xs.toArray⟩) w := by
  cases A with
  | none =>
    have hx : xs = [] := by
      cases xs with
      | nil => rfl
      | cons y t =>
        obtain ⟨b', o, e, _⟩ := Byt.at_ h (k := 0) (by simp)
        cases e
    subst hx
    exact run_convert_bytes_nil w src 5 hs Tryz.underlying5 _ _ 9 Tryz.underlying9
  | some a =>
    refine run_convert_bytes_back w src 9 5 a c xs hs Tryz.underlying5 Tryz.underlying9 ?_
    intro j hj
    obtain ⟨b', o, e, -, hj', hc⟩ := Byt.at_ h (k := j) hj
    cases e
    rw [add_lit]
    exact hc
set_option maxHeartbeats 1000000 in
theorem CopyBytes_any {zs : List Value} (h : Sv w N b bs True) (hg : w.heap[g]? = some (.cells zs.toArray 5 (0, 0))) (hz : zs.length = bs.length) (hgN : N ≤ g) (hne : g ≠ b) :
    Calls Tryz.prog 78 #[.pointer (some ⟨b, 0, none⟩), .slice (some ⟨g, 0, none⟩) bs.length bs.length] w
      (fun e w' => e = .returned (.bool true) ∧ Upd [b, g] w w' ∧ Sv w' N b [] True ∧ w'.heap[g]? = some (.cells (bs.map bv).toArray 5 (0, 0))) := by
  have q : ∀ (w : World) (a : Option Addr) (n c n' c' : Nat), (binOp .eql 23 (.slice a n c) (.slice none n' c')).run Tryz.prog w = .ok (.bool (a.isNone)) w := fun w a n c n' c' => Lib.run_eql_slice_nil w _ _ a n c n' c' Tryz.underlying23
  go_enter Tryz.func78, Tryz.ntmps78
  go_wp2_with fail
  refine (read_ok h bs.length (Nat.le_refl _) (.inr trivial)).mono ?_
  rintro e w1 ⟨u, rfl, ⟨a, k, c, rfl⟩, hy, hu, hs⟩
  rw [List.take_length] at hy
  rw [List.drop_length] at hs
  obtain ⟨A, c', e1, hy, hlc, -⟩ := Byt.form hy rfl
  cases e1
  have hg1 : w1.heap[g]? = some (.cells zs.toArray 5 (0, 0)) := (hu.block g (Array.getElem?_eq_some_iff.1 hg).1 (by simpa using hne)).trans hg
  by_cases h0 : bs = []
  · subst h0
    have hz0 : zs = [] := List.eq_nil_of_length_eq_zero hz
    subst hz0
    go_wp2_with (refine wpList_copy_nothing rfl _ _ _ _ rfl 5 Tryz.underlying23 (by kernel_rfl) _ _ _ _ _ _ rfl rfl rfl ?_)
    go_ret
    exact ⟨rfl, hu.mono (by simp), hs, hg1⟩
  · obtain ⟨b', o, e2, -, -⟩ := Byt.at_ hy (k := 0) (List.length_pos_iff.2 h0)
    cases e2
    have hsrc : ∀ j v, (bs.map bv)[j]? = some v → w1.cell? ((⟨b', o, none⟩ : Addr).add j) = some v := by
      intro j v hj
      rw [List.getElem?_map] at hj
      obtain ⟨x, hx, rfl⟩ := Option.map_eq_some_iff.1 hj
      obtain ⟨hjl, hx⟩ := List.getElem?_eq_some_iff.1 hx
      obtain ⟨b'', o', e3, -, hjl', hc⟩ := Byt.at_ hy (k := j) hjl
      cases e3
      rw [add_lit, hc, hx]
    have hset : ∀ cs : List Value, cs.length = bs.length → (w1.setRow g (cs ++ zs.drop bs.length).toArray).heap[g]? = some (.cells cs.toArray 5 (0, 0)) := by
      intro cs hcs
      rw [setRow_heap w1 g _ _ _ _ hg1]
      simp [hcs, ← hz]
    have hupd : ∀ cs : Array Value, Upd [g] w1 (w1.setRow g cs) := fun cs => ⟨rfl, rfl, rfl, by simp [World.setRow], fun k hk hkS => setRow_other w1 g k cs (by simpa using hkS)⟩
    have hlen : (bs.map bv).length = bs.length := by simp
    have HS := hid hset
    have HU := hid hupd
    clear hset hupd
    go_wp2_with (refine wpList_copy_own rfl _ _ _ _ rfl 5 Tryz.underlying23 (by kernel_rfl) g 0 _ _ _ _ _ rfl rfl zs.toArray 5 hg1 (bs.map bv) (by rw [hlen]; exact (Nat.min_self _).symm) hsrc (by simp [hz]) (byt_oneCell bs) ?_)
    go_ret
    have h2 := HS.out (bs.map bv) hlen
    have h3 := HU.out (bs.map bv ++ zs.drop bs.length).toArray
    exact ⟨by simp, (hu.mono (S' := [b, g]) (by simp)).trans h3 (by simp), hs.upd h3 (by simpa using hgN) (by simpa using Ne.symm hne), h2⟩
theorem wpList_newBytes {ops : Array Oper} {rest : List Oper} {o : Oper} {a : Act} {Q : Exit → Act → World → Prop}
    (hg : o.guard = none) (l c : Operand) (hop : o.op = Op.makeSlice 23 l c) (n : Nat) (hl : a.eval l = .int .i64 (n : Int)) (hc : a.eval c = .int .i64 (n : Int)) (hn : n ≤ 1048576)
    (hK : ∀ (w' : World) (zs : List Value), zs.length = n → w'.heap[w.heap.size]? = some (.cells zs.toArray 5 (0, 0)) → Upd [] w w' → wpList Tryz.prog ops Q rest (a.put o.dst (.slice (some ⟨w.heap.size, 0, none⟩) n n)) w') :
    wpList Tryz.prog ops Q (o :: rest) a w := by
  obtain ⟨i0, hi, hz0, hz1, hz2⟩ := info_parts info_u8
  refine wpList_make_full w hg l c 23 hop w.heap.size 5 i0 _ 1 Tryz.underlying23 hi hz0 hz1 .i64 .i64 _ _ n hl hc rfl rfl (by rw [hz2]; omega) (by unfold maxLen; omega) (Nat.le_refl _) ?_
  intro w' hown hgr
  obtain ⟨-, ⟨e, -⟩ | ⟨g, cap, cur, e, -, hh, -, -, hsz, -⟩⟩ := hown
  · cases e
  · injection e with e1 e2 e3
    injection e1 with e1
    injection e1 with e1
    subst e1 e3
    exact hK w' cur.toList (by simpa using hsz) hh ((Upd.refl _ _).grown hgr (fun g hg => (by cases hg)))
end
end Go.Proofs.YtaajmfgplhfncaaGreat

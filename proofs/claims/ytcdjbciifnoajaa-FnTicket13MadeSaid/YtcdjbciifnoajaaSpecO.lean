/- Contracts of the reference's functions that put extensions into another order, and of small ones. -/
import Derived.Test.YtcdjbciifnoajaaSpecW
import Derived.Deep.RegionHeld3
import Derived.Deep.DeepMust
namespace Go.Proofs.Ytcdjbciifnoajaa
open Go.RowKit
set_option maxRecDepth 100000

section
variable {w w' w0 wr : World} {B C N base : Nat} {v v7 v8 v9 content : Value} {xs ys : List UInt8} {e : Ending} {ls : List (List UInt8)} {L : List Ex}

def FitsP (w : World) (p : Prop) (e : Ending) (w' : World) : Prop := ∃ b : Bool, e = .returned (.bool b) ∧ Upd [] w w' ∧ (b = true → p)
set_option maxHeartbeats 1000000 in
theorem zzFits2_any (hc : Lst w B content ls) : Calls Try.prog 15 #[content] w (FitsP w (ls.length ≤ 2147483647 ∧ ∀ x ∈ ls, x.length ≤ 2147483647)) := by
  obtain ⟨A, c, rfl, hcr, hlc, hm⟩ := hc.shrink.form
  by_cases hl : 2147483647 < ls.length
  · have hb : decide ((2147483647 : Int) < (ls.length : Int)) = true := decide_eq_true (by omega)
    clear hl
    go_enter Try.func15, Try.ntmps15
    go_wp2
    go_ret
    exact ⟨false, rfl, Upd.refl _ _, fun h => (by cases h)⟩
  · have hb : decide ((2147483647 : Int) < (ls.length : Int)) = false := decide_eq_false (by omega)
    go_enter Try.func15, Try.ntmps15
    go_wp2
    go_loopg [4, 10] ls.length (fun gk _ i wr => ∃ j : Nat, j + gk = ls.length ∧ i = .int .i64 j ∧ Upd [] w wr ∧ ∀ x ∈ ls.take j, x.length ≤ 2147483647)
    case atStart => exact ⟨0, by omega, rfl, Upd.refl _ _, by simp⟩
    case round =>
      obtain ⟨j, hj0, rfl, hur, hall⟩ := hrel
      have HJ := hid hj0
      have HA := hid hall
      have hj : j ≤ ls.length := by omega
      clear hj0 hall
      by_cases hlt : j < ls.length
      · have hcw := hcr.upd hur (by simp)
        obtain ⟨b, o, rfl, hb', hj', A', c', hcell, hy, hl1, hl2⟩ := hcw.at_ hlt
        by_cases hx : 2147483647 < (ls[j]).length
        · have hx' : decide ((2147483647 : Int) < ((ls[j]).length : Int)) = true := decide_eq_true (by omega)
          clear hx
          go_wp2
          go_ret
          exact ⟨false, rfl, hur, fun h => (by cases h)⟩
        · have hx' : decide ((2147483647 : Int) < ((ls[j]).length : Int)) = false := decide_eq_false (by omega)
          have Hx := hid hx
          clear hx
          go_wp2
          have hj0 := HJ.out
          go_roundg (ls.length - (j + 1))
          case measure => omega
          case rel =>
            refine ⟨j + 1, by omega, by go_num, hur, ?_⟩
            intro x hx
            rw [List.take_succ_eq_append_getElem hlt] at hx
            rcases List.mem_append.1 hx with hx | hx
            · exact HA.out x hx
            · simp at hx; rw [hx]; have := Hx.out; omega
      · obtain rfl : j = ls.length := by omega
        go_wp2
        go_ret
        refine ⟨true, rfl, hur, fun _ => ⟨by omega, ?_⟩⟩
        have := HA.out
        rwa [List.take_length] at this

/-- extensions handed back in new memory -/
def ExP (w : World) (L : List Ex) (e : Ending) (w' : World) : Prop := ∃ v, e = .returned v ∧ EOwn w' w.heap.size w.heap.size v L ∧ Upd [] w w'
theorem unknown_take (ls : List (List UInt8)) (j : Nat) (h : j < ls.length) : unknown (ls.take (j + 1)) = unknown (ls.take j) ++ [(UInt16.ofNat (43520 + j), ls[j])] := by
  rw [List.take_succ_eq_append_getElem h]
  unfold unknown
  rw [unknownGo_snoc, List.length_take]
  have : 0 + min j ls.length = j := by omega
  rw [this]
set_option maxHeartbeats 1000000 in
theorem Unknown_any (hc : Lst w B content ls) (hl : ls.length ≤ 1000) : Calls Try.prog 38 #[content] w (ExP w (unknown ls)) := by
  obtain ⟨A, c, rfl, hcr, hlc, hm⟩ := hc.shrink.form
  clear hc
  go_enter Try.func38, Try.ntmps38
  go_wp2
  go_loopg [3, 8] ls.length (fun gk v i wr => ∃ j : Nat, j + gk = ls.length ∧ i = .int .i64 j ∧ EOwn wr w.heap.size w.heap.size v (unknown (ls.take j)) ∧ Upd [] w wr)
  case atStart => exact ⟨0, by omega, rfl, by simpa [unknown, unknownGo] using EOwn.nil_ _ _ _, Upd.refl _ _⟩
  case round =>
    obtain ⟨j, hj0, rfl, hown, hur⟩ := hrel
    have HJ := hid hj0
    have hj : j ≤ ls.length := by omega
    have hus := hur.size
    obtain ⟨Av, cv, rfl, -, -⟩ := hown.form
    have hul : (unknown (ls.take j)).length = j := by rw [unknown, unknownGo_len, List.length_take]; omega
    clear hj0
    by_cases hlt : j < ls.length
    · have hcw := hcr.upd hur (by simp)
      obtain ⟨b, o, rfl, hb', hj', A', c', hcell, hy, hl1, hl2⟩ := hcw.at_ hlt
      have hO : Exr (wr.alloc (.cells #[.int .u16 ((43520 : Int) + (j : Int)), .slice A' (ls[j]).length c'] 66)) (wr.heap.size + 1) w.heap.size (.slice (some ⟨wr.heap.size, 0, none⟩) 1 1) [(UInt16.ofNat (43520 + j), ls[j])] := by
        have h1 := Exr.one (w := wr) (k := UInt16.ofNat (43520 + j)) hy
        rw [← wv_ofNat (43520 + j) (by omega)] at h1
        have h2 : ((43520 + j : Nat) : Int) = (43520 : Int) + (j : Int) := by omega
        rwa [h2] at h1
      have HO := hid hO
      have HU := hid hul
      have hjl : j < 1000 := by omega
      clear hO hul
      go_wp2_with (at_builtin; go_must (refine wpList_append_ex rfl _ _ rfl rfl (hown.alloc _) rfl HO.out (by have := HU.out; simp; omega) (by simp; omega) (Nat.le_refl _) ?_; intro v3 w3 hap))
      obtain ⟨h1, h2, h3⟩ := hap.one
      have hj0 := HJ.out
      go_roundg (ls.length - (j + 1))
      case measure => omega
      case rel =>
        refine ⟨j + 1, by omega, by go_num, ?_, ?_⟩
        · rw [unknown_take ls j hlt]; exact h1
        · exact hur.trans h2 fun x hx => .inr (hown.ge (Option.mem_toList.1 hx)).1
    · obtain rfl : j = ls.length := by omega
      rw [List.take_length] at hown
      go_wp2
      go_ret
      refine ⟨_, rfl, ?_, hur⟩
      show EOwn wr _ _ (.slice Av (unknown (ls.take ls.length)).length cv) (unknown ls)
      rw [List.take_length]
      exact hown
theorem alloc_sz (w : World) (o : Obj) : (w.alloc o).heap.size = w.heap.size + 1 := by simp
/-- the slices of the loop in 'Ordered' -/
structure OSt (w : World) (v7 v8 v9 : Value) (O T K : List Ex) (wr : World) : Prop where
  a7 : EOwn wr w.heap.size w.heap.size v7 O
  a8 : EOwn wr w.heap.size w.heap.size v8 T
  a9 : EOwn wr w.heap.size w.heap.size v9 K
  n78 : ∀ g, v7.ownBlock = some g → v8.ownBlock ≠ some g
  n79 : ∀ g, v7.ownBlock = some g → v9.ownBlock ≠ some g
  n89 : ∀ g, v8.ownBlock = some g → v9.ownBlock ≠ some g
  u : Upd [] w wr
theorem OSt.out {O T K O' : List Ex} {v' : Value} {o : Obj} {w3 : World} (h : OSt w v7 v8 v9 O T K wr) (hap : EAppended (wr.alloc o) w.heap.size w.heap.size v7 O' v' w3) : OSt w v' v8 v9 O' T K w3 := by
  obtain ⟨h1, h2, h3⟩ := hap.one
  have hN : ∀ x ∈ v7.ownBlock.toList, w.heap.size ≤ x := fun x hx => (h.a7.ge (Option.mem_toList.1 hx)).1
  refine ⟨h1, h.a8.upd h2 (fun g hg hm => h.n78 g (Option.mem_toList.1 hm) hg) hN, h.a9.upd h2 (fun g hg hm => h.n79 g (Option.mem_toList.1 hm) hg) hN, ?_, ?_, h.n89, h.u.trans h2 fun x hx => .inr (hN x hx)⟩
  · intro g hg h8
    rcases h3 with h3 | ⟨g', h3, hg'⟩
    · rw [h3] at hg; exact h.n78 g hg h8
    · rw [h3] at hg
      have : g' = g := by simpa using hg
      have := (h.a8.ge h8).2
      omega
  · intro g hg h9
    rcases h3 with h3 | ⟨g', h3, hg'⟩
    · rw [h3] at hg; exact h.n79 g hg h9
    · rw [h3] at hg
      have : g' = g := by simpa using hg
      have := (h.a9.ge h9).2
      omega
theorem OSt.last {O T K T' : List Ex} {v' : Value} {o : Obj} {w3 : World} (h : OSt w v7 v8 v9 O T K wr) (hap : EAppended (wr.alloc o) w.heap.size w.heap.size v8 T' v' w3) : OSt w v7 v' v9 O T' K w3 := by
  obtain ⟨h1, h2, h3⟩ := hap.one
  have hN : ∀ x ∈ v8.ownBlock.toList, w.heap.size ≤ x := fun x hx => (h.a8.ge (Option.mem_toList.1 hx)).1
  refine ⟨h.a7.upd h2 (fun g hg hm => h.n78 g hg (Option.mem_toList.1 hm)) hN, h1, h.a9.upd h2 (fun g hg hm => h.n89 g (Option.mem_toList.1 hm) hg) hN, ?_, h.n79, ?_, h.u.trans h2 fun x hx => .inr (hN x hx)⟩
  · intro g hg h8
    rcases h3 with h3 | ⟨g', h3, hg'⟩
    · rw [h3] at h8; exact h.n78 g hg h8
    · rw [h3] at h8
      have : g' = g := by simpa using h8
      have := (h.a7.ge hg).2
      omega
  · intro g hg h9
    rcases h3 with h3 | ⟨g', h3, hg'⟩
    · rw [h3] at hg; exact h.n89 g hg h9
    · rw [h3] at hg
      have : g' = g := by simpa using hg
      have := (h.a9.ge h9).2
      omega
theorem OSt.alloc {O T K : List Ex} (h : OSt w v7 v8 v9 O T K wr) (o : Obj) : OSt w v7 v8 v9 O T K (wr.alloc o) := by
  have hu := (Upd.refl [] wr).alloc o
  exact ⟨h.a7.upd hu (by simp) (by simp), h.a8.upd hu (by simp) (by simp), h.a9.upd hu (by simp) (by simp), h.n78, h.n79, h.n89, h.u.trans hu (by simp)⟩
theorem ordGo_len (l : List Ex) (s : Nat) (o : List Ex) (i : Nat) : (ordGo l s o i).1.length ≤ 2 * i ∧ (ordGo l s o i).2.length ≤ i := by
  induction i with
  | zero => exact ⟨Nat.le_refl _, Nat.le_refl _⟩
  | succ i ih =>
    unfold ordGo
    have h : (o[i]?).toList.length ≤ 1 := by cases o[i]? <;> simp
    by_cases hk : (ordE l s i).1 = 41
    · simp only [if_pos hk, List.length_append]; simp; omega
    · simp only [if_neg hk, List.length_append]; simp; omega
theorem OSt.el9 {O T K : List Ex} {b o c9 j : Nat} {y : Ex} (h : OSt w v7 v8 (.slice (some ⟨b, o, none⟩) K.length c9) O T K wr) (hj : j < K.length) (hy : K[j] = y) :
    ∃ A' c', wr.cell? ⟨b, o + j * 2, none⟩ = some (wv y.1) ∧ wr.cell? ⟨b, o + j * 2 + 1, none⟩ = some (.slice A' y.2.length c') ∧ Byt wr w.heap.size (.slice A' y.2.length c') y.2 := by
  obtain ⟨b', o', e, _, hj', A', c', h0, h1, h2, _, _⟩ := h.a9.exr.at_ hj
  cases e
  rw [hy] at h0 h1 h2
  exact ⟨A', c', h0, h1, h2⟩
theorem OSt.el9' {O T K : List Ex} {A : Option Addr} {n c9 j : Nat} (h : OSt w v7 v8 (.slice A n c9) O T K wr) (hj : j < n) : ∃ b o, A = some ⟨b, o, none⟩ := by
  obtain ⟨b', o', e, _⟩ := h.a9.exr.at_ hj
  exact ⟨b', o', e⟩
set_option maxHeartbeats 8000000 in
theorem Ordered_any {more : List (List UInt8)} {v2 : Value} (hc : Exr w B N content L) (f : Nat) (hf : f ≤ 9223372036854775807) (hm : Lst w C v2 more) (hl : L.length ≤ 1000) (hml : more.length ≤ 1000) :
    Calls Try.prog 18 #[content, .int .i64 (f : Int), v2] w (ExP w (ordered L f more)) := by
  obtain ⟨A, c, rfl, hcr, hlc, hcm⟩ := hc.shrink.form
  obtain ⟨A2, c2, rfl, hm, -, -⟩ := hm.form
  have HU := hid (Unknown_any hm hml)
  have hf0 : (0 : Int) ≤ (f : Int) := by omega
  have hul : (unknown more).length ≤ 1000 := by rw [unknown, unknownGo_len]; exact hml
  clear hc hm hml
  go_enter Try.func18, Try.ntmps18
  go_wp2_with fail
  refine HU.out.mono ?_
  rintro e w1 ⟨v9, rfl, h9, hu1⟩
  obtain ⟨A9, c9, rfl, -, -⟩ := h9.form
  obtain ⟨K, hK⟩ : ∃ K, unknown more = K := ⟨_, rfl⟩
  rw [hK] at h9 hul
  rw [hK]
  have HK := hid hK
  clear hK HU
  go_wp2_with fail
  go_loopg [7, 8, 16] L.length (fun gk v7 v8 i wr => ∃ j : Nat, j + gk = L.length ∧ i = .int .i64 j ∧ OSt w v7 v8 (.slice A9 K.length c9) (ordGo L (f % L.length) K j).1 (ordGo L (f % L.length) K j).2 K wr)
  case atStart => exact ⟨0, by omega, rfl, EOwn.nil_ _ _ _, EOwn.nil_ _ _ _, h9, by simp [Value.ownBlock], by simp [Value.ownBlock], by simp [Value.ownBlock], hu1⟩
  case round =>
    obtain ⟨j, hj0, rfl, hs⟩ := hrel
    have HJ := hid hj0
    have hj : j ≤ L.length := by omega
    have hus := hs.u.size
    obtain ⟨A7, c7, rfl, -, -⟩ := hs.a7.form
    obtain ⟨A8, c8, rfl, -, -⟩ := hs.a8.form
    obtain ⟨hl7, hl8⟩ := ordGo_len L (f % L.length) K j
    clear hj0
    by_cases hlt : j < L.length
    · have hn0 : 0 < L.length := by omega
      have hxl : (j + f) % L.length < L.length := Nat.mod_lt _ hn0
      have hcw := hcr.upd hs.u (by simp)
      obtain ⟨b, o, rfl, hb', hj', A', c', e0, e1, hy, hy1, hy2⟩ := hcw.at_ hxl
      have hoe : ordE L (f % L.length) j = L[(j + f) % L.length] := by
        unfold ordE
        rw [Nat.add_mod_mod, List.getElem?_eq_getElem hxl]; rfl
      have hord : ordGo L (f % L.length) K (j + 1) = ((if (ordE L (f % L.length) j).1 = 41 then (ordGo L (f % L.length) K j).1 else (ordGo L (f % L.length) K j).1 ++ [ordE L (f % L.length) j]) ++ (K[j]?).toList, if (ordE L (f % L.length) j).1 = 41 then (ordGo L (f % L.length) K j).2 ++ [ordE L (f % L.length) j] else (ordGo L (f % L.length) K j).2) := rfl
      rw [hoe] at hord
      have hmb : (f : Int) % (L.length : Int) < (L.length : Int) := Int.emod_lt_of_pos _ (by omega)
      have hmz : 0 ≤ (f : Int) % (L.length : Int) := Int.emod_nonneg _ (by omega)
      have hmb2 : ((j : Int) + (f : Int)) % (L.length : Int) < (L.length : Int) := Int.emod_lt_of_pos _ (by omega)
      have hmz2 : 0 ≤ ((j : Int) + (f : Int)) % (L.length : Int) := Int.emod_nonneg _ (by omega)
      generalize L[(j + f) % L.length] = x at e0 e1 hy hy1 hy2 hord hoe
      obtain ⟨xk, xd⟩ := x
      obtain ⟨O, hO⟩ : ∃ O, (ordGo L (f % L.length) K j).1 = O := ⟨_, rfl⟩
      obtain ⟨T, hT⟩ : ∃ T, (ordGo L (f % L.length) K j).2 = T := ⟨_, rfl⟩
      rw [hO] at hs hl7 hord
      rw [hT] at hs hl8 hord
      rw [hO, hT]
      have HORD := hid hord
      have HE := hid hoe
      have HOT := hid (And.intro hO hT)
      clear hord hoe hO hT
      have hs1 := hs.alloc (.cells #[wv xk, .slice A' xd.length c'] 66)
      have hy' : Byt (wr.alloc (.cells #[wv xk, .slice A' xd.length c'] 66)) w.heap.size (.slice A' xd.length c') xd := Row.alloc hy _
      have hO1 := Exr.one (k := xk) hy'
      rw [alloc_sz] at hO1
      have HO := hid hO1
      clear hO1 hy'
      by_cases hk : xk = 41
      · have t1 : ((xk.toNat : Int) == 41) = true := by rw [hk]; rfl
        have Hk := hid hk
        clear hk
        by_cases hq : j < K.length
        · obtain ⟨b9, o9, rfl⟩ := hs.el9' hq
          have hKj : K[j]? = some K[j] := List.getElem?_eq_getElem hq
          obtain ⟨y, hy9⟩ : ∃ y, K[j] = y := ⟨_, rfl⟩
          rw [hy9] at hKj
          have HY := hid hy9
          have HKj := hid hKj
          clear hy9 hKj
          obtain ⟨yk, yd⟩ := y
          go_wp2_with (first | (at_builtin; refine wpList_append_ex rfl (Operand.tmp 34) (Operand.tmp 36) rfl rfl (hs1.a8.alloc _) rfl HO.out (by show _ + 1 ≤ _; omega) (by simp; omega) (Nat.le_refl _) ?_; intro v3 w3 hap; have hs3 := hs1.last hap; obtain ⟨A9', c9', q0, q1, hyy⟩ := hs3.el9 hq HY.out; (try simp only at q0 q1 hyy); have HO9 := hid (Exr.one (k := yk) hyy); clear hyy; obtain ⟨A8', c8', hv3, -, -⟩ := hs3.a8.form; subst hv3) | (at_builtin; refine wpList_append_ex rfl (Operand.tmp 46) (Operand.tmp 51) rfl rfl (hs3.a7.alloc _) rfl HO9.out (by simp only [List.length_append, List.length_singleton]; omega) (by have := hs3.u.size; simp; omega) (Nat.le_refl _) ?_; intro v4 w4 hap4; have hs4 := hs3.out hap4))
          go_roundg (L.length - (j + 1))
          case measure => have := HJ.out; omega
          case rel =>
            refine ⟨j + 1, by have := HJ.out; omega, by go_num, ?_⟩
            rw [HORD.out, HKj.out]
            simp only [if_pos Hk.out, Option.toList_some]
            try simp only [List.length_append] at hs4
            exact hs4
        · have hKj : K[j]? = none := List.getElem?_eq_none (by omega)
          have HKj := hid hKj
          clear hKj
          go_wp2_with (first | (at_builtin; refine wpList_append_ex rfl (Operand.tmp 34) (Operand.tmp 36) rfl rfl (hs1.a8.alloc _) rfl HO.out (by show _ + 1 ≤ _; omega) (by simp; omega) (Nat.le_refl _) ?_; intro v3 w3 hap; have hs3 := hs1.last hap; obtain ⟨A8', c8', hv3, -, -⟩ := hs3.a8.form; subst hv3) | fail)
          go_roundg (L.length - (j + 1))
          case measure => have := HJ.out; omega
          case rel =>
            refine ⟨j + 1, by have := HJ.out; omega, by go_num, ?_⟩
            rw [HORD.out, HKj.out]
            simp only [if_pos Hk.out, Option.toList_none, List.append_nil]
            try simp only [List.length_append] at hs3
            exact hs3
      · have t1 : ((xk.toNat : Int) == 41) = false := by
          rw [beq_eq_false_iff_ne]
          intro h
          apply hk
          apply UInt16.toNat_inj.1
          have : (41 : UInt16).toNat = 41 := rfl
          omega
        have Hk := hid hk
        clear hk
        by_cases hq : j < K.length
        · obtain ⟨b9, o9, rfl⟩ := hs.el9' hq
          have hKj : K[j]? = some K[j] := List.getElem?_eq_getElem hq
          obtain ⟨y, hy9⟩ : ∃ y, K[j] = y := ⟨_, rfl⟩
          rw [hy9] at hKj
          have HY := hid hy9
          have HKj := hid hKj
          clear hy9 hKj
          obtain ⟨yk, yd⟩ := y
          go_wp2_with (first | (at_builtin; refine wpList_append_ex rfl (Operand.tmp 38) (Operand.tmp 40) rfl rfl (hs1.a7.alloc _) rfl HO.out (by show _ + 1 ≤ _; omega) (by simp; omega) (Nat.le_refl _) ?_; intro v3 w3 hap; have hs3 := hs1.out hap; obtain ⟨A9', c9', q0, q1, hyy⟩ := hs3.el9 hq HY.out; (try simp only at q0 q1 hyy); have HO9 := hid (Exr.one (k := yk) hyy); clear hyy; obtain ⟨A7', c7', hv3, -, -⟩ := hs3.a7.form; subst hv3; simp only [List.length_append, List.length_singleton] at hs3) | (at_builtin; refine wpList_append_ex rfl (Operand.tmp 46) (Operand.tmp 51) rfl rfl (hs3.a7.alloc _) rfl HO9.out (by simp only [List.length_append, List.length_singleton]; omega) (by have := hs3.u.size; simp; omega) (Nat.le_refl _) ?_; intro v4 w4 hap4; have hs4 := hs3.out hap4))
          go_roundg (L.length - (j + 1))
          case measure => have := HJ.out; omega
          case rel =>
            refine ⟨j + 1, by have := HJ.out; omega, by go_num, ?_⟩
            rw [HORD.out, HKj.out]
            simp only [if_neg Hk.out, Option.toList_some]
            try simp only [List.length_append] at hs4
            exact hs4
        · have hKj : K[j]? = none := List.getElem?_eq_none (by omega)
          have HKj := hid hKj
          clear hKj
          go_wp2_with (first | (at_builtin; refine wpList_append_ex rfl (Operand.tmp 38) (Operand.tmp 40) rfl rfl (hs1.a7.alloc _) rfl HO.out (by show _ + 1 ≤ _; omega) (by simp; omega) (Nat.le_refl _) ?_; intro v3 w3 hap; have hs3 := hs1.out hap; obtain ⟨A7', c7', hv3, -, -⟩ := hs3.a7.form; subst hv3; simp only [List.length_append, List.length_singleton] at hs3) | fail)
          go_roundg (L.length - (j + 1))
          case measure => have := HJ.out; omega
          case rel =>
            refine ⟨j + 1, by have := HJ.out; omega, by go_num, ?_⟩
            rw [HORD.out, HKj.out]
            simp only [if_neg Hk.out, Option.toList_none, List.append_nil]
            try simp only [List.length_append] at hs3
            exact hs3
    · obtain rfl : j = L.length := by omega
      have hex : Exr wr wr.heap.size w.heap.size (.slice A8 (ordGo L (f % L.length) K L.length).2.length c8) (ordGo L (f % L.length) K L.length).2 := hs.a8.exr
      have hN : ∀ x ∈ (Value.slice A7 (ordGo L (f % L.length) K L.length).1.length c7).ownBlock.toList, w.heap.size ≤ x := fun x hx => (hs.a7.ge (Option.mem_toList.1 hx)).1
      go_wp2_with (at_builtin; go_must (refine wpList_append_ex rfl (Operand.tmp 54) (Operand.tmp 55) rfl rfl hs.a7 rfl hex (by omega) (by omega) (Nat.le_refl _) ?_; intro v3 w3 hap))
      obtain ⟨h1, h2, h3⟩ := hap
      go_ret
      refine ⟨_, rfl, ?_, hs.u.trans h2 fun x hx => .inr (hN x hx)⟩
      unfold ordered
      rw [HK.out]
      exact h1
end
end Go.Proofs.Ytcdjbciifnoajaa

/- Texts joined: ChI1, ChI2, ChI3. -/
import Derived.Test.YtaajmfgplhfncaaB15
import Derived.Test.YtaajmfgplhfncaaB09
import Derived.Test.YtaajmfgplhfncaaB25
namespace Go.Proofs.Ytaajmfgplhfncaa
open Go.RowKit Go.Maps
set_option maxRecDepth 100000
structure Pick (cs csR : Array Value) (t : Ch) : Prop where
  n : csR.size = 31
  c0 : csR[0]? = cs[1]?
  c1 : csR[1]? = cs[2]?
  c2 : csR[2]? = cs[3]?
  c3 : csR[3]? = cs[4]?
  c4 : csR[4]? = cs[5]?
  c5 : csR[5]? = cs[6]?
  c6 : csR[6]? = cs[7]?
  c7 : csR[7]? = cs[8]?
  c8 : csR[8]? = cs[9]?
  c9 : csR[9]? = cs[10]?
  c10 : csR[10]? = cs[11]?
  c11 : csR[11]? = cs[12]?
  c12 : csR[12]? = cs[13]?
  c13 : csR[13]? = cs[14]?
  c14 : csR[14]? = cs[15]?
  c15 : csR[15]? = cs[16]?
  c16 : csR[16]? = cs[17]?
  c17 : csR[17]? = cs[18]?
  c18 : csR[18]? = cs[19]?
  c19 : csR[19]? = cs[20]?
  c22 : csR[22]? = cs[22]?
  c23 : csR[23]? = cs[23]?
  c26 : csR[26]? = cs[25]?
  c28 : csR[28]? = cs[26]?
  c29 : csR[29]? = cs[27]?
  c30 : csR[30]? = cs[28]?
  q : csR[27]? = some (.bool t.quic)
structure Parts (w : World) (B lo : Nat) (csR : Array Value) (kg : List UInt16) (kd : List (List UInt8)) (pl : List (List UInt8)) (pa : List UInt32) (v20 v21 v24 v25 : Value) : Prop where
  e20 : csR[20]? = some v20
  e21 : csR[21]? = some v21
  e24 : csR[24]? = some v24
  e25 : csR[25]? = some v25
  o20 : Own w lo 22 v20 (kg.map wv)
  o21 : Vecs w lo B v21 kd
  o24 : Vecs w lo B v24 pl
  o25 : Own w lo 84 v25 (pa.map uv)
section
variable {w w' : World} {B lo lo2 hi m n : Nat} {v0 v20 v21 v24 v25 : Value} {t : Ch} {cs csR : Array Value} {S : List Nat}
theorem Pick.set_ {i : Nat} {x : Value} (p : Pick cs csR t) (hi : i = 20 ∨ i = 21 ∨ i = 24 ∨ i = 25) : Pick cs (csR.setIfInBounds i x) t :=
  have e : ∀ j, i ≠ j → (csR.setIfInBounds i x)[j]? = csR[j]? := fun j h => Array.getElem?_setIfInBounds_ne h
  ⟨by rw [Array.size_setIfInBounds]; exact p.n, (e 0 (by omega)).trans p.c0, (e 1 (by omega)).trans p.c1, (e 2 (by omega)).trans p.c2, (e 3 (by omega)).trans p.c3, (e 4 (by omega)).trans p.c4, (e 5 (by omega)).trans p.c5, (e 6 (by omega)).trans p.c6, (e 7 (by omega)).trans p.c7, (e 8 (by omega)).trans p.c8, (e 9 (by omega)).trans p.c9, (e 10 (by omega)).trans p.c10, (e 11 (by omega)).trans p.c11, (e 12 (by omega)).trans p.c12, (e 13 (by omega)).trans p.c13, (e 14 (by omega)).trans p.c14, (e 15 (by omega)).trans p.c15, (e 16 (by omega)).trans p.c16, (e 17 (by omega)).trans p.c17, (e 18 (by omega)).trans p.c18, (e 19 (by omega)).trans p.c19, (e 22 (by omega)).trans p.c22, (e 23 (by omega)).trans p.c23, (e 26 (by omega)).trans p.c26, (e 28 (by omega)).trans p.c28, (e 29 (by omega)).trans p.c29, (e 30 (by omega)).trans p.c30, (e 27 (by omega)).trans p.q⟩
theorem ChP.val (h : MSt w B lo hi m 90 cs (chF v0 t)) (p : Pick cs csR t) (o : Parts w B lo2 csR t.kg t.kd t.pl t.pa v20 v21 v24 v25) (hB : B ≤ w.heap.size) : ChV w w.heap.size (.agg csR) t := by
  refine ⟨csR, rfl, p.n, fun i v f h1 h2 => ?_⟩
  exact match i, h1, h2 with
  | 0, h1, h2 => by
    cases h2
    obtain ⟨v', hc, hk⟩ := h.get (i := 1) rfl
    rw [p.c0, hc] at h1
    cases h1
    exact ⟨hk, rfl⟩
  | 1, h1, h2 => by
    cases h2
    obtain ⟨v', hc, hk⟩ := h.get (i := 2) rfl
    rw [p.c1, hc] at h1
    cases h1
    exact Row.more (show Byt _ _ _ _ from hk) hB
  | 2, h1, h2 => by
    cases h2
    obtain ⟨v', hc, hk⟩ := h.get (i := 3) rfl
    rw [p.c2, hc] at h1
    cases h1
    exact Row.more (show Byt _ _ _ _ from hk) hB
  | 3, h1, h2 => by
    cases h2
    obtain ⟨v', hc, hk⟩ := h.get (i := 4) rfl
    rw [p.c3, hc] at h1
    cases h1
    exact Own.row (show Own _ _ _ _ _ from hk)
  | 4, h1, h2 => by
    cases h2
    obtain ⟨v', hc, hk⟩ := h.get (i := 5) rfl
    rw [p.c4, hc] at h1
    cases h1
    exact Row.more (show Byt _ _ _ _ from hk) hB
  | 5, h1, h2 => by
    cases h2
    obtain ⟨v', hc, hk⟩ := h.get (i := 6) rfl
    rw [p.c5, hc] at h1
    cases h1
    exact ⟨hk, rfl⟩
  | 6, h1, h2 => by
    cases h2
    obtain ⟨v', hc, hk⟩ := h.get (i := 7) rfl
    rw [p.c6, hc] at h1
    cases h1
    exact ⟨hk, rfl⟩
  | 7, h1, h2 => by
    cases h2
    obtain ⟨v', hc, hk⟩ := h.get (i := 8) rfl
    rw [p.c7, hc] at h1
    cases h1
    exact Own.row (show Own _ _ _ _ _ from hk)
  | 8, h1, h2 => by
    cases h2
    obtain ⟨v', hc, hk⟩ := h.get (i := 9) rfl
    rw [p.c8, hc] at h1
    cases h1
    exact Row.more (show Byt _ _ _ _ from hk) hB
  | 9, h1, h2 => by
    cases h2
    obtain ⟨v', hc, hk⟩ := h.get (i := 10) rfl
    rw [p.c9, hc] at h1
    cases h1
    exact ⟨hk, rfl⟩
  | 10, h1, h2 => by
    cases h2
    obtain ⟨v', hc, hk⟩ := h.get (i := 11) rfl
    rw [p.c10, hc] at h1
    cases h1
    exact Row.more (show Byt _ _ _ _ from hk) hB
  | 11, h1, h2 => by
    cases h2
    obtain ⟨v', hc, hk⟩ := h.get (i := 12) rfl
    rw [p.c11, hc] at h1
    cases h1
    exact Own.row (show Own _ _ _ _ _ from hk)
  | 12, h1, h2 => by
    cases h2
    obtain ⟨v', hc, hk⟩ := h.get (i := 13) rfl
    rw [p.c12, hc] at h1
    cases h1
    exact Own.row (show Own _ _ _ _ _ from hk)
  | 13, h1, h2 => by
    cases h2
    obtain ⟨v', hc, hk⟩ := h.get (i := 14) rfl
    rw [p.c13, hc] at h1
    cases h1
    exact ⟨hk, rfl⟩
  | 14, h1, h2 => by
    cases h2
    obtain ⟨v', hc, hk⟩ := h.get (i := 15) rfl
    rw [p.c14, hc] at h1
    cases h1
    exact Row.more (show Byt _ _ _ _ from hk) hB
  | 15, h1, h2 => by
    cases h2
    obtain ⟨v', hc, hk⟩ := h.get (i := 16) rfl
    rw [p.c15, hc] at h1
    cases h1
    exact ⟨hk, rfl⟩
  | 16, h1, h2 => by
    cases h2
    obtain ⟨v', hc, hk⟩ := h.get (i := 17) rfl
    rw [p.c16, hc] at h1
    cases h1
    exact Own.row (show Own _ _ _ _ _ from hk)
  | 17, h1, h2 => by
    cases h2
    obtain ⟨v', hc, hk⟩ := h.get (i := 18) rfl
    rw [p.c17, hc] at h1
    cases h1
    exact ⟨hk, rfl⟩
  | 18, h1, h2 => by
    cases h2
    obtain ⟨v', hc, hk⟩ := h.get (i := 19) rfl
    rw [p.c18, hc] at h1
    cases h1
    exact Own.row (show Own _ _ _ _ _ from hk)
  | 19, h1, h2 => by
    cases h2
    obtain ⟨v', hc, hk⟩ := h.get (i := 20) rfl
    rw [p.c19, hc] at h1
    cases h1
    exact Row.more (show Byt _ _ _ _ from hk) hB
  | 20, h1, h2 => by
    cases h2
    rw [o.e20] at h1
    cases h1
    exact Own.row o.o20
  | 21, h1, h2 => by
    cases h2
    rw [o.e21] at h1
    cases h1
    obtain ⟨us, k1, k2⟩ := o.o21
    exact ⟨us, k1.row, k2.imp fun _ _ hb => hb.more hB⟩
  | 22, h1, h2 => by
    cases h2
    obtain ⟨v', hc, hk⟩ := h.get (i := 22) rfl
    rw [p.c22, hc] at h1
    cases h1
    exact ⟨hk, rfl⟩
  | 23, h1, h2 => by
    cases h2
    obtain ⟨v', hc, hk⟩ := h.get (i := 23) rfl
    rw [p.c23, hc] at h1
    cases h1
    exact Row.more (show Byt _ _ _ _ from hk) hB
  | 24, h1, h2 => by
    cases h2
    rw [o.e24] at h1
    cases h1
    obtain ⟨us, k1, k2⟩ := o.o24
    exact ⟨us, k1.row, k2.imp fun _ _ hb => hb.more hB⟩
  | 25, h1, h2 => by
    cases h2
    rw [o.e25] at h1
    cases h1
    exact Own.row o.o25
  | 26, h1, h2 => by
    cases h2
    obtain ⟨v', hc, hk⟩ := h.get (i := 25) rfl
    rw [p.c26, hc] at h1
    cases h1
    obtain ⟨us, k1, k2⟩ := show Vecs _ _ _ _ _ from hk
    exact ⟨us, k1.row, k2.imp fun _ _ hb => hb.more hB⟩
  | 27, h1, h2 => by
    cases h2
    rw [p.q] at h1
    cases h1
    exact ⟨rfl, rfl⟩
  | 28, h1, h2 => by
    cases h2
    obtain ⟨v', hc, hk⟩ := h.get (i := 26) rfl
    rw [p.c28, hc] at h1
    cases h1
    exact CpN.byt (show CpN _ _ _ _ _ from hk)
  | 29, h1, h2 => by
    cases h2
    obtain ⟨v', hc, hk⟩ := h.get (i := 27) rfl
    rw [p.c29, hc] at h1
    cases h1
    exact Row.more (show Byt _ _ _ _ from hk) hB
  | 30, h1, h2 => by
    cases h2
    obtain ⟨v', hc, hk⟩ := h.get (i := 28) rfl
    rw [p.c30, hc] at h1
    cases h1
    exact Own.row (show Own _ _ _ _ _ from hk)
  | k + 31, _, h2 => by simp [chFd] at h2
theorem Parts.upd {kg : List UInt16} {kd pl : List (List UInt8)} {pa : List UInt32} (o : Parts w B lo2 csR kg kd pl pa v20 v21 v24 v25) (hu : Upd S w w') (hS : ∀ k ∈ S, B ≤ k ∧ k < lo2) : Parts w' B lo2 csR kg kd pl pa v20 v21 v24 v25 :=
  ⟨o.e20, o.e21, o.e24, o.e25, o.o20.upd hu (fun g hg hk => by have := (o.o20.ge hg).1; have := hS g hk; omega), o.o21.upd hu (fun g hg hk => by obtain ⟨us, k1, -⟩ := o.o21; have := (k1.ge hg).1; have := hS g hk; omega) (fun k hk => (hS k hk).1),
    o.o24.upd hu (fun g hg hk => by obtain ⟨us, k1, -⟩ := o.o24; have := (k1.ge hg).1; have := hS g hk; omega) (fun k hk => (hS k hk).1), o.o25.upd hu (fun g hg hk => by have := (o.o25.ge hg).1; have := hS g hk; omega)⟩
theorem ChP.firm (h : MSt w B lo hi m 90 cs (chF v0 t)) (p : Pick cs csR t) (o : Parts w B lo2 csR t.kg t.kd t.pl t.pa v20 v21 v24 v25) (hB : B ≤ w.heap.size) (hn : n ≤ lo) (hm : n ≤ m) (hn2 : n ≤ lo2) : Firm ChV B n w (.agg csR) t := by
  refine ⟨ChP.val h p o hB, fun w' S hu hS => ?_⟩
  exact ChP.val (h.upd hu (fun k hk => by have := hS k hk; omega)) p (o.upd hu (fun k hk => by have := hS k hk; omega)) (Nat.le_trans hB hu.size)
theorem ChStep.lens {M M' : Ch} {k : UInt16} {d : List UInt8} (h : ChStep M k d M') (hk : M.kg.length = M.kd.length ∧ M.pl.length = M.pa.length) : M'.kg.length = M'.kd.length ∧ M'.pl.length = M'.pa.length := by
  cases h <;> first
    | exact hk
    | exact ⟨by simp, hk.2⟩
    | exact ⟨hk.1, by simp⟩
theorem ChRun.lens {M M' : Ch} {L : List Ex} (h : ChRun M L M') (hk : M.kg.length = M.kd.length ∧ M.pl.length = M.pa.length) : M'.kg.length = M'.kd.length ∧ M'.pl.length = M'.pa.length := by
  induction h with
  | nil M => exact hk
  | cons M M1 M2 k d L h1 h2 h3 h4 ih => exact ih (h2.lens hk)
end
end Go.Proofs.Ytaajmfgplhfncaa
namespace Go.Proofs.Ytaajmfgplhfncaa
open Go.RowKit Go.Maps
set_option maxRecDepth 100000
theorem FOk.there {w : World} {B lo : Nat} {v : Value} {f : Fld} (h : FOk w B lo v f) (ho : f.isOwn = true) {g : Nat} (hg : v.ownBlock = some g) : g < w.heap.size := by
  cases f with
  | val u => cases ho
  | byt l => cases ho
  | row e us => exact (Own.ge (show Own w lo e v us from h) hg).2
  | vec ls =>
    obtain ⟨vs, h1, -⟩ := (show Vecs w lo B v ls from h)
    exact (h1.ge hg).2
  | prs e ls => exact (Prs.ge (show Prs w lo B e v ls from h) hg).2
  | cpy has l =>
    rcases (show CpN w lo has v l from h) with ⟨-, g', c, rfl, -, -, -, hh⟩ | ⟨-, rfl, -⟩
    · have e : g' = g := by simpa [Value.ownBlock] using hg
      subst e
      exact (Array.getElem?_eq_some_iff.1 hh).1
    · simp [Value.ownBlock] at hg
theorem MSt.fresh {w w' : World} {B lo hi m : Nat} {T : TypeId} {cs : Array Value} {fs : List Fld} {S : List Nat} (h : MSt w B lo hi m T cs fs) (hu : Upd S w w') (hS : ∀ k ∈ S, w.heap.size ≤ k) (hB : B ≤ w.heap.size) : MSt w' B lo hi m T cs fs :=
  h.updO hu (fun k hk => by have := hS k hk; have := h.blk.lt; omega) (fun i v f g h1 h2 h3 h4 hk => by have := (h.ok i v f h1 h2).there h3 h4; have := hS g hk; omega)
end Go.Proofs.Ytaajmfgplhfncaa
namespace Go.Proofs.Ytaajmfgplhfncaa
open Go.RowKit
set_option maxRecDepth 100000
def frLI (f : Nat → Value) : List Value := f 0 :: f 1 :: f 2 :: f 3 :: f 4 :: f 5 :: f 6 :: f 7 :: f 8 :: f 9 :: f 10 :: f 11 :: f 12 :: f 13 :: f 14 :: f 15 :: f 16 :: f 17 :: f 18 :: f 19 :: f 20 :: f 21 :: f 22 :: f 23 :: f 24 :: f 25 :: f 26 :: f 27 :: f 28 :: f 29 :: f 30 :: f 31 :: f 32 :: f 33 :: f 34 :: f 35 :: f 36 :: f 37 :: f 38 :: f 39 :: f 40 :: f 41 :: f 42 :: f 43 :: f 44 :: f 45 :: f 46 :: f 47 :: f 48 :: f 49 :: f 50 :: f 51 :: f 52 :: f 53 :: f 54 :: f 55 :: f 56 :: f 57 :: f 58 :: f 59 :: f 60 :: f 61 :: f 62 :: f 63 :: f 64 :: f 65 :: f 66 :: f 67 :: f 68 :: f 69 :: f 70 :: f 71 :: f 72 :: f 73 :: f 74 :: f 75 :: f 76 :: f 77 :: f 78 :: f 79 :: f 80 :: f 81 :: f 82 :: f 83 :: f 84 :: f 85 :: f 86 :: f 87 :: f 88 :: f 89 :: f 90 :: f 91 :: f 92 :: f 93 :: f 94 :: f 95 :: f 96 :: f 97 :: f 98 :: f 99 :: f 100 :: f 101 :: f 102 :: f 103 :: f 104 :: f 105 :: f 106 :: f 107 :: f 108 :: f 109 :: f 110 :: f 111 :: f 112 :: f 113 :: f 114 :: f 115 :: f 116 :: f 117 :: f 118 :: f 119 :: f 120 :: f 121 :: f 122 :: f 123 :: f 124 :: f 125 :: f 126 :: f 127 :: f 128 :: f 129 :: f 130 :: f 131 :: f 132 :: f 133 :: f 134 :: f 135 :: f 136 :: f 137 :: f 138 :: f 139 :: f 140 :: f 141 :: f 142 :: f 143 :: f 144 :: f 145 :: f 146 :: f 147 :: f 148 :: f 149 :: f 150 :: f 151 :: f 152 :: f 153 :: f 154 :: f 155 :: f 156 :: f 157 :: f 158 :: f 159 :: f 160 :: f 161 :: f 162 :: f 163 :: f 164 :: f 165 :: f 166 :: f 167 :: f 168 :: f 169 :: f 170 :: f 171 :: f 172 :: f 173 :: f 174 :: []
theorem frLI_eq {xs : List Value} (h : xs.length = 175) : xs = frLI fun i => xs[i]?.getD undef := by
  have e : ∀ f : Nat → Value, frLI f = (List.range 175).map f := fun f => by kernel_rfl
  rw [e]
  apply List.ext_getElem
  · simp [h]
  · intro i h1 h2
    simp [h1]
def FrI (s b5 : Nat) (a : Act) : Prop := a.defers = [] ∧ a.tmps.toList.length = 175 ∧ a.tmps.toList[2]? = some (.pointer (some ⟨s, 0, none⟩)) ∧ a.tmps.toList[4]? = some (.pointer (some ⟨s + 1, 0, none⟩)) ∧ a.tmps.toList[5]? = some (.pointer (some ⟨b5, 0, none⟩))
theorem FrI.lit {s b5 : Nat} {a : Act} (h : FrI s b5 a) : ∃ f : Nat → Value, a = ⟨(f 0 :: f 1 :: .pointer (some ⟨s, 0, none⟩) :: f 3 :: .pointer (some ⟨s + 1, 0, none⟩) :: .pointer (some ⟨b5, 0, none⟩) :: f 6 :: f 7 :: f 8 :: f 9 :: f 10 :: f 11 :: f 12 :: f 13 :: f 14 :: f 15 :: f 16 :: f 17 :: f 18 :: f 19 :: f 20 :: f 21 :: f 22 :: f 23 :: f 24 :: f 25 :: f 26 :: f 27 :: f 28 :: f 29 :: f 30 :: f 31 :: f 32 :: f 33 :: f 34 :: f 35 :: f 36 :: f 37 :: f 38 :: f 39 :: f 40 :: f 41 :: f 42 :: f 43 :: f 44 :: f 45 :: f 46 :: f 47 :: f 48 :: f 49 :: f 50 :: f 51 :: f 52 :: f 53 :: f 54 :: f 55 :: f 56 :: f 57 :: f 58 :: f 59 :: f 60 :: f 61 :: f 62 :: f 63 :: f 64 :: f 65 :: f 66 :: f 67 :: f 68 :: f 69 :: f 70 :: f 71 :: f 72 :: f 73 :: f 74 :: f 75 :: f 76 :: f 77 :: f 78 :: f 79 :: f 80 :: f 81 :: f 82 :: f 83 :: f 84 :: f 85 :: f 86 :: f 87 :: f 88 :: f 89 :: f 90 :: f 91 :: f 92 :: f 93 :: f 94 :: f 95 :: f 96 :: f 97 :: f 98 :: f 99 :: f 100 :: f 101 :: f 102 :: f 103 :: f 104 :: f 105 :: f 106 :: f 107 :: f 108 :: f 109 :: f 110 :: f 111 :: f 112 :: f 113 :: f 114 :: f 115 :: f 116 :: f 117 :: f 118 :: f 119 :: f 120 :: f 121 :: f 122 :: f 123 :: f 124 :: f 125 :: f 126 :: f 127 :: f 128 :: f 129 :: f 130 :: f 131 :: f 132 :: f 133 :: f 134 :: f 135 :: f 136 :: f 137 :: f 138 :: f 139 :: f 140 :: f 141 :: f 142 :: f 143 :: f 144 :: f 145 :: f 146 :: f 147 :: f 148 :: f 149 :: f 150 :: f 151 :: f 152 :: f 153 :: f 154 :: f 155 :: f 156 :: f 157 :: f 158 :: f 159 :: f 160 :: f 161 :: f 162 :: f 163 :: f 164 :: f 165 :: f 166 :: f 167 :: f 168 :: f 169 :: f 170 :: f 171 :: f 172 :: f 173 :: f 174 :: []).toArray, []⟩ := by
  obtain ⟨xs, ds⟩ := a
  obtain ⟨h1, h2, k2, k4, k5⟩ := h
  have e := frLI_eq h2
  have q2 : (xs.toList[2]?).getD undef = .pointer (some ⟨s, 0, none⟩) := by rw [show xs.toList[2]? = some (.pointer (some ⟨s, 0, none⟩)) from k2]; rfl
  have q4 : (xs.toList[4]?).getD undef = .pointer (some ⟨s + 1, 0, none⟩) := by rw [show xs.toList[4]? = some (.pointer (some ⟨s + 1, 0, none⟩)) from k4]; rfl
  have q5 : (xs.toList[5]?).getD undef = .pointer (some ⟨b5, 0, none⟩) := by rw [show xs.toList[5]? = some (.pointer (some ⟨b5, 0, none⟩)) from k5]; rfl
  have h1 : ds = [] := h1
  subst h1
  refine ⟨fun i => (xs.toList[i]?).getD undef, ?_⟩
  simp only [frLI, q2, q4, q5] at e
  simp only [← e]
theorem list14 : ∀ {l : List Value}, l.length = 14 → ∃ y0 y1 y2 y3 y4 y5 y6 y7 y8 y9 y10 y11 y12 y13 : Value, l = [y0, y1, y2, y3, y4, y5, y6, y7, y8, y9, y10, y11, y12, y13]
  | [y0, y1, y2, y3, y4, y5, y6, y7, y8, y9, y10, y11, y12, y13], _ => ⟨y0, y1, y2, y3, y4, y5, y6, y7, y8, y9, y10, y11, y12, y13, rfl⟩
theorem lay14 {xs : List Value} {ds : List Deferred} {a' : Act} {b : Nat} (hn : a'.tmps.size = 175) (hd : a'.defers = ds) (ho : ∀ i, i < b ∨ b + 14 ≤ i → a'.tmps[i]? = xs.toArray[i]?) (hb : b + 14 ≤ 175) :
    ∃ y0 y1 y2 y3 y4 y5 y6 y7 y8 y9 y10 y11 y12 y13 : Value, a' = ⟨(xs.take b ++ (y0 :: y1 :: y2 :: y3 :: y4 :: y5 :: y6 :: y7 :: y8 :: y9 :: y10 :: y11 :: y12 :: y13 :: xs.drop (b + 14))).toArray, ds⟩ := by
  obtain ⟨⟨tl⟩, df⟩ := a'
  have hd : df = ds := hd
  subst hd
  have hn : tl.length = 175 := by simpa using hn
  have ho : ∀ i, i < b ∨ b + 14 ≤ i → tl[i]? = xs[i]? := fun i hi => by simpa using ho i hi
  obtain ⟨y0, y1, y2, y3, y4, y5, y6, y7, y8, y9, y10, y11, y12, y13, e⟩ := list14 (l := (tl.drop b).take 14) (by simp; omega)
  refine ⟨y0, y1, y2, y3, y4, y5, y6, y7, y8, y9, y10, y11, y12, y13, ?_⟩
  have e1 : tl.take b = xs.take b := by
    apply List.ext_getElem?
    intro i
    rw [List.getElem?_take, List.getElem?_take]
    by_cases hi : i < b
    · rw [if_pos hi, if_pos hi, ho i (.inl hi)]
    · rw [if_neg hi, if_neg hi]
  have e2 : tl.drop (b + 14) = xs.drop (b + 14) := by
    apply List.ext_getElem?
    intro i
    rw [List.getElem?_drop, List.getElem?_drop]
    exact ho _ (.inr (by omega))
  have e3 : tl = xs.take b ++ (y0 :: y1 :: y2 :: y3 :: y4 :: y5 :: y6 :: y7 :: y8 :: y9 :: y10 :: y11 :: y12 :: y13 :: xs.drop (b + 14)) := by
    have h1 : tl = tl.take b ++ ((tl.drop b).take 14 ++ (tl.drop b).drop 14) := by rw [List.take_append_drop, List.take_append_drop]
    rw [List.drop_drop, e, e1, e2] at h1
    exact h1
  rw [← e3]
section
variable {w w' : World} {B lo : Nat} {e : TypeId} {v : Value} {ls : List (Cel × Cel)} {cs : Array Value} {i1 i2 : Nat} {u1 u2 x1 x2 : Value}
theorem Prs.at_ {A : Option Addr} {n c : Nat} (h : Prs w lo B e (.slice A n c) ls) {k : Nat} (hk : k < n) :
    ∃ b o, A = some ⟨b, o, none⟩ ∧ ∃ hk' : k < ls.length, ∃ x y, w.cell? ⟨b, o + k * 2, none⟩ = some x ∧ w.cell? ⟨b, o + k * 2 + 1, none⟩ = some y ∧ COk w B x (ls[k]'hk').1 ∧ COk w B y (ls[k]'hk').2 := by
  obtain ⟨us, h1, h2⟩ := h
  have hl : us.length = ls.length := h2.length
  rcases h1.2 with ⟨e1, h0⟩ | ⟨g, cap, cur, e1, hb, hg, hn, hm, hs, ht⟩
  · injection e1 with _ e2 _
    omega
  · injection e1 with e1 e2 e3
    subst e1 e2 e3
    obtain ⟨g1, g2⟩ := prc_at (us := us) k (by omega)
    have hy := h2.get k (by omega) hk
    have hc := fun (j : Nat) (u : Value) (hu : (prc us)[j]? = some u) => h1.cells (g := g) rfl j u hu
    have q1 := hc _ _ g1
    have q2 := hc _ _ g2
    rw [add_lit] at q1 q2
    exact ⟨g, 0, rfl, hk, _, _, q1, by rw [Nat.add_assoc]; exact q2, hy.1, hy.2⟩
theorem Own.less9 {lo' : Nat} {us : List Value} (h : Own w lo e v us) (hl : lo' ≤ lo) : Own w lo' e v us := by
  refine ⟨h.1, h.2.imp id ?_⟩
  rintro ⟨g, cap, cur, e, hb2, r⟩
  exact ⟨g, cap, cur, e, Nat.le_trans hl hb2, r⟩
theorem set2 (hne : i1 ≠ i2) : ((((cs.setIfInBounds i1 u1).setIfInBounds i2 u2).setIfInBounds i1 x1).setIfInBounds i2 x2) = (cs.setIfInBounds i1 x1).setIfInBounds i2 x2 := by
  rw [Array.setIfInBounds_comm _ _ (Ne.symm hne) (xs := cs.setIfInBounds i1 u1), Array.setIfInBounds_setIfInBounds, Array.setIfInBounds_setIfInBounds]
end
theorem pr1_wp {Q : Exit → Act → World → Prop} {xs : List Value} {ds : List Deferred} {w : World} {b5 g lo : Nat} {cs : Array Value} {v1 v2 : Value} {us1 us2 : List Value} {x : UInt16} {Ay : Option Addr} {ny cy : Nat}
    (n : xs.length = 175) (p5 : xs[5]? = some (.pointer (some ⟨b5, 0, none⟩))) (pq : xs[7]? = some (.pointer (some ⟨g, 0, none⟩))) (hb : Blk w b5 72 cs) (hg : Blk w g 93 #[wv x, .slice Ay ny cy]) (c1 : cs[20]? = some v1) (c2 : cs[21]? = some v2)
    (ho1 : Own w lo 22 v1 us1) (ho2 : Own w lo 23 v2 us2) (hl1 : us1.length + 1 ≤ 1099511627776) (hl2 : us2.length + 1 ≤ 1099511627776) (hlo : lo ≤ w.heap.size)
    (h : ∀ (y0 y1 y2 y3 y4 y5 y6 y7 y8 y9 y10 y11 y12 y13 : Value) (w' : World) (v1' v2' : Value), Blk w' b5 72 ((cs.setIfInBounds 20 v1').setIfInBounds 21 v2') → Own w' lo 22 v1' (us1 ++ [wv x]) → Own w' lo 23 v2' (us2 ++ [.slice Ay ny cy]) →
      (∀ w0, Upd [b5] w0 w → w0.heap.size ≤ lo → Upd [b5] w0 w') → Q .normal ⟨(xs.take 135 ++ (y0 :: y1 :: y2 :: y3 :: y4 :: y5 :: y6 :: y7 :: y8 :: y9 :: y10 :: y11 :: y12 :: y13 :: xs.drop (135 + 14))).toArray, ds⟩ w') : (Code.region 8 pr1L.toArray true).wp Try.prog Q ⟨xs.toArray, ds⟩ w := by
  refine wp_normal2 (R := fun a' w' => ∃ v1' v2', a'.tmps.size = 175 ∧ a'.defers = ds ∧ (∀ i, i < 135 ∨ 135 + 14 ≤ i → a'.tmps[i]? = xs.toArray[i]?) ∧ Blk w' b5 72 ((cs.setIfInBounds 20 v1').setIfInBounds 21 v2') ∧ Own w' lo 22 v1' (us1 ++ [wv x]) ∧ Own w' lo 23 v2' (us2 ++ [.slice Ay ny cy]) ∧
      (∀ w0, Upd [b5] w0 w → w0.heap.size ≤ lo → Upd [b5] w0 w')) (fun K hK => pr1_Ch (by simpa using n) (.mk (by simpa using p5)) (.mk (by simpa using pq)) hb hg c1 c2 ho1 ho2 hl1 hl2 hlo (fun a' w' v1' v2' k1 k2 k3 k4 k5 k6 k7 => hK _ _ ⟨v1', v2', k1, k2, k3, k4, k5, k6, k7⟩)) ?_
  rintro a' w' ⟨v1', v2', k1, k2, k3, k4, k5, k6, k7⟩
  obtain ⟨y0, y1, y2, y3, y4, y5, y6, y7, y8, y9, y10, y11, y12, y13, rfl⟩ := lay14 k1 k2 k3 (by decide)
  exact h y0 y1 y2 y3 y4 y5 y6 y7 y8 y9 y10 y11 y12 y13 w' v1' v2' k4 k5 k6 k7
theorem pr2_wp {Q : Exit → Act → World → Prop} {xs : List Value} {ds : List Deferred} {w : World} {b5 g lo : Nat} {cs : Array Value} {v1 v2 : Value} {us1 us2 : List Value} {x : UInt32} {Ay : Option Addr} {ny cy : Nat}
    (n : xs.length = 175) (p5 : xs[5]? = some (.pointer (some ⟨b5, 0, none⟩))) (pq : xs[9]? = some (.pointer (some ⟨g, 0, none⟩))) (hb : Blk w b5 72 cs) (hg : Blk w g 95 #[.slice Ay ny cy, uv x]) (c1 : cs[24]? = some v1) (c2 : cs[25]? = some v2)
    (ho1 : Own w lo 23 v1 us1) (ho2 : Own w lo 84 v2 us2) (hl1 : us1.length + 1 ≤ 1099511627776) (hl2 : us2.length + 1 ≤ 1099511627776) (hlo : lo ≤ w.heap.size)
    (h : ∀ (y0 y1 y2 y3 y4 y5 y6 y7 y8 y9 y10 y11 y12 y13 : Value) (w' : World) (v1' v2' : Value), Blk w' b5 72 ((cs.setIfInBounds 24 v1').setIfInBounds 25 v2') → Own w' lo 23 v1' (us1 ++ [.slice Ay ny cy]) → Own w' lo 84 v2' (us2 ++ [uv x]) →
      (∀ w0, Upd [b5] w0 w → w0.heap.size ≤ lo → Upd [b5] w0 w') → Q .normal ⟨(xs.take 159 ++ (y0 :: y1 :: y2 :: y3 :: y4 :: y5 :: y6 :: y7 :: y8 :: y9 :: y10 :: y11 :: y12 :: y13 :: xs.drop (159 + 14))).toArray, ds⟩ w') : (Code.region 13 pr2L.toArray true).wp Try.prog Q ⟨xs.toArray, ds⟩ w := by
  refine wp_normal2 (R := fun a' w' => ∃ v1' v2', a'.tmps.size = 175 ∧ a'.defers = ds ∧ (∀ i, i < 159 ∨ 159 + 14 ≤ i → a'.tmps[i]? = xs.toArray[i]?) ∧ Blk w' b5 72 ((cs.setIfInBounds 24 v1').setIfInBounds 25 v2') ∧ Own w' lo 23 v1' (us1 ++ [.slice Ay ny cy]) ∧ Own w' lo 84 v2' (us2 ++ [uv x]) ∧
      (∀ w0, Upd [b5] w0 w → w0.heap.size ≤ lo → Upd [b5] w0 w')) (fun K hK => pr2_Ch (by simpa using n) (.mk (by simpa using p5)) (.mk (by simpa using pq)) hb hg c1 c2 ho1 ho2 hl1 hl2 hlo (fun a' w' v1' v2' k1 k2 k3 k4 k5 k6 k7 => hK _ _ ⟨v1', v2', k1, k2, k3, k4, k5, k6, k7⟩)) ?_
  rintro a' w' ⟨v1', v2', k1, k2, k3, k4, k5, k6, k7⟩
  obtain ⟨y0, y1, y2, y3, y4, y5, y6, y7, y8, y9, y10, y11, y12, y13, rfl⟩ := lay14 k1 k2 k3 (by decide)
  exact h y0 y1 y2 y3 y4 y5 y6 y7 y8 y9 y10 y11 y12 y13 w' v1' v2' k4 k5 k6 k7
end Go.Proofs.Ytaajmfgplhfncaa

/- CertificateRequest up to TLS 1.2: made by the package (as far as every length fits). -/
import Derived.Test.YtddkjhlngofkaaaRqL
import Derived.Test.YtddkjhlngofkaaaRqU
import Derived.Deep.LoopGhost
namespace Go.Proofs.Ytddkjhlngofkaaa
open Go.RowKit
set_option maxRecDepth 100000

theorem vecsB_takeS (n : Nat) (ls : List (List UInt8)) (j : Nat) (h : j < ls.length) : (vecsB n (ls.take (j + 1))).length = (vecsB n (ls.take j)).length + (n + (ls[j]).length) := by
  have e : vecsB n (ls.take (j + 1)) = vecsB n (ls.take j) ++ vecsB n [ls[j]] := by
    rw [List.take_succ_eq_append_getElem h]; unfold vecsB; rw [List.flatMap_append]
  rw [e, List.length_append]; simp [vecsB, be_len]
theorem vecsB_ge (n : Nat) (ls : List (List UInt8)) : n * ls.length ≤ (vecsB n ls).length := by
  induction ls with
  | nil => simp
  | cons x xs ih =>
    have e : vecsB n (x :: xs) = (be n x.length ++ x) ++ vecsB n xs := rfl
    rw [e, List.length_append, List.length_append, be_len, List.length_cons, Nat.mul_succ]
    omega
theorem rqBd_len1 {t : Rq} (h : t.has = false) : (rqBd t).length = 1 + t.types.length + 2 + (vecsB 2 t.cas).length := by
  unfold rqBd rqSigB
  rw [h, if_neg (by decide)]
  simp only [List.length_append, be_len, List.length_nil]
  omega
theorem rqBd_len2 {t : Rq} (h : t.has = true) : (rqBd t).length = 1 + t.types.length + 2 + (vecsB 2 t.cas).length + (2 + 2 * t.sig.length) := by
  unfold rqBd rqSigB
  rw [h, if_pos rfl]
  simp only [List.length_append, be_len, wordsB_len]
  omega
theorem vecsB_le (n : Nat) (ls : List (List UInt8)) (j : Nat) : (vecsB n (ls.take j)).length ≤ (vecsB n ls).length := by
  have : vecsB n ls = vecsB n (ls.take j) ++ vecsB n (ls.drop j) := by
    unfold vecsB; rw [← List.flatMap_append, List.take_append_drop]
  rw [this, List.length_append]
  omega
theorem rq_head (L TL : Nat) (hL : L < 16000000) : ((((((Array.replicate (4 + (L + 1)) (Value.int .u8 0)).setIfInBounds 0 (Value.int .u8 13)).setIfInBounds 1 (Value.int .u8 (((L + 1 : Nat) : Int) / 65536))).setIfInBounds 2 (Value.int .u8 (((L + 1 : Nat) : Int) / 256 % 256))).setIfInBounds 3 (Value.int .u8 (((L + 1 : Nat) : Int) % 256))).setIfInBounds 4 (Value.int .u8 ((TL : Int) % 256))) = (((13 :: (be 3 (L + 1) ++ be 1 TL)) ++ List.replicate L 0).map bv).toArray := by
  have e : Array.replicate (4 + (L + 1)) (Value.int .u8 0) = (Value.int .u8 0 :: Value.int .u8 0 :: Value.int .u8 0 :: Value.int .u8 0 :: Value.int .u8 0 :: List.replicate L (Value.int .u8 0)).toArray := by
    rw [show 4 + (L + 1) = L + 1 + 1 + 1 + 1 + 1 by omega, ← List.toArray_replicate]; rfl
  have h1 : ((L + 1) / 65536 % 256 : Nat) = (L + 1) / 65536 := by omega
  rw [e]
  simp [be, bv]
  omega
/-- the message under way: written so far, and zeros -/
structure RqO (w0 : World) (g : Nat) (pre : List UInt8) (k : Nat) (w : World) : Prop where
  blk : Blk w g 5 ((pre ++ List.replicate k 0).map bv).toArray
  bel : Below g w0 w
theorem splice_pre (pre xs : List UInt8) (k n : Nat) (hn : n = pre.length) (hk : xs.length ≤ k) : splice ((pre ++ List.replicate k 0).map bv) n (xs.map bv) = ((pre ++ xs) ++ List.replicate (k - xs.length) 0).map bv := by
  subst hn
  unfold splice
  rw [← List.map_take, ← List.map_drop, List.take_left, List.length_map, ← List.drop_drop, List.drop_left, List.drop_replicate, ← List.map_append, ← List.map_append, List.append_assoc]
theorem RqO.copied {w0 w' : World} {g k n : Nat} {pre xs : List UInt8} (hg : w'.heap[g]? = some (.cells (splice ((pre ++ List.replicate k 0).map bv) n (xs.map bv)).toArray 5 (0, 0))) (hb : Below g w0 w') (hn : n = pre.length) (hk : xs.length ≤ k) : RqO w0 g (pre ++ xs) (k - xs.length) w' := by
  rw [splice_pre pre xs k n hn hk] at hg
  exact ⟨hg, hb⟩
theorem set_pre (pre : List UInt8) (x : UInt8) (k : Nat) : ((pre ++ List.replicate (k + 1) 0).map bv).toArray.setIfInBounds pre.length (bv x) = (((pre ++ [x]) ++ List.replicate k 0).map bv).toArray := by
  have h := set_next (pre.map bv) (bv 0) (bv x) ((List.replicate k 0).map bv)
  rw [List.length_map] at h
  simp [List.replicate_succ] at h ⊢
theorem RqO.put2 {w0 w : World} {g k q VL : Nat} {pre : List UInt8} (h : RqO w0 g pre (2 + k) w) (hq : pre.length = q) (hg : w0.heap.size = g) :
    RqO w0 g (pre ++ be 2 VL) k ((w.setCell ⟨g, q, none⟩ (.int .u8 ((VL : Int) / 256 % 256))).setCell ⟨g, q + 1, none⟩ (.int .u8 ((VL : Int) % 256))) := by
  subst hq
  refine ⟨?_, (h.bel.setCell (Nat.le_refl _) _).setCell (Nat.le_refl _) _⟩
  have h1 := h.blk.set_ pre.length (bv (UInt8.ofNat (VL / 256)))
  rw [show 2 + k = k + 1 + 1 by omega, set_pre] at h1
  have h2 := h1.set_ (pre.length + 1) (bv (UInt8.ofNat VL))
  have e := set_pre (pre ++ [UInt8.ofNat (VL / 256)]) (UInt8.ofNat VL) k
  rw [show (pre ++ [UInt8.ofNat (VL / 256)]).length = pre.length + 1 by simp] at e
  rw [e] at h2
  have ea : bv (UInt8.ofNat (VL / 256)) = .int .u8 ((VL : Int) / 256 % 256) := by simp [bv]
  have eb : bv (UInt8.ofNat VL) = .int .u8 ((VL : Int) % 256) := by simp [bv]
  rw [ea, eb] at h2
  rw [be2_two, show pre ++ [UInt8.ofNat (VL / 256), UInt8.ofNat VL] = (pre ++ [UInt8.ofNat (VL / 256)]) ++ [UInt8.ofNat VL] by simp]
  exact h2
section
variable {w w' w0 : World} {B m g lo : Nat} {v : Value} {t : Rq} {A1 A2 A3 : Option Addr} {c1 c2 c3 : Nat}
theorem Lst.belowRq {v : Value} {ls : List (List UInt8)} (h : Lst w B v ls) (hb : Below B w w') : Lst w' B v ls := by
  obtain ⟨vs, h1, h2⟩ := h
  exact ⟨vs, Row.below h1 hb, h2.imp fun _ _ hy => Row.below hy hb⟩
set_option maxHeartbeats 8000000 in
theorem marshal_Rq (hm : Blk w m 121 #[.bool t.has, .slice A1 t.types.length c1, .slice A2 t.sig.length c2, .slice A3 t.cas.length c3]) (h1 : Byt w B (.slice A1 t.types.length c1) t.types) (h2 : Row w B (.slice A2 t.sig.length c2) (t.sig.map wv)) (h3 : Lst w B (.slice A3 t.cas.length c3) t.cas) (hs : RqSm t) :
    Calls Try.prog 84 #[.pointer (some ⟨m, 0, none⟩)] w (fun e w' => ∃ v, e = .returned (.tuple #[v, .nilIface]) ∧ Byt w' w'.heap.size v (rqMsg t) ∧ Upd [] w w') := by
  have h1 := Row.shrink h1
  have h2 := Row.shrink h2
  have h3 := h3.shrink
  have c0 := hm.cell 0
  have d1 := hm.cell 1
  have d2 := hm.cell 2
  have d3 := hm.cell 3
  simp at c0 d1 d2 d3
  have S1 := hid hs.ts
  have S2 := hid hs.sg
  have S3 := hid hs.ca
  have S4 := hid hs.cx
  have hcn : t.cas.length ≤ 65536 := by have h := vecsB_ge 2 t.cas; have := hs.ca; omega
  clear hs
  go_enter Try.func84, Try.ntmps84
  go_wp2_with fail
  go_loopg [5, 7, 27] t.cas.length (fun gk v5 v7 i wr => ∃ j : Nat, j + gk = t.cas.length ∧ i = .int .i64 j ∧ v5 = .int .i64 ((vecsB 2 (t.cas.take j)).length : Int) ∧ w = wr)
  case atStart => exact ⟨0, by omega, rfl, rfl, rfl⟩
  case round =>
    obtain ⟨j, hj0, rfl, rfl, rfl⟩ := hrel
    have HJ := hid hj0
    have hj : j ≤ t.cas.length := by omega
    clear hj0
    by_cases hlt : j < t.cas.length
    · obtain ⟨b2, o2, rfl, hb2, hj2, A', c', hcell2, hy, hl1, hl2⟩ := h3.at_ hlt
      have HT := hid (vecsB_takeS 2 t.cas j hlt)
      have HLE := hid (vecsB_le 2 t.cas j)
      have hx := hid (S4.out _ (List.getElem_mem hlt))
      generalize hLj : (vecsB 2 (t.cas.take j)).length = Lj at HT HLE ⊢
      generalize hXj : (t.cas[j]).length = Xj at HT hx hcell2 hy hl1 ⊢
      have hb1 : Lj ≤ 65536 := by have := HLE.out; have := S3.out; omega
      have hb3 : Xj ≤ 65536 := by have := hx.out; omega
      have HLj := hid hLj
      have HXj := hid hXj
      clear hLj hXj
      go_wp2
      go_roundg (t.cas.length - (j + 1))
      case measure => have := HJ.out; omega
      case rel =>
        refine ⟨j + 1, by have := HJ.out; omega, ?_, ?_, rfl⟩
        · go_num
        · rw [HT.out]; rfl
    · obtain rfl : j = t.cas.length := by omega
      rw [List.take_length] at *
      have HJ0 := hid hj
      clear hj hlt
      have hV : (vecsB 2 t.cas).length ≤ 65536 := by have := S3.out; omega
      generalize hVL : (vecsB 2 t.cas).length = VL at hV ⊢
      have HVL := hid hVL
      have hTl : t.types.length ≤ 256 := by have := S1.out; omega
      clear hVL
      go_upto_if 43 with fail
      go_cut [4] (fun v4 wx => v4 = .int .i64 ((rqBd t).length : Int) ∧ w = wx)
      case first =>
        by_cases hh : t.has = true
        case neg =>
          have hh : t.has = false := by simpa using hh
          have HL := hid (rqBd_len1 hh)
          have S2 := hid hh
          rw [hh] at c0 ⊢
          clear hh
          go_wp2
          go_meet
          refine ⟨?_, rfl⟩
          have h := HL.out
          rw [HVL.out] at h
          rw [h, IntWalk.wrap64_in (1 + (t.types.length : Int)) (by omega), IntWalk.wrap64_in (1 + (t.types.length : Int) + 2) (by omega), IntWalk.wrap64_in _ (by omega)]
          go_num
        case pos =>
          have HL := hid (rqBd_len2 hh)
          have hSl : t.sig.length ≤ 65536 := by have h := S2.out hh; rw [wordsB_len] at h; omega
          rw [hh] at c0 ⊢
          have S2 := hid hh
          clear hh
          go_wp2
          go_meet
          refine ⟨?_, rfl⟩
          have h := HL.out
          rw [HVL.out] at h
          rw [h, IntWalk.wrap64_in (1 + (t.types.length : Int)) (by omega), IntWalk.wrap64_in (1 + (t.types.length : Int) + 2) (by omega), IntWalk.wrap64_in (1 + (t.types.length : Int) + 2 + (VL : Int)) (by omega), IntWalk.wrap64_in _ (by omega)]
          go_num
      obtain ⟨rfl, rfl⟩ := hcut
      have hLb : (rqBd t).length ≤ 300000 := by
        by_cases hh : t.has = true
        · have h := rqBd_len2 hh
          have h2 := S2.out hh
          rw [wordsB_len] at h2
          rw [HVL.out] at h
          omega
        · have h := rqBd_len1 (by simpa using hh)
          rw [HVL.out] at h
          omega
      have hL0 : 3 + t.types.length ≤ (rqBd t).length := by
        by_cases hh : t.has = true
        · have h := rqBd_len2 hh
          omega
        · have h := rqBd_len1 (by simpa using hh)
          omega
      generalize hL : (rqBd t).length = L at hLb hL0 ⊢
      have HL := hid hL
      clear hL
      have hmk := run_makeBytes (4 + L) (by omega) w .i64
      have e4 : ((4 + L : Nat) : Int) = 4 + (L : Int) := by omega
      rw [e4] at hmk
      clear e4
      have hx0 : 0 < 4 + L := by omega
      have hx1 : (1 : Int) < ((4 + L : Nat) : Int) := by omega
      have hx2 : (2 : Int) < ((4 + L : Nat) : Int) := by omega
      have hx3 : (3 : Int) < ((4 + L : Nat) : Int) := by omega
      have hx4 : (4 : Int) < ((4 + L : Nat) : Int) := by omega
      have hy0 : (Array.replicate (4 + L) (Value.int .u8 0))[0]? = some (Value.int .u8 0) := by rw [Array.getElem?_replicate, if_pos (by omega)]
      have hy1 : (Array.replicate (4 + L) (Value.int .u8 0))[1]? = some (Value.int .u8 0) := by rw [Array.getElem?_replicate, if_pos (by omega)]
      have hy2 : (Array.replicate (4 + L) (Value.int .u8 0))[2]? = some (Value.int .u8 0) := by rw [Array.getElem?_replicate, if_pos (by omega)]
      have hy3 : (Array.replicate (4 + L) (Value.int .u8 0))[3]? = some (Value.int .u8 0) := by rw [Array.getElem?_replicate, if_pos (by omega)]
      have hy4 : (Array.replicate (4 + L) (Value.int .u8 0))[4]? = some (Value.int .u8 0) := by rw [Array.getElem?_replicate, if_pos (by omega)]
      have hml : m < w.heap.size := hm.lt
      have hmq : m ≠ w.heap.size := by omega
      have hx5 : 5 ≤ 4 + L := by omega
      go_upto_region 17 with fail
      obtain ⟨L', rfl⟩ : ∃ L', L = L' + 1 := ⟨L - 1, by omega⟩
      rw [rq_head L' t.types.length (by omega)]
      have hO : RqO w w.heap.size (13 :: (be 3 (L' + 1) ++ be 1 t.types.length)) L' (w.alloc (.cells (((13 :: (be 3 (L' + 1) ++ be 1 t.types.length)) ++ List.replicate L' 0).map bv).toArray 5)) := ⟨Blk.new _ _ _, (Below.refl _ _).alloc (Nat.le_refl _) _⟩
      generalize hw1 : w.alloc (.cells (((13 :: (be 3 (L' + 1) ++ be 1 t.types.length)) ++ List.replicate L' 0).map bv).toArray 5) = w1 at hO ⊢
      clear hw1
      have d1' := (hm.below hO.bel (by omega)).cell 1
      simp at d1'
      have hSrc : 0 < (t.types.map bv).length → ∃ ad, A1 = some ad ∧ ∀ j v, (t.types.map bv)[j]? = some v → w1.cell? (ad.add j) = some v := by
        intro h0
        have h1' : Byt w1 w.heap.size (.slice A1 t.types.length c1) t.types := Row.below h1 hO.bel
        simp at h0
        obtain ⟨b', o', e, -, hj⟩ := Byt.cells h1' (by omega)
        refine ⟨_, e, fun j v hv => ?_⟩
        rw [add_lit]
        rw [List.getElem?_map] at hv
        obtain ⟨y, h1, rfl⟩ := Option.map_eq_some_iff.1 hv
        obtain ⟨h2, h3⟩ := List.getElem?_eq_some_iff.1 h1
        rw [hj j h2, h3]
      have HSRC := hid hSrc
      clear hSrc
      have HO := hid hO
      clear hO
      have hx6 : (5 : Int) ≤ 4 + ((L' : Int) + 1) := by omega
      have hx7 : ¬ 4 + (L' + 1) = 5 := by omega
      go_region_law (refine step_copy_splice rfl (.tmp 81) (.tmp 85) 22 22 rfl 5 Try.underlying22 (by kernel_rfl) _ _ _ _ _ _ rfl rfl w.heap.size 5 _ 5 (show w1.drew.heap[w.heap.size]? = _ from HO.out.blk) (t.types.map bv) (by rw [List.length_map]; show _ = min _ _; omega) (fun h0 => ⟨rfl, HSRC.out h0⟩) (by simp [be_len]; omega) (byt_oneCell _) w.heap.size w HO.out.bel.drew (Nat.le_refl _) ?_; intro w2 hg2 hb2)
      have hO2 := RqO.copied hg2.out hb2 (by simp [be_len]) (by omega)
      clear hg2 hb2 HSRC HO d1' hx0 hx1 hx2 hx3 hx4 hx5 hx6 hx7 hy0 hy1 hy2 hy3 hy4 hmk
      have hp2 : ((13 :: (be 3 (L' + 1) ++ be 1 t.types.length)) ++ t.types).length = 5 + t.types.length := by simp [be_len]; omega
      generalize hpre : (13 :: (be 3 (L' + 1) ++ be 1 t.types.length)) ++ t.types = pre at hO2 hp2
      have HP2 := hid hp2
      have HPRE := hid hpre
      clear hp2 hpre
      have hm2 : Blk w2 m 121 #[.bool t.has, .slice A1 t.types.length c1, .slice A2 t.sig.length c2, .slice A3 t.cas.length c3] := hm.below hO2.bel (by omega)
      have c0 := hm2.cell 0
      have d1 := hm2.cell 1
      have d2 := hm2.cell 2
      have d3 := hm2.cell 3
      simp at c0 d1 d2 d3
      have HO2 := hid hO2
      clear hO2
      have hx0 : (5 : Int) + (t.types.length : Int) ≤ 4 + ((L' : Int) + 1) := by omega
      have hx1 : ¬ 4 + (L' + 1) = 5 + t.types.length := by omega
      have hx2 : 5 + t.types.length ≤ 4 + (L' + 1) := by omega
      go_upto_if 98 with fail
      go_cut [9] (fun v9 wx => RqO w w.heap.size (pre ++ rqSigB t) (2 + VL) wx ∧ v9 = .slice (some ⟨w.heap.size, 5 + t.types.length + (rqSigB t).length, none⟩) (2 + VL) (2 + VL))
      case first =>
        by_cases hh : t.has = true
        case neg =>
          have hh : t.has = false := by simpa using hh
          have e : rqSigB t = [] := by unfold rqSigB; rw [hh, if_neg (by decide)]
          have h := rqBd_len1 hh
          rw [HL.out, HVL.out] at h
          have h : L' - t.types.length = 2 + VL := by omega
          have h2 : 4 + (L' + 1) - (5 + t.types.length) = 2 + VL := by omega
          have HE := hid e
          have HH := hid h
          have HH2 := hid h2
          rw [hh]
          clear hh e h h2
          go_wp2
          go_meet
          refine ⟨?_, ?_⟩
          · rw [HE.out, List.append_nil, ← HH.out]; exact HO2.out
          · rw [HE.out, HH2.out]; rfl
        case pos =>
          have e : rqSigB t = be 2 (2 * t.sig.length) ++ wordsB t.sig := by unfold rqSigB; rw [hh, if_pos rfl, wordsB_len]
          have h := rqBd_len2 hh
          have hSl : t.sig.length ≤ 32768 := by have h := S2.out hh; rw [wordsB_len] at h; omega
          rw [HL.out, HVL.out] at h
          have h1 : L' - t.types.length = 2 + (2 * t.sig.length + (2 + VL)) := by omega
          have h2 : 4 + (L' + 1) - (5 + t.types.length) = 2 + (2 * t.sig.length + (2 + VL)) := by omega
          have hO2 := HO2.out
          rw [h1] at hO2
          rw [h2, hh]
          have hnz : ¬ 2 * t.sig.length + (2 + VL) = 0 := by omega
          have HE := hid e
          clear hh e h h1 h2
          generalize hK : 2 * t.sig.length + (2 + VL) = K at hO2 hnz ⊢
          have HK := hid hK
          generalize hq : 5 + t.types.length = q2 at HP2 ⊢
          have HQ := hid hq
          have k0 := hO2.blk.cell q2
          have k1 := hO2.blk.cell (q2 + 1)
          have hz0 : ((pre ++ List.replicate (2 + K) 0).map bv).toArray[q2]? = some (bv 0) := by
            rw [← HP2.out]; simp [List.getElem?_append_right, List.getElem?_replicate]
          have hz1 : ((pre ++ List.replicate (2 + K) 0).map bv).toArray[q2 + 1]? = some (bv 0) := by
            rw [← HP2.out]; simp [List.getElem?_append_right, List.getElem?_replicate]; omega
          rw [hz0] at k0
          rw [hz1] at k1
          have f0 := hO2.blk.frozen q2
          have f1 := hO2.blk.frozen (q2 + 1)
          have HOA := hid hO2
          have hy0 : 0 < 2 + K := by omega
          have hy1 : (1 : Int) < ((2 + K : Nat) : Int) := by omega
          have hy2 : (2 : Int) ≤ 2 + (K : Int) := by omega
          have hy3 : 2 ≤ 2 + K := by omega
          clear hK hq hz0 hz1 hO2
          go_upto_region 24 with fail
          have hOB := HOA.out.put2 (VL := 2 * t.sig.length) HP2.out rfl
          rw [show (((2 * t.sig.length : Nat) : Int) / 256 % 256) = (t.sig.length : Int) * 2 / 256 % 256 by omega, show (((2 * t.sig.length : Nat) : Int) % 256) = (t.sig.length : Int) * 2 % 256 by omega] at hOB
          generalize (w2.setCell ⟨w.heap.size, q2, none⟩ (Value.int .u8 ((t.sig.length : Int) * 2 / 256 % 256))).setCell ⟨w.heap.size, q2 + 1, none⟩ (Value.int .u8 ((t.sig.length : Int) * 2 % 256)) = w3 at hOB ⊢
          have hm3 := hm.below hOB.bel (by omega)
          have d2 := hm3.cell 2
          simp at d2
          have HOB := hid hOB
          clear hOB hm3 k0 k1 f0 f1 hy0 hy1 hy2 hy3 hnz HOA
          go_wp2_with fail
          go_loopg [9, 12, 121] t.sig.length (fun gk v9 v12 i wr => ∃ (j : Nat), j + gk = t.sig.length ∧ i = .int .i64 j ∧ v9 = .slice (some ⟨w.heap.size, q2 + 2 + 2 * j, none⟩) (2 * gk + (2 + VL)) (2 * gk + (2 + VL)) ∧ RqO w w.heap.size ((pre ++ be 2 (2 * t.sig.length)) ++ wordsB (t.sig.take j)) (2 * gk + (2 + VL)) wr)
          case atStart =>
            refine ⟨0, by omega, rfl, by rw [HK.out], ?_⟩
            have := HOB.out
            rw [HK.out]
            simpa [wordsB] using this
          case round =>
            obtain ⟨j, hj0, rfl, rfl, hOj⟩ := hrel
            have HJ := hid hj0
            have hj : j ≤ t.sig.length := by omega
            clear HOB
            by_cases hlt : j < t.sig.length
            · obtain ⟨g', rfl⟩ : ∃ g', gk = g' + 1 := ⟨gk - 1, by omega⟩
              clear hj0
              have eK : 2 * (g' + 1) + (2 + VL) = 2 + (2 * g' + (2 + VL)) := by omega
              rw [eK] at hOj ⊢
              clear eK
              have hnz : ¬ 2 * g' + (2 + VL) = 0 := by omega
              have hg2 : 2 * g' + (2 + VL) ≤ 200000 := by have := HJ.out; omega
              generalize hK' : 2 * g' + (2 + VL) = K' at hOj hnz hg2 ⊢
              have HK' := hid hK'
              have h2j := Row.below h2 hOj.bel
              obtain ⟨b3, o3, rfl, hb3, hj3, hcell3⟩ := h2j.at_ hlt
              rw [List.getElem_map] at hcell3
              have hSN := vecsB_snoc 2 t.cas []
              have hSW := wordsB_snoc (t.sig.take j) t.sig[j]
              rw [← List.take_succ_eq_append_getElem hlt] at hSW
              have HSW := hid hSW
              generalize t.sig[j] = xw at hcell3 HSW
              have hxw := xw.toNat_lt
              have hp5 : ((pre ++ be 2 (2 * t.sig.length)) ++ wordsB (t.sig.take j)).length = q2 + 2 + 2 * j := by rw [List.length_append, List.length_append, be_len, HP2.out, wordsB_len, List.length_take]; omega
              generalize hpre5 : (pre ++ be 2 (2 * t.sig.length)) ++ wordsB (t.sig.take j) = pre5 at hOj hp5
              have HPRE5 := hid hpre5
              generalize hr : q2 + 2 + 2 * j = r at hp5 ⊢
              have HR := hid hr
              have HP5 := hid hp5
              have k0 := hOj.blk.cell r
              have k1 := hOj.blk.cell (r + 1)
              have hz0 : ((pre5 ++ List.replicate (2 + K') 0).map bv).toArray[r]? = some (bv 0) := by
                rw [← HP5.out]; simp [List.getElem?_append_right, List.getElem?_replicate]
              have hz1 : ((pre5 ++ List.replicate (2 + K') 0).map bv).toArray[r + 1]? = some (bv 0) := by
                rw [← HP5.out]; simp [List.getElem?_append_right, List.getElem?_replicate]; omega
              rw [hz0] at k0
              rw [hz1] at k1
              have f0 := hOj.blk.frozen r
              have f1 := hOj.blk.frozen (r + 1)
              have HOJ := hid hOj
              have hy0 : 0 < 2 + K' := by omega
              have hy1 : (1 : Int) < ((2 + K' : Nat) : Int) := by omega
              have hy2 : (2 : Int) ≤ 2 + (K' : Int) := by omega
              have hy3 : 2 ≤ 2 + K' := by omega
              clear hK' h2j hSN hSW hr hpre5 hp5 hz0 hz1 hOj
              go_wp2
              have hOk := HOJ.out.put2 (VL := xw.toNat) HP5.out rfl
              rw [show ((xw.toNat : Int) / 256 % 256) = (xw.toNat : Int) / 256 by omega] at hOk
              have HOK := hid hOk
              clear hOk
              go_roundg g'
              case measure => omega
              case rel =>
                refine ⟨j + 1, by have := HJ.out; omega, by go_num, ?_, ?_⟩
                · rw [HK'.out, ← HR.out, show q2 + 2 + 2 * (j + 1) = q2 + 2 + 2 * j + 2 by omega]
                · have h5 := HOK.out
                  rw [← HPRE5.out, List.append_assoc, ← HSW.out] at h5
                  rw [HK'.out]
                  exact h5
            · obtain rfl : j = t.sig.length := by omega
              obtain rfl : gk = 0 := by omega
              rw [List.take_length, Nat.mul_zero, Nat.zero_add] at *
              have hpE : pre ++ be 2 (2 * t.sig.length) ++ wordsB t.sig = pre ++ rqSigB t := by rw [HE.out, List.append_assoc]
              have hlE : (rqSigB t).length = 2 + 2 * t.sig.length := by rw [HE.out, List.length_append, be_len, wordsB_len]
              rw [hpE] at hOj
              have HOJ := hid hOj
              have HLE := hid hlE
              clear hOj hpE hlE hlt hj0
              go_wp2
              go_meet
              refine ⟨HOJ.out, ?_⟩
              rw [HLE.out]
              congr 3
              have := HQ.out
              omega
      obtain ⟨hO3, rfl⟩ := hcut
      clear c0 d1 d2 d3 hm2 HO2
      have hm3 := hm.below hO3.bel (by omega)
      have hp3 : (pre ++ rqSigB t).length = 5 + t.types.length + (rqSigB t).length := by rw [List.length_append, HP2.out]
      generalize hpre3 : pre ++ rqSigB t = pre3 at hO3 hp3
      generalize 5 + t.types.length + (rqSigB t).length = q at hp3 ⊢
      have HP3 := hid hp3
      have HPRE3 := hid hpre3
      clear hp3 hpre3 hx0 hx1 hx2
      have k0 := hO3.blk.cell q
      have k1 := hO3.blk.cell (q + 1)
      have hz0 : ((pre3 ++ List.replicate (2 + VL) 0).map bv).toArray[q]? = some (bv 0) := by
        rw [← HP3.out]; simp [List.getElem?_append_right, List.getElem?_replicate]
      have hz1 : ((pre3 ++ List.replicate (2 + VL) 0).map bv).toArray[q + 1]? = some (bv 0) := by
        rw [← HP3.out]; simp [List.getElem?_append_right, List.getElem?_replicate]; omega
      rw [hz0] at k0
      rw [hz1] at k1
      have f0 := hO3.blk.frozen q
      have f1 := hO3.blk.frozen (q + 1)
      clear hz0 hz1
      have c0 := hm3.cell 0
      have d3 := hm3.cell 3
      simp at c0 d3
      have HO3 := hid hO3
      clear hO3
      have hx0 : 0 < 2 + VL := by omega
      have hx1 : (1 : Int) < ((2 + VL : Nat) : Int) := by omega
      have hx2 : (2 : Int) ≤ 2 + (VL : Int) := by omega
      have hx3 : 2 ≤ 2 + VL := by omega
      go_upto_region 34 with fail
      have hO4 := HO3.out.put2 (VL := VL) HP3.out rfl
      generalize hw4 : (wc.setCell ⟨w.heap.size, q, none⟩ (Value.int .u8 ((VL : Int) / 256 % 256))).setCell ⟨w.heap.size, q + 1, none⟩ (Value.int .u8 ((VL : Int) % 256)) = w4 at hO4 ⊢
      obtain ⟨P, hP⟩ : ∃ P, (if VL = 0 then some (⟨w.heap.size, q, none⟩ : Addr) else some ⟨w.heap.size, q + 2, none⟩) = P := ⟨_, rfl⟩
      rw [hP]
      have HPP := hid hP
      clear hP
      clear hw4 k0 k1 f0 f1 c0 d3 HO3 hm3 hx0 hx1 hx2 hx3
      have hm4 := hm.below hO4.bel (by omega)
      have d3 := hm4.cell 3
      simp at d3
      have HO4 := hid hO4
      clear hO4 hm4
      go_wp2_with fail
      go_loopg [9, 14, 153] t.cas.length (fun gk v9 v14 i wr => ∃ (j k : Nat) (P : Option Addr), j + gk = t.cas.length ∧ i = .int .i64 j ∧ v9 = .slice P k k ∧ (0 < k → P = some ⟨w.heap.size, q + 2 + (vecsB 2 (t.cas.take j)).length, none⟩) ∧ k = VL - (vecsB 2 (t.cas.take j)).length ∧ RqO w w.heap.size ((pre3 ++ be 2 VL) ++ vecsB 2 (t.cas.take j)) k wr)
      case atStart =>
        refine ⟨0, VL, P, by omega, rfl, rfl, fun h0 => ?_, ?_, ?_⟩
        · rw [← HPP.out, if_neg (by omega)]; rfl
        · rfl
        · have := HO4.out; simpa [vecsB] using this
      case round =>
        obtain ⟨j, k, Pj, hj0, rfl, rfl, hPj, hk, hOj⟩ := hrel
        have HJ := hid hj0
        have hj : j ≤ t.cas.length := by omega
        clear hj0
        by_cases hlt : j < t.cas.length
        · have HT := vecsB_takeS 2 t.cas j hlt
          have HLE := vecsB_le 2 t.cas (j + 1)
          rw [HVL.out] at HLE
          have h3j := h3.belowRq hOj.bel
          obtain ⟨b2, o2, rfl, hb2, hj2, A', c', hcell2, hy, hl1, hl2⟩ := h3j.at_ hlt
          have hx := S4.out _ (List.getElem_mem hlt)
          obtain ⟨k', rfl⟩ : ∃ k', k = 2 + k' := ⟨k - 2, by omega⟩
          have hXk : (t.cas[j]).length ≤ k' := by omega
          obtain rfl := hPj (by omega)
          have hkb : k' ≤ 65536 := by omega
          have hp5 : ((pre3 ++ be 2 VL) ++ vecsB 2 (t.cas.take j)).length = q + 2 + (vecsB 2 (t.cas.take j)).length := by rw [List.length_append, List.length_append, be_len, HP3.out]
          generalize hpre5 : (pre3 ++ be 2 VL) ++ vecsB 2 (t.cas.take j) = pre5 at hOj hp5
          have HK := hid hk
          have HT := hid HT
          have HLE := hid HLE
          generalize hr : q + 2 + (vecsB 2 (t.cas.take j)).length = r at hp5 ⊢
          have HR := hid hr
          clear hr
          have HP5 := hid hp5
          have HPRE5 := hid hpre5
          generalize hXj : (t.cas[j]).length = Xj at hx hcell2 hy hl1 hXk ⊢
          have HXj := hid hXj
          clear hp5 hpre5 hk hPj hXj
          have k0 := hOj.blk.cell r
          have k1 := hOj.blk.cell (r + 1)
          have hz0 : ((pre5 ++ List.replicate (2 + k') 0).map bv).toArray[r]? = some (bv 0) := by
            rw [← HP5.out]; simp [List.getElem?_append_right, List.getElem?_replicate]
          have hz1 : ((pre5 ++ List.replicate (2 + k') 0).map bv).toArray[r + 1]? = some (bv 0) := by
            rw [← HP5.out]; simp [List.getElem?_append_right, List.getElem?_replicate]; omega
          rw [hz0] at k0
          rw [hz1] at k1
          have f0 := hOj.blk.frozen r
          have f1 := hOj.blk.frozen (r + 1)
          clear hz0 hz1
          have HOj := hid hOj
          clear hOj
          have hx0 : 0 < 2 + k' := by omega
          have hx1 : (1 : Int) < ((2 + k' : Nat) : Int) := by omega
          have hx2 : (2 : Int) ≤ 2 + (k' : Int) := by omega
          have hx3 : 2 ≤ 2 + k' := by omega
          go_upto_region 40 with fail
          have hOk := HOj.out.put2 (VL := Xj) HP5.out rfl
          rw [show ((Xj : Int) / 256 % 256) = (Xj : Int) / 256 by omega] at hOk
          have hbk : Below w.heap.size wr ((wr.setCell ⟨w.heap.size, r, none⟩ (Value.int .u8 ((Xj : Int) / 256))).setCell ⟨w.heap.size, r + 1, none⟩ (Value.int .u8 ((Xj : Int) % 256))) := by
            refine Below.setCell (Below.setCell (Below.refl _ _) ?_ _) ?_ _ <;> exact Nat.le_refl _
          have hyk := Row.below hy hbk
          clear hbk
          generalize (wr.setCell ⟨w.heap.size, r, none⟩ (Value.int .u8 ((Xj : Int) / 256))).setCell ⟨w.heap.size, r + 1, none⟩ (Value.int .u8 ((Xj : Int) % 256)) = wk at hOk hyk ⊢
          obtain ⟨rr, hrr, hrp⟩ : ∃ rr, (if k' = 0 then some (⟨w.heap.size, r, none⟩ : Addr) else some ⟨w.heap.size, r + 2, none⟩) = some ⟨w.heap.size, rr, none⟩ ∧ (0 < k' → rr = r + 2) := by
            by_cases h0 : k' = 0
            · exact ⟨r, by rw [if_pos h0], fun h => by omega⟩
            · exact ⟨r + 2, by rw [if_neg h0], fun _ => rfl⟩
          rw [hrr]
          have hSrc : 0 < ((t.cas[j]).map bv).length → ∃ ad, A' = some ad ∧ ∀ i v, ((t.cas[j]).map bv)[i]? = some v → wk.cell? (ad.add i) = some v := by
            intro h0
            rw [List.length_map, HXj.out] at h0
            obtain ⟨b', o', e, -, hj⟩ := Byt.cells hyk h0
            refine ⟨_, e, fun i v hv => ?_⟩
            rw [add_lit]
            rw [List.getElem?_map] at hv
            obtain ⟨y, h1, rfl⟩ := Option.map_eq_some_iff.1 hv
            obtain ⟨h2, h3⟩ := List.getElem?_eq_some_iff.1 h1
            rw [hj i h2, h3]
          have HSRC := hid hSrc
          have HOK := hid hOk
          have HRP := hid hrp
          have HLEN := hid (show ((t.cas[j]).map bv).length = Xj by rw [List.length_map, HXj.out])
          have hx4 : (Xj : Int) ≤ (k' : Int) := by omega
          clear hrr hSrc hOk hrp hyk hy k0 k1 f0 f1 hx0 hx1 hx2 hx3 HOj hcell2
          go_wp2_with (refine wpList_copy_splice rfl _ _ 22 22 rfl 5 Try.underlying22 (by kernel_rfl) _ _ _ _ _ _ rfl rfl w.heap.size (r + 2) _ 5 (show wk.heap[w.heap.size]? = _ from HOK.out.blk) ((t.cas[j]).map bv) (by rw [HLEN.out]; show Xj = min Xj k'; omega) (fun h0 => ⟨by rw [HLEN.out] at h0; rw [HRP.out (by omega)], HSRC.out h0⟩) (by rw [HLEN.out, List.length_map, List.length_append, List.length_append, be_len, HP5.out, List.length_replicate]; omega) (byt_oneCell _) w.heap.size w HOK.out.bel (Nat.le_refl _) ?_; intro wz hgz hbz; rw [HLEN.out])
          all_goals
            have hO5 := RqO.copied hgz.out hbz (by rw [List.length_append, be_len, HP5.out]) (by rw [HXj.out]; omega)
            rw [HXj.out] at hO5
            have HO5 := hid hO5
            have HSN := hid (show (pre5 ++ be 2 Xj) ++ t.cas[j] = (pre3 ++ be 2 VL) ++ vecsB 2 (t.cas.take (j + 1)) by
              rw [← HPRE5.out, List.take_succ_eq_append_getElem hlt, vecsB_snoc, HXj.out]
              simp only [List.append_assoc])
            have HTT := HT.out
            rw [HXj.out] at HTT
            have HKK := HK.out
            have HRR := HR.out
            clear hgz hbz hO5
            go_roundg (t.cas.length - (j + 1))
            case measure => have := HJ.out; omega
            case rel =>
              refine ⟨j + 1, _, _, by have := HJ.out; omega, by go_num, rfl, fun h0 => ?_, by omega, ?_⟩
              · first
                  | (exfalso; omega)
                  | (rw [HRP.out (by omega), HTT, ← HRR]; congr 2; omega)
              · have h5 := HO5.out
                rw [← HSN.out]
                first
                  | exact h5
                  | (rw [show k' - Xj = 0 by omega] at h5; exact h5)
        · obtain rfl : j = t.cas.length := by omega
          rw [List.take_length] at *
          have hk0 : k = 0 := by rw [hk, HVL.out]; omega
          subst hk0
          have hb := hOj.blk
          have hbel := hOj.bel
          have hM : pre3 ++ be 2 VL ++ vecsB 2 t.cas = rqMsg t := by
            rw [← HPRE3.out, ← HPRE.out]
            unfold rqMsg msgB
            rw [HL.out]
            unfold rqBd
            rw [HVL.out]
            simp [be]
          rw [List.replicate_zero, List.append_nil, hM] at hb
          have hlen : (rqMsg t).length = 4 + (L' + 1) := by unfold rqMsg; rw [msgB_len, HL.out]
          have hN := NewR.blk (w := w) hb (Nat.le_refl _) (by rw [List.length_map, hlen]; omega)
          rw [List.length_map, hlen] at hN
          have HN := hid hN
          have HB := hid hbel
          clear hb hbel hM hlen hN hOj hPj hk
          go_wp2
          go_ret2
          exact ⟨_, rfl, HN.out.1.shrink, ⟨HB.out.os, HB.out.tape, HB.out.output, HB.out.size, fun k hk _ => HB.out.block k hk⟩⟩
end
end Go.Proofs.Ytddkjhlngofkaaa

/- CertificateRequest of TLS 1.3: the small functions that the laws ask; the argument opened. -/
import Derived.Test.YtddkjhlngofkaaaCqMade
import Derived.Test.YtddkjhlngofkaaaCqI
import Derived.Test.YtddkjhlngofkaaaLift
import Derived.Test.YtddkjhlngofkaaaGen
import Derived.Test.YtddkjhlngofkaaaNone
import Derived.Test.YtddkjhlngofkaaaBulk
namespace Go.Proofs.Ytddkjhlngofkaaa
open Go.Joins Go.ChangeShapes Go.WideShapes Go.RowKit Go.Deep
set_option maxRecDepth 100000
/-- what the bound on the bulk says of it -/
def CqBulk (t : Cq) : Prop := (vecsB 2 t.cas).length ≤ 4194304
section
variable {w w' : World} {B C N : Nat} {v content : Value} {t : Cq} {L : List Ex}
theorem Mar_Cq (hv : CqV w B v t) (_ : cqRight t = true) (hz : CqSz t) : Calls Try.prog 26 #[v] w (MadeP w (cqMake t)) := impl_MarshalCq hv (by have := hz.2.2; omega)
theorem cqRight_none (t : Cq) : noneB t.cas 0 0 = cqRight t := by
  unfold noneB cqRight
  congr 1
  funext x
  cases x <;> simp
theorem Right_Cq (hv : CqV w B v t) : Calls Try.prog 20 #[v] w fun e w' => e = .returned (.bool (cqRight t)) ∧ Upd [] w w' := by
  obtain ⟨A2, c2, A3, c3, A4, c4, rfl, x2, x3, x4, z2, z3⟩ := hv
  obtain ⟨w1, hw1⟩ : ∃ w1, w.alloc (.cells #[.bool t.ocsp, .bool t.scts, .slice A2 t.sig.length c2, .slice A3 t.sigc.length c3, .slice A4 t.cas.length c4] 35) = w1 := ⟨_, rfl⟩
  have hu1 : Upd [] w w1 := by rw [← hw1]; exact (Upd.refl _ _).alloc _
  have h := none_any (x4.shrink.upd hu1 (by simp)) 0 0
  rw [cqRight_none] at h
  have H := hid h
  have HW := hid hw1
  clear h hw1
  go_enter Try.func20, Try.ntmps20
  go_wp2_with fail
  rw [HW.out]
  refine H.out.mono ?_
  rintro e w2 ⟨rfl, rfl⟩
  go_wp2
  go_ret
  exact ⟨rfl, hu1⟩
theorem zzFits_Cq (hv : CqV w B v t) (hk : CqBulk t) : Calls Try.prog 18 #[v] w (FitsP w (CqSz t)) := by
  obtain ⟨A2, c2, A3, c3, A4, c4, rfl, x2, x3, x4, z2, z3⟩ := hv
  obtain ⟨w1, hw1⟩ : ∃ w1, w.alloc (.cells #[.bool t.ocsp, .bool t.scts, .slice A2 t.sig.length c2, .slice A3 t.sigc.length c3, .slice A4 t.cas.length c4] 35) = w1 := ⟨_, rfl⟩
  have hu1 : Upd [] w w1 := by rw [← hw1]; exact (Upd.refl _ _).alloc _
  have H := hid (zzFits2_any (x4.shrink.upd hu1 (by simp)))
  have HW := hid hw1
  clear hw1
  rcases bcase (decide ((2147483647 : Int) < (t.sig.length : Int))) with b1 | b1
  · go_enter Try.func18, Try.ntmps18
    go_wp2
    go_ret
    exact ⟨false, rfl, (Upd.refl _ _).alloc _, fun h => (by cases h)⟩
  rcases bcase (decide ((2147483647 : Int) < (t.sigc.length : Int))) with b2 | b2
  · have B1 := hid b1
    go_enter Try.func18, Try.ntmps18
    go_wp2
    go_ret
    exact ⟨false, rfl, (Upd.refl _ _).alloc _, fun h => (by cases h)⟩
  have B1 := hid (of_decide_eq_false b1)
  have B2 := hid (of_decide_eq_false b2)
  go_enter Try.func18, Try.ntmps18
  go_wp2_with fail
  rw [HW.out]
  refine H.out.mono ?_
  rintro e w2 ⟨b, rfl, hu2, hz⟩
  cases b
  case false =>
    go_wp2
    go_ret
    exact ⟨false, rfl, hu1.trans hu2 (by simp), fun h => (by cases h)⟩
  case true =>
    go_wp2
    go_ret
    refine ⟨true, rfl, hu1.trans hu2 (by simp), fun _ => ⟨by have := B1.out; omega, by have := B2.out; omega, ?_⟩⟩
    have hk : (vecsB 2 t.cas).length ≤ 4194304 := hk
    omega
theorem Exts_Cq (hv : CqV w B v t) (hz : CqSz t) : Calls Try.prog 21 #[v] w (ExL w (cqExtL t)) := Request13Extensions_any hv (by have := hz.1; omega) (by have := hz.2.1; omega) (by have := hz.2.2; omega)
set_option maxHeartbeats 1000000 in
theorem Write_Cq (hc : Exr w C N content L) (hx : (exsB L).length ≤ 1000000000000) : Calls Try.prog 22 #[content] w (MsgP w (messageW 13 (cqW L))) := by
  obtain ⟨A3, c3, rfl, hc, -, -⟩ := hc.shrink.form
  obtain ⟨w1, hw1⟩ : ∃ w1, w.alloc (.cells #[.slice none 0 0, .bool false] 87) = w1 := ⟨_, rfl⟩
  obtain ⟨s, hs⟩ : ∃ s, w.heap.size = s := ⟨_, rfl⟩
  have hu1 : Upd [] w w1 := by rw [← hw1]; exact (Upd.refl _ _).alloc _
  have hk1 : Wrt w1 s s (.slice none 0 0) Wr.nil := by rw [← hw1, ← hs]; exact ⟨Nat.le_refl _, Blk.new _ _ _, Own.nil_ _ _ _⟩
  have hc1 := hc.upd hu1 (by simp)
  have H := hid (wvec_any1 (xs := []) hk1 (content := .slice none 0 0) ⟨0, Row.nil_ _ 0, .inl (Nat.zero_le _)⟩ (by simp [Wr.nil]) (by simp))
  have hel : (exsW L).b.length ≤ 1000000000002 := by rw [exsW_eq]; simp [be_len]; omega
  have hbl : (cqW L).b.length ≤ 1099511627776 := by
    rw [cqW_eq]
    simp [blkB, be_len]
    omega
  have HX := hid hx
  have HEL := hid hel
  have HBL := hid hbl
  have HW := hid hw1
  have HS := hid hs
  clear hx hel hbl hw1 hs
  go_enter Try.func22, Try.ntmps22
  go_wp2_with fail
  rw [HW.out, HS.out]
  refine H.out.mono ?_
  intro e w6 hp
  have hp' := hp
  obtain ⟨rfl, v', hk6, hu16, -⟩ := hp'
  have hc6 := hc1.upd hu16 (by simp [HS.out, Value.ownBlock])
  obtain ⟨v6, hb6, hy6, ⟨A6, n6, c6, rfl⟩, hn6, hu6, -⟩ := WrtP.ends (w := w) (by rw [HS.out]; omega) rfl hu1 hp
  clear hp hk6 hk1 hc1 H
  have k0 := hb6.cell 0
  have k1 := hb6.cell 1
  simp at k0 k1
  go_wp2_with fail
  go_region_held3 (fun w' => w'.cell? ⟨s, 0, none⟩ = some (.slice A6 n6 c6) ∧ w'.cell? ⟨s, 1, none⟩ = some (.bool (Wr.nil.vec 1 []).bad)) (go_keep)
    (first
      | (go_at_call 60; refine (extensions_any_w (hc6.upd ((Upd.refl [] w6).drew) (by simp)) (by have := HX.out; omega)).mono ?_; rintro e w7 ⟨v7, rfl, hy7, hn7, ⟨A7, n7, c7, rfl⟩, hu7⟩; have hb7 := (hb6.drew).upd hu7 (by simp); have s0 := hb7.cell 0; have s1 := hb7.cell 1; simp at s0 s1; have hy67 := Row.upd (Row.drew hy6) hu7 (by simp))
      | (go_at_call 59; refine (behind_any hy67 hy7 _ _ (by simp [Wr.nil, Wr.vec, be_len]) (by have := HEL.out; omega)).mono ?_; rintro e w8 ⟨v8, rfl, hy8, hn8, ⟨A8, n8, c8, rfl⟩, hu8⟩; have hb8 := hb7.upd hu8 (by simp); have s0' := hb8.cell 0; have s1' := hb8.cell 1; simp at s0' s1')
      | (go_at_call 58; refine (message_any 13 _ hy8 HBL.out).mono ?_; rintro e w9 ⟨v9, rfl, hy9, hn9, ⟨A9, n9, c9, rfl⟩, hu9⟩; have hb9 := hb8.upd hu9 (by simp); have s0'' := hb9.cell 0; have s1'' := hb9.cell 1; simp at s0'' s1''))
  all_goals
    have hU := ((hu6.drew).trans hu7 (by simp)).trans hu8 (by simp)
    have HF := hid (hU.trans hu9 (by simp))
    have HN := hid (fun k (hk : (Value.slice A9 n9 c9).ownBlock = some k) => Nat.le_trans hU.size (hn9 k hk))
    have HY := hid hy9
    clear hy9 hn9 hu9
    go_wp2
    go_ret2
    exact ⟨_, rfl, HY.out, HN.out, ⟨_, _, _, rfl⟩, HF.out⟩
theorem cqW_b (L : List Ex) : (messageW 13 (cqW L)).b = cqMsg L := by
  rw [messageW_msgB, cqW_eq]; rfl
theorem cqExts_size (t : Cq) (hz : CqSz t) : (exsB (cqExtL t).l).length ≤ 900000000000 := by
  have h := cqSz t
  have b1 := bz_le t.ocsp 4
  have b2 := bz_le t.scts 4
  have b3 := bz_le (decide (0 < t.sig.length)) (6 + 2 * t.sig.length)
  have b4 := bz_le (decide (0 < t.sigc.length)) (6 + 2 * t.sigc.length)
  have b5 := bz_le (decide (0 < t.cas.length)) (6 + (vecsB 2 t.cas).length)
  obtain ⟨z1, z2, z3⟩ := hz
  unfold cqE at h
  omega
theorem cqE_few (t : Cq) : (cqExtL t).l.length ≤ 1000 := by
  have h := (cqE_keys t).length_le
  rw [List.length_map] at h
  exact Nat.le_trans h (by decide)
theorem cq_read (t : Cq) (hr : ∀ x ∈ t.cas, x ≠ []) (_ : (cqExtL t).bad = false) (hW : (messageW 13 (cqW L)).bad = false) (hL : ListsE (cqE t) L) : cqRead (cqMsg L) = some t := by
  have h2 : (exsB L).length < 65536 := by
    rw [messageW_msgB, cqW_eq] at hW
    simp only [Bool.or_eq_false_iff, decide_eq_false_iff_not] at hW
    omega
  have h3 : (exsB (cqE t)).length < 65536 := Nat.lt_of_le_of_lt (ListsE.size (cqE_nodup t) hL) h2
  rw [cqRead_msg _ h2]
  exact cq_run t hr h3 hL
end
theorem open_cq {H : Type} {enc : TypeId × Value → H} {W : World} {v : Value} {d : DataW H} {p : List MemPlace} {base : Nat}
    (hv : Value.okWide Try.prog W .any base 35 v) (h : DataW.Trod enc Try.prog W 0 (fun _ => true) true 35 v d p) (hb : Rows.uptoBulk d ≤ 1048576) : ∃ t, CqV W W.heap.size v t ∧ CqBulk t := by
  obtain ⟨l, n, rfl, hl, hg⟩ := open_aggB Try.underlying35 (by kernel_rfl) (by kernel_rfl) hv h
  match l, hl with
  | [v0, v1, v2, v3, v4], _ =>
    obtain ⟨_, y0, e0, h0, -⟩ := hg 0 _ rfl
    obtain ⟨_, y1, e1, h1, -⟩ := hg 1 _ rfl
    obtain ⟨_, y2, e2, h2, k2⟩ := hg 2 _ rfl
    obtain ⟨_, y3, e3, h3, k3⟩ := hg 3 _ rfl
    obtain ⟨_, y4, e4, h4, k4⟩ := hg 4 _ rfl
    injection e0 with e0; injection e1 with e1; injection e2 with e2; injection e3 with e3; injection e4 with e4
    subst e0 e1 e2 e3 e4
    obtain ⟨a0, rfl⟩ := bool_trod h0
    obtain ⟨a1, rfl⟩ := bool_trod h1
    obtain ⟨a2, x2, z2⟩ := words_trod h2
    obtain ⟨a3, x3, z3⟩ := words_trod h3
    obtain ⟨a4, x4, z4⟩ := lists_bulk h4
    obtain ⟨A2, c2, rfl, x2, -, -⟩ := Row.formN x2 (n := a2.length) (by simp)
    obtain ⟨A3, c3, rfl, x3, -, -⟩ := Row.formN x3 (n := a3.length) (by simp)
    obtain ⟨A4, c4, rfl, x4, -, -⟩ := x4.form
    refine ⟨⟨a0, a1, a2, a3, a4⟩, ⟨A2, c2, A3, c3, A4, c4, rfl, x2, x3, x4, by show a2.length ≤ _; omega, by show a3.length ≤ _; omega⟩, ?_⟩
    have := vecsB_lst 2 a4
    show (vecsB 2 a4).length ≤ _
    omega
end Go.Proofs.Ytddkjhlngofkaaa

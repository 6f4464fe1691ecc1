/- NewSessionTicket of TLS 1.3: made by the reference. -/
import Derived.Test.YtcdjbciifnoajaaTkBytes
import Derived.Test.YtcdjbciifnoajaaSpecB
import Derived.Test.YtcdjbciifnoajaaSpecL2
import Derived.Test.YtcdjbciifnoajaaSpecO
namespace Go.Proofs.Ytcdjbciifnoajaa
open Go.RowKit
set_option maxRecDepth 100000

section
variable {w w' : World} {B C N m k : Nat} {v u content s1 s2 : Value} {xs data : List UInt8} {e : Ending} {t : Tk} {L : List Ex}

theorem RightTicket13_any (hv : TkV w B v t) : Calls Try.prog 16 #[v] w fun e w' => e = .returned (.bool (decide ((0 : Int) < (t.label.length : Int)))) ∧ Upd [] w w' := by
  obtain ⟨A1, c1, A2, c2, rfl, x1, x2⟩ := hv
  go_enter Try.func16, Try.ntmps16
  go_wp2
  go_ret
  exact ⟨by simp, (Upd.refl _ _).alloc _⟩
theorem zzFits8_any (hv : TkV w B v t) : Calls Try.prog 14 #[v] w (FitsP w (t.nonce.length ≤ 2147483647 ∧ t.label.length ≤ 2147483647)) := by
  obtain ⟨A1, c1, A2, c2, rfl, x1, x2⟩ := hv
  by_cases h1 : 2147483647 < t.nonce.length
  · have b1 : decide ((2147483647 : Int) < (t.nonce.length : Int)) = true := decide_eq_true (by omega)
    clear h1
    go_enter Try.func14, Try.ntmps14
    go_wp2
    go_ret
    exact ⟨false, rfl, (Upd.refl _ _).alloc _, fun h => (by cases h)⟩
  have b1 : decide ((2147483647 : Int) < (t.nonce.length : Int)) = false := decide_eq_false (by omega)
  have H1 := hid h1
  clear h1
  by_cases h2 : 2147483647 < t.label.length
  · have b2 : decide ((2147483647 : Int) < (t.label.length : Int)) = true := decide_eq_true (by omega)
    clear h2
    go_enter Try.func14, Try.ntmps14
    go_wp2
    go_ret
    exact ⟨false, rfl, (Upd.refl _ _).alloc _, fun h => (by cases h)⟩
  have b2 : decide ((2147483647 : Int) < (t.label.length : Int)) = false := decide_eq_false (by omega)
  have H2 := hid h2
  clear h2
  go_enter Try.func14, Try.ntmps14
  go_wp2
  go_ret
  exact ⟨true, rfl, (Upd.refl _ _).alloc _, fun _ => ⟨by have := H1.out; omega, by have := H2.out; omega⟩⟩

/-- extensions handed back: their cells in new memory -/
def ExW (w : World) (L : List Ex) (e : Ending) (w' : World) : Prop := ∃ v, e = .returned v ∧ Exr w' w'.heap.size w'.heap.size v L ∧ Upd [] w w'
def tkExts (t : Tk) : List Ex := (LW.nil.add ((t.early.toNat : Int) != 0) 42 (numberW 4 t.early.toNat)).l
set_option maxHeartbeats 2000000 in
theorem Ticket13Extensions_any (hv : TkV w B v t) : Calls Try.prog 19 #[v] w (ExW w (tkExts t)) := by
  obtain ⟨A1, c1, A2, c2, rfl, x1, x2⟩ := hv
  obtain ⟨w1, hw1⟩ : ∃ w1, w.alloc (.cells #[uv t.life, uv t.age, .slice A1 t.nonce.length c1, .slice A2 t.label.length c2, uv t.early] 25) = w1 := ⟨_, rfl⟩
  obtain ⟨s, hs⟩ : ∃ s, w.heap.size = s := ⟨_, rfl⟩
  have hu1 : Upd [] w w1 := by rw [← hw1]; exact (Upd.refl _ _).alloc _
  have hs1 : w1.heap.size = s + 1 := by rw [← hw1, ← hs]; simp
  have hb1 : Blk w1 s 25 #[uv t.life, uv t.age, .slice A1 t.nonce.length c1, .slice A2 t.label.length c2, uv t.early] := by rw [← hw1, ← hs]; exact Blk.new _ _ _
  obtain ⟨w2, hw2⟩ : ∃ w2, w1.alloc (.cells #[.slice none 0 0, .bool false] 68) = w2 := ⟨_, rfl⟩
  have hl2 : LWs w2 (s + 1) (s + 1) (.slice none 0 0) LW.nil := by rw [← hw2, ← hs1]; exact LWs.new w1
  have hu2 : Upd [] w1 w2 := by rw [← hw2]; exact (Upd.refl _ _).alloc _
  have hb2 := hb1.upd hu2 (by simp)
  have hU2 := hu1.trans hu2 (by simp)
  have d4 := hb2.cell 4
  simp at d4
  have HW1 := hid hw1
  have HW2 := hid hw2
  have HS1 := hid hs1
  have hen := t.early.toNat_lt
  have hl2p := hl2.2.1.lt
  have hwr : IntKind.i64.wrap (t.early.toNat : Int) = (t.early.toNat : Int) := by rw [IntKind.wrap_i64]; omega
  have hdl : ∀ g, w2.heap.size ≤ g → g ≠ s + 1 := by intro g hg; omega
  clear hw1 hw2 hs1 hb1 hu1 hu2
  by_cases hz : t.early.toNat = 0
  case' pos => have hne : ((t.early.toNat : Int) != 0) = false := by rw [bne_eq_false_iff_eq]; omega
  case' neg => have hne : ((t.early.toNat : Int) != 0) = true := by rw [bne_iff_ne]; omega
  all_goals
    have HT := hid (show tkExts t = (LW.nil.add ((t.early.toNat : Int) != 0) 42 (numberW 4 t.early.toNat)).l from rfl)
    rw [hne] at HT
    clear hz
    go_enter Try.func19, Try.ntmps19
    go_wp2_with fail
    rw [HW1.out, HW2.out]
    go_region_held3 (fun w' => w'.cell? ⟨s, 4, none⟩ = some (uv t.early)) (go_keep)
      (first
        | (go_at_call 40; refine (number_any 4 t.early.toNat (by omega)).mono ?_; rintro e w3 ⟨v3, rfl, hy3, hn3, ⟨A3, n3, c3, rfl⟩, hu3⟩; have hb3 := (hb2.drew).upd hu3 (by simp); have s4 := hb3.cell 4; simp at s4; have hl3 := (LWs.upd hl2 ((Upd.refl [] _).drew)).upd hu3)
        | (go_at_call 39; refine (add_ex_any hl3 _ 42 hy3 (fun _ _ g hg => ⟨by simp [Value.ownBlock], hdl g (hn3 g hg)⟩) _ (by simp [LW.nil])).mono ?_; rintro e w4 ⟨rfl, v4, hl4, hu4, hv4⟩; have hb4 := hb3.upd hu4 (by simp [Value.ownBlock]); have s4' := hb4.cell 4; simp at s4'))
    all_goals
      obtain ⟨A4, c4, rfl, -, -⟩ := own2_form hl4.2.2.choose_spec.1
      have k0 := hl4.2.1.cell 0
      simp at k0
      have HL4 := hid hl4
      have HU := hid (((hU2.drew).trans hu3 (by simp)).trans hu4 (by simp [Value.ownBlock]; omega))
      clear hl4 hl3
      go_wp2
      go_ret
      refine ⟨_, rfl, ?_, HU.out⟩
      rw [HT.out]
      exact HL4.out.exr

/-- the head of the message, without its extensions -/
def tkHeadW (t : Tk) : Wr := (((Wr.nil.num 4 t.life.toNat).num 4 t.age.toNat).vec 1 t.nonce).vec 2 t.label
def tkW (t : Tk) (L : List Ex) : Wr := messageW 4 (behindW (tkHeadW t) (exsW L))
theorem tkHeadW_b (t : Tk) : (tkHeadW t).b = be 4 t.life.toNat ++ be 4 t.age.toNat ++ (be 1 t.nonce.length ++ t.nonce) ++ (be 2 t.label.length ++ t.label) := by
  simp [tkHeadW, Wr.vec, Wr.num, Wr.nil]
theorem tkHeadW_len (t : Tk) : (tkHeadW t).b.length = 11 + t.nonce.length + t.label.length := by
  rw [tkHeadW_b]; simp [be_len]; omega
set_option maxHeartbeats 4000000 in
theorem WriteTicket13_any (hv : TkV w B v t) (hc : Exr w C N content L) (hx1 : t.nonce.length ≤ 2147483647) (hx2 : t.label.length ≤ 2147483647) (hx : (exsB L).length ≤ 1000000000000) :
    Calls Try.prog 17 #[v, content] w (MsgP w (tkW t L)) := by
  obtain ⟨A1, c1, A2, c2, rfl, x1, x2⟩ := hv
  obtain ⟨A3, c3, rfl, hc, -, -⟩ := hc.shrink.form
  obtain ⟨w1, hw1⟩ : ∃ w1, w.alloc (.cells #[uv t.life, uv t.age, .slice A1 t.nonce.length c1, .slice A2 t.label.length c2, uv t.early] 25) = w1 := ⟨_, rfl⟩
  obtain ⟨s, hs⟩ : ∃ s, w.heap.size = s := ⟨_, rfl⟩
  have hu1 : Upd [] w w1 := by rw [← hw1]; exact (Upd.refl _ _).alloc _
  have hs1 : w1.heap.size = s + 1 := by rw [← hw1, ← hs]; simp
  have hb1 : Blk w1 s 25 #[uv t.life, uv t.age, .slice A1 t.nonce.length c1, .slice A2 t.label.length c2, uv t.early] := by rw [← hw1, ← hs]; exact Blk.new _ _ _
  obtain ⟨w2, hw2⟩ : ∃ w2, w1.alloc (.cells #[.slice none 0 0, .bool false] 57) = w2 := ⟨_, rfl⟩
  have hk2 : Wrt w2 (s + 1) (s + 1) (.slice none 0 0) Wr.nil := by rw [← hw2, ← hs1]; exact wrt_new w1
  have hu2 : Upd [] w1 w2 := by rw [← hw2]; exact (Upd.refl _ _).alloc _
  have hb2 := hb1.upd hu2 (by simp)
  have hU2 := hu1.trans hu2 (by simp)
  have hc2 : Exr w2 s s (.slice A3 L.length c3) L := by rw [← hs]; exact hc.upd hU2 (by simp)
  have hx12 : Byt w2 s (.slice A1 t.nonce.length c1) t.nonce := by rw [← hs]; exact Row.upd x1.shrink hU2 (by simp)
  have hx22 : Byt w2 s (.slice A2 t.label.length c2) t.label := by rw [← hs]; exact Row.upd x2.shrink hU2 (by simp)
  have HW1 := hid hw1
  have HW2 := hid hw2
  have HX1 := hid hx1
  have HX2 := hid hx2
  have HX := hid hx
  have l1 := t.life.toNat_lt
  have l2 := t.age.toNat_lt
  have hgo : ∀ {a b : World} {va : Value} {p : Nat}, s + 1 ≤ p → (∀ g, va.ownBlock = some g → s + 1 ≤ g) → Upd (p :: va.ownBlock.toList) a b → (∀ x ∈ p :: va.ownBlock.toList, s ≤ x ∧ x ≠ s) := by
    intro a b va p hp hva _ x hx
    rcases List.mem_cons.1 hx with hx | hx
    · omega
    · have := hva x (Option.mem_toList.1 hx); omega
  clear hw1 hw2 hs1 hb1 hu1 hu2 hx1 hx2 hx x1 x2 hgo
  have frame : ∀ (a b : World) (va : Value) (st : Wr), Wrt a (s + 1) (s + 1) va st → Upd ((s + 1) :: va.ownBlock.toList) a b → Blk a s 25 #[uv t.life, uv t.age, .slice A1 t.nonce.length c1, .slice A2 t.label.length c2, uv t.early] → Exr a s s (.slice A3 L.length c3) L → Byt a s (.slice A1 t.nonce.length c1) t.nonce → Byt a s (.slice A2 t.label.length c2) t.label →
      Blk b s 25 #[uv t.life, uv t.age, .slice A1 t.nonce.length c1, .slice A2 t.label.length c2, uv t.early] ∧ Exr b s s (.slice A3 L.length c3) L ∧ Byt b s (.slice A1 t.nonce.length c1) t.nonce ∧ Byt b s (.slice A2 t.label.length c2) t.label := by
    intro a b va st hk hu hb hc h1 h2
    have hge : ∀ x ∈ (s + 1) :: va.ownBlock.toList, s + 1 ≤ x := by
      intro x hx
      rcases List.mem_cons.1 hx with hx | hx
      · omega
      · exact (hk.2.2.ge (Option.mem_toList.1 hx)).1
    exact ⟨hb.upd hu (fun h => by have := hge _ h; omega), hc.upd hu (fun x hx => by have := hge _ hx; omega), Row.upd h1 hu (fun x hx => by have := hge _ hx; omega), Row.upd h2 hu (fun x hx => by have := hge _ hx; omega)⟩
  have FR := hid frame
  clear frame
  -- four fields
  have H := hid (wnum_any hk2 4 t.life.toNat (by omega) (by simp [Wr.nil]))
  obtain ⟨p0, p1, p2, p3, p4, -⟩ := five_cells hb2
  go_enter Try.func17, Try.ntmps17
  go_wp2_with fail
  rw [HW1.out, HW2.out]
  go_wp2_with fail
  refine H.out.mono ?_
  rintro e w3 ⟨rfl, v3, hk3, hu3, hv3⟩
  obtain ⟨hb3, hc3, hx13, hx23⟩ := FR.out _ _ _ _ hk2 hu3 hb2 hc2 hx12 hx22
  clear p0 p1 p2 p3 p4 H
  obtain ⟨p0, p1, p2, p3, p4, -⟩ := five_cells hb3
  have H := hid (wnum_any hk3 4 t.age.toNat (by omega) (by simp [Wr.nil, Wr.num, be_len]))
  go_wp2_with fail
  refine H.out.mono ?_
  rintro e w4 ⟨rfl, v4, hk4, hu4, hv4⟩
  obtain ⟨hb4, hc4, hx14, hx24⟩ := FR.out _ _ _ _ hk3 hu4 hb3 hc3 hx13 hx23
  clear p0 p1 p2 p3 p4 H
  obtain ⟨p0, p1, p2, p3, p4, -⟩ := five_cells hb4
  have H := hid (wvec_any1 hk4 ⟨_, hx14, .inl (by omega)⟩ (by simp [Wr.nil, Wr.num, be_len]) (by have := HX1.out; omega))
  go_wp2_with fail
  refine H.out.mono ?_
  rintro e w5 ⟨rfl, v5, hk5, hu5, hv5⟩
  obtain ⟨hb5, hc5, hx15, hx25⟩ := FR.out _ _ _ _ hk4 hu5 hb4 hc4 hx14 hx24
  clear p0 p1 p2 p3 p4 H
  obtain ⟨p0, p1, p2, p3, p4, -⟩ := five_cells hb5
  have H := hid (wvec_any2 hk5 ⟨_, hx25, .inl (by omega)⟩ (by have := HX1.out; simp [Wr.nil, Wr.num, Wr.vec, be_len]; omega) (by have := HX2.out; omega))
  go_wp2_with fail
  refine H.out.mono ?_
  intro e w6 hp
  obtain ⟨-, hc6, -, -⟩ := FR.out _ _ _ _ hk5 hp.2.choose_spec.2.1 hb5 hc5 hx15 hx25
  have hw : WrtP w2 (s + 1) (s + 1) (.slice none 0 0) (tkHeadW t) e w6 := WrtP.after hu3 hv3 (WrtP.after hu4 hv4 (WrtP.after hu5 hv5 hp))
  obtain ⟨v6, hb6, hy6, ⟨A6, n6, c6, rfl⟩, hn6, hu6, -⟩ := WrtP.ends (w := w) (by omega) rfl hU2 hw
  obtain ⟨rfl, -⟩ := hp
  clear p0 p1 p2 p3 p4 H hb5 hc5 hx15 hx25 hk5 hw hb4 hc4 hx14 hx24 hk4 hb3 hc3 hx13 hx23 hk3 hk2 hb2 hc2 hx12 hx22 hu3 hu4 hu5 hv3 hv4 hv5
  have k0 := hb6.cell 0
  have k1 := hb6.cell 1
  simp at k0 k1
  have hhl : (tkHeadW t).b.length ≤ 1099511627776 := by rw [tkHeadW_len]; have := HX1.out; have := HX2.out; omega
  have hel : (exsW L).b.length ≤ 1000000000002 := by rw [exsW_eq]; have := HX.out; simp [be_len]; omega
  have hbl : (behindW ⟨(tkHeadW t).b, (tkHeadW t).bad⟩ ⟨(exsW L).b, (exsW L).bad⟩).b.length ≤ 1099511627776 := by
    show ((tkHeadW t).b ++ (exsW L).b).length ≤ _
    rw [List.length_append, tkHeadW_len]; have := HX1.out; have := HX2.out; omega
  have HHL := hid hhl
  have HEL := hid hel
  have HBL := hid hbl
  clear hhl hel hbl
  go_wp2_with fail
  go_region_held3 (fun w' => w'.cell? ⟨s + 1, 0, none⟩ = some (.slice A6 n6 c6) ∧ w'.cell? ⟨s + 1, 1, none⟩ = some (.bool (tkHeadW t).bad)) (go_keep)
    (first
      | (go_at_call 37; refine (extensions_any_w (hc6.upd ((Upd.refl [] w6).drew) (by simp)) (by have := HX.out; omega)).mono ?_; rintro e w7 ⟨v7, rfl, hy7, hn7, ⟨A7, n7, c7, rfl⟩, hu7⟩; have hb7 := (hb6.drew).upd hu7 (by simp); have s0 := hb7.cell 0; have s1 := hb7.cell 1; simp at s0 s1; have hy67 := Row.upd (Row.drew hy6) hu7 (by simp))
      | (go_at_call 36; refine (behind_any hy67 hy7 _ _ HHL.out (by have := HEL.out; omega)).mono ?_; rintro e w8 ⟨v8, rfl, hy8, hn8, ⟨A8, n8, c8, rfl⟩, hu8⟩; have hb8 := hb7.upd hu8 (by simp); have s0' := hb8.cell 0; have s1' := hb8.cell 1; simp at s0' s1')
      | (go_at_call 35; refine (message_any 4 _ hy8 HBL.out).mono ?_; rintro e w9 ⟨v9, rfl, hy9, hn9, ⟨A9, n9, c9, rfl⟩, hu9⟩; have hb9 := hb8.upd hu9 (by simp); have s0'' := hb9.cell 0; have s1'' := hb9.cell 1; simp at s0'' s1''))
  all_goals
    have hU := ((hu6.drew).trans hu7 (by simp)).trans hu8 (by simp)
    have HF := hid (hU.trans hu9 (by simp))
    have HN := hid (fun k (hk : (Value.slice A9 n9 c9).ownBlock = some k) => Nat.le_trans hU.size (hn9 k hk))
    have HY := hid hy9
    clear hy9 hn9 hu9
    go_wp2
    go_ret2
    exact ⟨_, rfl, HY.out, HN.out, ⟨_, _, _, rfl⟩, HF.out⟩
end
end Go.Proofs.Ytcdjbciifnoajaa

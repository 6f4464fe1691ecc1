/- EncryptedExtensions: the small functions that the laws ask; the argument opened. -/
import Derived.Test.YtcdjbciifnoajaaEeMade
import Derived.Test.YtcdjbciifnoajaaLift
import Derived.Test.YtcdjbciifnoajaaGen
namespace Go.Proofs.Ytcdjbciifnoajaa
open Go.Joins Go.ChangeShapes Go.WideShapes Go.RowKit Go.Deep
set_option maxRecDepth 100000

/-- the sizes of which the law speaks -/
def EeSz (t : Ee) : Prop := t.alpn.length ≤ 2147483647 ∧ t.quic.length ≤ 2147483647 ∧ t.ech.length ≤ 2147483647
def eeRight (t : Ee) : Bool := t.has || decide (t.quic.length = 0)
theorem eeRight_iff {t : Ee} (h : eeRight t = true) : t.has = true ∨ t.quic = [] := by
  unfold eeRight at h
  rw [Bool.or_eq_true] at h
  rcases h with h | h
  · exact .inl h
  · exact .inr (List.eq_nil_of_length_eq_zero (of_decide_eq_true h))
section
variable {w w' : World} {B C N : Nat} {v content : Value} {t : Ee} {L : List Ex}
theorem Right_Ee (hv : EeV w B v t) : Calls Try.prog 26 #[v] w fun e w' => e = .returned (.bool (eeRight t)) ∧ Upd [] w w' := by
  obtain ⟨A1, c1, A2, c2, rfl, x1, x2⟩ := hv
  have he : eeRight t = (t.has || decide (t.quic.length = 0)) := rfl
  rw [he]
  rcases bcase t.has with hz | hz
  · rw [hz]
    go_enter Try.func26, Try.ntmps26
    go_wp2
    go_ret
    exact ⟨by simp, (Upd.refl _ _).alloc _⟩
  · rw [hz]
    by_cases hq : t.quic.length = 0
    case' pos => have hq' : ((t.quic.length : Int) == 0) = true := by rw [beq_iff_eq]; omega
    case' neg => have hq' : ((t.quic.length : Int) == 0) = false := by rw [beq_eq_false_iff_ne]; omega
    all_goals
      have HQ := hid hq
      clear hq
      go_enter Try.func26, Try.ntmps26
      go_wp2
      go_ret
      exact ⟨by have := HQ.out; simp [this], (Upd.refl _ _).alloc _⟩
theorem zzFits_Ee (hv : EeV w B v t) : Calls Try.prog 25 #[v] w (FitsP w (EeSz t)) := by
  obtain ⟨A1, c1, A2, c2, rfl, x1, x2⟩ := hv
  rcases bcase (decide ((2147483647 : Int) < (t.alpn.length : Int))) with b1 | b1
  · go_enter Try.func25, Try.ntmps25
    go_wp2
    go_ret
    exact ⟨false, rfl, (Upd.refl _ _).alloc _, fun h => (by cases h)⟩
  rcases bcase (decide ((2147483647 : Int) < (t.quic.length : Int))) with b2 | b2
  · have B1 := hid b1
    go_enter Try.func25, Try.ntmps25
    go_wp2
    go_ret
    exact ⟨false, rfl, (Upd.refl _ _).alloc _, fun h => (by cases h)⟩
  rcases bcase (decide ((2147483647 : Int) < (t.ech.length : Int))) with b3 | b3
  · go_enter Try.func25, Try.ntmps25
    go_wp2
    go_ret
    exact ⟨false, rfl, (Upd.refl _ _).alloc _, fun h => (by cases h)⟩
  have B1 := hid (of_decide_eq_false b1)
  have B2 := hid (of_decide_eq_false b2)
  have B3 := hid (of_decide_eq_false b3)
  go_enter Try.func25, Try.ntmps25
  go_wp2
  go_ret
  exact ⟨true, rfl, (Upd.refl _ _).alloc _, fun _ => ⟨by have := B1.out; omega, by have := B2.out; omega, by have := B3.out; omega⟩⟩
theorem Exts_Ee (hv : EeV w B v t) (hz : EeSz t) : Calls Try.prog 27 #[v] w (ExL w (eeExtL t)) := EncryptedExtensionsOf_any hv hz.1
theorem Mar_Ee (hv : EeV w B v t) (hr : eeRight t = true) (hz : EeSz t) : Calls Try.prog 31 #[v] w (MadeP w (eeMake t)) := impl_MarshalEe hv (eeRight_iff hr) hz.1 hz.2.1 hz.2.2
theorem Write_Ee (hc : Exr w C N content L) (hx : (exsB L).length ≤ 1000000000000) : Calls Try.prog 28 #[content] w (MsgP w (messageW 8 (exsW L))) := by
  obtain ⟨A3, c3, rfl, hc, -, -⟩ := hc.shrink.form
  have hel : (exsW L).b.length ≤ 1099511627776 := by rw [exsW_eq]; simp [be_len]; omega
  have HEL := hid hel
  have H := hid (extensions_any_w hc (by omega))
  clear hx hel
  go_enter Try.func28, Try.ntmps28
  go_wp2_with fail
  refine H.out.mono ?_
  rintro e w7 ⟨v7, rfl, hy7, hn7, ⟨A7, n7, c7, rfl⟩, hu7⟩
  have H2 := hid (message_any 8 (exsW L).bad hy7 HEL.out)
  clear hy7
  go_wp2_with fail
  refine H2.out.mono ?_
  rintro e w9 ⟨v9, rfl, hy9, hn9, ⟨A9, n9, c9, rfl⟩, hu9⟩
  go_wp2
  go_ret2
  exact ⟨_, rfl, hy9, fun k hk => Nat.le_trans hu7.size (hn9 k hk), ⟨_, _, _, rfl⟩, hu7.trans hu9 (by simp)⟩
theorem eeW_b (L : List Ex) : (messageW 8 (exsW L)).b = eeMsg L := by
  rw [messageW_msgB, exsW_eq]; rfl
theorem eeExts_size (t : Ee) (hz : EeSz t) : (exsB (eeExtL t).l).length ≤ 10000000000 := by
  have h := eeSz t
  have b1 := bz_le (!t.alpn.isEmpty) (7 + t.alpn.length)
  have b2 := bz_le t.has (4 + t.quic.length)
  have b3 := bz_le t.early 4
  have b4 := bz_le (!t.ech.isEmpty) (4 + t.ech.length)
  have b5 := bz_le t.ack 4
  obtain ⟨z1, z2, z3⟩ := hz
  unfold eeE at h
  omega
theorem eeE_few (t : Ee) : (eeExtL t).l.length ≤ 1000 := by
  unfold eeExtL
  have h1 := LW.add_len LW.nil (!t.alpn.isEmpty) 16 (Wr.vector 2 (vecsW 1 [t.alpn]))
  have h0 : LW.nil.l.length = 0 := rfl
  refine Nat.le_trans (LW.add_len _ _ _ _) (Nat.le_trans (Nat.succ_le_succ (LW.add_len _ _ _ _)) (Nat.le_trans (Nat.succ_le_succ (Nat.succ_le_succ (LW.add_len _ _ _ _))) (Nat.le_trans (Nat.succ_le_succ (Nat.succ_le_succ (Nat.succ_le_succ (LW.add_len _ _ _ _)))) ?_)))
  omega
theorem ee_read (t : Ee) (hr : t.has = true ∨ t.quic = []) (hb : (eeExtL t).bad = false) (hW : (messageW 8 (exsW L)).bad = false) (hL : ListsE (eeE t) L) : eeRead (eeMsg L) = some t := by
  have h2 : (exsB L).length < 65536 := by
    rw [messageW_msgB] at hW
    simp only [exsW_short, Bool.or_eq_false_iff, decide_eq_false_iff_not] at hW
    omega
  rw [eeRead_msg _ h2 hL.1]
  exact ee_run t hr (eeBad t hb) hL
theorem eeRead_all {data : List UInt8} (h : eeRead data = some t) : eeRight t = true ∧ EeSz t ∧ eeFits t = true := by
  obtain ⟨h1, h2⟩ := eeRead_sizes h
  obtain ⟨h3, h4⟩ := (eeFits_iff t).1 h2
  have h5 := eeBad t h3
  have h6 := eeSz t
  refine ⟨?_, ⟨by omega, ?_, ?_⟩, h2⟩
  · unfold eeRight
    rcases h1 with h | h
    · rw [h]; rfl
    · rw [h]; simp
  · rcases h1 with h | h
    · rw [h, bz_true] at h6; omega
    · rw [h]; simp
  · by_cases h : t.ech = []
    · rw [h]; simp
    · have : (!t.ech.isEmpty) = true := by cases hx : t.ech with | nil => exact absurd hx h | cons y p => rfl
      rw [this, bz_true] at h6; omega
end
theorem open_ee {H : Type} {enc : TypeId × Value → H} {W : World} {v : Value} {d : DataW H} {p : List MemPlace} {base : Nat}
    (hv : Value.okWide Try.prog W .any base 44 v) (h : DataW.Trod enc Try.prog W 0 (fun _ => true) true 44 v d p) : ∃ t, EeV W W.heap.size v t := by
  obtain ⟨l, n, rfl, hl, hg⟩ := open_aggN Try.underlying44 (by kernel_rfl) (by kernel_rfl) hv h
  match l, hl with
  | [v0, v1, v2, v3, v4, v5], _ =>
    obtain ⟨_, y0, e0, h0⟩ := hg 0 _ rfl
    obtain ⟨_, y1, e1, h1⟩ := hg 1 _ rfl
    obtain ⟨_, y2, e2, h2⟩ := hg 2 _ rfl
    obtain ⟨_, y3, e3, h3⟩ := hg 3 _ rfl
    obtain ⟨_, y4, e4, h4⟩ := hg 4 _ rfl
    obtain ⟨_, y5, e5, h5⟩ := hg 5 _ rfl
    injection e0 with e0; injection e1 with e1; injection e2 with e2; injection e3 with e3; injection e4 with e4; injection e5 with e5
    subst e0 e1 e2 e3 e4 e5
    obtain ⟨a0, rfl⟩ := string_trod h0
    obtain ⟨a1, rfl⟩ := bool_trod h1
    obtain ⟨a2, k2⟩ := bytes_trod h2
    obtain ⟨a3, rfl⟩ := bool_trod h3
    obtain ⟨a4, k4⟩ := bytes_trod h4
    obtain ⟨a5, rfl⟩ := bool_trod h5
    obtain ⟨A2, c2, rfl, k2, -, -⟩ := Byt.form k2 rfl
    obtain ⟨A4, c4, rfl, k4, -, -⟩ := Byt.form k4 rfl
    exact ⟨⟨a0, a1, a2, a3, a4, a5⟩, A2, c2, A4, c4, rfl, k2, k4⟩
end Go.Proofs.Ytcdjbciifnoajaa

/- The law CertificateBytes. -/
import Derived.Test.YtnghnifihnjfeaaCertU
namespace Go.Proofs.Ytnghnifihnjfeaa
open Go.ChangeShapes Go.WideShapes Go.ChangeAt Go.RowKit
set_option maxRecDepth 100000

theorem readCertificate_lp {data : List UInt8} (h4 : 4 ≤ data.length) : readCertificate data = (match lp 3 (data.drop 4) with
    | some (x, []) => certs x
    | _ => none) := by
  unfold readCertificate lp
  by_cases h7 : data.length < 7
  · rw [if_pos h7, if_neg (show ¬ 3 ≤ (data.drop 4).length by simp; omega)]
  · rw [if_neg h7, if_pos (show 3 ≤ (data.drop 4).length by simp; omega)]
    have e : (data.drop 4).drop 3 = data.drop 7 := by simp
    rw [e]
    by_cases k : data.length = beNat ((data.drop 4).take 3) + 7
    · rw [if_pos k, if_pos (show beNat ((data.drop 4).take 3) ≤ (data.drop 7).length by simp; omega)]
      have e1 : (data.drop 7).take (beNat ((data.drop 4).take 3)) = data.drop 7 := List.take_of_length_le (by simp; omega)
      have e2 : (data.drop 7).drop (beNat ((data.drop 4).take 3)) = [] := List.drop_eq_nil_of_le (by simp; omega)
      rw [e1, e2]
    · rw [if_neg k]
      by_cases k2 : beNat ((data.drop 4).take 3) ≤ (data.drop 7).length
      · rw [if_pos k2]
        rcases hd : (data.drop 7).drop (beNat ((data.drop 4).take 3)) with _ | ⟨y, t⟩
        · have := List.drop_eq_nil_iff.1 hd
          simp at this k2
          omega
        · rfl
      · rw [if_neg k2]
/-- what the reference makes of a Certificate's bytes -/
def cerB (data : List UInt8) : List UInt8 × R := (bodyR 11 data).vec 3 0 16777215
def cerV (data : List UInt8) : List (List UInt8) × R := (cerB data).2.vectors (cerB data).1 3 1
theorem cer_law (data : List UInt8) : ((cerV data).2.fin.code = 0 → readCertificate data = some (cerV data).1) ∧ ((cerV data).2.fin.code = 3 → readCertificate data = none) := by
  unfold cerV cerB
  rcases bodyR_two 11 data with h | ⟨h, h4, -, hl⟩
  · have h2 := R.vec_code (s := bodyR 11 data) (by rw [h]; decide) 3 0 16777215
    have h3 : (((bodyR 11 data).vec 3 0 16777215).2.vectors ((bodyR 11 data).vec 3 0 16777215).1 3 1).2.code = 1 := by
      unfold R.vectors
      exact (R.done_code (by rw [h2, h]; decide) _).trans (h2.trans h)
    have h4 := R.fin_code (s := (((bodyR 11 data).vec 3 0 16777215).2.vectors ((bodyR 11 data).vec 3 0 16777215).1 3 1).2) (by rw [h3]; decide)
    rw [h4, h3]
    exact ⟨fun h => by omega, fun h => by omega⟩
  · rw [h, readCertificate_lp h4]
    rcases hL : lp 3 (data.drop 4) with _ | ⟨x, r⟩
    · rw [R.vec_none hL]
      exact ⟨fun h => (by cases h), fun _ => rfl⟩
    · have hlen := (lp_len hL).1
      rw [R.vec_some hL, R.rng_in (Nat.zero_le _) (show x.length ≤ 16777215 by omega)]
      obtain ⟨g1, g2, g3⟩ := vecsGo_certs x.length x (Nat.le_refl _)
      have hv : (R.mk r 0).vectors x 3 1 = ((R.vecsGo 3 1 x.length ⟨x, 0⟩).1, (R.mk r 0).done (R.vecsGo 3 1 x.length ⟨x, 0⟩).2) := rfl
      rw [hv]
      generalize R.vecsGo 3 1 x.length ⟨x, 0⟩ = g at g1 g2 g3
      obtain ⟨l, ⟨gb, gc⟩⟩ := g
      have g3 : gb = [] := g3
      subst g3
      have g1 : gc = 0 → certs x = some l := g1
      have g2 : gc = 3 → certs x = none := g2
      by_cases k0 : gc = 0
      · subst k0
        have hd : (R.mk r 0).done ⟨[], 0⟩ = ⟨r, 0⟩ := rfl
        rw [hd]
        rcases r with _ | ⟨y, t⟩
        · exact ⟨fun _ => g1 rfl, fun h => (by cases h)⟩
        · exact ⟨fun h => (by cases h), fun _ => rfl⟩
      · have hd : (R.mk r 0).done ⟨[], gc⟩ = ⟨[], gc⟩ := by
          unfold R.done
          have : (R.mk [] gc).fin = ⟨[], gc⟩ := rfl
          rw [this, if_neg k0]
          rfl
        rw [hd]
        have hf : (R.mk [] gc).fin = ⟨[], gc⟩ := rfl
        rw [hf]
        refine ⟨fun h => absurd h k0, fun h => ?_⟩
        rcases r with _ | ⟨y, t⟩
        · exact g2 h
        · rfl

section
variable {w w' : World} {B : Nat} {v content : Value} {xs data : List UInt8} {e : Ending}

/-- what impl's readers hand back: lists of bytes, and whether they were read -/
def UnL (w : World) (o : Option (List (List UInt8))) (e : Ending) (w' : World) : Prop :=
  ∃ u, isSlice u ∧ e = .returned (.tuple #[u, .bool o.isSome]) ∧ Upd [] w w' ∧ ∀ x, o = some x → Lst w' w'.heap.size u x
theorem tls_UnmarshalCertificate (hv : Byt w B v data) (hx : data.length ≤ 2147483647) : Calls Try.prog 69 #[v] w (UnL w (readCertificate data)) := by
  obtain ⟨A, c, rfl, hv, hl, hc⟩ := Byt.form hv rfl
  have hm0 := Blk.new w 122 #[.slice none 0 0]
  have H1 := hid (unmarshal_Certificate hm0 (Row.alloc (Row.shrink hv) _) (Nat.le_refl _) hx)
  clear hx
  have hu0 : Upd [] w _ := (Upd.refl [] w).alloc (.cells #[.slice none 0 0] 122)
  go_enter Try.func69, Try.ntmps69
  go_wp2_with fail
  refine (H1.out).mono ?_
  rintro e w1 ⟨rfl, hu, u, ⟨A1, n1, c1, rfl⟩, hb, hx⟩
  have c0 := hb.cell 0
  simp at c0
  go_wp2
  go_ret2
  exact ⟨_, ⟨A1, n1, c1, rfl⟩, rfl, hu0.trans hu (by simp), hx⟩
theorem impl_UnmarshalCertificate (hv : Byt w B v data) (hx : data.length ≤ 2147483647) : Calls Try.prog 39 #[v] w (UnL w (readCertificate data)) := by
  obtain ⟨A, c, rfl, hv, hl, hc⟩ := Byt.form hv rfl
  have H1 := hid (tls_UnmarshalCertificate hv hx)
  clear hx
  go_enter Try.func39, Try.ntmps39
  go_wp2_with fail
  refine (H1.out).mono ?_
  rintro e w1 ⟨u, ⟨A1, n1, c1, rfl⟩, rfl, hu, hx⟩
  go_wp2
  go_ret2
  exact ⟨_, ⟨A1, n1, c1, rfl⟩, rfl, hu, hx⟩

/-- what the reference's readers of lists hand back -/
def RefL (w : World) (x : List (List UInt8)) (code : Nat) (e : Ending) (w' : World) : Prop :=
  ∃ u C, isSlice u ∧ code = C ∧ e = .returned (.tuple #[u, .int .i64 (C : Int)]) ∧ Upd [] w w' ∧ Lst w' w'.heap.size u x
theorem ReadCertificate_any (hv : Byt w B v data) : Calls Try.prog 38 #[v] w (RefL w (cerV data).1 (cerV data).2.fin.code) := by
  obtain ⟨A, c, rfl, hv, hl, hc⟩ := Byt.form hv rfl
  have H1 := hid (body_any (Nat.le_refl _) (Row.shrink hv) 11)
  have hbl : (cerB data).1.length ≤ 4294967296 := by
    unfold cerB R.vec
    simp only
    split
    · rw [take_len]
      have := num_lt (bodyR 11 data) 3 (by omega)
      omega
    · simp
  have HB := hid hbl
  clear hbl
  go_enter Try.func38, Try.ntmps38
  go_wp2_with fail
  refine H1.out.mono ?_
  rintro e w1 ⟨rfl, hu1, hr1⟩
  have H3 := hid (vec_any hr1 3 0 16777215 (by omega))
  go_wp2_with fail
  refine H3.out.mono ?_
  rintro e w3 ⟨u, rfl, hu3, hr3, hb3⟩
  obtain ⟨A3, c3, rfl, hb3, -⟩ := Byt.form hb3 rfl
  have H2 := hid (vectors_any3 hr3 hb3 HB.out 1)
  go_wp2_with fail
  refine H2.out.mono ?_
  rintro e w2 ⟨u2, rfl, hl2, hu2, hr2⟩
  obtain ⟨Al, cl, rfl, -⟩ := hl2.lst.form
  have H4 := hid (end_any hr2)
  go_wp2_with fail
  refine H4.out.mono ?_
  rintro e w4 ⟨rfl, hu4, hr4⟩
  have hu : Upd [] w w4 := ((hu1.trans hu3 (by simp)).trans hu2 (by simp)).trans hu4 (by simp)
  have hne : ∀ g, (Value.slice Al (cerV data).1.length cl).ownBlock = some g → g ∉ [w.heap.size] := by
    intro g hg hm
    obtain ⟨vs, ho, _⟩ := hl2
    have := (ho.ge hg).1
    have := hr3.lt
    simp at hm
    omega
  have hl4 := (hl2.upd hu4 hne (by simp)).lst
  obtain ⟨A2, c2, d0, d1, g0, g1, hl2, hc2⟩ := hr4.open_
  go_wp2_with fail
  go_quiet (fail)
  go_wp2
  go_ret2
  exact ⟨_, _, ⟨Al, _, cl, rfl⟩, rfl, rfl, hu.drewN _, (hl4.upd ((Upd.refl [] w4).drewN _) (by simp))⟩
theorem law_CertificateBytes {B : Nat}  (hc : Byt w B content xs) : Calls Try.prog 13 #[content] w (LawP w) := by
  obtain ⟨A, c, rfl, hc, hl, hcc⟩ := Byt.form hc rfl
  by_cases hbig : 2147483647 < xs.length
  · have hb : decide ((2147483647 : Int) < (xs.length : Int)) = true := decide_eq_true (by omega)
    clear hbig
    go_enter Try.func13, Try.ntmps13
    go_wp2
    go_ret
    exact ⟨rfl, Upd.refl _ _⟩
  have hb : decide ((2147483647 : Int) < (xs.length : Int)) = false := decide_eq_false (by omega)
  have hx : xs.length ≤ 2147483647 := by omega
  clear hbig
  have hr1 := ReadCertificate_any hc
  obtain ⟨l1, l2⟩ := cer_law xs
  generalize hO : readCertificate xs = O at l1 l2
  have G1 : ∀ w1 : World, Upd [] w w1 → Hid (Calls Try.prog 39 #[.slice A xs.length c] w1 (UnL w1 O)) := by
    intro w1 hu
    have := impl_UnmarshalCertificate (Row.upd (Row.shrink hc) hu (by simp)) hx
    rw [hO] at this
    exact this
  have H1 := hid hr1
  clear hr1 hO hx hc hl hcc
  go_enter Try.func13, Try.ntmps13
  go_wp2_with fail
  refine H1.out.mono ?_
  rintro e w1 ⟨v1, C, ⟨A1, n1, c1, rfl⟩, hC, rfl, hu1, hb1⟩
  rw [hC] at l1 l2
  have H2 := G1 _ hu1
  clear G1 hC H1
  go_wp2_with fail
  refine H2.out.mono ?_
  rintro e w2 ⟨u2, ⟨A2, n2, c2, rfl⟩, rfl, hu2, hb2⟩
  have hu := hu1.trans hu2 (by simp)
  have HA := hid (alive_any (w := w2))
  have key : (C = 0 ∧ O = some ((cerV xs).1)) ∨ (C = 3 ∧ O = none) ∨ (C ≠ 0 ∧ C ≠ 3) := by
    by_cases k0 : C = 0
    · exact .inl ⟨k0, l1 k0⟩
    · by_cases k3 : C = 3
      · exact .inr (.inl ⟨k3, l2 k3⟩)
      · exact .inr (.inr ⟨k0, k3⟩)
  clear l1 l2 H2
  rcases key with ⟨rfl, rfl⟩ | ⟨rfl, rfl⟩ | ⟨k0, k3⟩
  · have h5 := SameLists_any (hb2 _ rfl) (hb1.upd hu2 (by simp))
    rw [beq_self_eq_true] at h5
    have H5 := hid h5
    clear h5 hb2
    go_wp2_with fail
    refine H5.out.mono ?_
    rintro e w5 ⟨rfl, rfl⟩
    go_wp2
    go_ret
    exact ⟨rfl, hu⟩
  · clear hb2
    go_wp2_with fail
    refine HA.out.mono ?_
    rintro e w3 ⟨rfl, hu3⟩
    go_wp2
    go_ret
    exact ⟨rfl, hu.trans hu3 (by simp)⟩
  · have e0 : ((C : Int) == 0) = false := by rw [beq_eq_false_iff_ne]; omega
    have e3 : ((C : Int) == 3) = false := by rw [beq_eq_false_iff_ne]; omega
    clear hb2
    go_wp2_with fail
    refine HA.out.mono ?_
    rintro e w3 ⟨rfl, hu3⟩
    go_wp2
    go_ret
    exact ⟨rfl, hu.trans hu3 (by simp)⟩
end
set_option maxRecDepth 100000 in
theorem lifted_CertificateBytes (os : Os) (started : os.Started) (H : Type) (enc : TypeId × Value → H) :
    ReturnsInHanded {} Try.checked os 13 .any (Rows.fnCertificateBytesSpec.pre6 enc Try.prog Try.f13 Rows.fnCertificateBytesRow.domain false) (Rows.fnCertificateBytesSpec.post enc Try.prog Try.f13 false true false false) := by
  refine returnsInHanded_of_change (C := Try.checked) own started (by kernel_rfl) Try.func13
    (ChangeSpec.witness6 (enc := enc) (C := Try.checked) false ⟨#[], #[.slice none 0 0], []⟩ 8 (by kernel_rfl) (by kernel_rfl) (by kernel_rfl) (by kernel_rfl)) ?_
  intro W base args ds gs before hval0 hW hcnd _
  have hval : ∀ (j : Nat) t v, Try.f13.params[j]? = some t → args[j]? = some v → Value.okWide Try.prog W .any base t v := hval0
  have hW' := hW
  obtain ⟨p, q, hA0, hV, rfl, hfz, hnd⟩ := hW
  have hA : DataW.TrodAll enc Try.prog W 0 (fun _ => true) true Try.f13.params.toList args.toList ds p := hA0
  rw [Try.params13] at hA hval
  obtain ⟨v0, vs0, d0, ds0, p0, q0, hargs, rfl, rfl, h0, r0⟩ := trodAll_cons hA
  obtain ⟨rfl, rfl, rfl⟩ := trodAll_nil r0
  obtain rfl : args = #[v0] := by cases args; simp_all
  obtain ⟨data, y0⟩ := open_bytes (hval 0 22 _ rfl rfl) h0
  exact (law_CertificateBytes y0).mono fun e W' h => law_post hW' rfl rfl (by kernel_rfl) (by kernel_rfl) h
theorem CertificateBytes_holds : Rows.FnCertificateBytesSaid :=
  OpenClaim.holds_of_wide 13 Try.f13 rfl rfl rfl rfl rfl rfl rfl ⟨rfl, rfl, rfl, rfl, rfl⟩ rfl rfl rfl rfl rfl (by kernel_rfl) Try.func13 (by kernel_rfl)
    (of_decide_eq_true (by kernel_rfl)) (by unfold Func.isWrapper; first | (rw [if_pos (by decide +kernel)]; kernel_rfl) | (rw [if_neg (by decide +kernel)]; exact ⟨rfl, rfl⟩))
    (fun os started H enc _ => lifted_CertificateBytes os started H enc)
end Go.Proofs.Ytnghnifihnjfeaa

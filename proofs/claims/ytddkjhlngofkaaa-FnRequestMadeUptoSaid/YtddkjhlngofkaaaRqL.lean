/- CertificateRequest up to TLS 1.2: the small functions that the laws ask; the argument opened. -/
import Derived.Test.YtddkjhlngofkaaaRqMade
import Derived.Test.YtddkjhlngofkaaaRqV
import Derived.Test.YtddkjhlngofkaaaLift
import Derived.Test.YtddkjhlngofkaaaNone
import Derived.Test.YtddkjhlngofkaaaBulk
import Derived.Test.YtddkjhlngofkaaaWSt
namespace Go.Proofs.Ytddkjhlngofkaaa
open Go.Joins Go.ChangeShapes Go.WideShapes Go.RowKit Go.Deep
set_option maxRecDepth 100000
/-- what the bound on the bulk says of it -/
def RqBulk (t : Rq) : Prop := (vecsB 2 t.cas).length ≤ 4194304
def RqSz (t : Rq) : Prop := t.types.length ≤ 2147483647 ∧ t.sig.length ≤ 2147483647 ∧ (vecsB 2 t.cas).length ≤ 4194304
section
variable {w wi w2 : World} {p m : Nat} {T : TypeId} {cs : Array Value} {s s' : Wr} {e : Ending} {v : Value}
/-- a step of the writer whose row is known -/
theorem WSt.nextV (h : WSt w p m T cs wi s) (hw : Wrt wi p p v s) (hp : WrtP wi p p v s' e w2) : e = .returned (.tuple #[]) ∧ WSt w p m T cs w2 s' := by
  obtain ⟨v0, k1, k2, k3, k4, k5⟩ := h
  obtain ⟨he, v', q1, q2, -⟩ := hp
  have hge : ∀ x ∈ p :: v.ownBlock.toList, p ≤ x := by
    intro x hx
    rcases List.mem_cons.1 hx with hx | hx
    · omega
    · exact (hw.2.2.ge (Option.mem_toList.1 hx)).1
  exact ⟨he, v', q1, k2.trans q2 (fun x hx => .inr (by have := hge x hx; omega)), k3.upd q2 (fun hm => by have := hge m hm; omega), k4, k5⟩
theorem WSt.turn {w3 : World} (h : WSt w p m T cs wi s) (hu : Upd [] wi w3) : WSt w p m T cs w3 s := by
  obtain ⟨u, q1, q2, q3, q4, q5⟩ := h
  exact ⟨u, q1.upd hu (by simp) (by simp), q2.trans hu (by simp), q3.upd hu (by simp), q4, q5⟩
/-- bytes in memory newer than the writer's -/
theorem Src.newer {w3 : World} {content : Value} {xs : List UInt8} {C : Nat} (hw : Wrt wi p p v s) (hy : Byt w3 C content xs) (hn : ∀ k, content.ownBlock = some k → wi.heap.size ≤ k) : Src w3 p p v content xs :=
  ⟨_, hy, .inr fun k hk => by
    have h1 := hn k hk
    have h2 := hw.2.1.lt
    exact ⟨by omega, fun h => by have := (hw.2.2.ge h).2; omega⟩⟩
end
section
variable {w w' : World} {B C N : Nat} {v content : Value} {t : Rq}
theorem rq_none (t : Rq) : noneB t.cas 0 0 = t.cas.all fun x => !x.isEmpty := by
  unfold noneB
  congr 1
  funext x
  cases x <;> simp
theorem posB {α : Type} (l : List α) : decide (0 < l.length) = !l.isEmpty := by cases l <;> simp
set_option maxHeartbeats 1000000 in
theorem Right_Rq (hv : RqV w B v t) : Calls Try.prog 37 #[v] w fun e w' => e = .returned (.bool (rqRight t)) ∧ Upd [] w w' := by
  obtain ⟨A1, c1, A2, c2, A3, c3, rfl, x1, x2, x3, z0⟩ := hv
  obtain ⟨w1, hw1⟩ : ∃ w1, w.alloc (.cells #[.bool t.has, .slice A1 t.types.length c1, .slice A2 t.sig.length c2, .slice A3 t.cas.length c3] 26) = w1 := ⟨_, rfl⟩
  have hu1 : Upd [] w w1 := by rw [← hw1]; exact (Upd.refl _ _).alloc _
  have h := none_any (x3.shrink.upd hu1 (by simp)) 0 0
  rw [rq_none] at h
  have H := hid h
  have HW := hid hw1
  have HR := hid (show rqRight t = ((decide (0 < t.types.length) && (t.has == decide (0 < t.sig.length))) && t.cas.all fun x => !x.isEmpty) by rw [posB, posB]; rfl)
  clear h hw1
  rcases bcase (decide (0 < t.types.length)) with b1 | b1
  · rcases bcase (t.has == decide (0 < t.sig.length)) with b2 | b2
    · rw [b1, b2] at HR
      go_enter Try.func37, Try.ntmps37
      go_wp2_with fail
      rw [HW.out]
      refine H.out.mono ?_
      rintro e w2 ⟨rfl, rfl⟩
      go_wp2
      go_ret
      exact ⟨by rw [HR.out]; rfl, hu1⟩
    · rw [b1, b2] at HR
      go_enter Try.func37, Try.ntmps37
      go_wp2
      go_ret
      exact ⟨by rw [HR.out]; rfl, (Upd.refl _ _).alloc _⟩
  · rw [b1] at HR
    go_enter Try.func37, Try.ntmps37
    go_wp2
    go_ret
    exact ⟨by rw [HR.out]; rfl, (Upd.refl _ _).alloc _⟩
theorem zzFits_Rq (hv : RqV w B v t) (hk : RqBulk t) : Calls Try.prog 36 #[v] w (FitsP w (RqSz t)) := by
  obtain ⟨A1, c1, A2, c2, A3, c3, rfl, x1, x2, x3, z0⟩ := hv
  obtain ⟨w1, hw1⟩ : ∃ w1, w.alloc (.cells #[.bool t.has, .slice A1 t.types.length c1, .slice A2 t.sig.length c2, .slice A3 t.cas.length c3] 26) = w1 := ⟨_, rfl⟩
  have hu1 : Upd [] w w1 := by rw [← hw1]; exact (Upd.refl _ _).alloc _
  have H := hid (zzFits2_any (x3.shrink.upd hu1 (by simp)))
  have HW := hid hw1
  clear hw1
  rcases bcase (decide ((2147483647 : Int) < (t.types.length : Int))) with b1 | b1
  · go_enter Try.func36, Try.ntmps36
    go_wp2
    go_ret
    exact ⟨false, rfl, (Upd.refl _ _).alloc _, fun h => (by cases h)⟩
  rcases bcase (decide ((2147483647 : Int) < (t.sig.length : Int))) with b2 | b2
  · have B1 := hid b1
    go_enter Try.func36, Try.ntmps36
    go_wp2
    go_ret
    exact ⟨false, rfl, (Upd.refl _ _).alloc _, fun h => (by cases h)⟩
  have B1 := hid (of_decide_eq_false b1)
  have B2 := hid (of_decide_eq_false b2)
  go_enter Try.func36, Try.ntmps36
  go_wp2_with fail
  rw [HW.out]
  refine H.out.mono ?_
  rintro e w2 ⟨b, rfl, hu2, hz⟩
  cases b
  case false =>
    go_wp2
    go_ret
    exact ⟨false, rfl, hu1.trans hu2 (by simp), fun h => (by cases h)⟩
  case true =>
    go_wp2
    go_ret
    exact ⟨true, rfl, hu1.trans hu2 (by simp), fun _ => ⟨by have := B1.out; omega, by have := B2.out; omega, hk⟩⟩
set_option maxHeartbeats 4000000 in
theorem Write_Rq (hv : RqV w B v t) (hz : RqSz t) : Calls Try.prog 38 #[v] w (MsgP w (messageW 13 (rqWr t))) := by
  obtain ⟨A1, c1, A2, c2, A3, c3, rfl, x1, x2, x3, z0⟩ := hv
  obtain ⟨has, ts, sig, cas⟩ := t
  dsimp only at x1 x2 x3 z0 ⊢
  obtain ⟨w1, hw1⟩ : ∃ w1, (w.alloc (.cells #[.bool has, .slice A1 ts.length c1, .slice A2 sig.length c2, .slice A3 cas.length c3] 26)).alloc (.cells #[.slice none 0 0, .bool false] 87) = w1 := ⟨_, rfl⟩
  obtain ⟨s, hs⟩ : ∃ s, w.heap.size = s := ⟨_, rfl⟩
  have hu1 : Upd [] w w1 := by rw [← hw1]; exact ((Upd.refl _ _).alloc _).alloc _
  have hS : WSt w (s + 1) s 26 #[.bool has, .slice A1 ts.length c1, .slice A2 sig.length c2, .slice A3 cas.length c3] w1 Wr.nil := by
    refine ⟨.slice none 0 0, ⟨Nat.le_refl _, ?_, Own.nil_ _ _ _⟩, hu1, ?_, by omega, by omega⟩
    · have h := Blk.new (w.alloc (.cells #[.bool has, .slice A1 ts.length c1, .slice A2 sig.length c2, .slice A3 cas.length c3] 26)) 87 #[.slice none 0 0, .bool false]
      rw [show (w.alloc (.cells #[.bool has, .slice A1 ts.length c1, .slice A2 sig.length c2, .slice A3 cas.length c3] 26)).heap.size = s + 1 by simp [hs]] at h
      rw [← hw1]; exact h
    · rw [← hw1, ← hs]; exact (Blk.new _ _ _).alloc _
  have HW := hid hw1
  have HS := hid hs
  have HX1 := hid x1
  have HX2 := hid x2
  have HX3 := hid x3
  have Z1 := hid (show ts.length ≤ 2147483647 from hz.1)
  have Z2 := hid (show sig.length ≤ 2147483647 from hz.2.1)
  have Z3 := hid (show (vecsB 2 cas).length ≤ 4194304 from hz.2.2)
  clear hw1 hs hz hu1 x1 x2 x3 z0
  obtain ⟨v1, hk1, nx⟩ := hS.open_
  have H := hid (wvec_any1 hk1 (hS.src HX1.out _) (by simp [Wr.nil]) (by have := Z1.out; omega))
  have d1 := hS.blk.cell 1
  simp at d1
  clear hS hk1
  go_enter Try.func38, Try.ntmps38
  go_upto_region 2 with fail
  rw [HW.out, HS.out]
  go_wp2_with fail
  refine H.out.mono ?_
  intro e w2 hp
  obtain ⟨rfl, hS⟩ := nx _ _ _ hp
  obtain ⟨W1, hW1⟩ : ∃ x, Wr.nil.vec 1 ts = x := ⟨_, rfl⟩
  have hl1 : W1.b.length ≤ 2147483648 := by rw [← hW1]; have := Z1.out; simp [Wr.vec, Wr.nil, be_len]; omega
  rw [hW1] at hS
  have HW1 := hid hW1
  clear nx H d1 hp hW1
  have d0 := hS.blk.cell 0
  simp at d0
  go_upto_if 9 with fail
  go_cut [] (fun wx => ∃ W2 : Wr, W2 = rqW2 ⟨has, ts, sig, cas⟩ ∧ W2.b.length ≤ 6442450950 ∧ WSt w (s + 1) s 26 #[.bool has, .slice A1 ts.length c1, .slice A2 sig.length c2, .slice A3 cas.length c3] wx W2)
  case first =>
    cases has
    case false =>
      go_wp2_with fail
      go_meet
      exact ⟨W1, by rw [← HW1.out]; rfl, by omega, hS⟩
    case true =>
      have d2 := hS.blk.cell 2
      simp at d2
      have H := hid (words_any_w (Row.upd HX2.out.shrink hS.up (by simp)) (by have := Z2.out; omega))
      go_wp2_with fail
      refine H.out.mono ?_
      rintro e w3 ⟨v3, rfl, hy3, hn3, ⟨A3', n3, c3', rfl⟩, hu3⟩
      obtain ⟨v2, hk2, -⟩ := hS.open_
      have hS3 := hS.turn hu3
      have hk4 := hk2.upd hu3 (by simp) (by simp)
      have H4 := hid (winner_any2 hk4 (Src.newer hk2 hy3 hn3) (wordsW sig).bad (by omega) (by show (wordsB sig).length ≤ _; rw [wordsB_len]; have := Z2.out; omega))
      have nx4 := fun s' e wx hp => WSt.nextV (s' := s') (e := e) (w2 := wx) hS3 hk4 hp
      clear H hS hS3 hk2 hk4 d2
      go_wp2_with fail
      refine H4.out.mono ?_
      intro e w5 hp
      obtain ⟨rfl, hS5⟩ := nx4 _ _ _ hp
      go_wp2_with fail
      go_meet
      refine ⟨_, ?_, ?_, hS5⟩
      · rw [← HW1.out]; rfl
      · show (W1.b ++ be 2 _ ++ wordsB sig).length ≤ _
        rw [List.length_append, List.length_append, be_len, wordsB_len]
        have := Z2.out
        omega
  obtain ⟨W2, hW2, hl2, hS⟩ := hcut
  have HW2 := hid hW2
  clear hW2 d0
  have d3 := hS.blk.cell 3
  simp at d3
  have H := hid (vectors_any_w 2 (.inr (.inl rfl)) (HX3.out.shrink.upd hS.up (by simp)) (by have := Z3.out; omega))
  go_wp2_with fail
  refine H.out.mono ?_
  rintro e w3 ⟨v3, rfl, hy3, hn3, ⟨A3', n3, c3', rfl⟩, hu3⟩
  obtain ⟨v2, hk2, -⟩ := hS.open_
  have hS3 := hS.turn hu3
  have hk4 := hk2.upd hu3 (by simp) (by simp)
  have H4 := hid (winner_any2 hk4 (Src.newer hk2 hy3 hn3) (vecsW 2 cas).bad (by omega) (by show (vecsB 2 cas).length ≤ _; have := Z3.out; omega))
  have nx4 := fun s' e wx hp => WSt.nextV (s' := s') (e := e) (w2 := wx) hS3 hk4 hp
  clear H hS hS3 hk2 hk4 d3
  go_wp2_with fail
  refine H4.out.mono ?_
  intro e w5 hp
  obtain ⟨rfl, hS5⟩ := nx4 _ _ _ hp
  have hlW : (W2.inner 2 (vecsW 2 cas)).b.length ≤ 1099511627776 := by
    show (W2.b ++ be 2 _ ++ vecsB 2 cas).length ≤ _
    rw [List.length_append, List.length_append, be_len]
    have := Z3.out
    omega
  have hWE : W2.inner 2 (vecsW 2 cas) = rqWr ⟨has, ts, sig, cas⟩ := by rw [HW2.out]; rfl
  obtain ⟨W3, hW3⟩ : ∃ x, W2.inner 2 (vecsW 2 cas) = x := ⟨_, rfl⟩
  have hS5 : WSt w (s + 1) s 26 #[.bool has, .slice A1 ts.length c1, .slice A2 sig.length c2, .slice A3 cas.length c3] w5 W3 := by rw [← hW3]; exact hS5
  rw [hW3] at hlW hWE
  obtain ⟨v6, hk6, -⟩ := hS5.open_
  have hb6 := hk6.2.1
  have hy6 : Byt w5 w5.heap.size v6 W3.b := hk6.2.2.row
  have hn6 : ∀ k, v6.ownBlock = some k → s + 1 ≤ k := fun k hk => (hk6.2.2.ge hk).1
  obtain ⟨A6, c6, rfl, hy6, -, -⟩ := Byt.form hy6 rfl
  have k0 := hb6.cell 0
  have k1 := hb6.cell 1
  simp at k0 k1
  have H := hid (message_any 13 W3.bad hy6 hlW)
  have hUp := hS5.up
  have HWE := hid hWE
  clear hp nx4 H4 hW3 hWE hS5 hk6 hb6 hy6
  go_wp2_with fail
  refine H.out.mono ?_
  rintro e w9 ⟨v9, rfl, hy9, hn9, ⟨A9, n9, c9, rfl⟩, hu9⟩
  have HF := hid (hUp.trans hu9 (by simp))
  have HN := hid (fun k (hk : (Value.slice A9 n9 c9).ownBlock = some k) => Nat.le_trans hUp.size (hn9 k hk))
  have HY := hid hy9
  have e3 : (⟨W3.b, W3.bad⟩ : Wr) = rqWr ⟨has, ts, sig, cas⟩ := HWE.out
  have HM : Hid (messageW 13 ⟨W3.b, W3.bad⟩ = messageW 13 (rqWr ⟨has, ts, sig, cas⟩)) := hid (by rw [e3])
  clear hy9 hn9 hu9 e3
  rw [HM.out] at HY ⊢
  go_wp2
  go_ret2
  exact ⟨_, rfl, HY.out, HN.out, ⟨_, _, _, rfl⟩, HF.out⟩
end
theorem open_rq {H : Type} {enc : TypeId × Value → H} {W : World} {v : Value} {d : DataW H} {p : List MemPlace} {base : Nat}
    (hv : Value.okWide Try.prog W .any base 26 v) (h : DataW.Trod enc Try.prog W 0 (fun _ => true) true 26 v d p) (hb : Rows.uptoBulk d ≤ 1048576) : ∃ t, RqV W W.heap.size v t ∧ RqBulk t := by
  obtain ⟨l, n, rfl, hl, hg⟩ := open_aggB Try.underlying26 (by kernel_rfl) (by kernel_rfl) hv h
  match l, hl with
  | [v0, v1, v2, v3], _ =>
    obtain ⟨_, y0, e0, h0, -⟩ := hg 0 _ rfl
    obtain ⟨_, y1, e1, h1, k1⟩ := hg 1 _ rfl
    obtain ⟨_, y2, e2, h2, k2⟩ := hg 2 _ rfl
    obtain ⟨_, y3, e3, h3, k3⟩ := hg 3 _ rfl
    injection e0 with e0; injection e1 with e1; injection e2 with e2; injection e3 with e3
    subst e0 e1 e2 e3
    obtain ⟨a0, rfl⟩ := bool_trod h0
    obtain ⟨a1, x1, z1⟩ := bytes_bulk h1
    obtain ⟨a2, x2, z2⟩ := words_trod h2
    obtain ⟨a3, x3, z3⟩ := lists_bulk h3
    obtain ⟨A1, c1, rfl, x1, -, -⟩ := Byt.form x1 rfl
    obtain ⟨A2, c2, rfl, x2, -, -⟩ := Row.formN x2 (n := a2.length) (by simp)
    obtain ⟨A3, c3, rfl, x3, -, -⟩ := x3.form
    refine ⟨⟨a0, a1, a2, a3⟩, ⟨A1, c1, A2, c2, A3, c3, rfl, x1, x2, x3, by show a2.length ≤ _; omega⟩, ?_⟩
    have := vecsB_lst 2 a3
    show (vecsB 2 a3).length ≤ _
    omega
end Go.Proofs.Ytddkjhlngofkaaa

/- Certificate of TLS 1.3: the small functions that the laws ask; the argument opened; the sizes (printed by gen_ctl.py). -/
import Derived.Test.YtddkjhlngofkaaaCtM2
import Derived.Test.YtddkjhlngofkaaaCtW
import Derived.Test.YtddkjhlngofkaaaLift
import Derived.Test.YtddkjhlngofkaaaNone
import Derived.Test.YtddkjhlngofkaaaBulk
namespace Go.Proofs.Ytddkjhlngofkaaa
open Go.Joins Go.ChangeShapes Go.WideShapes Go.RowKit Go.Deep
set_option maxRecDepth 100000
/-- what the bound on the bulk says of it -/
def CtBulkK (K : Nat) (t : Ct) : Prop := lstSz t.certs ≤ K ∧ t.staple.length ≤ K ∧ lstSz t.stamps ≤ K
def CtBulk (t : Ct) : Prop := CtBulkK 1048576 t
theorem ct_prod (a b : Nat) (h : a + b ≤ 1048576) : a * b ≤ 274877906944 := by
  by_cases ha : a ≤ 524288
  · obtain ⟨d, hd⟩ : ∃ d, a + d = 524288 := ⟨524288 - a, by omega⟩
    have h1 : a * b ≤ a * (a + d + d) := Nat.mul_le_mul_left _ (by omega)
    have h2 : (a + d) * (a + d) = 274877906944 := by rw [hd]
    simp only [Nat.mul_add, Nat.add_mul] at h1 h2
    have := Nat.mul_comm a d
    omega
  · obtain ⟨d, hd⟩ : ∃ d, b + d = 524288 := ⟨524288 - b, by omega⟩
    have h1 : a * b ≤ (b + d + d) * b := Nat.mul_le_mul_right _ (by omega)
    have h2 : (b + d) * (b + d) = 274877906944 := by rw [hd]
    simp only [Nat.mul_add, Nat.add_mul] at h1 h2
    have := Nat.mul_comm b d
    omega
theorem lstSz_len (ls : List (List UInt8)) : ls.length ≤ lstSz ls := by
  induction ls with
  | nil => simp
  | cons x ls ih => rw [lstSz_cons, List.length_cons]; omega
theorem lstSz_mem {ls : List (List UInt8)} {x : List UInt8} (h : x ∈ ls) : x.length ≤ lstSz ls := by
  induction ls with
  | nil => cases h
  | cons y ls ih =>
    rw [lstSz_cons]
    rcases List.mem_cons.1 h with h | h
    · rw [h]; omega
    · have := ih h; omega
theorem unknownGo_sz (i : Nat) (l : List (List UInt8)) : (exsB (unknownGo i l)).length ≤ 4 * l.length + lstSz l := by
  induction l generalizing i with
  | nil => simp [unknownGo, exsB]
  | cons x l ih =>
    show (exsB ((_, x) :: unknownGo (i + 1) l)).length ≤ _
    rw [exsB_cons, List.length_append, exB_len, lstSz_cons, List.length_cons]
    have := ih (i + 1)
    show 4 + x.length + (exsB (unknownGo (i + 1) l)).length ≤ 4 * (l.length + 1) + (x.length + 1 + lstSz l)
    omega
theorem ctLi_sz (t : Ct) (F : List Ex) (i : Nat) : (exsB ((ctLi t i).l ++ F)).length ≤ (exsB (ctExtL t).l).length + (exsB F).length := by
  rw [exsB_append, List.length_append]
  unfold ctLi
  split
  · exact Nat.le_refl _
  · have : (exsB LW.nil.l).length = 0 := rfl
    omega
theorem ctExtL_sz {K : Nat} {t : Ct} (h : CtBulkK K t) : (exsB (ctExtL t).l).length ≤ 4 * K + 14 := by
  unfold ctExtL
  rw [size_add, size_add]
  have h0 : (exsB LW.nil.l).length = 0 := rfl
  have h1 := bz_le t.ocsp (4 + (stapleW t.staple).b.length)
  have h2 := bz_le t.scts (4 + (Wr.vector 2 (vecsW 2 t.stamps)).b.length)
  have h3 : (stapleW t.staple).b.length = 4 + t.staple.length := by rw [stapleW_eq]; simp [be_len]; omega
  have h4 : (Wr.vector 2 (vecsW 2 t.stamps)).b.length = 2 + (vecsB 2 t.stamps).length := by rw [vector_b, List.length_append, be_len]; rfl
  have h5 := vecsB_lst 2 t.stamps
  have := h.2.1
  have := h.2.2
  omega
theorem ctFrom_sz (t : Ct) (F : List Ex) (cs : List (List UInt8)) (i : Nat) : (ctFrom t F i cs).length ≤ 5 * lstSz cs + cs.length * (exsB F).length + (if i = 0 then (exsB (ctExtL t).l).length else 0) := by
  induction cs generalizing i with
  | nil => simp [ctFrom]
  | cons c cs ih =>
    show (entB ((ctLi t i).l ++ F) c ++ ctFrom t F (i + 1) cs).length ≤ _
    have h1 := ih (i + 1)
    rw [if_neg (by omega)] at h1
    have h2 : (entB ((ctLi t i).l ++ F) c).length = 5 + c.length + (exsB ((ctLi t i).l ++ F)).length := by
      unfold entB blkB; simp [be_len]; omega
    have h3 : (exsB ((ctLi t i).l ++ F)).length = (if i = 0 then (exsB (ctExtL t).l).length else 0) + (exsB F).length := by
      rw [exsB_append, List.length_append]
      unfold ctLi
      split <;> rfl
    have hm : (cs.length + 1) * (exsB F).length = cs.length * (exsB F).length + (exsB F).length := Nat.succ_mul _ _
    rw [List.length_append, h2, h3, lstSz_cons, List.length_cons, hm]
    omega
theorem ct_take_sz (cs : List (List UInt8)) (j : Nat) : lstSz (cs.take j) ≤ lstSz cs ∧ (cs.take j).length ≤ cs.length := by
  refine ⟨?_, by rw [List.length_take]; omega⟩
  induction cs generalizing j with
  | nil => simp
  | cons c cs ih =>
    cases j with
    | zero => simp [lstSz]
    | succ j =>
      rw [List.take_succ_cons, lstSz_cons, lstSz_cons]
      have := ih j
      omega
/-- the reference's sizes -/
theorem ctWz {K : Nat} {t : Ct} {F : List Ex} (h : CtBulkK K t) (hK : K ≤ 1048576) (hF : (exsB F).length ≤ 32 + (1048576 - K)) (hl : F.length ≤ 1000) : CtWz t F := by
  have hE := ctExtL_sz h
  have hc := h.1
  have h3 := h.2.1
  have h4 := vecsB_lst 2 t.stamps
  have h5 := h.2.2
  refine ⟨fun j hj => ?_, fun i => ?_, fun x hx => ?_, by omega, by omega, hl⟩
  · rw [ctAll_b t F j hj]
    have h1 := ctFrom_sz t F (t.certs.take j) 0
    rw [if_pos rfl] at h1
    obtain ⟨q1, q2⟩ := ct_take_sz t.certs j
    have h6 := lstSz_len t.certs
    have h7 : (t.certs.take j).length * (exsB F).length ≤ K * (32 + (1048576 - K)) := Nat.mul_le_mul (by omega) hF
    have h8 := ct_prod K (1048576 - K) (by omega)
    rw [Nat.mul_add] at h7
    omega
  · have := ctLi_sz t F i
    omega
  · have := lstSz_mem hx
    omega
/-- the package's sizes -/
theorem ctN {t : Ct} (h : CtBulk t) : CtN t := by
  obtain ⟨h1, h2, h3⟩ := h
  have h4 := vecsB_lst 8 t.certs
  have h5 := vecsB_lst 4 t.stamps
  exact ⟨by omega, by omega, by omega⟩
section
variable {w w' : World} {B C N : Nat} {v content : Value} {t : Ct} {L : List Ex}
theorem noneB_all (ls : List (List UInt8)) : noneB ls 0 0 = ls.all fun x => !x.isEmpty := by
  unfold noneB
  congr 1
  funext x
  cases x <;> simp
theorem posE {α : Type} (l : List α) : decide (0 < l.length) = !l.isEmpty := by cases l <;> simp
set_option maxHeartbeats 4000000 in
theorem Right_Ct (hv : CtV w B v t) : Calls Try.prog 29 #[v] w fun e w' => e = .returned (.bool (ctRight t)) ∧ Upd [] w w' := by
  obtain ⟨A1, c1, A2, c2, A3, c3, rfl, x1, x2, x3⟩ := hv
  obtain ⟨w1, hw1⟩ : ∃ w1, w.alloc (.cells #[.slice A1 t.certs.length c1, .bool t.ocsp, .bool t.scts, .slice A2 t.staple.length c2, .slice A3 t.stamps.length c3] 53) = w1 := ⟨_, rfl⟩
  have hu1 : Upd [] w w1 := by rw [← hw1]; exact (Upd.refl _ _).alloc _
  have h := none_any (x1.shrink.upd hu1 (by simp)) 0 0
  have h2 := none_any (x3.shrink.upd hu1 (by simp)) 0 0
  have hR : ctRight t = if (decide (t.certs.length = 0) && (t.ocsp || t.scts)) = true then false else (noneB t.certs 0 0 && (noneB t.stamps 0 0 && ((t.ocsp == decide (0 < t.staple.length)) && (t.scts == decide (0 < t.stamps.length))))) := by
    rw [noneB_all, noneB_all, posE, posE]
    have : decide (t.certs.length = 0) = t.certs.isEmpty := by cases t.certs <;> simp
    rw [this]
    unfold ctRight
    rfl
  rw [hR]
  clear hR
  generalize noneB t.certs 0 0 = b1 at h ⊢
  generalize noneB t.stamps 0 0 = b2 at h2 ⊢
  obtain ⟨s, hs⟩ : ∃ s, w.heap.size = s := ⟨_, rfl⟩
  have hb1 : Blk w1 s 53 #[.slice A1 t.certs.length c1, .bool t.ocsp, .bool t.scts, .slice A2 t.staple.length c2, .slice A3 t.stamps.length c3] := by rw [← hw1, ← hs]; exact Blk.new _ _ _
  have e1 := hb1.cell 1
  have e2 := hb1.cell 2
  have e3 := hb1.cell 3
  have e4 := hb1.cell 4
  simp at e1 e2 e3 e4
  have H := hid h
  have H2 := hid h2
  have HW := hid hw1
  have HS := hid hs
  obtain ⟨certs, oc, sc, st, sp⟩ := t
  dsimp only at *
  clear h h2 hw1 x1 x2 x3 hs hb1
  by_cases hc : certs.length = 0
  all_goals
    have HC := hid hc
    have hz : ((certs.length : Int) == 0) = decide (certs.length = 0) := by
      by_cases h : certs.length = 0
      · rw [h]; rfl
      · rw [decide_eq_false h, beq_eq_false_iff_ne]; omega
  case pos =>
    rw [decide_eq_true hc] at hz ⊢
    clear hc
    cases oc
    · cases sc
      · cases b1
        · go_enter Try.func29, Try.ntmps29
          go_wp2_with fail
          rw [HW.out, HS.out]
          refine H.out.mono ?_
          rintro e w2 ⟨rfl, rfl⟩
          go_wp2
          go_ret
          exact ⟨rfl, hu1⟩
        · cases b2
          · go_enter Try.func29, Try.ntmps29
            go_wp2_with fail
            rw [HW.out, HS.out]
            refine H.out.mono ?_
            rintro e w2 ⟨rfl, rfl⟩
            go_wp2_with fail
            refine H2.out.mono ?_
            rintro e w3 ⟨rfl, rfl⟩
            go_wp2
            go_ret
            exact ⟨rfl, hu1⟩
          · rcases bcase (decide (0 < st.length)) with d3 | d3 <;> rcases bcase (decide (0 < sp.length)) with d4 | d4
            all_goals
              rw [d3, d4]
              go_enter Try.func29, Try.ntmps29
              go_wp2_with fail
              rw [HW.out, HS.out]
              refine H.out.mono ?_
              rintro e w2 ⟨rfl, rfl⟩
              go_wp2_with fail
              refine H2.out.mono ?_
              rintro e w3 ⟨rfl, rfl⟩
              go_wp2
              go_ret
              exact ⟨rfl, hu1⟩
      · go_enter Try.func29, Try.ntmps29
        go_wp2
        go_ret
        exact ⟨rfl, (Upd.refl _ _).alloc _⟩
    · go_enter Try.func29, Try.ntmps29
      go_wp2
      go_ret
      exact ⟨rfl, (Upd.refl _ _).alloc _⟩
  case neg =>
    rw [decide_eq_false hc] at hz ⊢
    clear hc
    cases b1
    · go_enter Try.func29, Try.ntmps29
      go_wp2_with fail
      rw [HW.out, HS.out]
      refine H.out.mono ?_
      rintro e w2 ⟨rfl, rfl⟩
      go_wp2
      go_ret
      exact ⟨rfl, hu1⟩
    · cases b2
      · go_enter Try.func29, Try.ntmps29
        go_wp2_with fail
        rw [HW.out, HS.out]
        refine H.out.mono ?_
        rintro e w2 ⟨rfl, rfl⟩
        go_wp2_with fail
        refine H2.out.mono ?_
        rintro e w3 ⟨rfl, rfl⟩
        go_wp2
        go_ret
        exact ⟨rfl, hu1⟩
      · cases oc <;> cases sc <;> rcases bcase (decide (0 < st.length)) with d3 | d3 <;> rcases bcase (decide (0 < sp.length)) with d4 | d4
        all_goals
          rw [d3, d4]
          go_enter Try.func29, Try.ntmps29
          go_wp2_with fail
          rw [HW.out, HS.out]
          refine H.out.mono ?_
          rintro e w2 ⟨rfl, rfl⟩
          go_wp2_with fail
          refine H2.out.mono ?_
          rintro e w3 ⟨rfl, rfl⟩
          go_wp2
          go_ret
          exact ⟨rfl, hu1⟩
set_option maxHeartbeats 1000000 in
theorem zzFits_CtK (hv : CtV w B v t) : Calls Try.prog 28 #[v] w (FitsP w True) := by
  obtain ⟨A1, c1, A2, c2, A3, c3, rfl, x1, x2, x3⟩ := hv
  obtain ⟨w1, hw1⟩ : ∃ w1, w.alloc (.cells #[.slice A1 t.certs.length c1, .bool t.ocsp, .bool t.scts, .slice A2 t.staple.length c2, .slice A3 t.stamps.length c3] 53) = w1 := ⟨_, rfl⟩
  have hu1 : Upd [] w w1 := by rw [← hw1]; exact (Upd.refl _ _).alloc _
  obtain ⟨s, hs⟩ : ∃ s, w.heap.size = s := ⟨_, rfl⟩
  have hb1 : Blk w1 s 53 #[.slice A1 t.certs.length c1, .bool t.ocsp, .bool t.scts, .slice A2 t.staple.length c2, .slice A3 t.stamps.length c3] := by rw [← hw1, ← hs]; exact Blk.new _ _ _
  have H := hid (zzFits2_any (x1.shrink.upd hu1 (by simp)))
  have HX3 := hid x3.shrink
  have HW := hid hw1
  have HS := hid hs
  clear hw1 hs x1 x2 x3
  rcases bcase (decide ((2147483647 : Int) < (t.staple.length : Int))) with b1 | b1
  all_goals
    go_enter Try.func28, Try.ntmps28
    go_wp2_with fail
    rw [HW.out, HS.out]
    refine H.out.mono ?_
    rintro e w2 ⟨b, rfl, hu2, -⟩
    have hU2 := hu1.trans hu2 (by simp)
    have hb2 := hb1.upd hu2 (by simp)
    have d3 := hb2.cell 3
    have d4 := hb2.cell 4
    simp at d3 d4
    cases b
    case false =>
      go_wp2
      go_ret
      exact ⟨false, rfl, hU2, fun _ => trivial⟩
  · go_wp2
    go_ret
    exact ⟨false, rfl, hU2, fun _ => trivial⟩
  · have H2 := hid (zzFits2_any (HX3.out.upd hU2 (by simp)))
    go_wp2_with fail
    refine H2.out.mono ?_
    rintro e w3 ⟨b, rfl, hu3, -⟩
    cases b
    all_goals
      go_wp2
      go_ret
      exact ⟨_, rfl, hU2.trans hu3 (by simp), fun _ => trivial⟩
/-- the law's sizes are the bulk's -/
def CtSz (t : Ct) : Prop := CtBulk t
theorem zzFits_Ct (hv : CtV w B v t) (hk : CtBulk t) : Calls Try.prog 28 #[v] w (FitsP w (CtSz t)) :=
  (zzFits_CtK hv).mono fun _ _ ⟨b, h1, h2, _⟩ => ⟨b, h1, h2, fun _ => hk⟩
theorem Mar_Ct (hv : CtV w B v t) (hr : ctRight t = true) (hz : CtBulk t) : Calls Try.prog 35 #[v] w (MadeP w (ctMake t)) := impl_MarshalCt hv (ctN hz) (ctRight_iff hr)
end
theorem open_ctK {H : Type} {enc : TypeId × Value → H} {W : World} {v : Value} {d : DataW H} {p : List MemPlace} {base K : Nat}
    (hv : Value.okWide Try.prog W .any base 53 v) (h : DataW.Trod enc Try.prog W 0 (fun _ => true) true 53 v d p) (hb : Rows.uptoBulk d ≤ K) : ∃ t, CtV W W.heap.size v t ∧ CtBulkK K t := by
  obtain ⟨l, n, rfl, hl, hg⟩ := open_aggB Try.underlying53 (by kernel_rfl) (by kernel_rfl) hv h
  match l, hl with
  | [v0, v1, v2, v3, v4], _ =>
    obtain ⟨_, y0, e0, h0, k0⟩ := hg 0 _ rfl
    obtain ⟨_, y1, e1, h1, -⟩ := hg 1 _ rfl
    obtain ⟨_, y2, e2, h2, -⟩ := hg 2 _ rfl
    obtain ⟨_, y3, e3, h3, k3⟩ := hg 3 _ rfl
    obtain ⟨_, y4, e4, h4, k4⟩ := hg 4 _ rfl
    injection e0 with e0; injection e1 with e1; injection e2 with e2; injection e3 with e3; injection e4 with e4
    subst e0 e1 e2 e3 e4
    obtain ⟨a0, x0, z0⟩ := lists_bulk h0
    obtain ⟨a1, rfl⟩ := bool_trod h1
    obtain ⟨a2, rfl⟩ := bool_trod h2
    obtain ⟨a3, x3, z3⟩ := bytes_bulk h3
    obtain ⟨a4, x4, z4⟩ := lists_bulk h4
    obtain ⟨A0, c0, rfl, x0, -, -⟩ := x0.form
    obtain ⟨A3, c3, rfl, x3, -, -⟩ := Byt.form x3 rfl
    obtain ⟨A4, c4, rfl, x4, -, -⟩ := x4.form
    exact ⟨⟨a0, a1, a2, a3, a4⟩, ⟨A0, c0, A3, c3, A4, c4, rfl, x0, x3, x4⟩, by show lstSz a0 ≤ K; omega, by show a3.length ≤ K; omega, by show lstSz a4 ≤ K; omega⟩
theorem open_ct {H : Type} {enc : TypeId × Value → H} {W : World} {v : Value} {d : DataW H} {p : List MemPlace} {base : Nat}
    (hv : Value.okWide Try.prog W .any base 53 v) (h : DataW.Trod enc Try.prog W 0 (fun _ => true) true 53 v d p) (hb : Rows.uptoBulk d ≤ 1048576) : ∃ t, CtV W W.heap.size v t ∧ CtBulk t := open_ctK hv h hb
end Go.Proofs.Ytddkjhlngofkaaa

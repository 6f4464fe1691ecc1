/- Certificate of TLS 1.3: written by the reference (printed by gen_ctw.py). -/
import Derived.Test.YtddkjhlngofkaaaCtMade
import Derived.Test.YtddkjhlngofkaaaCtV
import Derived.Test.YtddkjhlngofkaaaBehO
import Derived.Test.YtddkjhlngofkaaaSpecW
import Derived.Test.YtddkjhlngofkaaaLoops
import Derived.Deep.LoopGhost
import Derived.Deep.CutRange
import Derived.Deep.DeepCutAuto
namespace Go.Proofs.Ytddkjhlngofkaaa
open Go.RowKit
set_option maxRecDepth 100000

/-- the sizes -/
structure CtWz (t : Ct) (F : List Ex) : Prop where
  al : ∀ j, j ≤ t.certs.length → (ctAll t F j).b.length ≤ 500000000000
  ex : ∀ i, (exsB ((ctLi t i).l ++ F)).length ≤ 500000000000
  ce : ∀ x ∈ t.certs, x.length ≤ 500000000000
  st : t.staple.length ≤ 500000000000
  sp : (vecsB 2 t.stamps).length ≤ 500000000000
  ff : F.length ≤ 1000
section
variable {w w' wr : World} {B C N base p s g : Nat} {v v1 vl content a1 : Value} {xs : List UInt8} {t : Ct} {F L M : List Ex} {S : List Nat} {lw : LW} {A1 A2 A3 : Option Addr} {c1 c2 c3 : Nat} {e : Ending}
theorem Byt.neW {u : Value} {q n c : Nat} {T : TypeId} {A : Option Addr} {b : Bool} (h : Byt w B u xs) (hx : xs ≠ []) (hb : Blk w q T #[.slice A n c, .bool b]) : ∀ k, u.ownBlock = some k → k ≠ q := by
  intro k hk he
  subst he
  obtain ⟨A', c', rfl, -, -, -, h4⟩ := h
  obtain ⟨b', o', rfl, -, hc⟩ := h4 (by simpa using hx)
  have hk : b' = k := by simpa [Value.ownBlock] using hk
  subst hk
  cases xs with
  | nil => exact hx rfl
  | cons y ys =>
    have h0 := hc 0 (bv y) rfl
    rw [hb.cell] at h0
    rcases o' with _ | _ | o'
    · simp [bv] at h0
    · simp [bv] at h0
    · simp at h0
/-- the list stays where a writer's variable turns, or is empty -/
theorem LWs.updW (h : LWs w base p v lw) (hu : Upd S w w') (hS : ∀ k ∈ S, k < base) (hel : lw.l = [] ∨ ∀ k ∈ S, ∃ A n c b, Blk w k 87 #[.slice A n c, .bool b]) : LWs w' base p v lw := by
  obtain ⟨h1, h2, us, h3, h4⟩ := h
  refine ⟨h1, h2.upd hu (fun hk => by have := hS _ hk; omega), us, own2_upd h3 hu (fun gg hg hk => ?_), ?_⟩
  · have := World.ownsRow.lt h3 gg hg
    have := hS gg hk
    omega
  · rcases hel with hel | hel
    · rw [hel] at h4 ⊢
      cases us with
      | nil => trivial
      | cons a us => exact h4.elim
    · refine h4.imp fun u e hy => ⟨?_, hy.2⟩
      by_cases he : e.2 = []
      · obtain ⟨A, c, e1, q1, q2, q3, -⟩ := hy.1
        refine ⟨A, c, e1, q1, q2, q3, fun hh => absurd ?_ hh⟩
        rw [he]; rfl
      · exact (Row.apart hy.1 hu fun gg hg hk => by
          obtain ⟨A, n, c, b, hb⟩ := hel gg hk
          exact Byt.neW hy.1 he hb gg hg rfl).shrink
theorem run_append_lw (ty : TypeId) (h : LWs w base p v lw) {x : Value} (hr : Exr w B N x M) (hlen : lw.l.length + M.length ≤ 4398046511104) (hbase : base ≤ w.heap.size) (hN : N ≤ base) :
    ∃ v' w', (Builtin.append_ #[38, 38] ty #[v, x]).run Try.prog w = .ok v' w' ∧ Exr w' w'.heap.size w'.heap.size v' (lw.l ++ M) ∧ Upd v.ownBlock.toList w w' := by
  obtain ⟨i, hi, hz, hsize, hby⟩ := info_parts info_ext
  have hx := h.exr
  obtain ⟨-, -, us, h1, h2⟩ := h
  obtain ⟨A, c, vs, rfl, hc1, hc2, hcn, hcell, hrow⟩ := hr
  have hl1 : us.length = lw.l.length := h2.length
  have hl2 : vs.length = M.length := hcell.length
  rcases A with _ | ad
  · have hc0 := hcn rfl
    subst hc0
    have hn : M = [] := List.eq_nil_of_length_eq_zero (by omega)
    subst hn
    exact ⟨v, w, run_append_of_nil w base _ ty _ i 2 Try.underlying38 hi v _ _ h1 0, by rw [List.append_nil]; exact hx, Upd.refl _ _⟩
  · have hcells : ∀ j u, (ecells M vs)[j]? = some u → w.cell? (ad.add j) = some u := by
      intro j u hu
      obtain ⟨b, o, e, _, hc⟩ := hrow (by rintro rfl; cases vs <;> simp [ecells] at hu)
      injection e with e
      subst e
      rw [add_lit]
      exact hc j u hu
    obtain ⟨v', w', hrun, h3, h4, _, h5⟩ := run_append_own_at (P := Try.prog) w base 38 ty 96 i _ 2 32 Try.underlying38 hi hz hsize hby rfl (by omega) v lw.l.length _ h1 ad M.length c (ecells M vs) (ecells_len hl2) hcells (ecells_oneCell hcell)
      (by simp only [maxLen]; omega) (by omega) hbase
    have hu := upd_of_grown h4
    have hge : ∀ x ∈ v.ownBlock.toList, N ≤ x := fun x hx => by
      have := World.ownsRow.lt h1 x (Option.mem_toList.1 hx)
      omega
    have hE : EOwn w' base w'.heap.size v' (lw.l ++ M) := by
      refine ⟨us ++ vs, ?_, (h2.imp fun u e hy => ?_).append (hcell.imp fun _ _ hy => (Row.upd hy hu hge).shrink)⟩
      · rw [List.length_append, ecells_append hl1]
        exact h3
      · by_cases he : e.2 = []
        · obtain ⟨A, c, e1, q1, q2, q3, -⟩ := hy.1
          refine ⟨A, c, e1, q1, q2, q3, fun hh => absurd ?_ hh⟩
          rw [he]; rfl
        · exact (Row.apart hy.1 hu fun gg hg hk => (hy.2 he gg hg).1 (Option.mem_toList.1 hk)).shrink
    exact ⟨v', w', hrun, hE.exr, hu⟩
theorem step_append_lw {ops : Array Oper} {o : Oper} {a : Act} {K : Act → World → Prop} {Q : Exit → Act → World → Prop} {E : Prop} (hgd : o.guard = none) (s x : Operand)
    (ho : o.op = .call { callee := .builtin .append, args := #[s, x], argTypes := #[38, 38] })
    (hs : a.eval s = v) (h : LWs w base p v lw) {B : Nat} {xv : Value} (hx : a.eval x = xv) (hr : Exr w B N xv M) (hlen : lw.l.length + M.length ≤ 4398046511104) (hbase : base ≤ w.heap.size) (hN : N ≤ base)
    (hk : ∀ v' w', Exr w' w'.heap.size w'.heap.size v' (lw.l ++ M) → Upd v.ownBlock.toList w w' → K (a.put o.dst v') w') :
    if Region.wanted o (yielded ops a.tmps) = true then Oper.wp Try.prog o a w K Q else E := by
  have hw : Region.wanted o (yielded ops a.tmps) = true := by simp [Region.wanted, hgd]
  rw [if_pos hw]
  obtain ⟨v', w', hrun, h2, h3⟩ := run_append_lw o.type h hr hlen hbase hN
  unfold Oper.wp execOp
  simp only [ho, resolve, invoke, builtin, Sem.run_bind, Sem.run_pure, Result.andThen_ok, List.map_toArray, List.map_cons, List.map_nil, hs, hx, hrun]
  exact hk v' w' h2 h3
set_option maxHeartbeats 1000000 in
theorem vector_any3 (hc : Byt w B content xs) (xb : Bool) (hx : xs.length ≤ 1099511627776) :
    Calls Try.prog 54 #[.int .i64 3, .agg #[content, .bool xb]] w (WValP w (Wr.vector 3 ⟨xs, xb⟩)) := by
  obtain ⟨A, c, rfl, hc, -⟩ := Byt.form hc rfl
  obtain ⟨wb, hwb⟩ : ∃ wb, w.alloc (.cells #[.slice A xs.length c, .bool xb] 87) = wb := ⟨_, rfl⟩
  have hub : Upd [] w wb := by rw [← hwb]; exact (Upd.refl _ _).alloc _
  have hbk : Blk wb w.heap.size 87 #[.slice A xs.length c, .bool xb] := by rw [← hwb]; exact Blk.new _ _ _
  have hcb : Byt wb wb.heap.size (.slice A xs.length c) xs := (Row.upd hc.shrink hub (by simp)).shrink
  have hm0 := WMid.start wb
  have hb1 := hbk.upd (W1_upd wb) (by simp)
  have d0 := hb1.cell 0
  have d1 := hb1.cell 1
  simp at d0 d1
  obtain ⟨v0, k0, hv0⟩ := hm0.open_
  have hsz : wb.heap.size = w.heap.size + 1 := by rw [← hwb]; simp
  have hn := winner_any3 k0 (hm0.src hcb v0) xb (by simp [Wr.nil]) hx
  rw [hsz] at hn
  have HN := hid hn
  have HS := hid hsz
  have HW := hid hwb
  clear hn hsz
  clear hwb hx
  go_enter Try.func54, Try.ntmps54
  go_wp2_with fail
  rw [HW.out, W1_eq]
  go_wp2_with fail
  refine HN.out.mono ?_
  intro e w2 hp2
  rw [← HS.out] at hp2
  obtain ⟨rfl, hm2⟩ := hm0.next hv0 hp2
  obtain ⟨A2, n2, c2, c0, c1, d0, d1, g0, g1, e0, e1, hend⟩ := hm2.fin
  rw [HS.out] at c0 c1 d0 d1 g0 g1 e0 e1 hend
  go_wp2
  exact bodyPost_ret (v := .agg #[.slice A2 n2 c2, .bool _]) (by simp [results, Try.results54, go_sem, e0, e1]) rfl (hend.from hub)
theorem LSt.lws {w0 : World} (h : LSt w0 p lw w) : w0.heap.size = p ∧ ∃ v, LWs w p p v lw ∧ Upd [] w0 w := h
/-- the loop: what both writers hold -/
def CtWSt (w : World) (s : Nat) (cells : Array Value) (v1 : Value) (t : Ct) (F : List Ex) (j : Nat) (wr : World) : Prop :=
  ∃ va, Wrt wr (s + 1 + 1) (s + 1 + 1) va (ctAll t F j) ∧ Upd [] w wr ∧ Blk wr s 53 cells ∧ Blk wr (s + 1) 87 #[v1, .bool false] ∧ Own wr (s + 1) 5 v1 ([0].map bv) ∧ apartV va v1 ∧ (j = 0 → va = .slice none 0 0)
set_option maxHeartbeats 8000000 in
theorem Write_Ct (hv : CtV w B v t) (hF : Exr w C N content F) (hz : CtWz t F) : Calls Try.prog 30 #[v, content] w (MsgP w (messageW 11 (ctW t F))) := by
  obtain ⟨A1, c1, A2, c2, A3, c3, rfl, y1, y2, y3⟩ := hv
  obtain ⟨AF, cF, rfl, hF, -, -⟩ := hF.shrink.form
  obtain ⟨s, hs⟩ : ∃ s, w.heap.size = s := ⟨_, rfl⟩
  obtain ⟨w1, hw1⟩ : ∃ w1, ((w.alloc (.cells #[.slice A1 t.certs.length c1, .bool t.ocsp, .bool t.scts, .slice A2 t.staple.length c2, .slice A3 t.stamps.length c3] 53)).alloc (.cells #[.slice none 0 0, .bool false] 87)).alloc (.cells #[.slice none 0 0, .bool false] 87) = w1 := ⟨_, rfl⟩
  have hu1 : Upd [] w w1 := by rw [← hw1]; exact (((Upd.refl _ _).alloc _).alloc _).alloc _
  have hm1 : Blk w1 s 53 #[.slice A1 t.certs.length c1, .bool t.ocsp, .bool t.scts, .slice A2 t.staple.length c2, .slice A3 t.stamps.length c3] := by rw [← hw1, ← hs]; exact ((Blk.new _ _ _).alloc _).alloc _
  have hb1 : Blk w1 (s + 1) 87 #[.slice none 0 0, .bool false] := by
    rw [← hw1, ← hs]
    have := Blk.new (w.alloc (.cells #[.slice A1 t.certs.length c1, .bool t.ocsp, .bool t.scts, .slice A2 t.staple.length c2, .slice A3 t.stamps.length c3] 53)) 87 #[.slice none 0 0, .bool false]
    simp only [alloc_size] at this
    exact this.alloc _
  have ha1 : Blk w1 (s + 1 + 1) 87 #[.slice none 0 0, .bool false] := by
    rw [← hw1, ← hs]
    have := Blk.new ((w.alloc (.cells #[.slice A1 t.certs.length c1, .bool t.ocsp, .bool t.scts, .slice A2 t.staple.length c2, .slice A3 t.stamps.length c3] 53)).alloc (.cells #[.slice none 0 0, .bool false] 87)) 87 #[.slice none 0 0, .bool false]
    simp only [alloc_size] at this
    exact this
  have hk1 : Wrt w1 (s + 1) (s + 1) (.slice none 0 0) Wr.nil := ⟨Nat.le_refl _, hb1, Own.nil_ _ _ _⟩
  have HY1 := hid (fun (wx : World) (hu : Upd [] w wx) => (show Lst wx s (.slice A1 t.certs.length c1) t.certs by rw [← hs]; exact y1.shrink.upd hu (by simp)))
  have HY2 := hid (fun (wx : World) (hu : Upd [] w wx) => (show Byt wx s (.slice A2 t.staple.length c2) t.staple by rw [← hs]; exact Row.upd y2.shrink hu (by simp)))
  have HY3 := hid (fun (wx : World) (hu : Upd [] w wx) => (show Lst wx s (.slice A3 t.stamps.length c3) t.stamps by rw [← hs]; exact y3.shrink.upd hu (by simp)))
  have HF := hid (fun (wx : World) (hu : Upd [] w wx) => (show Exr wx s s (.slice AF F.length cF) F by rw [← hs]; exact hF.upd hu (by simp)))
  have HZ := hid hz
  have hnl : t.certs.length ≤ 9223372036854775807 := by obtain ⟨_, _, _, _, a, b⟩ := y1.form; omega
  have H := hid (wvec_any1 (xs := []) hk1 (content := .slice none 0 0) ⟨0, Row.nil_ _ 0, .inl (Nat.zero_le _)⟩ (by simp [Wr.nil]) (by simp))
  have HW := hid hw1
  have HS := hid hs
  have hsw : w.heap.size ≤ s := by omega
  clear hw1 hs y1 y2 y3 hF hz
  go_enter Try.func30, Try.ntmps30
  go_upto_region 2 with fail
  rw [HW.out, HS.out]
  go_wp2_with fail
  refine H.out.mono ?_
  intro e w2 hp
  obtain ⟨rfl, v1, hk2, hu2, -⟩ := hp
  have hu2' : Upd [s + 1] w1 w2 := by simpa [Value.ownBlock] using hu2
  have hU2 := hu1.trans hu2' (by simp; omega)
  have hm2 := hm1.upd hu2' (by simp)
  have ha2 := ha1.upd hu2' (by simp)
  have hb2 : Blk w2 (s + 1) 87 #[v1, .bool false] := hk2.2.1
  have ho2 : Own w2 (s + 1) 5 v1 ([0].map bv) := hk2.2.2
  have hSt : CtWSt w s #[.slice A1 t.certs.length c1, .bool t.ocsp, .bool t.scts, .slice A2 t.staple.length c2, .slice A3 t.stamps.length c3] v1 t F 0 w2 := ⟨.slice none 0 0, ⟨Nat.le_refl _, ha2, Own.nil_ _ _ _⟩, hU2, hm2, hb2, ho2, fun _ h => (by cases h), fun _ => rfl⟩
  have d0 := hm2.cell 0
  simp at d0
  clear hm1 hb1 ha1 hk1 H hk2 hu2 hu2' hu1 hm2 ha2 hb2 ho2 hU2
  go_wp2_with fail
  go_loopg [15] t.certs.length (fun gk i wr => ∃ j : Nat, j + gk = t.certs.length ∧ i = .int .i64 (j : Int) ∧ CtWSt w s #[.slice A1 t.certs.length c1, .bool t.ocsp, .bool t.scts, .slice A2 t.staple.length c2, .slice A3 t.stamps.length c3] v1 t F j wr)
  case atStart => exact ⟨0, by omega, rfl, hSt⟩
  case round =>
    obtain ⟨j, hj0, rfl, hst⟩ := hrel
    have HJ := hid hj0
    have hj : j ≤ t.certs.length := by omega
    clear hj0 hSt
    by_cases hlt : j < t.certs.length
    · have hst' := hst
      obtain ⟨va, hk, hU, hm, hb, ho, hap, hj0⟩ := hst'
      obtain ⟨b, o, rfl, hb', hj', A', c', hcell, hy, hl1, hl2⟩ := (HY1.out _ hU).at_ hlt
      have hxl := HZ.out.ce _ (List.getElem_mem hlt)
      have hal := HZ.out.al j hj
      have hal1 := HZ.out.al (j + 1) (by omega)
      have hnx : ctAll t F (j + 1) = ctAdd t F j t.certs[j] (ctAll t F j) := by
        show ctAdd t F j (t.certs[j]?.getD []) (ctAll t F j) = _
        rw [List.getElem?_eq_getElem hlt]; rfl
      generalize t.certs[j] = x at hcell hy hl1 hl2 hxl hnx
      obtain ⟨wl, hwl⟩ : ∃ wl, wr.alloc (.cells #[.slice none 0 0, .bool false] 83) = wl := ⟨_, rfl⟩
      obtain ⟨g, hg⟩ : ∃ g, wr.heap.size = g := ⟨_, rfl⟩
      have hL : LSt wr g LW.nil wl := by rw [← hwl, ← hg]; exact LSt.new wr
      have hgs : s + 1 + 1 < g := by have := hk.2.1.lt; omega
      have HNX := hid hnx
      have HWL := hid hwl
      have HG := hid hg
      have HYX := hid hy
      have HALL := hid (show (ctAll t F (j + 1)).b.length ≤ 500000000000 ∧ (ctAll t F j).b.length ≤ 500000000000 from ⟨hal1, hal⟩)
      have HK := hid (And.intro hk (And.intro hU (And.intro hm (And.intro hb (And.intro ho (And.intro hap hj0))))))
      clear hnx hwl hy hal hal1 hk hm hb ho hap hj0 hst
      go_upto_if 21 with fail
      rw [HWL.out]
      go_cut [15] from 15 to 51 (fun v15 wx => v15 = .int .i64 (j : Int) ∧ LSt wr g (ctLi t j) wx)
      case first =>
        have hjd : (j = 0 ∧ ((j : Int) == 0) = true) ∨ (¬ j = 0 ∧ ((j : Int) == 0) = false) := by
          by_cases h : j = 0
          · exact .inl ⟨h, by rw [h]; rfl⟩
          · exact .inr ⟨h, by rw [beq_eq_false_iff_ne]; omega⟩
        rcases hjd with ⟨h0, h1⟩ | ⟨h0, h1⟩
        · rw [h1]
          have H0 := hid h0
          clear h0 h1
          go_upto_region 8 with fail
          go_cut [15] from 15 to 51 (fun v15 wx => v15 = .int .i64 (j : Int) ∧ LSt wr g (LW.nil.add t.ocsp 5 (stapleW t.staple)) wx)
          case first =>
            have hU8 := hL.up
            have hbx := (HK.out.2.2.1).upd hU8 (by simp)
            have y21 := HY2.out _ (HK.out.2.1.trans hU8 (by simp))
            have y31 := HY3.out _ (HK.out.2.1.trans hU8 (by simp))
            have HL := hid hL
            clear hL hU8
            have s1 := hbx.cell 1
            have s3 := hbx.cell 3
            simp at s1 s3
            go_region_held3 (fun w' => w'.cell? ⟨s, 1, none⟩ = some (.bool t.ocsp) ∧ w'.cell? ⟨s, 3, none⟩ = some (.slice A2 t.staple.length c2)) (go_keep)
              (first
                | (go_at_call 68; refine (staple_any (Row.drew y21) (by have := HZ.out.st; omega)).mono ?_; rintro e w5 ⟨v5, rfl, hy5, hn5, ⟨A6, n6, c6, rfl⟩, hu5⟩; have b5 := (hbx.drew).upd hu5 (by simp); have s1_5 := b5.cell 1; have s3_5 := b5.cell 3; simp at s1_5 s3_5)
                | (go_at_call 53; have hu35 : Upd [] _ w5 := ((Upd.refl [] _).drew).trans hu5 (by simp); refine (HL.out.add hu35 (t.ocsp) 5 hy5 (fun _ gg hgg => .inr (by have := hn5 gg hgg; simp at this; omega)) _ (by simp [LW.nil])).mono ?_; rintro e w9 ⟨rfl, hL6⟩; have b9 := (HK.out.2.2.1).upd hL6.up (by simp); have s1_9 := b9.cell 1; have s3_9 := b9.cell 3; simp at s1_9 s3_9))
            all_goals
              go_wp2_with fail
              go_meet
              exact ⟨rfl, hL6⟩
          obtain ⟨rfl, hL'⟩ := hcut
          replace hL := hL'
          clear hL'
          go_upto_region 9 with fail
          go_cut [15] from 15 to 51 (fun v15 wx => v15 = .int .i64 (j : Int) ∧ LSt wr g ((LW.nil.add t.ocsp 5 (stapleW t.staple)).add t.scts 18 (Wr.vector 2 (vecsW 2 t.stamps))) wx)
          case first =>
            have hU8 := hL.up
            have hbx := (HK.out.2.2.1).upd hU8 (by simp)
            have y21 := HY2.out _ (HK.out.2.1.trans hU8 (by simp))
            have y31 := HY3.out _ (HK.out.2.1.trans hU8 (by simp))
            have HL := hid hL
            clear hL hU8
            have s1 := hbx.cell 2
            have s3 := hbx.cell 4
            simp at s1 s3
            go_region_held3 (fun w' => w'.cell? ⟨s, 2, none⟩ = some (.bool t.scts) ∧ w'.cell? ⟨s, 4, none⟩ = some (.slice A3 t.stamps.length c3)) (go_keep)
              (first
                | (go_at_call 56; refine (vectors_any_w 2 (.inr (.inl rfl)) (y31.upd ((Upd.refl [] _).drew) (by simp)) (by have := HZ.out.sp; omega)).mono ?_; rintro e w4 ⟨v4, rfl, hy4, hn4, ⟨A5, n5, c5, rfl⟩, hu4⟩; have b4 := (hbx.drew).upd hu4 (by simp); have s1_4 := b4.cell 2; have s3_4 := b4.cell 4; simp at s1_4 s3_4)
                | (go_at_call 54; refine (vector_any2 hy4 _ (by show (vecsB 2 t.stamps).length ≤ _; have := HZ.out.sp; omega)).mono ?_; rintro e w5 ⟨v5, rfl, hy5, hn5, ⟨A6, n6, c6, rfl⟩, hu5⟩; have b5 := b4.upd hu5 (by simp); have s1_5 := b5.cell 2; have s3_5 := b5.cell 4; simp at s1_5 s3_5)
                | (go_at_call 53; have hu35 : Upd [] _ w5 := ((Upd.refl [] _).drew).trans (hu4.trans hu5 (by simp)) (by simp); refine (HL.out.add hu35 (t.scts) 18 hy5 (fun _ gg hgg => .inr (by have := hn5 gg hgg; have h4 := hu4.size; simp at h4; omega)) _ (by exact Nat.le_trans (LW.add_len _ _ _ _) (by simp [LW.nil]))).mono ?_; rintro e w9 ⟨rfl, hL6⟩; have b9 := (HK.out.2.2.1).upd hL6.up (by simp); have s1_9 := b9.cell 2; have s3_9 := b9.cell 4; simp at s1_9 s3_9))
            all_goals
              go_wp2_with fail
              go_meet
              exact ⟨rfl, hL6⟩
          obtain ⟨rfl, hL'⟩ := hcut
          replace hL := hL'
          clear hL'
          go_wp2
          go_meet
          rw [H0.out]
          exact ⟨rfl, hL⟩
        · rw [h1]
          have H0 := hid h0
          clear h0 h1
          go_wp2
          go_meet
          have : ctLi t j = LW.nil := by unfold ctLi; rw [if_neg H0.out]
          rw [this]
          exact ⟨rfl, hL⟩
      obtain ⟨rfl, hL'⟩ := hcut
      replace hL := hL'
      obtain ⟨hk, hU, hm, hb, ho, hap, hj0⟩ := HK.out
      have hUL := hL.up
      have hkc := hk.upd hUL (by simp) (by simp)
      have hmc := hm.upd hUL (by simp)
      have hbc := hb.upd hUL (by simp)
      have hoc := ho.upd hUL (by simp)
      have hUc := hU.trans hUL (by simp)
      have hyx := Row.upd HYX.out hUL (by simp)
      have hvg : ∀ k, va.ownBlock = some k → s + 1 + 1 ≤ k ∧ k < g := fun k hk' => by have := hk.2.2.ge hk'; have := HG.out; omega
      have hvo : ∀ k, v1.ownBlock = some k → s + 1 ≤ k ∧ k < g := fun k hk' => by have := ho.ge hk'; have := HG.out; omega
      obtain ⟨-, vl, hlw, -⟩ := hL.lws
      have hLi : (ctLi t j).l.length ≤ 2 := by
        unfold ctLi
        split
        · exact Nat.le_trans (LW.add_len _ _ _ _) (Nat.succ_le_succ (Nat.le_trans (LW.add_len _ _ _ _) (by simp [LW.nil])))
        · simp [LW.nil]
      have H := hid (wvec_any3 (xs := x) hkc (content := .slice A' x.length c') ⟨s, hyx, .inl (by omega)⟩ (by have := HALL.out.2; omega) (by omega))
      clear hL' hL hk hm hb ho hU HK hyx
      go_wp2_with fail
      refine H.out.mono ?_
      intro e w3 hp
      obtain ⟨rfl, va3, hk3, hu3, hv3⟩ := hp
      have hS3 : ∀ k ∈ (s + 1 + 1) :: va.ownBlock.toList, k < g ∧ s + 1 + 1 ≤ k ∧ v1.ownBlock ≠ some k := by
        intro k hk'
        rcases List.mem_cons.1 hk' with hk' | hk'
        · subst hk'
          exact ⟨hgs, Nat.le_refl _, fun h => hoc.ne hkc.2.1 (by decide) _ h rfl⟩
        · have hk' := Option.mem_toList.1 hk'
          exact ⟨(hvg k hk').2, (hvg k hk').1, fun h => hap k hk' h⟩
      have hlw3 : LWs w3 g g vl (ctLi t j) := hlw.updW hu3 (fun k hk' => (hS3 k hk').1) (by
        by_cases h0 : j = 0
        · refine .inr fun k hk' => ?_
          rw [hj0 h0] at hk'
          simp [Value.ownBlock] at hk'
          subst hk'
          obtain ⟨A, c, e, -⟩ := hkc.open_
          have hb := hkc.2.1
          rw [e] at hb
          exact ⟨_, _, _, _, hb⟩
        · exact .inl (by unfold ctLi; rw [if_neg h0]; rfl))
      have hm3 := hmc.upd hu3 (fun h => by have := (hS3 _ h).2.1; omega)
      have hb3 := hbc.upd hu3 (fun h => by have := (hS3 _ h).2.1; omega)
      have ho3 := hoc.upd hu3 (fun k hk' h => (hS3 _ h).2.2 hk')
      have hU3 := hUc.trans hu3 (fun k hk' => .inr (by have := (hS3 _ hk').2.1; omega))
      have hap3 : apartV va3 v1 := by
        intro k hk' h
        rcases hv3 with hv3 | ⟨gg, hv3, hgg⟩
        · rw [hv3] at hk'; exact hap k hk' h
        · rw [hv3] at hk'
          injection hk' with hk'
          have := hvo k h
          have := hUL.size
          have := HG.out
          omega
      have hls : s ≤ w3.heap.size ∧ g < w3.heap.size := by have := hlw3.2.1.lt; omega
      have hvl : ((ctAll t F j).vec 3 x).b.length ≤ 1000000000003 := by
        show ((ctAll t F j).b ++ be 3 x.length ++ x).length ≤ _
        rw [List.length_append, List.length_append, be_len]
        have := HALL.out.2
        omega
      obtain ⟨ww, hww⟩ : ∃ ww, (ctAll t F j).vec 3 x = ww := ⟨_, rfl⟩
      rw [hww] at hk3 hvl
      obtain ⟨li, hli⟩ : ∃ li, ctLi t j = li := ⟨_, rfl⟩
      have hex := HZ.out.ex j
      have hff := HZ.out.ff
      rw [hli] at hlw3 hLi hex
      have HWW := hid hww
      have HLI := hid hli
      clear hkc hmc hbc hoc hUc hvg hlw H hu3 hv3 hap hj0 hS3 hww hli hUL
      go_upto_region 11 with fail
      have hdr : Upd [] w3 w3.drew := (Upd.refl [] w3).drew
      have hkD := hk3.upd hdr (by simp) (by simp)
      have hmD := hm3.upd hdr (by simp)
      have hbD := hb3.upd hdr (by simp)
      have hoD := ho3.upd hdr (by simp)
      have hUD := hU3.trans hdr (by simp)
      have hlD := hlw3.upd hdr
      have hszD := hdr.size
      generalize hwd : w3.drew = wd at hkD hmD hbD hoD hUD hlD hszD
      have hFD := HF.out _ hUD
      obtain ⟨A3', c3', e3, d0, d1, f0, f1⟩ := hkD.open_
      subst e3
      have hlD2 := hlD
      obtain ⟨-, hbl, us, hown, -⟩ := hlD2
      obtain ⟨Al, cl, e4, -, -⟩ := own2_form hown
      subst e4
      have l0 := hbl.cell 0
      have l1 := hbl.cell 1
      simp at l0 l1
      have hlo : ∀ k ∈ (Value.slice Al li.l.length cl).ownBlock.toList, g ≤ k := fun k hk' => (World.ownsRow.lt hown k (Option.mem_toList.1 hk')).1
      have hlb : g ∉ (Value.slice Al li.l.length cl).ownBlock.toList := fun hk' => own2_ne hown hbl (by decide) _ (Option.mem_toList.1 hk') rfl
      have hvk : ∀ k, (Value.slice A3' ww.b.length c3').ownBlock = some k → k ∉ (Value.slice Al li.l.length cl).ownBlock.toList := fun k hk' h => by
        have hx := hkD.2.2
        have h' := Option.mem_toList.1 h
        rcases hown.2 with ⟨e, _⟩ | ⟨g', cap, cur, e, _, hh, _⟩
        · rw [e] at h'; cases h'
        · rw [e] at h'
          have : g' = k := by simpa [Value.ownBlock] using h'
          subst this
          exact hx.ne (t := 96) hh (by decide) _ hk' rfl
      have hok : ∀ k, v1.ownBlock = some k → k ∉ (Value.slice Al li.l.length cl).ownBlock.toList := fun k hk' h => by have := hvo k hk'; have := hlo k h; omega
      clear hown hdr
      go_cut [15] from 15 to 51 (fun v15 wz => v15 = .int .i64 (j : Int) ∧ (∃ vz, Wrt wz (s + 1 + 1) (s + 1 + 1) vz (behindW ww (exsW (li.l ++ F))) ∧ Upd [] w wz ∧ Blk wz s 53 #[.slice (some ⟨b, o, none⟩) t.certs.length c1, .bool t.ocsp, .bool t.scts, .slice A2 t.staple.length c2, .slice A3 t.stamps.length c3] ∧ Blk wz (s + 1) 87 #[v1, .bool false] ∧ Own wz (s + 1) 5 v1 ([0].map bv) ∧ apartV vz v1 ∧ (∃ vy, Blk wz g 83 #[vy, .bool li.bad])))
      case first =>
        go_region_law (first
          | (refine step_append_lw rfl _ _ rfl rfl hlD rfl hFD (by omega) (by omega) (by omega) ?_; intro v4 w4 hx4 hu4; obtain ⟨A4, c4, e5, hx4, -, -⟩ := hx4.form; subst e5; rw [List.length_append] at hx4; have hk4 := hkD.upd hu4 (fun h => (by have := hlo _ h; omega)) hvk; have e0 := hk4.2.1.cell 0; have e1 := hk4.2.1.cell 1; simp at e0 e1; have fe0 := hk4.2.1.frozen 0; have fe1 := hk4.2.1.frozen 1; have hl4 := hbl.upd hu4 hlb)
          | (go_simp; go_at_call 60; refine (extensions_any_w hx4 (by omega)).mono ?_; rintro e w5 ⟨v5, rfl, hy5, hn5, ⟨A5, n5, c5, rfl⟩, hu5⟩; have hk5 := hk4.upd hu5 (by simp) (by simp); have k0 := hk5.2.1.cell 0; have k1 := hk5.2.1.cell 1; simp at k0 k1; have fk0 := hk5.2.1.frozen 0; have fk1 := hk5.2.1.frozen 1)
          | (go_simp; go_at_call 59; refine (behind_own hk5.2.2.row hy5 _ _ (by omega) (by rw [exsW_eq]; simp only [List.length_append, be_len]; omega)).mono ?_; rintro e w6 ⟨v6, rfl, ho6, hu6⟩; obtain ⟨A6, n6, c6, e7⟩ : ∃ A n c, v6 = Value.slice A n c := (by obtain ⟨A, c, h⟩ := ho6.formN rfl; exact ⟨A, _, c, h⟩); subst e7; have hk6 := hk5.upd hu6 (by simp) (by simp); have m0 := hk6.2.1.cell 0; have m1 := hk6.2.1.cell 1; simp at m0 m1; have fm0 := hk6.2.1.frozen 0; have fm1 := hk6.2.1.frozen 1))
        all_goals
          have hu4' : Upd (Value.slice Al li.l.length cl).ownBlock.toList wd w4 := hu4
          have hub := hu4'.trans (hu5.trans hu6 (by simp)) (by simp)
          have hm6 := hmD.upd hub (fun h => by have := hlo _ h; omega)
          have hb6 := hbD.upd hub (fun h => by have := hlo _ h; omega)
          have ho1 := hoD.upd hub hok
          have hl6 := hl4.upd (hu5.trans hu6 (by simp)) (by simp)
          have hU6 := hUD.trans hub (fun k hk' => .inr (by have := hlo k hk'; omega))
          have hsz5 : g < w5.heap.size := by have := hl6.lt; have := (hl4.upd hu5 (by simp)).lt; omega
          have huz := ((Upd.refl [s + 1 + 1] w6).setCell (p := ⟨s + 1 + 1, 0, none⟩) (.inl (List.mem_singleton.2 rfl)) (.slice A6 n6 c6)).setCell (p := ⟨s + 1 + 1, 1, none⟩) (.inl (List.mem_singleton.2 rfl)) (.bool (behindW ww (exsW (li.l ++ F))).bad)
          have hbz := (hk6.2.1.set_ 0 (.slice A6 n6 c6)).set_ 1 (.bool (behindW ww (exsW (li.l ++ F))).bad)
          have HC := hid (show Wrt _ (s + 1 + 1) (s + 1 + 1) (.slice A6 n6 c6) (behindW ww (exsW (li.l ++ F))) from ⟨Nat.le_refl _, hbz, (ho6.upd huz (fun k hk' h => by simp at h; have := (ho6.ge hk').1; omega)).less2 (by omega)⟩)
          have HC1 := hid (hm6.upd huz (by simp; omega))
          have HC2 := hid (hb6.upd huz (by simp))
          have HC3 := hid (ho1.upd huz (fun k hk' h => by simp at h; subst h; exact ho1.ne hk6.2.1 (by decide) _ hk' rfl))
          have HC4 := hid (hU6.trans huz (by simp; omega))
          have HC5 := hid (hl6.upd huz (by simp; omega))
          have HC6 := hid (show apartV (.slice A6 n6 c6) v1 from fun k hk' h => by have := (ho6.ge hk').1; have := (hvo k h).2; omega)
          clear hu4 hu4' hub hm6 hb6 ho1 hl6 hU6 huz hbz ho6 hk6 hk5 hk4 hl4 hy5 hn5 hx4 e0 e1 fe0 fe1 k0 k1 fk0 fk1 m0 m1 fm0 fm1 hu5 hu6
          go_wp2
          go_meet
          exact ⟨rfl, _, HC.out, HC4.out, HC1.out, HC2.out, HC3.out, HC6.out, _, HC5.out⟩
      obtain ⟨rfl, vz, hkz, hUz, hmz, hbz, hoz, hapz, vy, hlz⟩ := hcut
      have hfin : ctAll t F (j + 1) = ⟨(behindW ww (exsW (li.l ++ F))).b, (behindW ww (exsW (li.l ++ F))).bad || li.bad⟩ := by
        rw [HNX.out]
        unfold ctAdd
        rw [HWW.out, HLI.out]
      have HFIN := hid hfin
      clear hwd hkD hmD hbD hoD hUD hlD hszD hFD d0 d1 f0 f1 hbl l0 l1 hlo hlb hvk hok hfin hk3 hm3 hb3 ho3 hU3 hap3 hlw3 hvo hls hvl
      obtain ⟨W, hW⟩ : ∃ W, behindW ww (exsW (li.l ++ F)) = W := ⟨_, rfl⟩
      rw [hW] at hkz HFIN
      have hz0 := hkz.2.1
      have z1 := hz0.cell 1
      have fz1 := hz0.frozen 1
      have y1 := hlz.cell 1
      simp at z1 y1
      have HKZ := hid hkz
      have HREST := hid (And.intro hUz (And.intro hmz (And.intro hbz (And.intro hoz hapz))))
      have hne : ¬ g = s + 1 + 1 := by omega
      clear hkz hUz hmz hbz hoz hapz hz0 hW
      rcases bcase W.bad with hwb | hwb
      all_goals
        rw [hwb] at z1
        have HWB := hid hwb
        clear hwb
        go_wp2
        have hj0 := HJ.out
        go_roundg (t.certs.length - (j + 1))
        case measure => omega
        case rel =>
          refine ⟨j + 1, by omega, by go_num, vz, ?_, ?_⟩
          · refine ⟨Nat.le_refl _, ?_, ?_⟩
            · rw [HFIN.out]
              have := HKZ.out.2.1.set_ 1 (.bool (W.bad || li.bad))
              rw [HWB.out] at this ⊢
              exact this
            · rw [HFIN.out]
              exact HKZ.out.2.2.upd ((Upd.refl [s + 1 + 1] _).setCell (p := ⟨s + 1 + 1, 1, none⟩) (.inl (List.mem_singleton.2 rfl)) _) (fun k hk' h => by simp at h; exact HKZ.out.2.2.ne HKZ.out.2.1 (by decide) k hk' h)
          · obtain ⟨hUz, hmz, hbz, hoz, hapz⟩ := HREST.out
            have huu : ∀ x, Upd [s + 1 + 1] wc (wc.setCell ⟨s + 1 + 1, 1, none⟩ x) := fun x => (Upd.refl [s + 1 + 1] _).setCell (p := ⟨s + 1 + 1, 1, none⟩) (.inl (List.mem_singleton.2 rfl)) _
            exact ⟨hUz.trans (huu _) (by simp; omega), hmz.upd (huu _) (by simp; omega), hbz.upd (huu _) (by simp), hoz.upd (huu _) (fun k hk' h => by simp at h; exact hoz.ne HKZ.out.2.1 (by decide) k hk' h), hapz, fun h => by omega⟩
    · obtain rfl : j = t.certs.length := by have := HJ.out; omega
      obtain ⟨va, hk, hU, hm, hb, ho, hap, -⟩ := hst
      obtain ⟨Aa, ca, ea, -⟩ := hk.open_
      subst ea
      obtain ⟨A1', c1', e1, -, -⟩ := Own.form ho
      subst e1
      have hal := HZ.out.al t.certs.length (Nat.le_refl _)
      have HCW := hid (show ctW t F = behindW ⟨[0], false⟩ (Wr.vector 3 ⟨(ctAll t F t.certs.length).b, (ctAll t F t.certs.length).bad⟩) from rfl)
      generalize ctAll t F t.certs.length = W at hk hal HCW
      have a0 := hk.2.1.cell 0
      have a1 := hk.2.1.cell 1
      have b0 := hb.cell 0
      have b1 := hb.cell 1
      simp at a0 a1 b0 b1
      have hvb : (Wr.vector 3 ⟨W.b, W.bad⟩).b.length ≤ 500000000003 := by rw [vector_b]; simp only [List.length_append, be_len]; omega
      have hbw : (behindW ⟨[0], false⟩ (Wr.vector 3 ⟨W.b, W.bad⟩)).b.length ≤ 500000000004 := by
        show ([0] ++ (Wr.vector 3 ⟨W.b, W.bad⟩).b).length ≤ _
        rw [List.length_append]
        simp only [List.length_singleton]
        omega
      have HU := hid hU
      clear hU hm hap hlt hj
      go_wp2_with fail
      go_region_held3 (fun w' => w'.cell? ⟨s + 1, 0, none⟩ = some (.slice A1' ([0].map bv).length c1') ∧ w'.cell? ⟨s + 1, 1, none⟩ = some (.bool false) ∧ w'.cell? ⟨s + 1 + 1, 0, none⟩ = some (.slice Aa W.b.length ca) ∧ w'.cell? ⟨s + 1 + 1, 1, none⟩ = some (.bool W.bad)) (go_keep)
        (first
          | (go_at_call 54; refine (vector_any3 (Row.drew hk.2.2.row) W.bad (by omega)).mono ?_; rintro e w5 ⟨v5, rfl, hy5, hn5, ⟨A5, n5, c5, rfl⟩, hu5⟩; have hk5 := ((hk.2.1).drew).upd hu5 (by simp); have hb5 := (hb.drew).upd hu5 (by simp); have ho5 := Row.upd (Row.drew ho.row) hu5 (by simp); have q0 := hk5.cell 0; have q1 := hk5.cell 1; have r0 := hb5.cell 0; have r1 := hb5.cell 1; simp at q0 q1 r0 r1)
          | (go_at_call 59; refine (behind_any (xs := [0]) ho5 hy5 _ _ (by simp) (by omega)).mono ?_; rintro e w8 ⟨v8, rfl, hy8, hn8, ⟨A8, n8, c8, rfl⟩, hu8⟩; have hk8 := hk5.upd hu8 (by simp); have hb8 := hb5.upd hu8 (by simp); have q0' := hk8.cell 0; have q1' := hk8.cell 1; have r0' := hb8.cell 0; have r1' := hb8.cell 1; simp at q0' q1' r0' r1')
          | (go_at_call 58; refine (message_any 11 _ hy8 (Nat.le_trans hbw (by omega))).mono ?_; rintro e w9 ⟨v9, rfl, hy9, hn9, ⟨A9, n9, c9, rfl⟩, hu9⟩; have hk9 := hk8.upd hu9 (by simp); have hb9 := hb8.upd hu9 (by simp); have q0'' := hk9.cell 0; have q1'' := hk9.cell 1; have r0'' := hb9.cell 0; have r1'' := hb9.cell 1; simp at q0'' q1'' r0'' r1''))
      all_goals
        have hUz := (((HU.out.drew).trans hu5 (by simp)).trans hu8 (by simp))
        have HFz := hid (hUz.trans hu9 (by simp))
        have HN := hid (fun k (hk : (Value.slice A9 n9 c9).ownBlock = some k) => Nat.le_trans hUz.size (hn9 k hk))
        have HY := hid hy9
        clear hy9 hn9 hu9
        go_wp2
        go_ret2
        rw [HCW.out]
        exact ⟨_, rfl, HY.out, HN.out, ⟨_, _, _, rfl⟩, HFz.out⟩
end
end Go.Proofs.Ytddkjhlngofkaaa

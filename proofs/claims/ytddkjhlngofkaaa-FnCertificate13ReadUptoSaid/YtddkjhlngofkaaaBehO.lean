/- Contract of the reference's 'behind', the bytes owned by the writer that is handed back (printed by gen_beho.py). -/
import Derived.Test.YtddkjhlngofkaaaSpecW
import Derived.Deep.RegionHeld3
import Derived.Deep.DrawnRows
namespace Go.Proofs.Ytddkjhlngofkaaa
open Go.RowKit
set_option maxRecDepth 100000
attribute [local go_sem ↓] Go.wp_at_zero Go.wp_at_succ

section
variable {w w' w0 : World} {B C : Nat} {v a1 a2 : Value} {xs ys : List UInt8} {e : Ending} {x : Wr}
def BehP (w : World) (x : Wr) (e : Ending) (w' : World) : Prop :=
  ∃ v, e = .returned (.agg #[v, .bool x.bad]) ∧ Own w' w.heap.size 5 v (x.b.map bv) ∧ Upd [] w w'
theorem Own.less2 {lo lo' : Nat} {e : TypeId} {xs : List Value} (h : Own w lo e v xs) (hl : lo' ≤ lo) : Own w lo' e v xs := by
  obtain ⟨h0, h | ⟨g, cap, cur, h1, h2, h3⟩⟩ := h
  · exact ⟨h0, .inl h⟩
  · exact ⟨h0, .inr ⟨g, cap, cur, h1, Nat.le_trans hl h2, h3⟩⟩
theorem wval_put2 {r0 base : Nat} {w2 : World} {v4 u0 u1 : Value} (hr0 : w.heap.size ≤ r0) (hb2 : Blk w2 r0 87 #[u0, u1]) (_ : Byt w2 w2.heap.size v4 x.b) (_ : NewFrom w.heap.size v4) (hne : ∀ g, v4.ownBlock = some g → g ≠ r0) (_ : isSlice v4) (hu : Upd [] w w2)
    (ho : Own w2 base 5 v4 (x.b.map bv)) (hbase : w.heap.size ≤ base) :
    Blk ((w2.setCell ⟨r0, 0, none⟩ v4).setCell ⟨r0, 1, none⟩ (.bool x.bad)) r0 87 #[v4, .bool x.bad] ∧
    BehP w x (.returned (.agg #[v4, .bool x.bad])) ((w2.setCell ⟨r0, 0, none⟩ v4).setCell ⟨r0, 1, none⟩ (.bool x.bad)) := by
  have hu1 : Upd [r0] w2 ((w2.setCell ⟨r0, 0, none⟩ v4).setCell ⟨r0, 1, none⟩ (.bool x.bad)) := ((Upd.refl _ _).setCell (by simp) _).setCell (by simp) _
  refine ⟨?_, v4, rfl, (ho.upd hu1 (fun g hg hm => hne g hg (by simpa using hm))).less2 hbase, hu.trans hu1 (by simp; omega)⟩
  have := (hb2.set_ 0 v4).set_ 1 (.bool x.bad)
  simpa using this
set_option maxHeartbeats 2000000 in
theorem behind_own (ha : Byt w B a1 xs) (hb : Byt w C a2 ys) (p q : Bool) (hx : xs.length ≤ 1099511627776) (hy : ys.length ≤ 1099511627776) :
    Calls Try.prog 59 #[.agg #[a1, .bool p], .agg #[a2, .bool q]] w (BehP w (behindW ⟨xs, p⟩ ⟨ys, q⟩)) := by
  obtain ⟨A1, c1, rfl, ha, -⟩ := Byt.form ha.shrink rfl
  obtain ⟨A2, c2, rfl, hb, -⟩ := Byt.form hb.shrink rfl
  obtain ⟨wn, hwn⟩ : ∃ wn, ((w.alloc (.cells #[.slice A1 xs.length c1, .bool p] 87)).alloc (.cells #[.slice A2 ys.length c2, .bool q] 87)).alloc (.cells #[.slice none 0 0, .bool false] 87) = wn := ⟨_, rfl⟩
  obtain ⟨g, hg⟩ : ∃ g, w.heap.size = g := ⟨_, rfl⟩
  have hun : Upd [] w wn := by rw [← hwn]; exact (((Upd.refl _ _).alloc _).alloc _).alloc _
  have hb0 : Blk wn g 87 #[.slice A1 xs.length c1, .bool p] := by rw [← hwn, ← hg]; exact ((Blk.new _ _ _).alloc _).alloc _
  have hb1 : Blk wn (g + 1) 87 #[.slice A2 ys.length c2, .bool q] := by
    rw [← hwn, ← hg]
    have := Blk.new (w.alloc (.cells #[.slice A1 xs.length c1, .bool p] 87)) 87 #[.slice A2 ys.length c2, .bool q]
    simp only [alloc_size] at this
    exact this.alloc _
  have hb2 : Blk wn (g + 1 + 1) 87 #[.slice none 0 0, .bool false] := by
    rw [← hwn, ← hg]
    have := Blk.new ((w.alloc (.cells #[.slice A1 xs.length c1, .bool p] 87)).alloc (.cells #[.slice A2 ys.length c2, .bool q] 87)) 87 #[.slice none 0 0, .bool false]
    simp only [alloc_size] at this
    exact this
  have hsn : wn.heap.size = g + 3 := by rw [← hwn, ← hg]; simp
  have han : Byt wn g (.slice A1 xs.length c1) xs := by rw [← hg]; exact Row.upd ha hun (by simp)
  have hbn : Byt wn g (.slice A2 ys.length c2) ys := by rw [← hg]; exact Row.upd hb hun (by simp)
  have d0 := hb0.cell 0
  have d1 := hb0.cell 1
  have e0 := hb1.cell 0
  have e1 := hb1.cell 1
  have k0 := hb2.cell 0
  have k1 := hb2.cell 1
  have f0 := hb2.frozen 0
  have f1 := hb2.frozen 1
  simp at d0 d1 e0 e1 k0 k1
  have f0a := (hb2.alloc (.cells #[] 5)).frozen 0
  have f1a := (hb2.alloc (.cells #[] 5)).frozen 1
  have n1 : ¬ g = g + 1 + 1 := by omega
  have n2 : ¬ g + 1 = g + 1 + 1 := by omega
  have n3 : ¬ g + 1 + 1 = g := by omega
  have HW := hid hwn
  have HG := hid hg
  have HS := hid hsn
  clear hwn hg hsn
  have hgl : g + 1 + 1 < wn.heap.size := by rw [HS.out]; omega
  cases p
  case false =>
    go_enter Try.func59, Try.ntmps59
    go_wp2_with fail
    rw [HW.out, HG.out]
    go_wp2_with fail
    go_region_held3 (fun w' => w'.cell? ⟨g, 0, none⟩ = some (.slice A1 xs.length c1) ∧ w'.cell? ⟨g, 1, none⟩ = some (.bool false) ∧ w'.cell? ⟨g + 1, 0, none⟩ = some (.slice A2 ys.length c2) ∧ w'.cell? ⟨g + 1, 1, none⟩ = some (.bool q)) (go_keep)
      (first
        | (refine step_append_row _ (by rfl) (Operand.tmp 5) (Operand.tmp 7) 22 (by rfl) wn.heap.size 5 (.int .u8 0) 1 Try.underlying22 info_u8 rfl (by rfl) ((own_empty wn wn.heap.size 5 (Nat.le_refl _)).upd ((Upd.refl [] _).drew) (by simp)) (by rfl) (Row.drew (Row.alloc han (.cells #[] 5))) (byt_oneCell _) (by simp; omega) (by simp; omega) (by simp) ?_; intro v3 w3 hap3; have b0 := ((hb0.alloc (.cells #[] 5)).drew).upd hap3.2.1 (by simp [Value.ownBlock]; omega); have b1 := ((hb1.alloc (.cells #[] 5)).drew).upd hap3.2.1 (by simp [Value.ownBlock]; omega); have b2 := ((hb2.alloc (.cells #[] 5)).drew).upd hap3.2.1 (by simp [Value.ownBlock]; omega); have S3 := beh_keep b0 b1 b2; have hb3 := Row.upd (Row.drew (Row.alloc hbn (.cells #[] 5))) hap3.2.1 (by simp [Value.ownBlock]; omega); have hsz3 := hap3.2.1.size; simp at hsz3; obtain ⟨A3, c3, hv3⟩ := Own.formN (n := xs.length) hap3.1 (by simp); subst hv3)
        | (refine step_append_row _ (by rfl) (Operand.tmp 8) (Operand.tmp 10) 22 (by rfl) wn.heap.size 5 (.int .u8 0) 1 Try.underlying22 info_u8 rfl (by rfl) hap3.1 (by rfl) hb3 (byt_oneCell _) (by simp; omega) (by simp; omega) (by omega) ?_; intro v4 w4 hap4; have hge : ∀ k ∈ (Value.slice A3 xs.length c3).ownBlock.toList, wn.heap.size ≤ k := (fun k hk => (hap3.1.ge (Option.mem_toList.1 hk)).1); have m0 := b0.upd hap4.2.1 (fun hm => by have := hge _ hm; omega); have m1 := b1.upd hap4.2.1 (fun hm => by have := hge _ hm; omega); have m2 := b2.upd hap4.2.1 (fun hm => by have := hge _ hm; omega); have S4 := beh_keep m0 m1 m2; obtain ⟨A4, c4, hv4⟩ := Own.formN (n := xs.length + ys.length) hap4.1 (by simp); subst hv4))
    all_goals
      have hge : ∀ k ∈ (Value.slice A3 xs.length c3).ownBlock.toList, wn.heap.size ≤ k := fun k hk => (hap3.1.ge (Option.mem_toList.1 hk)).1
      have hu4 : Upd [] w w4 := ((((hun.alloc (.cells #[] 5)).drew).trans hap3.2.1 (by simp [Value.ownBlock]; exact hun.size)).trans hap4.2.1 (fun x hx => .inr (Nat.le_trans hun.size (hge x hx))))
      have hy4 : Byt w4 w4.heap.size (.slice A4 (xs.length + ys.length) c4) (xs ++ ys) := by
        have := hap4.1.row
        rw [List.nil_append, ← List.map_append] at this
        exact this
      have hn4 : ∀ k, (Value.slice A4 (xs.length + ys.length) c4).ownBlock = some k → wn.heap.size ≤ k := fun k hk => (hap4.1.ge hk).1
      obtain ⟨hfb, hfin⟩ := wval_put2 (w := w) (x := behindW ⟨xs, false⟩ ⟨ys, q⟩) (r0 := g + 1 + 1) (by rw [← HG.out]; omega) m2 hy4 (fun k hk => Nat.le_trans hun.size (hn4 k hk)) (fun k hk => by have := hn4 k hk; omega) ⟨_, _, _, rfl⟩ hu4 (by have := hap4.1; rw [List.nil_append, ← List.map_append] at this; exact this) hun.size
      have z0 := hfb.cell 0
      have z1 := hfb.cell 1
      simp [behindW] at z0 z1
      simp only [behindW, Bool.false_or, Bool.true_or] at hfin
      clear S3 S4
      go_wp2
      exact bodyPost_ret (v := .agg #[.slice A4 (xs.length + ys.length) c4, .bool _]) (by simp [results, Try.results59, go_sem, z0, z1]) rfl hfin
  case true =>
    go_enter Try.func59, Try.ntmps59
    go_wp2_with fail
    rw [HW.out, HG.out]
    go_wp2_with fail
    refine wp_region_held_drew (S := (fun w' => w'.cell? ⟨g, 0, none⟩ = some (.slice A1 xs.length c1) ∧ w'.cell? ⟨g, 1, none⟩ = some (.bool true) ∧ w'.cell? ⟨g + 1, 0, none⟩ = some (.slice A2 ys.length c2) ∧ w'.cell? ⟨g + 1, 1, none⟩ = some (.bool q))) (by kernel_rfl) ?_ (fun hHeld => ?_)
    · go_keep
    refine wpAnyH_take (i := 1) (oi := { dst := some 6, op := Op.fieldAddr 87 (Operand.tmp 2) 0, type := 0, pos := "server.go:60", after := #[], guard := none }) (v := ?_) rfl (by kernel_rfl) (by kernel_rfl) (by kernel_rfl) (fun _ _ _ h => h) (Or.inl ⟨by rfl, ?_⟩) (by assumption) ?_
    rotate_left
    · (intro w hSw; (try dsimp only at hSw); go_simp; try (with_reducible rfl))
    try simp only [Act.put, List.setIfInBounds_toArray, List.set_cons_zero, List.set_cons_succ]
    refine wpAnyH_take (i := 2) (oi := { dst := some 7, op := Op.load 22 (Operand.tmp 6), type := 22, pos := "server.go:60", after := #[{ on := 1, ground := Ground.data }], guard := none }) (v := ?_) rfl (by kernel_rfl) (by kernel_rfl) (by kernel_rfl) (fun _ _ _ h => h) (Or.inl ⟨by rfl, ?_⟩) (by assumption) ?_
    rotate_left
    · (intro w hSw; (try dsimp only at hSw); go_simp; try (with_reducible rfl))
    try simp only [Act.put, List.setIfInBounds_toArray, List.set_cons_zero, List.set_cons_succ]
    refine wpAnyH_take (i := 4) (oi := { dst := some 9, op := Op.fieldAddr 87 (Operand.tmp 3) 0, type := 0, pos := "server.go:60", after := #[], guard := none }) (v := ?_) rfl (by kernel_rfl) (by kernel_rfl) (by kernel_rfl) (fun _ _ _ h => h) (Or.inl ⟨by rfl, ?_⟩) (by assumption) ?_
    rotate_left
    · (intro w hSw; (try dsimp only at hSw); go_simp; try (with_reducible rfl))
    try simp only [Act.put, List.setIfInBounds_toArray, List.set_cons_zero, List.set_cons_succ]
    refine wpAnyH_take (i := 5) (oi := { dst := some 10, op := Op.load 22 (Operand.tmp 9), type := 22, pos := "server.go:60", after := #[{ on := 4, ground := Ground.data }], guard := none }) (v := ?_) rfl (by kernel_rfl) (by kernel_rfl) (by kernel_rfl) (fun _ _ _ h => h) (Or.inl ⟨by rfl, ?_⟩) (by assumption) ?_
    rotate_left
    · (intro w hSw; (try dsimp only at hSw); go_simp; try (with_reducible rfl))
    try simp only [Act.put, List.setIfInBounds_toArray, List.set_cons_zero, List.set_cons_succ]
    refine wpAnyH_take (i := 7) (oi := { dst := some 12, op := Op.fieldAddr 87 (Operand.tmp 2) 1, type := 0, pos := "server.go:60", after := #[], guard := none }) (v := ?_) rfl (by kernel_rfl) (by kernel_rfl) (by kernel_rfl) (fun _ _ _ h => h) (Or.inl ⟨by rfl, ?_⟩) (by assumption) ?_
    rotate_left
    · (intro w hSw; (try dsimp only at hSw); go_simp; try (with_reducible rfl))
    try simp only [Act.put, List.setIfInBounds_toArray, List.set_cons_zero, List.set_cons_succ]
    refine wpAnyH_take (i := 8) (oi := { dst := some 13, op := Op.load 4 (Operand.tmp 12), type := 4, pos := "server.go:60", after := #[{ on := 7, ground := Ground.data }], guard := none }) (v := ?_) rfl (by kernel_rfl) (by kernel_rfl) (by kernel_rfl) (fun _ _ _ h => h) (Or.inl ⟨by rfl, ?_⟩) (by assumption) ?_
    rotate_left
    · (intro w hSw; (try dsimp only at hSw); go_simp; try (with_reducible rfl))
    try simp only [Act.put, List.setIfInBounds_toArray, List.set_cons_zero, List.set_cons_succ]
    refine wpAnyH_ready (rs := [0]) (by kernel_rfl) (by simp) ?_
    refine AllReadyH.cons (o := { dst := some 5, op := Op.buildSlice 22 0 #[], type := 22, pos := "server.go:60", after := #[], guard := none }) rfl (fun K hK => ?_) AllReadyH.nil
    go_simp
    refine hK.out _ _ (by go_keep) (fun hHeld => ?_)
    clear hK K
    try simp only [Act.put, List.setIfInBounds_toArray, List.set_cons_zero, List.set_cons_succ]
    refine wpAnyH_ready (rs := [3]) (by kernel_rfl) (by simp) ?_
    refine AllReadyH.cons (o := { dst := some 8, op := Op.call { callee := Callee.builtin Builtin.append, args := #[Operand.tmp 5, Operand.tmp 7], argTypes := #[22, 22] }, type := 22, pos := "server.go:60", after := #[{ on := 0, ground := Ground.data }, { on := 2, ground := Ground.data }], guard := none }) rfl (fun K hK => ?_) AllReadyH.nil
    refine step_append_row _ (by rfl) (Operand.tmp 5) (Operand.tmp 7) 22 (by rfl) wn.heap.size 5 (.int .u8 0) 1 Try.underlying22 info_u8 rfl (by rfl) ((own_empty wn wn.heap.size 5 (Nat.le_refl _)).upd ((Upd.refl [] _).drew) (by simp)) (by rfl) (Row.drew (Row.alloc han (.cells #[] 5))) (byt_oneCell _) (by simp; omega) (by simp; omega) (by simp) ?_; intro v3 w3 hap3; have b0 := ((hb0.alloc (.cells #[] 5)).drew).upd hap3.2.1 (by simp [Value.ownBlock]; omega); have b1 := ((hb1.alloc (.cells #[] 5)).drew).upd hap3.2.1 (by simp [Value.ownBlock]; omega); have b2 := ((hb2.alloc (.cells #[] 5)).drew).upd hap3.2.1 (by simp [Value.ownBlock]; omega); have S3 := beh_keep b0 b1 b2; have hb3 := Row.upd (Row.drew (Row.alloc hbn (.cells #[] 5))) hap3.2.1 (by simp [Value.ownBlock]; omega); have hsz3 := hap3.2.1.size; simp at hsz3; obtain ⟨A3, c3, hv3⟩ := Own.formN (n := xs.length) hap3.1 (by simp); subst hv3
    refine hK.out _ _ (by go_keep) (fun hHeld => ?_)
    clear hK K
    try simp only [Act.put, List.setIfInBounds_toArray, List.set_cons_zero, List.set_cons_succ]
    refine wpAnyH_ready (rs := [6]) (by kernel_rfl) (by simp) ?_
    refine AllReadyH.cons (o := { dst := some 11, op := Op.call { callee := Callee.builtin Builtin.append, args := #[Operand.tmp 8, Operand.tmp 10], argTypes := #[22, 22] }, type := 22, pos := "server.go:60", after := #[{ on := 3, ground := Ground.data }, { on := 5, ground := Ground.data }, { on := 3, ground := Ground.chain }], guard := none }) rfl (fun K hK => ?_) AllReadyH.nil
    refine step_append_row _ (by rfl) (Operand.tmp 8) (Operand.tmp 10) 22 (by rfl) wn.heap.size 5 (.int .u8 0) 1 Try.underlying22 info_u8 rfl (by rfl) hap3.1 (by rfl) hb3 (byt_oneCell _) (by simp; omega) (by simp; omega) (by omega) ?_; intro v4 w4 hap4; have hge : ∀ k ∈ (Value.slice A3 xs.length c3).ownBlock.toList, wn.heap.size ≤ k := (fun k hk => (hap3.1.ge (Option.mem_toList.1 hk)).1); have m0 := b0.upd hap4.2.1 (fun hm => by have := hge _ hm; omega); have m1 := b1.upd hap4.2.1 (fun hm => by have := hge _ hm; omega); have m2 := b2.upd hap4.2.1 (fun hm => by have := hge _ hm; omega); have S4 := beh_keep m0 m1 m2; obtain ⟨A4, c4, hv4⟩ := Own.formN (n := xs.length + ys.length) hap4.1 (by simp); subst hv4
    refine hK.out _ _ (by go_keep) (fun hHeld => ?_)
    clear hK K
    try simp only [Act.put, List.setIfInBounds_toArray, List.set_cons_zero, List.set_cons_succ]
    refine wpAnyH_take (i := 9) (oi := { dst := some 14, op := Op.move (Operand.tmp 13), type := 4, pos := "server.go:60", after := #[{ on := 8, ground := Ground.data }, { on := 6, ground := Ground.chain }], guard := none }) (v := ?_) rfl (by kernel_rfl) (by kernel_rfl) (by kernel_rfl) (fun _ _ _ h => h) (Or.inl ⟨by rfl, ?_⟩) (by assumption) ?_
    rotate_left
    · (intro w hSw; (try dsimp only at hSw); go_simp; try (with_reducible rfl))
    try simp only [Act.put, List.setIfInBounds_toArray, List.set_cons_zero, List.set_cons_succ]
    refine wpAnyH_take (i := 10) (oi := { dst := some 15, op := Op.fieldAddr 87 (Operand.tmp 3) 1, type := 0, pos := "server.go:60", after := #[{ on := 9, ground := Ground.guard }], guard := some (9, false) }) (v := undef) rfl (by kernel_rfl) (by kernel_rfl) (by kernel_rfl) (fun _ _ _ h => h) (Or.inr ⟨by rfl, rfl⟩) (by assumption) ?_
    try simp only [Act.put, List.setIfInBounds_toArray, List.set_cons_zero, List.set_cons_succ]
    refine wpAnyH_take (i := 11) (oi := { dst := some 16, op := Op.load 4 (Operand.tmp 15), type := 4, pos := "server.go:60", after := #[{ on := 10, ground := Ground.data }, { on := 9, ground := Ground.guard }], guard := some (9, false) }) (v := undef) rfl (by kernel_rfl) (by kernel_rfl) (by kernel_rfl) (fun _ _ _ h => h) (Or.inr ⟨by rfl, rfl⟩) (by assumption) ?_
    try simp only [Act.put, List.setIfInBounds_toArray, List.set_cons_zero, List.set_cons_succ]
    refine wpAnyH_take (i := 12) (oi := { dst := some 17, op := Op.pick (Operand.tmp 14) (Operand.const (Value.bool true)) (Operand.tmp 16), type := 4, pos := "server.go:60", after := #[{ on := 9, ground := Ground.data }, { on := 11, ground := Ground.data }], guard := none }) (v := ?_) rfl (by kernel_rfl) (by kernel_rfl) (by kernel_rfl) (fun _ _ _ h => h) (Or.inl ⟨by rfl, ?_⟩) (by assumption) ?_
    rotate_left
    · (intro w hSw; (try dsimp only at hSw); go_simp; try (with_reducible rfl))
    try simp only [Act.put, List.setIfInBounds_toArray, List.set_cons_zero, List.set_cons_succ]
    refine wpAnyH_take (i := 13) (oi := { dst := some 18, op := Op.build 87 #[(0, Operand.tmp 11), (1, Operand.tmp 17)], type := 87, pos := "server.go:60", after := #[{ on := 6, ground := Ground.data }, { on := 12, ground := Ground.data }], guard := none }) (v := ?_) rfl (by kernel_rfl) (by kernel_rfl) (by kernel_rfl) (fun _ _ _ h => h) (Or.inl ⟨by rfl, ?_⟩) (by assumption) ?_
    rotate_left
    · (intro w hSw; (try dsimp only at hSw); go_simp; try (with_reducible rfl))
    try simp only [Act.put, List.setIfInBounds_toArray, List.set_cons_zero, List.set_cons_succ]
    refine wpAnyH_ready (rs := [14]) (by kernel_rfl) (by simp) ?_
    refine AllReadyH.cons (o := { dst := none, op := Op.store 87 (Operand.tmp 4) (Operand.tmp 18), type := 0, pos := "server.go:60", after := #[{ on := 13, ground := Ground.data }, { on := 9, ground := Ground.chain }, { on := 0, ground := Ground.phase }, { on := 1, ground := Ground.phase }, { on := 2, ground := Ground.phase }, { on := 3, ground := Ground.phase }, { on := 4, ground := Ground.phase }, { on := 5, ground := Ground.phase }, { on := 6, ground := Ground.phase }, { on := 7, ground := Ground.phase }, { on := 8, ground := Ground.phase }, { on := 9, ground := Ground.phase }, { on := 10, ground := Ground.phase }, { on := 11, ground := Ground.phase }, { on := 12, ground := Ground.phase }, { on := 13, ground := Ground.phase }], guard := none }) rfl (fun K hK => ?_) AllReadyH.nil
    go_simp
    refine hK.out _ _ (by go_keep) (fun hHeld => ?_)
    clear hK K
    try simp only [Act.put, List.setIfInBounds_toArray, List.set_cons_zero, List.set_cons_succ]
    refine wpAnyH_done (by kernel_rfl) ?_ _
    all_goals
      have hge : ∀ k ∈ (Value.slice A3 xs.length c3).ownBlock.toList, wn.heap.size ≤ k := fun k hk => (hap3.1.ge (Option.mem_toList.1 hk)).1
      have hu4 : Upd [] w w4 := ((((hun.alloc (.cells #[] 5)).drew).trans hap3.2.1 (by simp [Value.ownBlock]; exact hun.size)).trans hap4.2.1 (fun x hx => .inr (Nat.le_trans hun.size (hge x hx))))
      have hy4 : Byt w4 w4.heap.size (.slice A4 (xs.length + ys.length) c4) (xs ++ ys) := by
        have := hap4.1.row
        rw [List.nil_append, ← List.map_append] at this
        exact this
      have hn4 : ∀ k, (Value.slice A4 (xs.length + ys.length) c4).ownBlock = some k → wn.heap.size ≤ k := fun k hk => (hap4.1.ge hk).1
      obtain ⟨hfb, hfin⟩ := wval_put2 (w := w) (x := behindW ⟨xs, true⟩ ⟨ys, q⟩) (r0 := g + 1 + 1) (by rw [← HG.out]; omega) m2 hy4 (fun k hk => Nat.le_trans hun.size (hn4 k hk)) (fun k hk => by have := hn4 k hk; omega) ⟨_, _, _, rfl⟩ hu4 (by have := hap4.1; rw [List.nil_append, ← List.map_append] at this; exact this) hun.size
      have z0 := hfb.cell 0
      have z1 := hfb.cell 1
      simp [behindW] at z0 z1
      simp only [behindW, Bool.false_or, Bool.true_or] at hfin
      clear S3 S4
      go_wp2
      exact bodyPost_ret (v := .agg #[.slice A4 (xs.length + ys.length) c4, .bool _]) (by simp [results, Try.results59, go_sem, z0, z1]) rfl hfin
end
end Go.Proofs.Ytddkjhlngofkaaa

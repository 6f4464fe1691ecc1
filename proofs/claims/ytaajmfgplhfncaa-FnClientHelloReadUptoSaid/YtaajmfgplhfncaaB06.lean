/- Texts joined: SpecB, LSt, Block, Block2, Outs, Lists, CqPlain, ListsB, Adds, EePlain, ShPlain, ShMade, Share, ChPlain, EmL, AddVal, ChMade, Lift, U32, LiftS, Bulk, Gen, GV, Loops. -/
import Derived.Deep.RegionHeld3
import Derived.Deep.DrawnRows
import Derived.Deep.LoopGhost
import Derived.Test.YtaajmfgplhfncaaRows
import Derived.ProofKit
import Derived.OpenShut
import Derived.JoinedCond
import Derived.Below
import Derived.ChangeSame
import Derived.StillTailTactics
import Derived.Lib.SmallJoins
import Derived.Laws.Rows
import Derived.Deep.MidRow
import Derived.Deep.RegionLaw
import Derived.Test.YtaajmfgplhfncaaB05
import Derived.Test.YtaajmfgplhfncaaB03
import Derived.Test.YtaajmfgplhfncaaB01
import Derived.Test.YtaajmfgplhfncaaB02
namespace Go.Proofs.Ytaajmfgplhfncaa
open Go.RowKit
set_option maxRecDepth 100000
attribute [local go_sem ↓] Go.wp_at_zero Go.wp_at_succ
section
variable {w w' w0 : World} {B C : Nat} {v a1 a2 : Value} {xs ys : List UInt8} {e : Ending}
theorem alloc_size (w : World) (o : Obj) : (w.alloc o).heap.size = w.heap.size + 1 := by simp
theorem own_empty (w : World) (base : Nat) (e : TypeId) (hb : base ≤ w.heap.size) : Own (w.alloc (.cells #[] e)) base e (.slice (some ⟨w.heap.size, 0, none⟩) 0 0) [] :=
  ⟨rfl, .inr ⟨w.heap.size, 0, #[], rfl, hb, heap_alloc_new w _, Nat.le_refl _, Nat.zero_le _, rfl, rfl⟩⟩
theorem beh_keep {W : World} {g : Nat} {a b c d x y : Value} (h0 : Blk W g 54 #[a, b]) (h1 : Blk W (g + 1) 54 #[c, d]) (h2 : Blk W (g + 1 + 1) 54 #[x, y]) :
    W.cell? ⟨g, 0, none⟩ = some a ∧ W.cell? ⟨g, 1, none⟩ = some b ∧ W.cell? ⟨g + 1, 0, none⟩ = some c ∧ W.cell? ⟨g + 1, 1, none⟩ = some d ∧ W.cell? ⟨g + 1 + 1, 0, none⟩ = some x ∧ W.cell? ⟨g + 1 + 1, 1, none⟩ = some y ∧ W.frozen? ⟨g + 1 + 1, 0, none⟩ = false ∧ W.frozen? ⟨g + 1 + 1, 1, none⟩ = false :=
  ⟨h0.cell 0, h0.cell 1, h1.cell 0, h1.cell 1, h2.cell 0, h2.cell 1, h2.frozen 0, h2.frozen 1⟩
def behindW (x y : Wr) : Wr := ⟨x.b ++ y.b, x.bad || y.bad⟩
set_option maxHeartbeats 2000000 in
theorem behind_any (ha : Byt w B a1 xs) (hb : Byt w C a2 ys) (p q : Bool) (hx : xs.length ≤ 1099511627776) (hy : ys.length ≤ 1099511627776) :
    Calls Try.prog 29 #[.agg #[a1, .bool p], .agg #[a2, .bool q]] w (WValP w (behindW ⟨xs, p⟩ ⟨ys, q⟩)) := by
  obtain ⟨A1, c1, rfl, ha, -⟩ := Byt.form ha.shrink rfl
  obtain ⟨A2, c2, rfl, hb, -⟩ := Byt.form hb.shrink rfl
  obtain ⟨wn, hwn⟩ : ∃ wn, ((w.alloc (.cells #[.slice A1 xs.length c1, .bool p] 54)).alloc (.cells #[.slice A2 ys.length c2, .bool q] 54)).alloc (.cells #[.slice none 0 0, .bool false] 54) = wn := ⟨_, rfl⟩
  obtain ⟨g, hg⟩ : ∃ g, w.heap.size = g := ⟨_, rfl⟩
  have hun : Upd [] w wn := by rw [← hwn]; exact (((Upd.refl _ _).alloc _).alloc _).alloc _
  have hb0 : Blk wn g 54 #[.slice A1 xs.length c1, .bool p] := by rw [← hwn, ← hg]; exact ((Blk.new _ _ _).alloc _).alloc _
  have hb1 : Blk wn (g + 1) 54 #[.slice A2 ys.length c2, .bool q] := by
    rw [← hwn, ← hg]
    have := Blk.new (w.alloc (.cells #[.slice A1 xs.length c1, .bool p] 54)) 54 #[.slice A2 ys.length c2, .bool q]
    simp only [alloc_size] at this
    exact this.alloc _
  have hb2 : Blk wn (g + 1 + 1) 54 #[.slice none 0 0, .bool false] := by
    rw [← hwn, ← hg]
    have := Blk.new ((w.alloc (.cells #[.slice A1 xs.length c1, .bool p] 54)).alloc (.cells #[.slice A2 ys.length c2, .bool q] 54)) 54 #[.slice none 0 0, .bool false]
    simp only [alloc_size] at this
    exact this
  have hsn : wn.heap.size = g + 3 := by rw [← hwn, ← hg]; simp
  have han : Byt wn g (.slice A1 xs.length c1) xs := by rw [← hg]; exact Row.upd ha hun (by simp)
  have hbn : Byt wn g (.slice A2 ys.length c2) ys := by rw [← hg]; exact Row.upd hb hun (by simp)
  have d0 := hb0.cell 0
  have d1 := hb0.cell 1
  have e0 := hb1.cell 0
  have e1 := hb1.cell 1
  have k0 := hb2.cell 0
  have k1 := hb2.cell 1
  have f0 := hb2.frozen 0
  have f1 := hb2.frozen 1
  simp at d0 d1 e0 e1 k0 k1
  have f0a := (hb2.alloc (.cells #[] 5)).frozen 0
  have f1a := (hb2.alloc (.cells #[] 5)).frozen 1
  have n1 : ¬ g = g + 1 + 1 := by omega
  have n2 : ¬ g + 1 = g + 1 + 1 := by omega
  have n3 : ¬ g + 1 + 1 = g := by omega
  have HW := hid hwn
  have HG := hid hg
  have HS := hid hsn
  clear hwn hg hsn
  have hgl : g + 1 + 1 < wn.heap.size := by rw [HS.out]; omega
  cases p
  case false =>
    go_enter Try.func29, Try.ntmps29
    go_wp2_with fail
    rw [HW.out, HG.out]
    go_wp2_with fail
    go_region_held3 (fun w' => w'.cell? ⟨g, 0, none⟩ = some (.slice A1 xs.length c1) ∧ w'.cell? ⟨g, 1, none⟩ = some (.bool false) ∧ w'.cell? ⟨g + 1, 0, none⟩ = some (.slice A2 ys.length c2) ∧ w'.cell? ⟨g + 1, 1, none⟩ = some (.bool q)) (go_keep)
      (first
        | (refine step_append_row _ (by rfl) (Operand.tmp 5) (Operand.tmp 7) 23 (by rfl) wn.heap.size 5 (.int .u8 0) 1 Try.underlying23 info_u8 rfl (by rfl) ((own_empty wn wn.heap.size 5 (Nat.le_refl _)).upd ((Upd.refl [] _).drew) (by simp)) (by rfl) (Row.drew (Row.alloc han (.cells #[] 5))) (byt_oneCell _) (by simp; omega) (by simp; omega) (by simp) ?_; intro v3 w3 hap3; have b0 := ((hb0.alloc (.cells #[] 5)).drew).upd hap3.2.1 (by simp [Value.ownBlock]; omega); have b1 := ((hb1.alloc (.cells #[] 5)).drew).upd hap3.2.1 (by simp [Value.ownBlock]; omega); have b2 := ((hb2.alloc (.cells #[] 5)).drew).upd hap3.2.1 (by simp [Value.ownBlock]; omega); have S3 := beh_keep b0 b1 b2; have hb3 := Row.upd (Row.drew (Row.alloc hbn (.cells #[] 5))) hap3.2.1 (by simp [Value.ownBlock]; omega); have hsz3 := hap3.2.1.size; simp at hsz3; obtain ⟨A3, c3, hv3⟩ := Own.formN (n := xs.length) hap3.1 (by simp); subst hv3)
        | (refine step_append_row _ (by rfl) (Operand.tmp 8) (Operand.tmp 10) 23 (by rfl) wn.heap.size 5 (.int .u8 0) 1 Try.underlying23 info_u8 rfl (by rfl) hap3.1 (by rfl) hb3 (byt_oneCell _) (by simp; omega) (by simp; omega) (by omega) ?_; intro v4 w4 hap4; have hge : ∀ k ∈ (Value.slice A3 xs.length c3).ownBlock.toList, wn.heap.size ≤ k := (fun k hk => (hap3.1.ge (Option.mem_toList.1 hk)).1); have m0 := b0.upd hap4.2.1 (fun hm => by have := hge _ hm; omega); have m1 := b1.upd hap4.2.1 (fun hm => by have := hge _ hm; omega); have m2 := b2.upd hap4.2.1 (fun hm => by have := hge _ hm; omega); have S4 := beh_keep m0 m1 m2; obtain ⟨A4, c4, hv4⟩ := Own.formN (n := xs.length + ys.length) hap4.1 (by simp); subst hv4))
    all_goals
      have hge : ∀ k ∈ (Value.slice A3 xs.length c3).ownBlock.toList, wn.heap.size ≤ k := fun k hk => (hap3.1.ge (Option.mem_toList.1 hk)).1
      have hu4 : Upd [] w w4 := ((((hun.alloc (.cells #[] 5)).drew).trans hap3.2.1 (by simp [Value.ownBlock]; exact hun.size)).trans hap4.2.1 (fun x hx => .inr (Nat.le_trans hun.size (hge x hx))))
      have hy4 : Byt w4 w4.heap.size (.slice A4 (xs.length + ys.length) c4) (xs ++ ys) := by
        have := hap4.1.row
        rw [List.nil_append, ← List.map_append] at this
        exact this
      have hn4 : ∀ k, (Value.slice A4 (xs.length + ys.length) c4).ownBlock = some k → wn.heap.size ≤ k := fun k hk => (hap4.1.ge hk).1
      obtain ⟨hfb, hfin⟩ := wval_put (w := w) (x := behindW ⟨xs, false⟩ ⟨ys, q⟩) (r0 := g + 1 + 1) (by rw [← HG.out]; omega) m2 hy4 (fun k hk => Nat.le_trans hun.size (hn4 k hk)) (fun k hk => by have := hn4 k hk; omega) ⟨_, _, _, rfl⟩ hu4
      have z0 := hfb.cell 0
      have z1 := hfb.cell 1
      simp [behindW] at z0 z1
      simp only [behindW, Bool.false_or, Bool.true_or] at hfin
      clear S3 S4
      go_wp2
      exact bodyPost_ret (v := .agg #[.slice A4 (xs.length + ys.length) c4, .bool _]) (by simp [results, Try.results29, go_sem, z0, z1]) rfl hfin
  case true =>
    go_enter Try.func29, Try.ntmps29
    go_wp2_with fail
    rw [HW.out, HG.out]
    go_wp2_with fail
    refine wp_region_held_drew (S := (fun w' => w'.cell? ⟨g, 0, none⟩ = some (.slice A1 xs.length c1) ∧ w'.cell? ⟨g, 1, none⟩ = some (.bool true) ∧ w'.cell? ⟨g + 1, 0, none⟩ = some (.slice A2 ys.length c2) ∧ w'.cell? ⟨g + 1, 1, none⟩ = some (.bool q))) (by kernel_rfl) ?_ (fun hHeld => ?_)
    · go_keep
    refine wpAnyH_take (i := 1) (oi := { dst := some 6, op := Op.fieldAddr 54 (Operand.tmp 2) 0, type := 0, pos := "server.go:60", after := #[], guard := none }) (v := ?_) rfl (by kernel_rfl) (by kernel_rfl) (by kernel_rfl) (fun _ _ _ h => h) (Or.inl ⟨by rfl, ?_⟩) (by assumption) ?_
    rotate_left
    · (intro w hSw; (try dsimp only at hSw); go_simp; try (with_reducible rfl))
    try simp only [Act.put, List.setIfInBounds_toArray, List.set_cons_zero, List.set_cons_succ]
    refine wpAnyH_take (i := 2) (oi := { dst := some 7, op := Op.load 23 (Operand.tmp 6), type := 23, pos := "server.go:60", after := #[{ on := 1, ground := Ground.data }], guard := none }) (v := ?_) rfl (by kernel_rfl) (by kernel_rfl) (by kernel_rfl) (fun _ _ _ h => h) (Or.inl ⟨by rfl, ?_⟩) (by assumption) ?_
    rotate_left
    · (intro w hSw; (try dsimp only at hSw); go_simp; try (with_reducible rfl))
    try simp only [Act.put, List.setIfInBounds_toArray, List.set_cons_zero, List.set_cons_succ]
    refine wpAnyH_take (i := 4) (oi := { dst := some 9, op := Op.fieldAddr 54 (Operand.tmp 3) 0, type := 0, pos := "server.go:60", after := #[], guard := none }) (v := ?_) rfl (by kernel_rfl) (by kernel_rfl) (by kernel_rfl) (fun _ _ _ h => h) (Or.inl ⟨by rfl, ?_⟩) (by assumption) ?_
    rotate_left
    · (intro w hSw; (try dsimp only at hSw); go_simp; try (with_reducible rfl))
    try simp only [Act.put, List.setIfInBounds_toArray, List.set_cons_zero, List.set_cons_succ]
    refine wpAnyH_take (i := 5) (oi := { dst := some 10, op := Op.load 23 (Operand.tmp 9), type := 23, pos := "server.go:60", after := #[{ on := 4, ground := Ground.data }], guard := none }) (v := ?_) rfl (by kernel_rfl) (by kernel_rfl) (by kernel_rfl) (fun _ _ _ h => h) (Or.inl ⟨by rfl, ?_⟩) (by assumption) ?_
    rotate_left
    · (intro w hSw; (try dsimp only at hSw); go_simp; try (with_reducible rfl))
    try simp only [Act.put, List.setIfInBounds_toArray, List.set_cons_zero, List.set_cons_succ]
    refine wpAnyH_take (i := 7) (oi := { dst := some 12, op := Op.fieldAddr 54 (Operand.tmp 2) 1, type := 0, pos := "server.go:60", after := #[], guard := none }) (v := ?_) rfl (by kernel_rfl) (by kernel_rfl) (by kernel_rfl) (fun _ _ _ h => h) (Or.inl ⟨by rfl, ?_⟩) (by assumption) ?_
    rotate_left
    · (intro w hSw; (try dsimp only at hSw); go_simp; try (with_reducible rfl))
    try simp only [Act.put, List.setIfInBounds_toArray, List.set_cons_zero, List.set_cons_succ]
    refine wpAnyH_take (i := 8) (oi := { dst := some 13, op := Op.load 4 (Operand.tmp 12), type := 4, pos := "server.go:60", after := #[{ on := 7, ground := Ground.data }], guard := none }) (v := ?_) rfl (by kernel_rfl) (by kernel_rfl) (by kernel_rfl) (fun _ _ _ h => h) (Or.inl ⟨by rfl, ?_⟩) (by assumption) ?_
    rotate_left
    · (intro w hSw; (try dsimp only at hSw); go_simp; try (with_reducible rfl))
    try simp only [Act.put, List.setIfInBounds_toArray, List.set_cons_zero, List.set_cons_succ]
    refine wpAnyH_ready (rs := [0]) (by kernel_rfl) (by simp) ?_
    refine AllReadyH.cons (o := { dst := some 5, op := Op.buildSlice 23 0 #[], type := 23, pos := "server.go:60", after := #[], guard := none }) rfl (fun K hK => ?_) AllReadyH.nil
    go_simp
    refine hK.out _ _ (by go_keep) (fun hHeld => ?_)
    clear hK K
    try simp only [Act.put, List.setIfInBounds_toArray, List.set_cons_zero, List.set_cons_succ]
    refine wpAnyH_ready (rs := [3]) (by kernel_rfl) (by simp) ?_
    refine AllReadyH.cons (o := { dst := some 8, op := Op.call { callee := Callee.builtin Builtin.append, args := #[Operand.tmp 5, Operand.tmp 7], argTypes := #[23, 23] }, type := 23, pos := "server.go:60", after := #[{ on := 0, ground := Ground.data }, { on := 2, ground := Ground.data }], guard := none }) rfl (fun K hK => ?_) AllReadyH.nil
    refine step_append_row _ (by rfl) (Operand.tmp 5) (Operand.tmp 7) 23 (by rfl) wn.heap.size 5 (.int .u8 0) 1 Try.underlying23 info_u8 rfl (by rfl) ((own_empty wn wn.heap.size 5 (Nat.le_refl _)).upd ((Upd.refl [] _).drew) (by simp)) (by rfl) (Row.drew (Row.alloc han (.cells #[] 5))) (byt_oneCell _) (by simp; omega) (by simp; omega) (by simp) ?_; intro v3 w3 hap3; have b0 := ((hb0.alloc (.cells #[] 5)).drew).upd hap3.2.1 (by simp [Value.ownBlock]; omega); have b1 := ((hb1.alloc (.cells #[] 5)).drew).upd hap3.2.1 (by simp [Value.ownBlock]; omega); have b2 := ((hb2.alloc (.cells #[] 5)).drew).upd hap3.2.1 (by simp [Value.ownBlock]; omega); have S3 := beh_keep b0 b1 b2; have hb3 := Row.upd (Row.drew (Row.alloc hbn (.cells #[] 5))) hap3.2.1 (by simp [Value.ownBlock]; omega); have hsz3 := hap3.2.1.size; simp at hsz3; obtain ⟨A3, c3, hv3⟩ := Own.formN (n := xs.length) hap3.1 (by simp); subst hv3
    refine hK.out _ _ (by go_keep) (fun hHeld => ?_)
    clear hK K
    try simp only [Act.put, List.setIfInBounds_toArray, List.set_cons_zero, List.set_cons_succ]
    refine wpAnyH_ready (rs := [6]) (by kernel_rfl) (by simp) ?_
    refine AllReadyH.cons (o := { dst := some 11, op := Op.call { callee := Callee.builtin Builtin.append, args := #[Operand.tmp 8, Operand.tmp 10], argTypes := #[23, 23] }, type := 23, pos := "server.go:60", after := #[{ on := 3, ground := Ground.data }, { on := 5, ground := Ground.data }, { on := 3, ground := Ground.chain }], guard := none }) rfl (fun K hK => ?_) AllReadyH.nil
    refine step_append_row _ (by rfl) (Operand.tmp 8) (Operand.tmp 10) 23 (by rfl) wn.heap.size 5 (.int .u8 0) 1 Try.underlying23 info_u8 rfl (by rfl) hap3.1 (by rfl) hb3 (byt_oneCell _) (by simp; omega) (by simp; omega) (by omega) ?_; intro v4 w4 hap4; have hge : ∀ k ∈ (Value.slice A3 xs.length c3).ownBlock.toList, wn.heap.size ≤ k := (fun k hk => (hap3.1.ge (Option.mem_toList.1 hk)).1); have m0 := b0.upd hap4.2.1 (fun hm => by have := hge _ hm; omega); have m1 := b1.upd hap4.2.1 (fun hm => by have := hge _ hm; omega); have m2 := b2.upd hap4.2.1 (fun hm => by have := hge _ hm; omega); have S4 := beh_keep m0 m1 m2; obtain ⟨A4, c4, hv4⟩ := Own.formN (n := xs.length + ys.length) hap4.1 (by simp); subst hv4
    refine hK.out _ _ (by go_keep) (fun hHeld => ?_)
    clear hK K
    try simp only [Act.put, List.setIfInBounds_toArray, List.set_cons_zero, List.set_cons_succ]
    refine wpAnyH_take (i := 9) (oi := { dst := some 14, op := Op.move (Operand.tmp 13), type := 4, pos := "server.go:60", after := #[{ on := 8, ground := Ground.data }, { on := 6, ground := Ground.chain }], guard := none }) (v := ?_) rfl (by kernel_rfl) (by kernel_rfl) (by kernel_rfl) (fun _ _ _ h => h) (Or.inl ⟨by rfl, ?_⟩) (by assumption) ?_
    rotate_left
    · (intro w hSw; (try dsimp only at hSw); go_simp; try (with_reducible rfl))
    try simp only [Act.put, List.setIfInBounds_toArray, List.set_cons_zero, List.set_cons_succ]
    refine wpAnyH_take (i := 10) (oi := { dst := some 15, op := Op.fieldAddr 54 (Operand.tmp 3) 1, type := 0, pos := "server.go:60", after := #[{ on := 9, ground := Ground.guard }], guard := some (9, false) }) (v := undef) rfl (by kernel_rfl) (by kernel_rfl) (by kernel_rfl) (fun _ _ _ h => h) (Or.inr ⟨by rfl, rfl⟩) (by assumption) ?_
    try simp only [Act.put, List.setIfInBounds_toArray, List.set_cons_zero, List.set_cons_succ]
    refine wpAnyH_take (i := 11) (oi := { dst := some 16, op := Op.load 4 (Operand.tmp 15), type := 4, pos := "server.go:60", after := #[{ on := 10, ground := Ground.data }, { on := 9, ground := Ground.guard }], guard := some (9, false) }) (v := undef) rfl (by kernel_rfl) (by kernel_rfl) (by kernel_rfl) (fun _ _ _ h => h) (Or.inr ⟨by rfl, rfl⟩) (by assumption) ?_
    try simp only [Act.put, List.setIfInBounds_toArray, List.set_cons_zero, List.set_cons_succ]
    refine wpAnyH_take (i := 12) (oi := { dst := some 17, op := Op.pick (Operand.tmp 14) (Operand.const (Value.bool true)) (Operand.tmp 16), type := 4, pos := "server.go:60", after := #[{ on := 9, ground := Ground.data }, { on := 11, ground := Ground.data }], guard := none }) (v := ?_) rfl (by kernel_rfl) (by kernel_rfl) (by kernel_rfl) (fun _ _ _ h => h) (Or.inl ⟨by rfl, ?_⟩) (by assumption) ?_
    rotate_left
    · (intro w hSw; (try dsimp only at hSw); go_simp; try (with_reducible rfl))
    try simp only [Act.put, List.setIfInBounds_toArray, List.set_cons_zero, List.set_cons_succ]
    refine wpAnyH_take (i := 13) (oi := { dst := some 18, op := Op.build 54 #[(0, Operand.tmp 11), (1, Operand.tmp 17)], type := 54, pos := "server.go:60", after := #[{ on := 6, ground := Ground.data }, { on := 12, ground := Ground.data }], guard := none }) (v := ?_) rfl (by kernel_rfl) (by kernel_rfl) (by kernel_rfl) (fun _ _ _ h => h) (Or.inl ⟨by rfl, ?_⟩) (by assumption) ?_
    rotate_left
    · (intro w hSw; (try dsimp only at hSw); go_simp; try (with_reducible rfl))
    try simp only [Act.put, List.setIfInBounds_toArray, List.set_cons_zero, List.set_cons_succ]
    refine wpAnyH_ready (rs := [14]) (by kernel_rfl) (by simp) ?_
    refine AllReadyH.cons (o := { dst := none, op := Op.store 54 (Operand.tmp 4) (Operand.tmp 18), type := 0, pos := "server.go:60", after := #[{ on := 13, ground := Ground.data }, { on := 9, ground := Ground.chain }, { on := 0, ground := Ground.phase }, { on := 1, ground := Ground.phase }, { on := 2, ground := Ground.phase }, { on := 3, ground := Ground.phase }, { on := 4, ground := Ground.phase }, { on := 5, ground := Ground.phase }, { on := 6, ground := Ground.phase }, { on := 7, ground := Ground.phase }, { on := 8, ground := Ground.phase }, { on := 9, ground := Ground.phase }, { on := 10, ground := Ground.phase }, { on := 11, ground := Ground.phase }, { on := 12, ground := Ground.phase }, { on := 13, ground := Ground.phase }], guard := none }) rfl (fun K hK => ?_) AllReadyH.nil
    go_simp
    refine hK.out _ _ (by go_keep) (fun hHeld => ?_)
    clear hK K
    try simp only [Act.put, List.setIfInBounds_toArray, List.set_cons_zero, List.set_cons_succ]
    refine wpAnyH_done (by kernel_rfl) ?_ _
    all_goals
      have hge : ∀ k ∈ (Value.slice A3 xs.length c3).ownBlock.toList, wn.heap.size ≤ k := fun k hk => (hap3.1.ge (Option.mem_toList.1 hk)).1
      have hu4 : Upd [] w w4 := ((((hun.alloc (.cells #[] 5)).drew).trans hap3.2.1 (by simp [Value.ownBlock]; exact hun.size)).trans hap4.2.1 (fun x hx => .inr (Nat.le_trans hun.size (hge x hx))))
      have hy4 : Byt w4 w4.heap.size (.slice A4 (xs.length + ys.length) c4) (xs ++ ys) := by
        have := hap4.1.row
        rw [List.nil_append, ← List.map_append] at this
        exact this
      have hn4 : ∀ k, (Value.slice A4 (xs.length + ys.length) c4).ownBlock = some k → wn.heap.size ≤ k := fun k hk => (hap4.1.ge hk).1
      obtain ⟨hfb, hfin⟩ := wval_put (w := w) (x := behindW ⟨xs, true⟩ ⟨ys, q⟩) (r0 := g + 1 + 1) (by rw [← HG.out]; omega) m2 hy4 (fun k hk => Nat.le_trans hun.size (hn4 k hk)) (fun k hk => by have := hn4 k hk; omega) ⟨_, _, _, rfl⟩ hu4
      have z0 := hfb.cell 0
      have z1 := hfb.cell 1
      simp [behindW] at z0 z1
      simp only [behindW, Bool.false_or, Bool.true_or] at hfin
      clear S3 S4
      go_wp2
      exact bodyPost_ret (v := .agg #[.slice A4 (xs.length + ys.length) c4, .bool _]) (by simp [results, Try.results29, go_sem, z0, z1]) rfl hfin
end
end Go.Proofs.Ytaajmfgplhfncaa
namespace Go.Proofs.Ytaajmfgplhfncaa
open Go.RowKit
set_option maxRecDepth 100000
def LSt (w0 : World) (p : Nat) (L : LW) (w : World) : Prop := w0.heap.size = p ∧ ∃ v, LWs w p p v L ∧ Upd [] w0 w
def LStP (w0 : World) (p : Nat) (L : LW) (e : Ending) (w : World) : Prop := e = .returned (.tuple #[]) ∧ LSt w0 p L w
def ExL (w : World) (L : LW) (e : Ending) (w' : World) : Prop := ∃ v, e = .returned (.tuple #[v, .bool (!L.bad)]) ∧ Exr w' w'.heap.size w'.heap.size v L.l ∧ Upd [] w w'
section
variable {w w0 w' : World} {p C : Nat} {v content : Value} {xs : List UInt8} {L : LW} {e : Ending}
theorem LSt.new (w0 : World) : LSt w0 w0.heap.size LW.nil (w0.alloc (.cells #[.slice none 0 0, .bool false] 51)) :=
  ⟨rfl, _, LWs.new w0, (Upd.refl _ _).alloc _⟩
theorem LSt.up (h : LSt w0 p L w) : Upd [] w0 w := h.2.choose_spec.2
theorem LSt.upd (h : LSt w0 p L w) (hu : Upd [] w w') : LSt w0 p L w' := by
  obtain ⟨h0, v, h1, h2⟩ := h
  exact ⟨h0, v, h1.upd hu, h2.trans hu (by simp)⟩
theorem LSt.add (h : LSt w0 p L w) (hu : Upd [] w w') (is : Bool) (k : UInt16) (hc : Byt w' C content xs) (hcn : xs ≠ [] → ∀ g, content.ownBlock = some g → g < p ∨ w.heap.size ≤ g) (xb : Bool) (hl : L.l.length ≤ 1000) :
    Calls Try.prog 21 #[.pointer (some ⟨p, 0, none⟩), .bool is, .int .u16 (k.toNat : Int), .agg #[content, .bool xb]] w' (LStP w0 p (L.add is k ⟨xs, xb⟩)) := by
  obtain ⟨h0, v, h1, h2⟩ := h
  have hv : ∀ g, v.ownBlock = some g → p ≤ g ∧ g < w.heap.size := fun g hg => World.ownsRow.lt h1.2.2.choose_spec.1 g hg
  have hpl : p < w.heap.size := h1.2.1.lt
  refine (add_ex_any (h1.upd hu) is k hc (fun _ hx g hg => ⟨fun he => ?_, fun he => ?_⟩) xb hl).mono ?_
  · have := hv g he
    rcases hcn hx g hg with h | h <;> omega
  · rcases hcn hx g hg with h | h <;> omega
  · rintro e w'' ⟨he, v', h3, h4, h5⟩
    refine ⟨he, h0, v', h3, (h2.trans hu (by simp)).trans h4 ?_⟩
    intro x hx
    right
    rcases List.mem_cons.1 hx with hx | hx
    · omega
    · have := (hv x (Option.mem_toList.1 hx)).1; omega
theorem LSt.cells (h : LSt w0 p L w) : ∃ A n c, w.cell? ⟨p, 0, none⟩ = some (.slice A n c) ∧ w.cell? ⟨p, 1, none⟩ = some (.bool L.bad) ∧ Exr w w.heap.size w.heap.size (.slice A n c) L.l := by
  obtain ⟨h0, v, h1, h2⟩ := h
  obtain ⟨A, c, rfl, -, -⟩ := own2_form h1.2.2.choose_spec.1
  have k0 := h1.2.1.cell 0
  have k1 := h1.2.1.cell 1
  simp at k0 k1
  exact ⟨A, _, c, k0, k1, h1.exr⟩
theorem LW.add_len (s : LW) (is : Bool) (k : UInt16) (x : Wr) : (s.add is k x).l.length ≤ s.l.length + 1 := by cases is <;> simp [LW.add]
theorem Byt.blk {B : Nat} (h : Byt w B v xs) (hx : xs ≠ []) : ∀ g, v.ownBlock = some g → g < B := by
  intro g hg
  obtain ⟨A, c, rfl, -, -, -, h⟩ := h
  obtain ⟨b, o', rfl, hb, -⟩ := h (by simpa using hx)
  have : b = g := by simpa [Value.ownBlock] using hg
  omega
theorem plain_st {B : Nat} (hc : Byt w B content xs) : Calls Try.prog 26 #[content] w fun e w' => e = .returned (.agg #[content, .bool false]) ∧ Upd [] w w' := plain_any hc
end
end Go.Proofs.Ytaajmfgplhfncaa
namespace Go.Proofs.Ytaajmfgplhfncaa
set_option maxRecDepth 20000
end Go.Proofs.Ytaajmfgplhfncaa
namespace Go.Proofs.Ytaajmfgplhfncaa
set_option maxRecDepth 20000
def blkB (L : List Ex) : List UInt8 := be 2 (exsB L).length ++ exsB L
end Go.Proofs.Ytaajmfgplhfncaa
namespace Go.Proofs.Ytaajmfgplhfncaa
set_option maxRecDepth 20000
def msgB (kind : Nat) (body : List UInt8) : List UInt8 := be 1 kind ++ be 3 body.length ++ body
theorem msgB_drop (kind : Nat) (body : List UInt8) : (msgB kind body).drop 4 = body := by
  unfold msgB; simp [be]
theorem msgB_len (kind : Nat) (body : List UInt8) : (msgB kind body).length = 4 + body.length := by
  unfold msgB; simp [be_len]; omega
theorem messageW_msgB (kind : Nat) (x : Wr) : messageW kind x = ⟨msgB kind x.b, x.bad || decide (16777216 ≤ x.b.length)⟩ := by
  simp [messageW, Wr.inner, Wr.vec, Wr.num, Wr.nil, msgB]
theorem lp_be1 (x r : List UInt8) (h : x.length < 256) : lp 1 (be 1 x.length ++ x ++ r) = some (x, r) := lp_be 1 x r (by simp [be, beNat]; omega)
theorem exsB_size (l : List Ex) : (exsB l).length = (l.map fun e => 4 + e.2.length).sum := by
  induction l with
  | nil => rfl
  | cons e l ih => rw [exsB_cons, List.length_append, exB_len, ih]; rfl
theorem exsB_perm {l l' : List Ex} (h : l.Perm l') : (exsB l).length = (exsB l').length := by
  rw [exsB_size, exsB_size]
  exact (h.map _).sum_nat
theorem exsB_le (M : Nat) : ∀ (l : List Ex), (∀ e ∈ l, e.2.length ≤ M) → (exsB l).length ≤ l.length * (4 + M)
  | [], _ => by simp [exsB]
  | e :: l, h => by
    have h1 := h e (by simp)
    have h2 := exsB_le M l (fun x hx => h x (by simp [hx]))
    rw [exsB_cons, List.length_append, exB_len, List.length_cons, Nat.add_mul]
    omega
theorem unknownGo_data (M : Nat) : ∀ (i : Nat) (l : List (List UInt8)), (∀ x ∈ l, x.length ≤ M) → ∀ e ∈ unknownGo i l, e.2.length ≤ M
  | _, [], _, e, he => by cases he
  | i, x :: l, h, e, he => by
    rcases List.mem_cons.1 he with he | he
    · rw [he]; exact h x (by simp)
    · exact unknownGo_data M (i + 1) l (fun y hy => h y (by simp [hy])) e he
theorem ordered_size (E : List Ex) (f : Nat) {more : List (List UInt8)} (hm : more.length ≤ 8) (hx : ∀ x ∈ more, x.length ≤ 2147483647) : (exsB (ordered E f more)).length ≤ (exsB E).length + 17179869208 := by
  rw [exsB_perm (ordered_perm E f more), exsB_append, List.length_append]
  have h1 : ∀ e ∈ (unknown more).take E.length, e.2.length ≤ 2147483647 := fun e he => unknownGo_data _ 0 more hx e (List.mem_of_mem_take he)
  have h2 := exsB_le _ _ h1
  have h3 : ((unknown more).take E.length).length ≤ 8 := by
    rw [List.length_take, unknown, unknownGo_len]; omega
  have h4 := Nat.mul_le_mul_right (4 + 2147483647) h3
  omega
def bz (b : Bool) (n : Nat) : Nat := cond b n 0
end Go.Proofs.Ytaajmfgplhfncaa
namespace Go.Proofs.Ytaajmfgplhfncaa
set_option maxRecDepth 20000
end Go.Proofs.Ytaajmfgplhfncaa
namespace Go.Proofs.Ytaajmfgplhfncaa
set_option maxRecDepth 20000
structure Cq where
  ocsp : Bool
  scts : Bool
  sig : List UInt16
  sigc : List UInt16
  cas : List (List UInt8)
def Cq.zero : Cq := ⟨false, false, [], [], []⟩
end Go.Proofs.Ytaajmfgplhfncaa
namespace Go.Proofs.Ytaajmfgplhfncaa
set_option maxRecDepth 20000
end Go.Proofs.Ytaajmfgplhfncaa
namespace Go.Proofs.Ytaajmfgplhfncaa
set_option maxRecDepth 20000
abbrev Item := Bool × UInt16 × Wr
def adds (l : List Item) (s : LW) : LW := l.foldl (fun s e => s.add e.1 e.2.1 e.2.2) s
def itemsE (l : List Item) : List Ex := (l.filter (·.1)).map fun e => (e.2.1, e.2.2.b)
def itemsBad (l : List Item) : Bool := l.any fun e => e.1 && e.2.2.bad
theorem adds_l (l : List Item) (s : LW) : (adds l s).l = s.l ++ itemsE l := by
  induction l generalizing s with
  | nil => simp [adds, itemsE]
  | cons e l ih =>
    show (adds l (s.add e.1 e.2.1 e.2.2)).l = _
    rw [ih]
    obtain ⟨b, k, x⟩ := e
    cases b
    · simp [LW.add, itemsE]
    · simp [LW.add, itemsE]
theorem adds_bad (l : List Item) (s : LW) : (adds l s).bad = (s.bad || itemsBad l) := by
  induction l generalizing s with
  | nil => simp [adds, itemsBad]
  | cons e l ih =>
    show (adds l (s.add e.1 e.2.1 e.2.2)).bad = _
    rw [ih]
    obtain ⟨b, k, x⟩ := e
    cases b
    · simp [LW.add, itemsBad]
    · simp [LW.add, itemsBad, Bool.or_assoc]
theorem itemsE_mem (l : List Item) (e : Ex) : e ∈ itemsE l ↔ ∃ i ∈ l, i.1 = true ∧ e = (i.2.1, i.2.2.b) := by
  unfold itemsE
  simp only [List.mem_map, List.mem_filter]
  constructor
  · rintro ⟨a, ⟨h1, h2⟩, rfl⟩; exact ⟨a, h1, h2, rfl⟩
  · rintro ⟨a, h1, h2, rfl⟩; exact ⟨a, ⟨h1, h2⟩, rfl⟩
theorem itemsE_keys (l : List Item) : ((itemsE l).map (·.1)).Sublist (l.map (·.2.1)) := by
  unfold itemsE
  rw [List.map_map]
  exact (List.filter_sublist (l := l)).map _
theorem itemsE_size (l : List Item) : (exsB (itemsE l)).length = (l.map fun i => bz i.1 (4 + i.2.2.b.length)).sum := by
  induction l with
  | nil => rfl
  | cons i l ih =>
    obtain ⟨b, k, x⟩ := i
    cases b
    · have e : itemsE ((false, k, x) :: l) = itemsE l := by simp [itemsE]
      rw [e, ih]; simp [bz]
    · have e : itemsE ((true, k, x) :: l) = (k, x.b) :: itemsE l := by simp [itemsE]
      rw [e, exsB_cons, List.length_append, exB_len, ih]; simp [bz]
theorem vector_b (n : Nat) (x : Wr) : (Wr.vector n x).b = be n x.b.length ++ x.b := by simp [Wr.vector, Wr.inner, Wr.vec, Wr.nil]
theorem vector_bad (n : Nat) (x : Wr) : (Wr.vector n x).bad = (x.bad || decide (256 ^ n ≤ x.b.length)) := by simp [Wr.vector, Wr.inner, Wr.vec, Wr.nil]
end Go.Proofs.Ytaajmfgplhfncaa
namespace Go.Proofs.Ytaajmfgplhfncaa
set_option maxRecDepth 20000
structure Ee where
  alpn : List UInt8
  has : Bool
  quic : List UInt8
  early : Bool
  ech : List UInt8
  ack : Bool
def Ee.zero : Ee := ⟨[], false, [], false, [], false⟩
def R.rest1 (x : R) : R := if x.bs.length = 0 then x.fail 1 else x
def R.rest (x : R) : List UInt8 × R := x.rest1.take x.rest1.bs.length
end Go.Proofs.Ytaajmfgplhfncaa
namespace Go.Proofs.Ytaajmfgplhfncaa
set_option maxRecDepth 20000
structure Sh where
  vers : UInt16
  random : List UInt8
  sid : List UInt8
  suite : UInt16
  comp : UInt8
  ocsp : Bool
  ticket : Bool
  rns : Bool
  rn : List UInt8
  ems : Bool
  alpn : List UInt8
  scts : List (List UInt8)
  sv : UInt16
  sg : UInt16
  sd : List UInt8
  sip : Bool
  si : UInt16
  pts : List UInt8
  ech : List UInt8
  ack : Bool
  cookie : List UInt8
  selg : UInt16
def Sh.zero : Sh := ⟨0, [], [], 0, 0, false, false, false, [], false, [], [], 0, 0, [], false, 0, [], [], false, [], 0⟩
end Go.Proofs.Ytaajmfgplhfncaa
namespace Go.Proofs.Ytaajmfgplhfncaa
set_option maxRecDepth 20000
end Go.Proofs.Ytaajmfgplhfncaa
namespace Go.Proofs.Ytaajmfgplhfncaa
open Go.RowKit
set_option maxRecDepth 100000
theorem Lst.drewn {w : World} {B : Nat} {v : Value} {ls : List (List UInt8)} (h : Lst w B v ls) : Lst w.drew B v ls := by
  obtain ⟨vs, h1, h2⟩ := h
  exact ⟨vs, Row.drew h1, h2.imp fun _ _ hy => Row.drew hy⟩
def kshB (l : List (UInt16 × List UInt8)) : List UInt8 := l.flatMap fun x => be 2 x.1.toNat ++ (be 2 x.2.length ++ x.2)
def kshBad (l : List (UInt16 × List UInt8)) : Bool := l.any fun x => decide (65536 ≤ x.2.length)
def kshW (l : List (UInt16 × List UInt8)) : Wr := ⟨kshB l, kshBad l⟩
theorem kshW_snoc (l : List (UInt16 × List UInt8)) (g : UInt16) (d : List UInt8) : ((kshW l).num 2 g.toNat).vec 2 d = kshW (l ++ [(g, d)]) := by
  simp [kshW, kshB, kshBad, Wr.num, Wr.vec, List.any_append]
theorem kshB_take (l : List (UInt16 × List UInt8)) (k : Nat) : (kshB (l.take k)).length ≤ (kshB l).length := by
  have : kshB l = kshB (l.take k) ++ kshB (l.drop k) := by
    unfold kshB; rw [← List.flatMap_append, List.take_append_drop]
  rw [this, List.length_append]
  omega
theorem kshB_get (l : List (UInt16 × List UInt8)) (k : Nat) (h : k < l.length) : (l[k]).2.length ≤ (kshB l).length := by
  have : kshB l = kshB (l.take k) ++ kshB (l.drop k) := by
    unfold kshB; rw [← List.flatMap_append, List.take_append_drop]
  rw [this, List.drop_eq_getElem_cons h]
  have e : kshB (l[k] :: l.drop (k + 1)) = (be 2 (l[k]).1.toNat ++ (be 2 (l[k]).2.length ++ (l[k]).2)) ++ kshB (l.drop (k + 1)) := rfl
  rw [e, List.length_append, List.length_append, List.length_append, List.length_append]
  omega
section
variable {w w' w0 : World} {B C : Nat} {v content cd : Value} {xs : List UInt8} {l : List (UInt16 × List UInt8)}
set_option maxHeartbeats 1000000 in
theorem keyShares_any_w (hg : Row w B content (l.map fun x => wv x.1)) (hd : Lst w C cd (l.map (·.2))) (hx : (kshB l).length ≤ 1099511627776) :
    Calls Try.prog 28 #[content, cd] w (WValP w (kshW l)) := by
  have hm0 := WMid.start w
  have HX := hid hx
  obtain ⟨A0, c0, rfl, hgr, hlg, hmg⟩ := Row.formN (n := l.length) (Row.shrink hg) (by simp)
  obtain ⟨A, c, rfl, hcr, hlc, hm⟩ := hd.shrink.form
  simp only [List.length_map] at hcr ⊢
  clear hx hg hd
  go_enter Try.func28, Try.ntmps28
  go_wp2_with fail
  rw [W1_eq]
  go_loopg [6, 7, 10] l.length (fun gk _ _ i wr => ∃ j : Nat, j + gk = l.length ∧ i = .int .i64 j ∧ WMid w (kshW (l.take j)) wr)
  case atStart => exact ⟨0, by omega, rfl, by simpa [kshW, kshB, kshBad, Wr.nil] using hm0⟩
  case round =>
    obtain ⟨j, hj0, rfl, hmr⟩ := hrel
    have hj : j ≤ l.length := by omega
    have HJ := hid hj0
    clear hj0
    by_cases hlt : j < l.length
    · have hgw := Row.upd hgr hmr.upd (by simp)
      obtain ⟨b, o, rfl, hb, hj', hcell⟩ := hgw.at_ (by simpa using hlt)
      rw [List.getElem_map] at hcell
      obtain ⟨vr, kr, hvr⟩ := hmr.open_
      have hlen : (kshW (l.take j)).b.length ≤ 1099511627776 := by
        have h1 := HX.out
        have h2 := kshB_take l j
        show (kshB _).length ≤ _
        omega
      have hxl : (l[j]).2.length ≤ 1099511627776 := Nat.le_trans (kshB_get l j hlt) HX.out
      have HN := hid (wnum_any kr 2 (l[j]).1.toNat (by omega) (by omega))
      have HS := hid (show ((kshW (l.take j)).num 2 (l[j]).1.toNat).vec 2 (l[j]).2 = kshW (l.take (j + 1)) by
        rw [List.take_succ_eq_append_getElem hlt, kshW_snoc])
      have hl2 : ((kshW (l.take j)).num 2 (l[j]).1.toNat).b.length ≤ 17592186044416 := by simp [Wr.num, be_len]; omega
      have HL2 := hid hl2
      have hu := (l[j]).1.toNat_lt
      have HXL := hid hxl
      clear hlen hxl hl2
      go_wp2_with fail
      refine HN.out.mono ?_
      intro e w2 hp2
      obtain ⟨rfl, hm2⟩ := hmr.next hvr hp2
      have hcw := hcr.upd hm2.upd (by simp)
      have hlt2 : j < (l.map (·.2)).length := by simpa using hlt
      obtain ⟨b2, o2, rfl, hb2, hj2, A', c', hcell2, hy, hl1, hl2⟩ := hcw.at_ hlt
      obtain ⟨v2, k2, hv2⟩ := hm2.open_
      have eg : (l.map (·.2))[j] = (l[j]).2 := by simp
      rw [eg] at hcell2 hy hl1
      have HV := hid (wvec_any2 k2 ⟨_, hy, .inl (by omega)⟩ HL2.out HXL.out)
      rw [HS.out] at HV
      clear hlt2 HN hp2 kr hvr eg
      go_wp2_with fail
      refine HV.out.mono ?_
      intro e w3 hp3
      obtain ⟨rfl, hm3⟩ := hm2.next hv2 hp3
      clear HV
      go_wp2
      have hj0 := HJ.out
      go_roundg (l.length - (j + 1))
      case measure => omega
      case rel => exact ⟨j + 1, by omega, by go_num, hm3⟩
    · obtain rfl : j = l.length := by omega
      rw [List.take_length] at hmr
      obtain ⟨A4, n4, c4, z0, z1, d0, d1, g0, g1, e0, e1, hend⟩ := hmr.fin
      go_wp2
      exact bodyPost_ret (v := .agg #[.slice A4 n4 c4, .bool _]) (by simp [results, Try.results28, go_sem, e0, e1]) rfl hend
end
end Go.Proofs.Ytaajmfgplhfncaa
namespace Go.Proofs.Ytaajmfgplhfncaa
set_option maxRecDepth 20000
structure Ch where
  vers : UInt16
  random : List UInt8
  sid : List UInt8
  suites : List UInt16
  comps : List UInt8
  host : List UInt8
  ocsp : Bool
  curves : List UInt16
  pts : List UInt8
  ticket : Bool
  tick : List UInt8
  sig : List UInt16
  sigc : List UInt16
  rns : Bool
  rn : List UInt8
  ems : Bool
  alpn : List (List UInt8)
  scts : Bool
  sv : List UInt16
  cookie : List UInt8
  kg : List UInt16
  kd : List (List UInt8)
  early : Bool
  modes : List UInt8
  pl : List (List UInt8)
  pa : List UInt32
  pb : List (List UInt8)
  quic : Bool
  qtp : List UInt8
  ech : List UInt8
  exs : List UInt16
def Ch.zero : Ch := ⟨0, [], [], [], [], [], false, [], [], false, [], [], [], false, [], false, [], false, [], [], [], [], false, [], [], [], [], false, [], [], []⟩
def identB (x : List UInt8 × UInt32) : List UInt8 := be 2 x.1.length ++ (x.1 ++ be 4 x.2.toNat)
def identsB (l : List (List UInt8 × UInt32)) : List UInt8 := l.flatMap identB
def identsBad (l : List (List UInt8 × UInt32)) : Bool := l.any fun x => decide (65536 ≤ x.1.length)
def identsW (l : List (List UInt8 × UInt32)) : Wr := ⟨identsB l, identsBad l⟩
inductive ChStep : Ch → UInt16 → List UInt8 → Ch → Prop
  | host (M : Ch) (d h : List UInt8) : M.host = [] → h ≠ [] → h.getLast? ≠ some 46 → d = be 2 (3 + h.length) ++ (0 :: (be 2 h.length ++ h)) → ChStep M 0 d { M with host := h }
  | ocsp (M : Ch) (d : List UInt8) : d = [1, 0, 0, 0, 0] → ChStep M 5 d { M with ocsp := true }
  | curves (M : Ch) (d : List UInt8) (l : List UInt16) : M.curves = [] → l ≠ [] → d = be 2 (wordsB l).length ++ wordsB l → ChStep M 10 d { M with curves := l }
  | pts (M : Ch) (d x : List UInt8) : x ≠ [] → x.length < 256 → d = be 1 x.length ++ x → ChStep M 11 d { M with pts := x }
  | ticket (M : Ch) (d : List UInt8) : ChStep M 35 d { M with ticket := true, tick := d }
  | sig (M : Ch) (d : List UInt8) (l : List UInt16) : M.sig = [] → l ≠ [] → d = be 2 (wordsB l).length ++ wordsB l → ChStep M 13 d { M with sig := l }
  | sigc (M : Ch) (d : List UInt8) (l : List UInt16) : M.sigc = [] → l ≠ [] → d = be 2 (wordsB l).length ++ wordsB l → ChStep M 50 d { M with sigc := l }
  | rn (M : Ch) (d x : List UInt8) : x.length < 256 → d = be 1 x.length ++ x → ChStep M 65281 d { M with rns := true, rn := x }
  | ems (M : Ch) (d : List UInt8) : d = [] → ChStep M 23 d { M with ems := true }
  | alpn (M : Ch) (d : List UInt8) (l : List (List UInt8)) : M.alpn = [] → l ≠ [] → (∀ x ∈ l, x ≠ [] ∧ x.length < 256) → d = be 2 (vecsB 1 l).length ++ vecsB 1 l → ChStep M 16 d { M with alpn := l }
  | scts (M : Ch) (d : List UInt8) : d = [] → ChStep M 18 d { M with scts := true }
  | sv (M : Ch) (d : List UInt8) (l : List UInt16) : M.sv = [] → l ≠ [] → (wordsB l).length < 256 → d = be 1 (wordsB l).length ++ wordsB l → ChStep M 43 d { M with sv := l }
  | cookie (M : Ch) (d x : List UInt8) : x ≠ [] → d = be 2 x.length ++ x → ChStep M 44 d { M with cookie := x }
  | ks (M : Ch) (d : List UInt8) (l : List (UInt16 × List UInt8)) : M.kg = [] → M.kd = [] → l ≠ [] → (∀ e ∈ l, e.2 ≠ []) → d = be 2 (kshB l).length ++ kshB l → ChStep M 51 d { M with kg := l.map (·.1), kd := l.map (·.2) }
  | early (M : Ch) (d : List UInt8) : d = [] → ChStep M 42 d { M with early := true }
  | modes (M : Ch) (d x : List UInt8) : x ≠ [] → x.length < 256 → d = be 1 x.length ++ x → ChStep M 45 d { M with modes := x }
  | quic (M : Ch) (d : List UInt8) : ChStep M 57 d { M with quic := true, qtp := d }
  | ech (M : Ch) (d : List UInt8) : d ≠ [] → ChStep M 65037 d { M with ech := d }
  | psk (M : Ch) (d : List UInt8) (l : List (List UInt8 × UInt32)) (b : List (List UInt8)) : M.pl = [] → M.pa = [] → M.pb = [] → l ≠ [] → (∀ e ∈ l, e.1 ≠ []) → b.length = l.length → (∀ x ∈ b, 32 ≤ x.length ∧ x.length < 256) →
      d = be 2 (identsB l).length ++ (identsB l ++ (be 2 (vecsB 1 b).length ++ vecsB 1 b)) → ChStep M 41 d { M with pl := l.map (·.1), pa := l.map (·.2), pb := b }
  | other (M : Ch) (k : UInt16) (d : List UInt8) : 43520 ≤ k.toNat → k.toNat < 44520 → ChStep M k d M
inductive ChRun : Ch → List Ex → Ch → Prop
  | nil (M : Ch) : ChRun M [] M
  | cons (M M1 M2 : Ch) (k : UInt16) (d : List UInt8) (L : List Ex) : k ∉ M.exs → ChStep { M with exs := M.exs ++ [k] } k d M1 → (k = 41 → L = []) → ChRun M1 L M2 → ChRun M ((k, d) :: L) M2
theorem ChStep.exs {M M' : Ch} {k : UInt16} {d : List UInt8} (h : ChStep M k d M') : M'.exs = M.exs := by cases h <;> rfl
def chHd (t : Ch) : Ch := { Ch.zero with vers := t.vers, random := t.random, sid := t.sid, suites := t.suites, comps := t.comps }
def chHeadB (t : Ch) : List UInt8 := be 2 t.vers.toNat ++ (t.random ++ (be 1 t.sid.length ++ (t.sid ++ (be 2 (wordsB t.suites).length ++ (wordsB t.suites ++ (be 1 t.comps.length ++ t.comps))))))
def chBodyB (t : Ch) (L : List Ex) : List UInt8 := chHeadB t ++ (if L = [] then [] else blkB L)
def chMsg (t : Ch) (L : List Ex) : List UInt8 := msgB 1 (chBodyB t L)
structure ChHead (t : Ch) : Prop where
  r : t.random.length = 32
  s : t.sid.length ≤ 32
  u : t.suites ≠ []
  ul : (wordsB t.suites).length < 65536
  c : t.comps ≠ []
  cl : t.comps.length < 256
  sg : (255 : UInt16) ∉ t.suites
structure ChForm (data : List UInt8) (t L : _) (t' : Ch) : Prop where
  eq : data = chMsg t L
  hd : ChHead t
  ln : (exsB L).length < 65536
  run : ChRun (chHd t) L t'
theorem chHeadB_len (t : Ch) : (chHeadB t).length = 6 + t.random.length + t.sid.length + (wordsB t.suites).length + t.comps.length := by simp [chHeadB, be_len]; omega
theorem chBodyB_len (t : Ch) (L : List Ex) : (chBodyB t L).length ≤ 8 + t.random.length + t.sid.length + (wordsB t.suites).length + t.comps.length + (exsB L).length := by
  unfold chBodyB
  rw [List.length_append, chHeadB_len]
  split
  · simp; omega
  · simp [blkB, be_len]; omega
structure ChOk (t : Ch) : Prop where
  r : t.random.length = 32
  s : t.sid.length ≤ 32
  u : t.suites ≠ []
  c : t.comps ≠ []
  host : t.host.getLast? ≠ some 46
  tick : t.ticket = true ∨ t.tick = []
  rn : t.rns = true ∨ t.rn = []
  quic : t.quic = true ∨ t.qtp = []
  ks : t.kg.length = t.kd.length
  pa : t.pl.length = t.pa.length
  pb : t.pl.length = t.pb.length
  ep : t.ech = [] ∨ t.pl = []
  sg : (255 : UInt16) ∉ t.suites
  kd : ∀ x ∈ t.kd, x ≠ []
  pl : ∀ x ∈ t.pl, x ≠ []
  bl : ∀ x ∈ t.pb, 32 ≤ x.length
  al : ∀ x ∈ t.alpn, x ≠ []
def hostW (h : List UInt8) : Wr := (Wr.nil.num 1 0).vec 2 h
def statusW : Wr := ((Wr.nil.num 1 1).vec 2 []).vec 2 []
def chKs (t : Ch) : List (UInt16 × List UInt8) := t.kg.zip t.kd
def chPs (t : Ch) : List (List UInt8 × UInt32) := t.pl.zip t.pa
def chItem (t : Ch) : Nat → Item
  | 0 => (!t.host.isEmpty, 0, Wr.vector 2 (hostW t.host))
  | 1 => (t.ocsp, 5, statusW)
  | 2 => (decide (0 < t.curves.length), 10, Wr.vector 2 (wordsW t.curves))
  | 3 => (decide (0 < t.pts.length), 11, Wr.vector 1 (Wr.plain t.pts))
  | 4 => (t.ticket, 35, Wr.plain t.tick)
  | 5 => (decide (0 < t.sig.length), 13, Wr.vector 2 (wordsW t.sig))
  | 6 => (decide (0 < t.sigc.length), 50, Wr.vector 2 (wordsW t.sigc))
  | 7 => (t.rns, 65281, Wr.vector 1 (Wr.plain t.rn))
  | 8 => (t.ems, 23, Wr.nil)
  | 9 => (decide (0 < t.alpn.length), 16, Wr.vector 2 (vecsW 1 t.alpn))
  | 10 => (t.scts, 18, Wr.nil)
  | 11 => (decide (0 < t.sv.length), 43, Wr.vector 1 (wordsW t.sv))
  | 12 => (decide (0 < t.cookie.length), 44, Wr.vector 2 (Wr.plain t.cookie))
  | 13 => (decide (0 < t.kg.length), 51, Wr.vector 2 (kshW (chKs t)))
  | 14 => (t.early, 42, Wr.nil)
  | 15 => (decide (0 < t.modes.length), 45, Wr.vector 1 (Wr.plain t.modes))
  | 16 => (t.quic, 57, Wr.plain t.qtp)
  | 17 => (decide (0 < t.ech.length), 65037, Wr.plain t.ech)
  | _ => (decide (0 < t.pl.length), 41, behindW (Wr.vector 2 (identsW (chPs t))) (Wr.vector 2 (vecsW 1 t.pb)))
def chItems (t : Ch) : List Item := [0, 1, 2, 3, 4, 5, 6, 7, 8, 9, 10, 11, 12, 13, 14, 15, 16, 17, 18].map (chItem t)
def chExtL (t : Ch) : LW := adds (chItems t) LW.nil
def chE (t : Ch) : List Ex := (chExtL t).l
theorem chE_eq (t : Ch) : chE t = itemsE (chItems t) := by unfold chE chExtL; rw [adds_l]; rfl
theorem chBad_eq (t : Ch) : (chExtL t).bad = itemsBad (chItems t) := by unfold chExtL; rw [adds_bad]; rfl
theorem ch_keys (t : Ch) : ((chE t).map (·.1)).Sublist [0, 5, 10, 11, 35, 13, 50, 65281, 23, 16, 18, 43, 44, 51, 42, 45, 57, 65037, 41] := by rw [chE_eq]; exact itemsE_keys (chItems t)
theorem chE_nodup (t : Ch) : ((chE t).map (·.1)).Nodup := (ch_keys t).nodup (by decide)
theorem chE_low (t : Ch) (e : Ex) (he : e ∈ (chExtL t).l) : e.1.toNat < 43520 ∨ 44520 ≤ e.1.toNat := by
  have h := (ch_keys t).subset (List.mem_map_of_mem he)
  simp only [List.mem_cons, List.not_mem_nil, or_false] at h
  rcases h with h | h | h | h | h | h | h | h | h | h | h | h | h | h | h | h | h | h | h <;> rw [h] <;> decide
theorem chE_few (t : Ch) : (chExtL t).l.length ≤ 1000 := by
  have h := (ch_keys t).length_le
  rw [List.length_map] at h
  exact Nat.le_trans h (by decide)
def PskLast : List Ex → Prop
  | [] => True
  | e :: l => (e.1 = 41 → l = []) ∧ PskLast l
theorem pskLast_app : ∀ {A B : List Ex}, (∀ e ∈ A, e.1 ≠ 41) → B.length ≤ 1 → PskLast (A ++ B)
  | [], [], _, _ => trivial
  | [], [b], _, _ => ⟨fun _ => rfl, trivial⟩
  | [], _ :: _ :: _, _, h => by simp at h
  | e :: A, B, hA, hB => ⟨fun h => absurd h (hA e (by simp)), pskLast_app (fun x hx => hA x (by simp [hx])) hB⟩
theorem ordGo_41 (l : List Ex) (s : Nat) (o : List Ex) (ho : ∀ e ∈ o, e.1 ≠ 41) (i : Nat) : (∀ e ∈ (ordGo l s o i).1, e.1 ≠ 41) ∧ (∀ e ∈ (ordGo l s o i).2, e.1 = 41) := by
  induction i with
  | zero => exact ⟨by simp [ordGo], by simp [ordGo]⟩
  | succ i ih =>
    have hoi : ∀ e ∈ (o[i]?).toList, e.1 ≠ 41 := fun e he => ho e (List.mem_of_getElem? (Option.mem_toList.1 he))
    unfold ordGo
    by_cases hk : (ordE l s i).1 = 41
    · simp only [if_pos hk]
      exact ⟨fun e he => (List.mem_append.1 he).elim (ih.1 e) (hoi e), fun e he => (List.mem_append.1 he).elim (ih.2 e) (fun h => by rw [List.mem_singleton.1 h]; exact hk)⟩
    · simp only [if_neg hk]
      refine ⟨fun e he => (List.mem_append.1 he).elim (fun h => (List.mem_append.1 h).elim (ih.1 e) (fun h => by rw [List.mem_singleton.1 h]; exact hk)) (hoi e), ih.2⟩
theorem ordered_last (E : List Ex) (f : Nat) (more : List (List UInt8)) (hm : more.length ≤ 1000) (hn : ((ordered E f more).map (·.1)).Nodup) : PskLast (ordered E f more) := by
  have hu : ∀ e ∈ unknown more, e.1 ≠ 41 := fun e he h => by
    have := unknown_ge hm he
    rw [h] at this
    simp at this
  obtain ⟨h1, h2⟩ := ordGo_41 E (f % E.length) (unknown more) hu E.length
  unfold ordered at hn ⊢
  refine pskLast_app h1 ?_
  generalize (ordGo E (f % E.length) (unknown more) E.length).2 = B at hn h2
  match B, h2, hn with
  | [], _, _ => simp
  | [_], _, _ => simp
  | a :: b :: B, h2, hn =>
    rw [List.map_append, List.nodup_append] at hn
    have h3 := hn.2.1
    simp only [List.map_cons, List.nodup_cons, List.mem_cons] at h3
    exact absurd (.inl ((h2 a (by simp)).trans (h2 b (by simp)).symm)) h3.1
def chPart (t : Ch) (S : UInt16 → Bool) (E : List UInt16) : Ch := ⟨t.vers, t.random, t.sid, t.suites, t.comps, if S 0 then t.host else [], S 5 && t.ocsp, if S 10 then t.curves else [], if S 11 then t.pts else [], S 35 && t.ticket, if S 35 then t.tick else [],
  if S 13 then t.sig else [], if S 50 then t.sigc else [], S 65281 && t.rns, if S 65281 then t.rn else [], S 23 && t.ems, if S 16 then t.alpn else [], S 18 && t.scts, if S 43 then t.sv else [], if S 44 then t.cookie else [], if S 51 then t.kg else [], if S 51 then t.kd else [],
  S 42 && t.early, if S 45 then t.modes else [], if S 41 then t.pl else [], if S 41 then t.pa else [], if S 41 then t.pb else [], S 57 && t.quic, if S 57 then t.qtp else [], if S 65037 then t.ech else [], E⟩
theorem ne_pos {α : Type} (l : List α) : decide (0 < l.length) = true ↔ l ≠ [] := by rw [decide_eq_true_iff, List.length_pos_iff]
theorem ne_emp {α : Type} (l : List α) : (!l.isEmpty) = true ↔ l ≠ [] := by cases l <;> simp
theorem hostW_b (h : List UInt8) : (hostW h).b = 0 :: (be 2 h.length ++ h) := by simp [hostW, Wr.num, Wr.vec, Wr.nil, be]
theorem statusW_b : statusW.b = [1, 0, 0, 0, 0] := by simp [statusW, Wr.num, Wr.vec, Wr.nil, be]
theorem chE_mem (t : Ch) (e : Ex) : e ∈ chE t ↔ (t.host ≠ [] ∧ e = (0, (Wr.vector 2 (hostW t.host)).b)) ∨ (t.ocsp = true ∧ e = (5, statusW.b)) ∨ (t.curves ≠ [] ∧ e = (10, (Wr.vector 2 (wordsW t.curves)).b)) ∨ (t.pts ≠ [] ∧ e = (11, (Wr.vector 1 (Wr.plain t.pts)).b)) ∨
    (t.ticket = true ∧ e = (35, t.tick)) ∨ (t.sig ≠ [] ∧ e = (13, (Wr.vector 2 (wordsW t.sig)).b)) ∨ (t.sigc ≠ [] ∧ e = (50, (Wr.vector 2 (wordsW t.sigc)).b)) ∨ (t.rns = true ∧ e = (65281, (Wr.vector 1 (Wr.plain t.rn)).b)) ∨ (t.ems = true ∧ e = (23, [])) ∨
    (t.alpn ≠ [] ∧ e = (16, (Wr.vector 2 (vecsW 1 t.alpn)).b)) ∨ (t.scts = true ∧ e = (18, [])) ∨ (t.sv ≠ [] ∧ e = (43, (Wr.vector 1 (wordsW t.sv)).b)) ∨ (t.cookie ≠ [] ∧ e = (44, (Wr.vector 2 (Wr.plain t.cookie)).b)) ∨ (t.kg ≠ [] ∧ e = (51, (Wr.vector 2 (kshW (chKs t))).b)) ∨
    (t.early = true ∧ e = (42, [])) ∨ (t.modes ≠ [] ∧ e = (45, (Wr.vector 1 (Wr.plain t.modes)).b)) ∨ (t.quic = true ∧ e = (57, t.qtp)) ∨ (t.ech ≠ [] ∧ e = (65037, t.ech)) ∨
    (t.pl ≠ [] ∧ e = (41, (behindW (Wr.vector 2 (identsW (chPs t))) (Wr.vector 2 (vecsW 1 t.pb))).b)) := by
  rw [chE_eq, itemsE_mem]
  simp only [chItems, List.map_cons, List.map_nil, chItem, List.mem_cons, List.not_mem_nil, or_false, exists_eq_or_imp, exists_eq_left, ne_pos, ne_emp]
  rfl
structure ChSm (t : Ch) : Prop where
  pts : t.pts ≠ [] → t.pts.length < 256
  rn : t.rns = true → t.rn.length < 256
  alpn : t.alpn ≠ [] → ∀ x ∈ t.alpn, x.length < 256
  sv : t.sv ≠ [] → (wordsB t.sv).length < 256
  modes : t.modes ≠ [] → t.modes.length < 256
  pb : t.pl ≠ [] → ∀ x ∈ t.pb, x.length < 256
theorem vecsBad_of {n : Nat} {l : List (List UInt8)} (h : vecsBad n l = false) : ∀ x ∈ l, x.length < 256 ^ n := by
  unfold vecsBad at h
  rw [List.any_eq_false] at h
  intro x hx
  have := h x hx
  simpa using this
theorem ch_small {t : Ch} (hb : (chExtL t).bad = false) : ChSm t := by
  rw [chBad_eq] at hb
  unfold itemsBad at hb
  rw [List.any_eq_false] at hb
  have hg : ∀ i : Nat, i < 19 → (chItem t i).1 = true → (chItem t i).2.2.bad = false := by
    intro i hi ht
    have hm : chItem t i ∈ chItems t := by
      unfold chItems
      refine List.mem_map_of_mem ?_
      have : i = 0 ∨ i = 1 ∨ i = 2 ∨ i = 3 ∨ i = 4 ∨ i = 5 ∨ i = 6 ∨ i = 7 ∨ i = 8 ∨ i = 9 ∨ i = 10 ∨ i = 11 ∨ i = 12 ∨ i = 13 ∨ i = 14 ∨ i = 15 ∨ i = 16 ∨ i = 17 ∨ i = 18 := by omega
      simpa using this
    have := hb _ hm
    rw [ht, Bool.true_and] at this
    simpa using this
  refine ⟨fun h => ?_, fun h => ?_, fun h => ?_, fun h => ?_, fun h => ?_, fun h => ?_⟩
  · have := hg 3 (by omega) ((ne_pos _).2 h)
    have this : (Wr.vector 1 (Wr.plain t.pts)).bad = false := this
    rw [vector_bad] at this
    simpa [Wr.plain] using this
  · have := hg 7 (by omega) h
    have this : (Wr.vector 1 (Wr.plain t.rn)).bad = false := this
    rw [vector_bad] at this
    simpa [Wr.plain] using this
  · have := hg 9 (by omega) ((ne_pos _).2 h)
    have this : (Wr.vector 2 (vecsW 1 t.alpn)).bad = false := this
    rw [vector_bad] at this
    exact vecsBad_of (Bool.or_eq_false_iff.1 this).1
  · have := hg 11 (by omega) ((ne_pos _).2 h)
    have this : (Wr.vector 1 (wordsW t.sv)).bad = false := this
    rw [vector_bad] at this
    simpa [wordsW] using this
  · have := hg 15 (by omega) ((ne_pos _).2 h)
    have this : (Wr.vector 1 (Wr.plain t.modes)).bad = false := this
    rw [vector_bad] at this
    simpa [Wr.plain] using this
  · have := hg 18 (by omega) ((ne_pos _).2 h)
    have this : (behindW (Wr.vector 2 (identsW (chPs t))) (Wr.vector 2 (vecsW 1 t.pb))).bad = false := this
    unfold behindW at this
    have this := (Bool.or_eq_false_iff.1 this).2
    rw [vector_bad] at this
    exact vecsBad_of (Bool.or_eq_false_iff.1 this).1
theorem zip_fst {α β : Type} : ∀ {l : List α} {m : List β}, l.length = m.length → (l.zip m).map (·.1) = l
  | [], [], _ => rfl
  | a :: l, b :: m, h => by simp [zip_fst (l := l) (m := m) (by simpa using h)]
  | [], _ :: _, h => by simp at h
  | _ :: _, [], h => by simp at h
theorem zip_snd {α β : Type} : ∀ {l : List α} {m : List β}, l.length = m.length → (l.zip m).map (·.2) = m
  | [], [], _ => rfl
  | a :: l, b :: m, h => by simp [zip_snd (l := l) (m := m) (by simpa using h)]
  | [], _ :: _, h => by simp at h
  | _ :: _, [], h => by simp at h
theorem zip_ne {α β : Type} {l : List α} {m : List β} (h : l.length = m.length) (h0 : l ≠ []) : l.zip m ≠ [] := by
  cases l with
  | nil => exact absurd rfl h0
  | cons a l => cases m with
    | nil => simp at h
    | cons b m => simp
theorem ch_step {t : Ch} (h : ChOk t) (hs : ChSm t) (S : UInt16 → Bool) (E : List UInt16) (e : Ex) (he : e ∈ chE t) (hS : S e.1 = false) : ChStep (chPart t S E) e.1 e.2 (chPart t (fun k => S k || k == e.1) E) := by
  rcases (chE_mem t e).1 he with ⟨hc, rfl⟩ | ⟨hc, rfl⟩ | ⟨hc, rfl⟩ | ⟨hc, rfl⟩ | ⟨hc, rfl⟩ | ⟨hc, rfl⟩ | ⟨hc, rfl⟩ | ⟨hc, rfl⟩ | ⟨hc, rfl⟩ | ⟨hc, rfl⟩ | ⟨hc, rfl⟩ | ⟨hc, rfl⟩ | ⟨hc, rfl⟩ | ⟨hc, rfl⟩ | ⟨hc, rfl⟩ | ⟨hc, rfl⟩ | ⟨hc, rfl⟩ | ⟨hc, rfl⟩ | ⟨hc, rfl⟩
  · have hS : S 0 = false := hS
    have := ChStep.host (chPart t S E) (Wr.vector 2 (hostW t.host)).b t.host (by simp [chPart, hS]) hc h.host (by rw [vector_b, hostW_b]; simp [be_len]; congr 1; omega)
    simpa [chPart] using this
  · have := ChStep.ocsp (chPart t S E) statusW.b statusW_b
    simpa [chPart, hc] using this
  · have hS : S 10 = false := hS
    have := ChStep.curves (chPart t S E) (Wr.vector 2 (wordsW t.curves)).b t.curves (by simp [chPart, hS]) hc (by rw [vector_b]; rfl)
    simpa [chPart] using this
  · have := ChStep.pts (chPart t S E) (Wr.vector 1 (Wr.plain t.pts)).b t.pts hc (hs.pts hc) (by rw [vector_b]; rfl)
    simpa [chPart] using this
  · have := ChStep.ticket (chPart t S E) t.tick
    simpa [chPart, hc] using this
  · have hS : S 13 = false := hS
    have := ChStep.sig (chPart t S E) (Wr.vector 2 (wordsW t.sig)).b t.sig (by simp [chPart, hS]) hc (by rw [vector_b]; rfl)
    simpa [chPart] using this
  · have hS : S 50 = false := hS
    have := ChStep.sigc (chPart t S E) (Wr.vector 2 (wordsW t.sigc)).b t.sigc (by simp [chPart, hS]) hc (by rw [vector_b]; rfl)
    simpa [chPart] using this
  · have := ChStep.rn (chPart t S E) (Wr.vector 1 (Wr.plain t.rn)).b t.rn (hs.rn hc) (by rw [vector_b]; rfl)
    simpa [chPart, hc] using this
  · have := ChStep.ems (chPart t S E) [] rfl
    simpa [chPart, hc] using this
  · have hS : S 16 = false := hS
    have := ChStep.alpn (chPart t S E) (Wr.vector 2 (vecsW 1 t.alpn)).b t.alpn (by simp [chPart, hS]) hc (fun x hx => ⟨h.al x hx, hs.alpn hc x hx⟩) (by rw [vector_b]; rfl)
    simpa [chPart] using this
  · have := ChStep.scts (chPart t S E) [] rfl
    simpa [chPart, hc] using this
  · have hS : S 43 = false := hS
    have := ChStep.sv (chPart t S E) (Wr.vector 1 (wordsW t.sv)).b t.sv (by simp [chPart, hS]) hc (hs.sv hc) (by rw [vector_b]; rfl)
    simpa [chPart] using this
  · have := ChStep.cookie (chPart t S E) (Wr.vector 2 (Wr.plain t.cookie)).b t.cookie hc (by rw [vector_b]; rfl)
    simpa [chPart] using this
  · have hS : S 51 = false := hS
    have := ChStep.ks (chPart t S E) (Wr.vector 2 (kshW (chKs t))).b (chKs t) (by simp [chPart, hS]) (by simp [chPart, hS]) (zip_ne h.ks hc) (fun e he => h.kd _ (List.of_mem_zip he).2) (by rw [vector_b]; rfl)
    rw [show (chKs t).map (·.1) = t.kg from zip_fst h.ks, show (chKs t).map (·.2) = t.kd from zip_snd h.ks] at this
    simpa [chPart] using this
  · have := ChStep.early (chPart t S E) [] rfl
    simpa [chPart, hc] using this
  · have := ChStep.modes (chPart t S E) (Wr.vector 1 (Wr.plain t.modes)).b t.modes hc (hs.modes hc) (by rw [vector_b]; rfl)
    simpa [chPart] using this
  · have := ChStep.quic (chPart t S E) t.qtp
    simpa [chPart, hc] using this
  · have := ChStep.ech (chPart t S E) t.ech hc
    simpa [chPart] using this
  · have hS : S 41 = false := hS
    have := ChStep.psk (chPart t S E) (behindW (Wr.vector 2 (identsW (chPs t))) (Wr.vector 2 (vecsW 1 t.pb))).b (chPs t) t.pb (by simp [chPart, hS]) (by simp [chPart, hS]) (by simp [chPart, hS]) (zip_ne h.pa hc) (fun e he => h.pl _ (List.of_mem_zip he).1)
      (by unfold chPs; rw [List.length_zip]; have := h.pa; have := h.pb; omega) (fun x hx => ⟨h.bl x hx, hs.pb hc x hx⟩) (by show (Wr.vector 2 _).b ++ (Wr.vector 2 _).b = _; rw [vector_b, vector_b]; simp [identsW, vecsW])
    rw [show (chPs t).map (·.1) = t.pl from zip_fst h.pa, show (chPs t).map (·.2) = t.pa from zip_snd h.pa] at this
    simpa [chPart] using this
theorem chPart_low (t : Ch) (S : UInt16 → Bool) (E : List UInt16) (k : UInt16) (h1 : 43520 ≤ k.toNat) (h2 : k.toNat < 44520) : chPart t (fun j => S j || j == k) E = chPart t S E := by
  have hne : ∀ j : UInt16, j.toNat < 43520 ∨ 44520 ≤ j.toNat → (j == k) = false := by
    intro j hj
    rw [beq_eq_false_iff_ne]
    intro e
    rw [e] at hj; omega
  unfold chPart
  simp only [hne 0 (by decide), hne 5 (by decide), hne 10 (by decide), hne 11 (by decide), hne 35 (by decide), hne 13 (by decide), hne 50 (by decide), hne 65281 (by decide), hne 23 (by decide), hne 16 (by decide), hne 18 (by decide), hne 43 (by decide), hne 44 (by decide), hne 51 (by decide),
    hne 42 (by decide), hne 45 (by decide), hne 41 (by decide), hne 57 (by decide), hne 65037 (by decide), Bool.or_false]
theorem ch_lists {t : Ch} (h : ChOk t) (hs : ChSm t) : ∀ (L : List Ex), (L.map (·.1)).Nodup → (∀ e ∈ L, e ∈ chE t ∨ 43520 ≤ e.1.toNat ∧ e.1.toNat < 44520) → PskLast L → ∀ (S : UInt16 → Bool) (E : List UInt16), (∀ e ∈ L, S e.1 = false) → (∀ e ∈ L, e.1 ∉ E) →
    ∃ S', ChRun (chPart t S E) L (chPart t S' (E ++ L.map (·.1))) ∧ (∀ k, S k = true → S' k = true) ∧ ∀ e ∈ L, S' e.1 = true
  | [], _, _, _, S, E, _, _ => ⟨S, by simpa using ChRun.nil _, fun _ h => h, by simp⟩
  | (k, d) :: L, hn, hl, hp, S, E, hS, hE => by
    rw [List.map_cons, List.nodup_cons] at hn
    have hne : ∀ x ∈ L, x.1 ≠ k := fun x hx hx2 => hn.1 (List.mem_map.2 ⟨x, hx, hx2⟩)
    obtain ⟨S', h1, h2, h3⟩ := ch_lists h hs L hn.2 (fun x hx => hl x (List.mem_cons_of_mem _ hx)) hp.2 (fun j => S j || j == k) (E ++ [k]) (fun x hx => by
        simp only [Bool.or_eq_false_iff, beq_eq_false_iff_ne]
        exact ⟨hS x (List.mem_cons_of_mem _ hx), hne x hx⟩) (fun x hx hm => by
        rcases List.mem_append.1 hm with hm | hm
        · exact hE x (List.mem_cons_of_mem _ hx) hm
        · exact hne x hx (List.mem_singleton.1 hm))
    have hst : ChStep (chPart t S (E ++ [k])) k d (chPart t (fun j => S j || j == k) (E ++ [k])) := by
      rcases hl (k, d) (by simp) with he | ⟨u1, u2⟩
      · exact ch_step h hs S (E ++ [k]) (k, d) he (hS (k, d) (by simp))
      · rw [chPart_low t S (E ++ [k]) k u1 u2]
        exact .other _ k d u1 u2
    refine ⟨S', ?_, fun j hj => h2 j (by simp [hj]), fun e he => ?_⟩
    · rw [List.append_assoc] at h1
      exact .cons _ _ _ k d L (hE (k, d) (by simp)) hst hp.1 h1
    · rcases List.mem_cons.1 he with rfl | he
      · exact h2 k (by simp)
      · exact h3 e he
theorem ch_run {t : Ch} (h : ChOk t) (hs : ChSm t) {L : List Ex} (hL : ListsE (chE t) L) (hp : PskLast L) : ChRun (chHd t) L { t with exs := L.map (·.1) } := by
  obtain ⟨S, h1, -, h3⟩ := ch_lists h hs L hL.1 hL.2.1 hp (fun _ => false) [] (fun _ _ => rfl) (fun _ _ hm => by cases hm)
  have e0 : chPart t (fun _ => false) [] = chHd t := by simp [chPart, chHd, Ch.zero]
  have e1 : chPart t S ([] ++ L.map (·.1)) = { t with exs := L.map (·.1) } := by
    have mem : ∀ e, e ∈ chE t → S e.1 = true := fun e he => h3 e (hL.2.2 e he)
    have m0 : t.host ≠ [] → S 0 = true := fun hh => mem (0, _) ((chE_mem t _).2 (.inl ⟨hh, rfl⟩))
    have m5 : t.ocsp = true → S 5 = true := fun hh => mem (5, _) ((chE_mem t _).2 (.inr (.inl ⟨hh, rfl⟩)))
    have m10 : t.curves ≠ [] → S 10 = true := fun hh => mem (10, _) ((chE_mem t _).2 (.inr (.inr (.inl ⟨hh, rfl⟩))))
    have m11 : t.pts ≠ [] → S 11 = true := fun hh => mem (11, _) ((chE_mem t _).2 (.inr (.inr (.inr (.inl ⟨hh, rfl⟩)))))
    have m35 : t.ticket = true → S 35 = true := fun hh => mem (35, _) ((chE_mem t _).2 (.inr (.inr (.inr (.inr (.inl ⟨hh, rfl⟩))))))
    have m13 : t.sig ≠ [] → S 13 = true := fun hh => mem (13, _) ((chE_mem t _).2 (.inr (.inr (.inr (.inr (.inr (.inl ⟨hh, rfl⟩)))))))
    have m50 : t.sigc ≠ [] → S 50 = true := fun hh => mem (50, _) ((chE_mem t _).2 (.inr (.inr (.inr (.inr (.inr (.inr (.inl ⟨hh, rfl⟩))))))))
    have mrn : t.rns = true → S 65281 = true := fun hh => mem (65281, _) ((chE_mem t _).2 (.inr (.inr (.inr (.inr (.inr (.inr (.inr (.inl ⟨hh, rfl⟩)))))))))
    have m23 : t.ems = true → S 23 = true := fun hh => mem (23, _) ((chE_mem t _).2 (.inr (.inr (.inr (.inr (.inr (.inr (.inr (.inr (.inl ⟨hh, rfl⟩))))))))))
    have m16 : t.alpn ≠ [] → S 16 = true := fun hh => mem (16, _) ((chE_mem t _).2 (.inr (.inr (.inr (.inr (.inr (.inr (.inr (.inr (.inr (.inl ⟨hh, rfl⟩)))))))))))
    have m18 : t.scts = true → S 18 = true := fun hh => mem (18, _) ((chE_mem t _).2 (.inr (.inr (.inr (.inr (.inr (.inr (.inr (.inr (.inr (.inr (.inl ⟨hh, rfl⟩))))))))))))
    have m43 : t.sv ≠ [] → S 43 = true := fun hh => mem (43, _) ((chE_mem t _).2 (.inr (.inr (.inr (.inr (.inr (.inr (.inr (.inr (.inr (.inr (.inr (.inl ⟨hh, rfl⟩)))))))))))))
    have m44 : t.cookie ≠ [] → S 44 = true := fun hh => mem (44, _) ((chE_mem t _).2 (.inr (.inr (.inr (.inr (.inr (.inr (.inr (.inr (.inr (.inr (.inr (.inr (.inl ⟨hh, rfl⟩))))))))))))))
    have m51 : t.kg ≠ [] → S 51 = true := fun hh => mem (51, _) ((chE_mem t _).2 (.inr (.inr (.inr (.inr (.inr (.inr (.inr (.inr (.inr (.inr (.inr (.inr (.inr (.inl ⟨hh, rfl⟩)))))))))))))))
    have m42 : t.early = true → S 42 = true := fun hh => mem (42, _) ((chE_mem t _).2 (.inr (.inr (.inr (.inr (.inr (.inr (.inr (.inr (.inr (.inr (.inr (.inr (.inr (.inr (.inl ⟨hh, rfl⟩))))))))))))))))
    have m45 : t.modes ≠ [] → S 45 = true := fun hh => mem (45, _) ((chE_mem t _).2 (.inr (.inr (.inr (.inr (.inr (.inr (.inr (.inr (.inr (.inr (.inr (.inr (.inr (.inr (.inr (.inl ⟨hh, rfl⟩)))))))))))))))))
    have m57 : t.quic = true → S 57 = true := fun hh => mem (57, _) ((chE_mem t _).2 (.inr (.inr (.inr (.inr (.inr (.inr (.inr (.inr (.inr (.inr (.inr (.inr (.inr (.inr (.inr (.inr (.inl ⟨hh, rfl⟩))))))))))))))))))
    have mech : t.ech ≠ [] → S 65037 = true := fun hh => mem (65037, _) ((chE_mem t _).2 (.inr (.inr (.inr (.inr (.inr (.inr (.inr (.inr (.inr (.inr (.inr (.inr (.inr (.inr (.inr (.inr (.inr (.inl ⟨hh, rfl⟩)))))))))))))))))))
    have m41 : t.pl ≠ [] → S 41 = true := fun hh => mem (41, _) ((chE_mem t _).2 (.inr (.inr (.inr (.inr (.inr (.inr (.inr (.inr (.inr (.inr (.inr (.inr (.inr (.inr (.inr (.inr (.inr (.inr ⟨hh, rfl⟩)))))))))))))))))))
    have m35' : t.tick ≠ [] → S 35 = true := fun hh => m35 (h.tick.resolve_right hh)
    have mrn' : t.rn ≠ [] → S 65281 = true := fun hh => mrn (h.rn.resolve_right hh)
    have m57' : t.qtp ≠ [] → S 57 = true := fun hh => m57 (h.quic.resolve_right hh)
    have len0 : ∀ {α β : Type} {a : List α} {b : List β}, a.length = b.length → b ≠ [] → a ≠ [] := by
      intro α β a b he hb ha
      rw [ha] at he
      exact hb (List.eq_nil_of_length_eq_zero (by simpa using he.symm))
    have m51' : t.kd ≠ [] → S 51 = true := fun hh => m51 (len0 h.ks hh)
    have m41a : t.pa ≠ [] → S 41 = true := fun hh => m41 (len0 h.pa hh)
    have m41b : t.pb ≠ [] → S 41 = true := fun hh => m41 (len0 h.pb hh)
    have bb : ∀ (s b : Bool), (b = true → s = true) → (s && b) = b := by intro s b h; cases b <;> simp_all
    have ll : ∀ {α : Type} (s : Bool) (l : List α), (l ≠ [] → s = true) → (if s = true then l else []) = l := by
      intro α s l h
      by_cases h0 : l = []
      · subst h0; simp
      · rw [if_pos (h h0)]
    unfold chPart
    rw [ll _ _ m0, bb _ _ m5, ll _ _ m10, ll _ _ m11, bb _ _ m35, ll _ _ m35', ll _ _ m13, ll _ _ m50, bb _ _ mrn, ll _ _ mrn', bb _ _ m23, ll _ _ m16, bb _ _ m18, ll _ _ m43, ll _ _ m44, ll _ _ m51, ll _ _ m51', bb _ _ m42, ll _ _ m45, ll _ _ m41, ll _ _ m41a, ll _ _ m41b, bb _ _ m57, ll _ _ m57', ll _ _ mech]
    simp
  rw [e0, e1] at h1
  exact h1
end Go.Proofs.Ytaajmfgplhfncaa
namespace Go.Proofs.Ytaajmfgplhfncaa
open Go.RowKit
set_option maxRecDepth 100000
section
variable {w w0 w1 w2 wr w' : World} {base q off pl : Nat} {v u content ic : Value} {xs bs : List UInt8} {st out : Option (List UInt8)} {S : List Nat} {B R R' need : Nat} {F : World → Prop} {e : Ending} {fid : FuncId} {T : TypeId}
end
end Go.Proofs.Ytaajmfgplhfncaa
namespace Go.Proofs.Ytaajmfgplhfncaa
open Go.RowKit
set_option maxRecDepth 100000
section
variable {w w0 w1 w2 wr w' : World} {base p q off pl a b n : Nat} {v u content ic : Value} {xs bs : List UInt8} {st out : Option (List UInt8)} {S : List Nat} {B R R' need : Nat} {F : World → Prop} {e : Ending} {fid : FuncId} {T : TypeId}
end
end Go.Proofs.Ytaajmfgplhfncaa
namespace Go.Proofs.Ytaajmfgplhfncaa
set_option maxRecDepth 20000
def chHeadW (t : Ch) : Wr := ((((⟨(Wr.nil.num 2 t.vers.toNat).b ++ t.random, false⟩ : Wr).vec 1 t.sid).inner 2 (wordsW t.suites)).vec 1 t.comps)
def chW (t : Ch) (L : List Ex) : Wr := if L = [] then chHeadW t else behindW (chHeadW t) (exsW L)
theorem chHeadW_eq (t : Ch) : chHeadW t = ⟨chHeadB t, decide (256 ≤ t.sid.length) || decide (65536 ≤ (wordsB t.suites).length) || decide (256 ≤ t.comps.length)⟩ := by
  simp [chHeadW, chHeadB, Wr.num, Wr.vec, Wr.inner, Wr.nil, wordsW]
  rfl
theorem chW_eq (t : Ch) (L : List Ex) : chW t L = ⟨chBodyB t L, (decide (256 ≤ t.sid.length) || decide (65536 ≤ (wordsB t.suites).length) || decide (256 ≤ t.comps.length)) || decide (65536 ≤ (exsB L).length)⟩ := by
  unfold chW chBodyB
  by_cases h : L = []
  · rw [if_pos h, if_pos h, chHeadW_eq, h]; simp [exsB]
  · rw [if_neg h, if_neg h, chHeadW_eq]
    unfold behindW
    rw [exsW_short, exsW_eq]
    rfl
theorem chW_fine {t : Ch} (h : ChOk t) {L : List Ex} : (messageW 1 (chW t L)).bad = false ↔ (wordsB t.suites).length < 65536 ∧ t.comps.length < 256 ∧ (exsB L).length < 65536 := by
  have hb := chBodyB_len t L
  have h1 := h.r
  have h2 := h.s
  rw [messageW_msgB, chW_eq]
  simp only [Bool.or_eq_false_iff, decide_eq_false_iff_not]
  constructor
  · rintro ⟨⟨⟨⟨h3, h4⟩, h5⟩, h6⟩, h7⟩; exact ⟨by omega, by omega, by omega⟩
  · rintro ⟨h3, h4, h5⟩; exact ⟨⟨⟨⟨by omega, by omega⟩, by omega⟩, by omega⟩, by omega⟩
theorem ChOk.head {t : Ch} (h : ChOk t) (h1 : (wordsB t.suites).length < 65536) (h2 : t.comps.length < 256) : ChHead t := ⟨h.r, h.s, h.u, h1, h.c, h2, h.sg⟩
theorem ch_form {t : Ch} (h : ChOk t) (hb : (chExtL t).bad = false) {L : List Ex} (hW : (messageW 1 (chW t L)).bad = false) (hL : ListsE (chE t) L) (hp : PskLast L) : ChForm (chMsg t L) t L { t with exs := L.map (·.1) } := by
  obtain ⟨h1, h2, h3⟩ := (chW_fine h).1 hW
  exact ⟨rfl, h.head h1 h2, h3, ch_run h (ch_small hb) hL hp⟩
end Go.Proofs.Ytaajmfgplhfncaa
namespace Go.Proofs.Ytaajmfgplhfncaa
open Go.ChangeShapes Go.WideShapes Go.ChangeAt Go.RowKit
set_option maxRecDepth 100000
theorem own : ownKnob Try.prog.godebug = none := by kernel_rfl
theorem laidOut : laidOutB Try.prog = true := by kernel_rfl
section
variable {H : Type} {enc : TypeId × Value → H} {P : Program}
theorem post_of_below {f : Func} {s : ChangeSpec} {apart fresh handsOn again : Bool} {W W' : World} {args : Array Value} {v : Value} {ds gs : List (DataW H)} {before pa pv : List MemPlace}
    (hW : DataW.Whole enc P f.params.toList s.vars apart W args.toList ds gs before)
    (hres : ∀ (b : Nat) (sp : Nat → Bool) (hd : Bool), DataW.TrodAll enc P W' b sp hd f.resultTypes.toList (v.resultList f.resultTypes.size) (s.fn H (ds ++ gs)).results [])
    (hargs : ∀ sp : Nat → Bool, (∀ p ∈ before, sp p.block = true) → DataW.TrodAll enc P W' 0 sp true f.params.toList args.toList (s.fn H (ds ++ gs)).args pa)
    (hvars : ∀ sp : Nat → Bool, (∀ p ∈ before, sp p.block = true) → DataW.TrodVars enc P W' sp s.vars (s.fn H (ds ++ gs)).vars pv)
    (hps : before = pa ++ pv) (hb : Below W.heap.size W W')
    (hok : ∀ (j : Nat) (t : TypeId) (r : Value), f.resultTypes[j]? = some t → (v.resultList f.resultTypes.size)[j]? = some r → Value.okWide P W' .any 0 t r) :
    s.post enc P f apart fresh handsOn again W args v W' := by
  have hlt : ∀ p ∈ before, p.block < W.heap.size := fun p hp => hW.lt p hp
  have hold : ∀ p ∈ before, (fun b => decide (b < W.heap.size)) p.block = true := fun p hp => by simpa using hlt p hp
  refine ⟨ds, gs, before, [], pa, pv, hW, hres _ _ _, hargs _ hold, hvars _ hold, World.keptBut_mono (fun p hp => ⟨hp, ?_⟩) (hb.frame (· ∈ before)), fun _ => ?_⟩
  · rw [hps, List.mem_append] at hp
    exact Or.inr hp
  · obtain ⟨_, _, _, _, _, hz, hn⟩ := hW
    refine ⟨hok, _, _, ([] ++ pa) ++ pv, ⟨[] ++ pa, pv, trodAll_append (hargs _ (fun _ _ => rfl)) (hres _ _ _), hvars _ (fun _ _ => rfl), rfl, ?_, ?_⟩, ?_⟩
    · intro b off hp
      have hin : MemPlace.cell b off ∈ before := by rw [hps]; simpa using hp
      rw [hb.frozen (hlt _ hin)]
      exact hz b off hin
    · intro ha
      have := hn ha
      rw [hps] at this
      simpa using this
    · intro p hp _
      rw [hps]
      simpa using hp
theorem below_trodAll (hl : laidOutB P = true) {W W' : World} (hb : Below W.heap.size W W') {sp : Nat → Bool} :
    ∀ {ts : List TypeId} {vs : List Value} {ds : List (DataW H)} {p : List MemPlace}, (ts.all fun t => P.readableRec t && decide (t < P.types.size)) = true → (∀ x ∈ p, x.block < W.heap.size) → (∀ x ∈ p, sp x.block = true) →
      DataW.TrodAll enc P W 0 (fun _ => true) true ts vs ds p → DataW.TrodAll enc P W' 0 sp true ts vs ds p
  | [], _, _, _, _, _, _, h => by
    obtain ⟨rfl, rfl, rfl⟩ := trodAll_nil h
    exact trodAll_mk0
  | t :: ts, vs, ds, p, hr, hlt, hsp, h => by
    obtain ⟨v, vs1, d, ds1, a, b, rfl, rfl, rfl, h1, h2⟩ := trodAll_cons h
    simp only [List.all_cons, Bool.and_eq_true, decide_eq_true_eq] at hr
    refine trodAll_cons_mk ?_ (below_trodAll hl hb hr.2 (fun x hx => hlt x (by simp [hx])) (fun x hx => hsp x (by simp [hx])) h2)
    exact WideElems.Trod_stays hl hr.1.1 hr.1.2 h1 (fun x hx => hb.same (hlt x (by simp [hx]))) (fun x hx => hsp x (by simp [hx]))
end
theorem law_post {H : Type} {enc : TypeId × Value → H} {f : Func} {s : ChangeSpec} {W W' : World} {args : Array Value} {ds gs : List (DataW H)} {before : List MemPlace} {e : Ending}
    (hW : DataW.Whole enc Try.prog f.params.toList s.vars false W args.toList ds gs before) (hv : s.vars = []) (hs : (s.fn H ds) = { results := [.lit (.bool true)], args := ds })
    (hr : (f.params.toList.all fun t => Try.prog.readableRec t && decide (t < Try.prog.types.size)) = true) (hres : f.resultTypes = #[4]) (h : LawP W e W') :
    ∃ v, e = .returned v ∧ s.post enc Try.prog f false true false false W args v W' := by
  obtain ⟨rfl, hu⟩ := h
  have hb : Below W.heap.size W W' := hu.below (Nat.le_refl _) (by simp)
  have hW' := hW
  obtain ⟨p, q, hA, hV, rfl, hfz, hnd⟩ := hW
  rw [hv] at hV
  obtain ⟨rfl, rfl⟩ := trodVars_none hV
  have hlt := hW'.lt
  have hvars : ∀ sp : Nat → Bool, DataW.TrodVars enc Try.prog W' sp s.vars (s.fn H (ds ++ [])).vars [] := by
    intro sp
    rw [List.append_nil, hs, hv]
    exact rfl
  refine ⟨_, rfl, post_of_below (pa := p) (pv := []) hW' (fun _ _ _ => ?_) (fun sp hsp => ?_) (fun sp _ => hvars sp) rfl hb (ok_one hres rfl (okWide_bool_mk Try.underlying4 _))⟩
  · rw [List.append_nil, hs, hres]
    exact trodAll_cons_mk (shut_bool Try.underlying4 _) trodAll_mk0
  · rw [List.append_nil, hs]
    exact below_trodAll laidOut hb hr (fun x hx => hlt x (by simpa using hx)) (fun x hx => hsp x (by simpa using hx)) hA
end Go.Proofs.Ytaajmfgplhfncaa
namespace Go.Proofs.Ytaajmfgplhfncaa
open Go.RowKit
set_option maxRecDepth 100000
abbrev uv (u : UInt32) : Value := .int .u32 (u.toNat : Int)
theorem or32 (a u : Nat) (k : Nat) (ha : a * 2 ^ k + 2 ^ k ≤ 4294967296) (hu : u < 2 ^ k) : bits .or .u32 ((a * 2 ^ k : Nat) : Int) (u : Int) = ((a * 2 ^ k + u : Nat) : Int) := by
  have h1 : a * 2 ^ k < 4294967296 := by have := Nat.two_pow_pos k; omega
  have h2 : u < 4294967296 := by omega
  have hn := Nat.or_lt_two_pow (n := 32) (x := a * 2 ^ k) (y := u) (by omega) (by omega)
  have e1 : (BitVec.ofInt 32 ((a * 2 ^ k : Nat) : Int)).toNat = a * 2 ^ k := by
    rw [BitVec.ofInt_natCast, BitVec.toNat_ofNat]
    exact Nat.mod_eq_of_lt (by omega)
  have e2 : (BitVec.ofInt 32 (u : Int)).toNat = u := by
    rw [BitVec.ofInt_natCast, BitVec.toNat_ofNat]
    exact Nat.mod_eq_of_lt (by omega)
  show IntKind.u32.wrap ((BitVec.ofInt 32 ((a * 2 ^ k : Nat) : Int) ||| BitVec.ofInt 32 (u : Int)).toNat : Int) = _
  rw [BitVec.toNat_or, e1, e2]
  have := Nat.shiftLeft_add_eq_or_of_lt (i := k) (b := u) hu a
  rw [Nat.shiftLeft_eq] at this
  rw [← this]
  simp only [IntKind.wrap, IntKind.signed, IntKind.bits]
  have h3 : a * 2 ^ k + u < 4294967296 := by omega
  have : ((a * 2 ^ k + u : Nat) : Int) % 2 ^ 32 = ((a * 2 ^ k + u : Nat) : Int) := by omega
  simpa using this
theorem be4_u32 (x y z t : UInt8) : bits .or .u32 (bits .or .u32 (bits .or .u32 ((x.toNat : Int) * 16777216) ((y.toNat : Int) * 65536)) ((z.toNat : Int) * 256)) (t.toNat : Int) = (((UInt32.ofNat (beNat [x, y, z, t])).toNat : Nat) : Int) := by
  have hx := x.toNat_lt
  have hy := y.toNat_lt
  have hz := z.toNat_lt
  have ht := t.toNat_lt
  have e1 : (x.toNat : Int) * 16777216 = ((x.toNat * 2 ^ 24 : Nat) : Int) := by omega
  have e2 : (y.toNat : Int) * 65536 = ((y.toNat * 65536 : Nat) : Int) := by omega
  have e3 : (z.toNat : Int) * 256 = ((z.toNat * 256 : Nat) : Int) := by omega
  rw [e1, e2, e3, or32 _ _ 24 (by omega) (by omega)]
  have e4 : ((x.toNat * 2 ^ 24 + y.toNat * 65536 : Nat) : Int) = (((x.toNat * 256 + y.toNat) * 2 ^ 16 : Nat) : Int) := by omega
  rw [e4, or32 _ _ 16 (by omega) (by omega)]
  have hA : ∀ A Z : Nat, A * 2 ^ 16 + Z * 256 = (A * 256 + Z) * 2 ^ 8 := by intro A Z; omega
  rw [hA, or32 _ _ 8 (by omega) (by omega)]
  have e6 : beNat [x, y, z, t] = ((x.toNat * 256 + y.toNat) * 256 + z.toNat) * 256 + t.toNat := by simp only [beNat, List.foldl_cons, List.foldl_nil]; omega
  have e7 : ((x.toNat * 256 + y.toNat) * 256 + z.toNat) * 256 + t.toNat < 4294967296 := by omega
  rw [e6, UInt32.toNat_ofNat_of_lt' (by simpa [UInt32.size] using e7)]
section
variable {w w' w1 w2 : World} {base q p off pl N b : Nat} {v content ic : Value} {xs bs : List UInt8} {st out : Option (List UInt8)} {S : List Nat} {B R R' : Nat} {F : World → Prop} {e : Ending} {nn : Prop}
set_option maxHeartbeats 2000000 in
theorem ReadUint32_ok {ob k : Nat} {T : TypeId} {cs : Array Value} {x y z t : UInt8} (h : Sv w N b (x :: y :: z :: t :: bs) nn) (ho : Blk w ob T cs) (hk : k < cs.size) (hne : ob ≠ b) (hN : N ≤ ob) :
    Calls Try.prog 62 #[.pointer (some ⟨b, 0, none⟩), .pointer (some ⟨ob, k, none⟩)] w (OkOut w N b bs ob T cs k (uv (UInt32.ofNat (beNat [x, y, z, t])))) := by
  have q : ∀ (w : World) (a : Option Addr) (n c n' c' : Nat), (binOp .eql 23 (.slice a n c) (.slice none n' c')).run Try.prog w = .ok (.bool a.isNone) w := fun w a n c n' c' => Lib.run_eql_slice_nil w _ _ a n c n' c' Try.underlying23
  go_enter Try.func62, Try.ntmps62
  go_wp2_with fail
  refine (read_ok h 4 (by simp) (.inl (by omega))).mono ?_
  rintro e w1 ⟨u, rfl, ⟨a, n, c, rfl⟩, hy, hu, hs⟩
  have hn1 := Byt.len hy
  simp at hn1
  subst hn1
  obtain ⟨b', o, e, hb', hj, hcell⟩ := Byt.at_ hy (k := 0) (by omega)
  obtain ⟨b1, o1, e1, _, _, hcell1⟩ := Byt.at_ hy (k := 1) (by omega)
  obtain ⟨b2, o2, e2, _, _, hcell2⟩ := Byt.at_ hy (k := 2) (by omega)
  obtain ⟨b3, o3, e3, _, _, hcell3⟩ := Byt.at_ hy (k := 3) (by omega)
  rw [e] at e1 e2 e3
  injection e with e
  subst e
  cases e1
  cases e2
  cases e3
  have ho1 := ho.upd hu (by simpa using hne)
  obtain ⟨zz, hz1⟩ : ∃ z, cs[k]? = some z := ⟨_, Array.getElem?_eq_getElem hk⟩
  have d0 := (ho1.cell k).trans hz1
  have d1 := ho1.frozen k
  simp at hcell hcell1 hcell2 hcell3
  have hx := x.toNat_lt
  have hy' := y.toNat_lt
  have hz' := z.toNat_lt
  have ht' := t.toNat_lt
  go_wp2
  go_still_tail 23, (by kernel_rfl)
  go_wp2
  go_ret
  rw [be4_u32 x y z t]
  exact okOut_store hu hs ‹Blk w ob T cs› hne hN ⟨1, rfl⟩
theorem AddUint32_any (hb : BS w base p v off pl ic st) (hl : olen st ≤ 17592186044416) (n : Nat) (hn : n < 4294967296) :
    Calls Try.prog 111 #[.pointer (some ⟨p, 0, none⟩), .int .u32 (n : Int)] w (BSP w base p v off pl ic (app st (some (be 4 n)))) := by
  have h := add_lit_any hb hl (be 4 n) (by simp [be_len]) 5
  rw [be_len] at h
  have e3 : bv (UInt8.ofNat (n / 256 ^ 3)) = .int .u8 ((n : Int) / 16777216) := bv_of (by omega)
  have e2 : bv (UInt8.ofNat (n / 256 ^ 2)) = .int .u8 ((n : Int) / 65536 % 256) := bv_of (by omega)
  have e1 : bv (UInt8.ofNat (n / 256 ^ 1)) = .int .u8 ((n : Int) / 256 % 256) := bv_of (by omega)
  have e0 : bv (UInt8.ofNat (n / 256 ^ 0)) = .int .u8 ((n : Int) % 256) := bv_of (by omega)
  simp only [be, List.map_cons, List.map_nil, e3, e2, e1, e0] at h
  have H := hid h
  clear h e0 e1 e2 e3
  go_enter Try.func111, Try.ntmps111
  go_wp2_with fail
  refine H.out.mono ?_
  intro e1 w1 hp
  have he := hp.1
  subst he
  go_wp2
  go_end0
  exact hp
theorem Em.u32 (h : Em w1 q v base off pl ic B F st R w2) (n : Nat) (hn : n < 4294967296) (hR : R' + 4 ≤ R) :
    Calls Try.prog 111 #[.pointer (some ⟨q, 0, none⟩), .int .u32 (n : Int)] w2 (EmP w1 q v base off pl ic B F (app st (some (be 4 n))) R') := by
  obtain ⟨v2, hb, hu, hv2⟩ := h.main
  have hr := h.room
  have ho := olen_app st (some (be 4 n))
  have h1 : olen (some (be 4 n)) = 4 := be_len 4 n
  exact (AddUint32_any hb (by omega) n hn).mono fun e w' hp => h.step hu hv2 hp (by omega)
end
end Go.Proofs.Ytaajmfgplhfncaa
namespace Go.Proofs.Ytaajmfgplhfncaa
open Go.Joins Go.ChangeShapes Go.WideShapes Go.RowKit Go.Deep
set_option maxRecDepth 100000
section
variable {H : Type} {enc : TypeId × Value → H} {P : Program} {w : World} {base : Nat} {spare : Nat → Bool} {held : Bool}
end
section
variable {H : Type} {enc : TypeId × Value → H} {W : World} {sp : Nat → Bool} {hd : Bool}
theorem bytes_trod {n base : Nat} {v : Value} {x : DataW H × List MemPlace} (hf : DataW.trod enc Try.prog W base (fun _ => true) hd n 23 [v] = some x) : ∃ bs, Byt W W.heap.size v bs := by
  rcases open_ints Try.underlying23 Try.underlying5 (by kernel_rfl) hf with ⟨hcs, -⟩ | ⟨a, len, cap, zs, hcs, -, hle, hmax, hall, -, hcell, hwf⟩
  · injection hcs with hcs _
    subst hcs
    exact ⟨[], Row.nil_ _ _⟩
  · injection hcs with hcs _
    subst hcs
    simp only [if_true] at hall
    have hlen : (((zs.take len).map fun n => UInt8.ofNat n.toNat).map bv).length = len := by simp; omega
    refine ⟨(zs.take len).map fun n => UInt8.ofNat n.toNat, some a, cap, by rw [hlen], by rw [hlen]; exact hle, hmax, (by intro e; cases e), ?_⟩
    intro hne
    have hp : 0 < zs.length := by
      rw [hall]
      have : len ≠ 0 := by
        intro e0
        apply hne
        exact List.length_eq_zero_iff.1 (hlen.trans e0)
      omega
    obtain ⟨b, off, rfl, hc⟩ := ints_at hcell hp
    refine ⟨b, off, rfl, World.block_lt_of_cell? W ⟨b, off + 0, none⟩ (hc 0 hp), ?_⟩
    intro j u hj
    have hjl : j < len := by
      have := (List.getElem?_eq_some_iff.1 hj).1
      rwa [hlen] at this
    rw [hc j (by omega), ← hj]
    have hz : zs[j]? = some (zs.getD j 0) := by simp [List.getD, List.getElem?_eq_getElem (show j < zs.length by omega)]
    have hb := bounds_u8 (hwf (zs.getD j 0) (List.mem_of_getElem? hz))
    rw [List.getElem?_map, List.getElem?_map, List.getElem?_take, if_pos hjl, hz]
    simp only [Option.map_some]
    congr 2
    show zs.getD j 0 = _
    rw [UInt8.toNat_ofNat']
    have : (zs.getD j 0).toNat % 2 ^ 8 = (zs.getD j 0).toNat := Nat.mod_eq_of_lt (by omega)
    rw [this]
    omega
theorem all2_of {α β : Type} {p : α → β → Prop} : ∀ (l : List α), (∀ a ∈ l, ∃ b, p a b) → ∃ m, All2 p l m
  | [], _ => ⟨[], trivial⟩
  | a :: l, h => by
    obtain ⟨b, hb⟩ := h a (by simp)
    obtain ⟨m, hm⟩ := all2_of l (fun x hx => h x (by simp [hx]))
    exact ⟨b :: m, hb, hm⟩
theorem lists_trod {n base : Nat} {v : Value} {x : DataW H × List MemPlace} (hf : DataW.trod enc Try.prog W base (fun _ => true) hd n 26 [v] = some x) : ∃ ls, Lst W W.heap.size v ls := by
  rcases DataW.trod_slice Try.underlying26 hf with ⟨hcs, -⟩ | ⟨a, len, cap, elems, rest, m, -, hcs, -, -, hle, hmax, hlen, hel, -, -⟩
  · injection hcs with hcs _
    subst hcs
    exact ⟨[], [], Row.nil_ _ _, trivial⟩
  · injection hcs with hcs _
    subst hcs
    have each : ∀ i, i < len → ∃ u bs, W.cell? (a.add i) = some u ∧ Byt W W.heap.size u bs := by
      intro i hi
      have h := hel i hi
      have hc : Try.prog.cellsOf 23 = 1 := by kernel_rfl
      rw [hc, Nat.mul_one] at h
      have hy : elems[i]? = some (elems[i]'(by omega)) := List.getElem?_eq_getElem (by omega)
      rw [hy, Option.bind_eq_some_iff] at h
      obtain ⟨cs, h1, h2⟩ := h
      have hl1 := (World.cells?_some h1).2.1
      match cs, hl1 with
      | [u], _ =>
        obtain ⟨bs, hb⟩ := bytes_trod h2
        exact ⟨u, bs, cell_of_cells?_one h1, hb⟩
    let us : List Value := (List.range len).map fun i => (W.cell? (a.add i)).getD undef
    have hus : us.length = len := by simp [us]
    have hget : ∀ i, i < len → us[i]? = W.cell? (a.add i) := by
      intro i hi
      obtain ⟨u, bs, h1, -⟩ := each i hi
      simp [us, hi, h1]
    obtain ⟨ls, hls⟩ := all2_of (p := fun u l => Byt W W.heap.size u l) us (by
      intro u hu
      obtain ⟨i, hi⟩ := List.getElem?_of_mem hu
      have hil : i < len := by have := (List.getElem?_eq_some_iff.1 hi).1; rwa [hus] at this
      obtain ⟨u', bs, h1, h2⟩ := each i hil
      rw [hget i hil, h1] at hi
      cases hi
      exact ⟨bs, h2⟩)
    refine ⟨ls, us, ⟨some a, cap, by rw [hus], by rw [hus]; exact hle, hmax, (by intro e; cases e), ?_⟩, hls⟩
    intro hne
    have hp : 0 < len := by
      have : us.length ≠ 0 := fun e => hne (List.length_eq_zero_iff.1 e)
      omega
    obtain ⟨b, off, spot⟩ := a
    obtain ⟨u0, -, h0, -⟩ := each 0 hp
    have hspot : spot = none := by simpa [Addr.add] using World.cell?_spot h0
    subst hspot
    refine ⟨b, off, rfl, World.block_lt_of_cell? W ⟨b, off + 0, none⟩ (by rw [← Go.WideShapes.add_plain]; exact h0), ?_⟩
    intro j u hj
    have hjl : j < len := by have := (List.getElem?_eq_some_iff.1 hj).1; rwa [hus] at this
    rw [← Go.WideShapes.add_plain, ← hget j hjl]
    exact hj
theorem open_lists {v : Value} {d : DataW H} {p : List MemPlace} {base : Nat}
    (hv : Value.okWide Try.prog W .any base 26 v) (h : DataW.Trod enc Try.prog W 0 (fun _ => true) true 26 v d p) : ∃ ls, Lst W W.heap.size v ls := by
  obtain ⟨a0, len0, cap0, rfl⟩ := okWide_slice Try.underlying26 hv
  obtain ⟨fuel, hf⟩ := h
  exact lists_trod (n := fuel) (by simpa [Value.cells] using hf)
end
section
variable {H : Type} {enc : TypeId × Value → H} {P : Program} {w : World} {base : Nat} {spare : Nat → Bool} {held : Bool}
theorem bool_trod {W : World} {n b0 : Nat} {v : Value} {x : DataW H × List MemPlace} {sp : Nat → Bool} {hd : Bool} (hf : DataW.trod enc Try.prog W b0 sp hd n 4 [v] = some x) : ∃ b : Bool, v = .bool b := by
  obtain ⟨b, h, -⟩ := DataW.trod_bool Try.underlying4 hf
  injection h with h _
  exact ⟨b, h⟩
end
end Go.Proofs.Ytaajmfgplhfncaa
namespace Go.Proofs.Ytaajmfgplhfncaa
open Go.Joins Go.ChangeShapes Go.WideShapes Go.RowKit Go.Deep
set_option maxRecDepth 100000
theorem uptoSmall_le {H : Type} {ds : List (DataW H)} (h : Rows.uptoSmall H ds = true) : Rows.uptoBulkAll ds ≤ 1048576 := of_decide_eq_true h
theorem bulk_one {H : Type} (d : DataW H) : 1 ≤ Rows.uptoBulk d := by
  cases d with
  | lit l => cases l <;> simp [Rows.uptoBulk]
  | nil => simp [Rows.uptoBulk]
  | ptr d => simp [Rows.uptoBulk]
  | slice elems spare => simp [Rows.uptoBulk]
  | agg parts => simp [Rows.uptoBulk]
  | iface t d => simp [Rows.uptoBulk]
  | map entries => simp [Rows.uptoBulk]
  | held h => simp [Rows.uptoBulk]
theorem bulk_part {H : Type} {d : DataW H} : ∀ {l : List (DataW H)}, d ∈ l → Rows.uptoBulk d ≤ Rows.uptoBulkAll l
  | [], h => by cases h
  | x :: r, h => by
    simp only [Rows.uptoBulkAll]
    rcases List.mem_cons.1 h with h | h
    · rw [h]; omega
    · have := bulk_part h; omega
theorem bulk_length {H : Type} : ∀ (l : List (DataW H)), l.length ≤ Rows.uptoBulkAll l
  | [] => by simp [Rows.uptoBulkAll]
  | x :: r => by
    have := bulk_one x
    have := bulk_length r
    simp only [Rows.uptoBulkAll, List.length_cons]
    omega
def lstSz (ls : List (List UInt8)) : Nat := (ls.map fun l => l.length + 1).sum
theorem lstSz_cons (l : List UInt8) (ls : List (List UInt8)) : lstSz (l :: ls) = l.length + 1 + lstSz ls := by simp [lstSz]
theorem lstSz_le {H : Type} : ∀ (ls : List (List UInt8)) (ds : List (DataW H)), ls.length = ds.length → (∀ (i : Nat) (x : List UInt8) (d : DataW H), ls[i]? = some x → ds[i]? = some d → x.length + 1 ≤ Rows.uptoBulk d) → lstSz ls ≤ Rows.uptoBulkAll ds
  | [], ds, _, _ => by simp [lstSz]
  | x :: ls, [], h, _ => by simp at h
  | x :: ls, d :: ds, h, hg => by
    rw [lstSz_cons]
    simp only [Rows.uptoBulkAll]
    have h0 := hg 0 x d rfl rfl
    have h1 := lstSz_le ls ds (by simpa using h) (fun i y e hy he => hg (i + 1) y e (by simpa using hy) (by simpa using he))
    omega
theorem vecsB_lst (n : Nat) (ls : List (List UInt8)) : (vecsB n ls).length ≤ (n + 1) * lstSz ls := by
  induction ls with
  | nil => simp [vecsB]
  | cons x ls ih =>
    have e : vecsB n (x :: ls) = be n x.length ++ x ++ vecsB n ls := by simp [vecsB]
    rw [e, lstSz_cons, List.length_append, List.length_append, be_len]
    have : (n + 1) * (x.length + 1 + lstSz ls) = n * x.length + x.length + n + 1 + (n + 1) * lstSz ls := by simp only [Nat.mul_add, Nat.add_mul]; omega
    rw [this]
    have : 0 ≤ n * x.length := Nat.zero_le _
    omega
section
variable {H : Type} {enc : TypeId × Value → H} {W : World} {sp : Nat → Bool} {hd : Bool}
theorem row_bulk {t e : TypeId} {n base B : Nat} {v : Value} {xs : List Value} {x : DataW H × List MemPlace} (ht : Try.prog.underlying t = some (.slice e)) (hf : DataW.trod enc Try.prog W base sp hd n t [v] = some x) (hv : Row W B v xs) : xs.length + 1 ≤ Rows.uptoBulk x.1 := by
  obtain ⟨A, c, rfl, -⟩ := hv
  rcases DataW.trod_slice ht hf with ⟨hcs, hx⟩ | ⟨a, len, cap, elems, rest, m, -, hcs, hx, -, -, -, hlen, -⟩
  · injection hcs with hcs _
    injection hcs with _ h0 _
    rw [hx, h0]
    simp [Rows.uptoBulk]
  · injection hcs with hcs _
    injection hcs with _ h0 _
    rw [hx, h0]
    simp only [Rows.uptoBulk]
    have := bulk_length (elems.map (·.1))
    rw [List.length_map] at this
    omega
theorem bytes_bulk {n base : Nat} {v : Value} {x : DataW H × List MemPlace} (hf : DataW.trod enc Try.prog W base (fun _ => true) hd n 23 [v] = some x) : ∃ bs, Byt W W.heap.size v bs ∧ bs.length + 1 ≤ Rows.uptoBulk x.1 := by
  obtain ⟨bs, hb⟩ := bytes_trod hf
  have := row_bulk Try.underlying23 hf hb
  rw [List.length_map] at this
  exact ⟨bs, hb, this⟩
theorem byt_same {w : World} {B C : Nat} {v : Value} {xs ys : List UInt8} (h : Byt w B v xs) (k : Byt w C v ys) : xs.length = ys.length := by
  obtain ⟨A, c, e, -⟩ := Byt.form h rfl
  obtain ⟨A', c', e', -⟩ := Byt.form k rfl
  rw [e] at e'
  injection e' with _ h _
theorem lists_bulk {n base : Nat} {v : Value} {x : DataW H × List MemPlace} (hf : DataW.trod enc Try.prog W base (fun _ => true) hd n 26 [v] = some x) : ∃ ls, Lst W W.heap.size v ls ∧ lstSz ls + 1 ≤ Rows.uptoBulk x.1 := by
  obtain ⟨ls, hl⟩ := lists_trod hf
  refine ⟨ls, hl, ?_⟩
  obtain ⟨vs, h1, h2⟩ := hl
  have hll := h2.length
  have h1' := h1
  obtain ⟨A, c, rfl, -, -, -, hrow⟩ := h1
  rcases DataW.trod_slice Try.underlying26 hf with ⟨hcs, hx⟩ | ⟨a, len, cap, elems, rest, m, -, hcs, hx, -, -, -, hlen, hel, -, -⟩
  · injection hcs with hcs _
    injection hcs with _ h0 _
    have : ls = [] := List.eq_nil_of_length_eq_zero (by omega)
    rw [hx, this]
    simp [Rows.uptoBulk, lstSz]
  · injection hcs with hcs _
    injection hcs with hA h0 _
    rw [hx]
    simp only [Rows.uptoBulk]
    have key : lstSz ls ≤ Rows.uptoBulkAll (elems.map (·.1)) := by
      refine lstSz_le ls _ (by rw [List.length_map]; omega) ?_
      intro i y d hy hd
      have hil : i < ls.length := (List.getElem?_eq_some_iff.1 hy).1
      have hiv : i < vs.length := by omega
      have hgy : ls[i] = y := by rw [List.getElem?_eq_getElem hil] at hy; exact Option.some.inj hy
      have hby := h2.get i hiv hil
      rw [hgy] at hby
      obtain ⟨b, o, hAe, -, hcell⟩ := hrow (by intro e; rw [e] at hiv; simp at hiv)
      have hci := hcell i _ (List.getElem?_eq_getElem hiv)
      have hie : i < elems.length := by omega
      have h := hel i (by omega)
      have hc : Try.prog.cellsOf 23 = 1 := by kernel_rfl
      rw [hc, Nat.mul_one, List.getElem?_eq_getElem hie, Option.bind_eq_some_iff] at h
      obtain ⟨cs, k1, k2⟩ := h
      rw [hAe] at hA
      injection hA with hA
      rw [← hA, add_lit] at k1
      have hl1 := (World.cells?_some k1).2.1
      match cs, hl1 with
      | [u], _ =>
        have hu := cell_of_cells?_one k1
        rw [hci] at hu
        injection hu with hu
        rw [← hu] at k2
        obtain ⟨bs, hb, hbb⟩ := bytes_bulk k2
        have := byt_same hby hb
        have hdd : d = elems[i].1 := by
          rw [List.getElem?_map, List.getElem?_eq_getElem hie] at hd
          exact (Option.some.inj hd).symm
        rw [hdd]
        omega
    omega
end
theorem open_aggB {H : Type} {enc : TypeId × Value → H} {P : Program} {w : World} {base : Nat} {spare : Nat → Bool} {held : Bool} {r : Reach} {b0 : Nat} {t : TypeId} {fs : Array Field} {v : Value} {d : DataW H} {p : List MemPlace}
    (hs : P.underlying t = some (.struct fs)) (hone : oneCellFields P fs = true) (hC : P.cellsOf t = fs.size) (hv : Value.okWide P w r b0 t v) (h : DataW.Trod enc P w base spare held t v d p) :
    ∃ (l : List Value) (n : Nat), v = .agg ⟨l⟩ ∧ l.length = fs.size ∧ ∀ (i : Nat) (f : Field), fs[i]? = some f → ∃ u y, l[i]? = some u ∧ DataW.trod enc P w base spare held n f.type [u] = some y ∧ Rows.uptoBulk y.1 ≤ Rows.uptoBulk d := by
  obtain ⟨cs, rfl, hsz⟩ := okWide_struct hs hv
  obtain ⟨l⟩ := cs
  have hsz : l.length = fs.size := by rw [← hC]; exact hsz
  obtain ⟨fuel, hf⟩ := h
  obtain ⟨xs, n, _, hx, _, hlen, hg⟩ := DataW.trod_struct hs hf
  refine ⟨l, n, rfl, hsz, fun i f hi => ?_⟩
  obtain ⟨o, k⟩ := hone_of hone i f hi
  have hil : i < fs.size := (Array.getElem?_eq_some_iff.1 hi).1
  have := hg i f hi
  simp only [Value.cells, o, k] at this
  have e : (l.drop i).take 1 = [l[i]'(by omega)] := by
    rw [List.drop_eq_getElem_cons (by omega)]; rfl
  rw [e, List.getElem?_eq_getElem (by omega)] at this
  refine ⟨_, _, List.getElem?_eq_getElem (by omega), this, ?_⟩
  have hd : d = .agg (xs.map (·.1)) := congrArg (·.1) hx
  rw [hd]
  simp only [Rows.uptoBulk]
  have := bulk_part (d := (xs[i]'(by omega)).1) (l := xs.map (·.1)) (List.mem_map_of_mem (List.getElem_mem _))
  omega
section
variable {H : Type} {enc : TypeId × Value → H} {W : World} {sp : Nat → Bool} {hd : Bool}
theorem words_trod {n base : Nat} {v : Value} {x : DataW H × List MemPlace} (hf : DataW.trod enc Try.prog W base (fun _ => true) hd n 24 [v] = some x) : ∃ l : List UInt16, Row W W.heap.size v (l.map wv) ∧ l.length + 1 ≤ Rows.uptoBulk x.1 := by
  suffices h : ∃ l : List UInt16, Row W W.heap.size v (l.map wv) by
    obtain ⟨l, hl⟩ := h
    have := row_bulk Try.underlying24 hf hl
    rw [List.length_map] at this
    exact ⟨l, hl, this⟩
  rcases open_ints Try.underlying24 Try.underlying22 (by kernel_rfl) hf with ⟨hcs, -⟩ | ⟨a, len, cap, zs, hcs, -, hle, hmax, hall, -, hcell, hwf⟩
  · injection hcs with hcs _
    subst hcs
    exact ⟨[], Row.nil_ _ _⟩
  · injection hcs with hcs _
    subst hcs
    simp only [if_true] at hall
    have hlen : (((zs.take len).map fun n => UInt16.ofNat n.toNat).map wv).length = len := by simp; omega
    refine ⟨(zs.take len).map fun n => UInt16.ofNat n.toNat, ⟨some a, cap, by rw [hlen], by rw [hlen]; exact hle, hmax, (by intro e; cases e), ?_⟩⟩
    · intro hne
      have hp : 0 < zs.length := by
        rw [hall]
        have : len ≠ 0 := by
          intro e0
          apply hne
          exact List.length_eq_zero_iff.1 (hlen.trans e0)
        omega
      obtain ⟨b, off, rfl, hc⟩ := ints_at hcell hp
      refine ⟨b, off, rfl, World.block_lt_of_cell? W ⟨b, off + 0, none⟩ (hc 0 hp), ?_⟩
      intro j u hj
      have hjl : j < len := by
        have := (List.getElem?_eq_some_iff.1 hj).1
        rwa [hlen] at this
      rw [hc j (by omega), ← hj]
      have hz : zs[j]? = some (zs.getD j 0) := by simp [List.getD, List.getElem?_eq_getElem (show j < zs.length by omega)]
      have hb := bounds_u16 (hwf (zs.getD j 0) (List.mem_of_getElem? hz))
      rw [List.getElem?_map, List.getElem?_map, List.getElem?_take, if_pos hjl, hz]
      simp only [Option.map_some]
      congr 2
      show zs.getD j 0 = _
      rw [UInt16.toNat_ofNat']
      have : (zs.getD j 0).toNat % 2 ^ 16 = (zs.getD j 0).toNat := Nat.mod_eq_of_lt (by omega)
      rw [this]
      omega
end
end Go.Proofs.Ytaajmfgplhfncaa
namespace Go.Proofs.Ytaajmfgplhfncaa
open Go.RowKit
set_option maxRecDepth 100000
structure VOk {α : Type} (T : TypeId) (V : World → Nat → Value → α → Prop) : Prop where
  agg : ∀ {w B v x}, V w B v x → ∃ cs : Array Value, v = .agg cs ∧ (Try.prog.info? T).map (·.size) = some cs.size ∧ cs.all (·.oneCell') = true
  str : ∃ d, Try.prog.underlying T = some d ∧ d.isRow = true
  upd : ∀ {w w' B v x S}, V w B v x → Upd S w w' → (∀ k ∈ S, B ≤ k) → V w' B v x
  shrink : ∀ {w B v x}, V w B v x → V w w.heap.size v x
def VB {α : Type} (T : TypeId) (V : World → Nat → Value → α → Prop) (w : World) (g : Nat) (x : α) (cs : Array Value) : Prop :=
  Blk w g T cs ∧ V w w.heap.size (.agg cs) x
def Firm {α : Type} (V : World → Nat → Value → α → Prop) (B n : Nat) (w : World) (v : Value) (x : α) : Prop :=
  V w w.heap.size v x ∧ ∀ w' S, Upd S w w' → (∀ k ∈ S, B ≤ k ∧ k < n) → V w' w'.heap.size v x
section
variable {α : Type} {T : TypeId} {V : World → Nat → Value → α → Prop} {w w' : World} {B g : Nat} {v : Value} {x : α} {S : List Nat} {cs zs : Array Value}
theorem VOk.box (h : VOk T V) (hv : V w B (.agg cs) x) : VB T V (w.alloc (.cells cs T)) w.heap.size x cs :=
  ⟨Blk.new _ _ _, h.shrink (h.upd hv ((Upd.refl [] w).alloc _) (by simp))⟩
theorem VB.upd (h : VOk T V) (hb : VB T V w g x cs) (hu : Upd [] w w') : VB T V w' g x cs :=
  ⟨hb.1.upd hu (by simp), h.shrink (h.upd hb.2 hu (by simp))⟩
theorem VB.agg (h : VOk T V) (hb : VB T V w g x cs) : (Try.prog.info? T).map (·.size) = some cs.size := by
  obtain ⟨cs', e, h1, -⟩ := h.agg hb.2
  injection e with e
  subst e
  exact h1
theorem VB.val (hb : VB T V w g x cs) : V w w.heap.size (.agg cs) x := hb.2
theorem VB.lt (hb : VB T V w g x cs) : g < w.heap.size := hb.1.lt
theorem VB.load (h : VOk T V) (hb : VB T V w g x cs) : (loadVar T ⟨g, 0, none⟩).run Try.prog w = .ok (.agg cs) w := by
  obtain ⟨d, hu, hd⟩ := h.str
  exact run_loadVar_row w g T T cs (0, 0) d hb.1 hu (by cases d <;> first | rfl | (cases hd)) (VB.agg h hb)
theorem VB.loadAt (h : VOk T V) (hb : VB T V w g x cs) : (Instr.loadAt T (.pointer (some ⟨g, 0, none⟩))).run Try.prog w = .ok (.agg cs) w := by
  simp only [Instr.loadAt, Instr.sureAddr, Sem.run_bind, Sem.run_pure, Result.andThen_ok, VB.load h hb]
theorem wpList_load_vb {ops : Array Oper} {rest : List Oper} {o : Oper} {a : Act} {Q : Exit → Act → World → Prop} (h : VOk T V) (hb : VB T V w g x cs) (p : Operand) (ho : o.op = .load T p)
    (hx : a.eval p = .pointer (some ⟨g, 0, none⟩)) (hw : Region.wanted o (yielded ops a.tmps) = true) (hK : wpList Try.prog ops Q rest (a.put o.dst (.agg cs)) w) : wpList Try.prog ops Q (o :: rest) a w := by
  obtain ⟨d, hu, hd⟩ := h.str
  exact BigFrame.wpList_want hw fun _ hK' => wp_load_row T p ho g hx T cs (0, 0) d hb.1 hu (by cases d <;> first | rfl | (cases hd)) (VB.agg h hb) (hK' _ _ hK)
theorem setCells_blk (g : Nat) (T : TypeId) : ∀ (l : List Value) (i : Nat) (w : World) (zs : Array Value), Blk w g T zs → i + l.length ≤ zs.size → Blk (w.setCells g i l) g T (zs.toList.take i ++ l ++ zs.toList.drop (i + l.length)).toArray
  | [], i, w, zs, h, _ => by
    have e : (zs.toList.take i ++ [] ++ zs.toList.drop (i + ([] : List Value).length)).toArray = zs := by simp
    rw [e]; exact h
  | v :: r, i, w, zs, h, hl => by
    simp only [List.length_cons] at hl
    have h1 := setCells_blk g T r (i + 1) _ _ (h.set_ i v) (by simp; omega)
    rw [World.setCells]
    have e : ((zs.setIfInBounds i v).toList.take (i + 1) ++ r ++ (zs.setIfInBounds i v).toList.drop (i + 1 + r.length)).toArray = (zs.toList.take i ++ (v :: r) ++ zs.toList.drop (i + (v :: r).length)).toArray := by
      have hi : i < zs.size := by omega
      congr 1
      rw [Array.toList_setIfInBounds]
      rw [List.take_succ_eq_append_getElem (by simpa using hi), List.take_set_of_le (by omega)]
      rw [List.drop_set_of_lt (by omega)]
      simp [Nat.add_assoc, Nat.add_comm 1]
    rw [e] at h1
    exact h1
theorem setCells_upd (g : Nat) : ∀ (l : List Value) (i : Nat) (w : World), Upd [g] w (w.setCells g i l)
  | [], _, w => Upd.refl _ _
  | v :: r, i, w => by
    rw [World.setCells]
    exact ((Upd.refl [g] w).setCell (by simp) v).trans (setCells_upd g r (i + 1) _) (by simp)
theorem setCells_size (g : Nat) : ∀ (l : List Value) (i : Nat) (w : World), (w.setCells g i l).heap.size = w.heap.size
  | [], _, w => rfl
  | v :: r, i, w => by
    rw [World.setCells, setCells_size g r (i + 1)]
    simp [World.setCell]
theorem wpList_store_any {ops : Array Oper} {rest : List Oper} {o : Oper} {a : Act} {Q : Exit → Act → World → Prop} (hb : Blk w g T zs) (hi : (Try.prog.info? T).map (·.size) = some cs.size) (h1 : cs.all (·.oneCell') = true) (hz : zs.size = cs.size) (hgd : o.guard = none) (p q : Operand) (ho : o.op = .store T p q)
    (hx : a.eval p = .pointer (some ⟨g, 0, none⟩)) (hy : a.eval q = .agg cs)
    (hK : ∀ w', Blk w' g T cs → Upd [g] w w' → w'.heap.size = w.heap.size → wpList Try.prog ops Q rest (a.put o.dst undef) w') : wpList Try.prog ops Q (o :: rest) a w := by
  have hu := setCells_upd g cs.toList 0 w
  have hl : 0 + cs.toList.length ≤ zs.size := by rw [hz]; simp
  have hb' := setCells_blk g T cs.toList 0 w zs hb hl
  have e : (zs.toList.take 0 ++ cs.toList ++ zs.toList.drop (0 + cs.toList.length)).toArray = cs := by
    have : zs.toList.drop (0 + cs.toList.length) = [] := by rw [List.drop_eq_nil_iff]; simp [hz]
    rw [this]; simp
  rw [e] at hb'
  refine wpList_store_mid hgd T p q ho g 0 cs hx hy ?_ hi h1 (hK _ hb' hu (setCells_size _ _ _ _))
  intro j hj
  have hjz : j < zs.size := by omega
  rw [hb.cell, hb.frozen]
  simp [hjz]
theorem blk_loadVar {d : TypeDesc} (hb : Blk w g T cs) (hu : Try.prog.underlying T = some d) (hd : d.isRow = true) (hi : (Try.prog.info? T).map (·.size) = some cs.size) : (loadVar T ⟨g, 0, none⟩).run Try.prog w = .ok (.agg cs) w :=
  run_loadVar_row w g T T cs (0, 0) d hb hu (by cases d <;> first | rfl | (cases hd)) hi
theorem wpList_store_vb {ops : Array Oper} {rest : List Oper} {o : Oper} {a : Act} {Q : Exit → Act → World → Prop} (h : VOk T V) (hb : Blk w g T zs) (hv : V w B (.agg cs) x) (hB : B ≤ g) (hz : zs.size = cs.size) (hgd : o.guard = none) (p q : Operand) (ho : o.op = .store T p q)
    (hx : a.eval p = .pointer (some ⟨g, 0, none⟩)) (hy : a.eval q = .agg cs)
    (hK : ∀ w', VB T V w' g x cs → Upd [g] w w' → w'.heap.size = w.heap.size → wpList Try.prog ops Q rest (a.put o.dst undef) w') : wpList Try.prog ops Q (o :: rest) a w := by
  obtain ⟨cs', e, h1, h2⟩ := h.agg hv
  injection e with e
  subst e
  have hu := setCells_upd g cs.toList 0 w
  have hl : 0 + cs.toList.length ≤ zs.size := by rw [hz]; simp
  have hb' := setCells_blk g T cs.toList 0 w zs hb hl
  have e : (zs.toList.take 0 ++ cs.toList ++ zs.toList.drop (0 + cs.toList.length)).toArray = cs := by
    have : zs.toList.drop (0 + cs.toList.length) = [] := by rw [List.drop_eq_nil_iff]; simp [hz]
    rw [this]; simp
  rw [e] at hb'
  refine wpList_store_mid hgd T p q ho g 0 cs hx hy ?_ h1 h2 (hK _ ⟨hb', h.shrink (h.upd hv hu (by simpa using hB))⟩ hu (setCells_size _ _ _ _))
  intro j hj
  have hjz : j < zs.size := by omega
  rw [hb.cell, hb.frozen]
  simp [hjz]
theorem results_cell2 {fn : Func} {p q : Tmp} {v b : Value} (h : fn.results = #[.cell p T, .tmp q]) (tmps : Array Value) (w : World) (hp : tmps.getD p undef = .pointer (some ⟨g, 0, none⟩)) (hq : tmps.getD q undef = b) (hb : (loadVar T ⟨g, 0, none⟩).run Try.prog w = .ok v w) :
    (results fn tmps).run Try.prog w = .ok (.tuple #[v, b]) w := by
  have hp' : tmps[p]?.getD undef = .pointer (some ⟨g, 0, none⟩) := by simpa using hp
  have hq' : tmps[q]?.getD undef = b := by simpa using hq
  simp [results, h, hp', hq', asAddr, hb]
end
end Go.Proofs.Ytaajmfgplhfncaa
namespace Go.Proofs.Ytaajmfgplhfncaa
open Go.RowKit
set_option maxRecDepth 100000
abbrev strv (xs : List UInt8) : Value := .string ⟨xs.toArray⟩
inductive Fd where
  | val (v : Value)
  | byt (l : List UInt8)
  | row (us : List Value)
  | lst (ls : List (List UInt8))
def FdOk (w : World) (B : Nat) (v : Value) : Fd → Prop
  | .val u => v = u ∧ u.oneCell' = true
  | .byt l => Byt w B v l
  | .row us => Row w B v us
  | .lst ls => Lst w B v ls
section
variable {w w' : World} {B : Nat} {v : Value} {f : Fd} {S : List Nat}
theorem FdOk.upd (h : FdOk w B v f) (hu : Upd S w w') (hs : ∀ k ∈ S, B ≤ k) : FdOk w' B v f := by
  cases f with
  | val u => exact h
  | byt l => exact Row.upd h hu hs
  | row us => exact Row.upd h hu hs
  | lst ls => exact Lst.upd h hu hs
theorem FdOk.shrink (h : FdOk w B v f) : FdOk w w.heap.size v f := by
  cases f with
  | val u => exact h
  | byt l => exact Row.shrink h
  | row us => exact Row.shrink h
  | lst ls => exact Lst.shrink h
theorem row_one {us : List Value} (h : Row w B v us) : v.oneCell' = true := by
  obtain ⟨A, c, rfl, _⟩ := h
  rfl
theorem FdOk.one (h : FdOk w B v f) : v.oneCell' = true := by
  cases f with
  | val u => obtain ⟨rfl, h⟩ := h; exact h
  | byt l => exact row_one h
  | row us => exact row_one h
  | lst ls => obtain ⟨vs, h, _⟩ := h; exact row_one h
end
def GV {α : Type} (fs : α → List Fd) (w : World) (B : Nat) (v : Value) (x : α) : Prop :=
  ∃ cs : Array Value, v = .agg cs ∧ cs.size = (fs x).length ∧ ∀ (i : Nat) (v : Value) (f : Fd), cs[i]? = some v → (fs x)[i]? = some f → FdOk w B v f
section
variable {α : Type} {fs : α → List Fd} {w w' : World} {B i g : Nat} {v : Value} {x : α} {S : List Nat} {cs : Array Value} {f : Fd} {T : TypeId}
theorem GV.upd (h : GV fs w B v x) (hu : Upd S w w') (hs : ∀ k ∈ S, B ≤ k) : GV fs w' B v x := by
  obtain ⟨cs, e, h1, h2⟩ := h
  exact ⟨cs, e, h1, fun i v f k1 k2 => (h2 i v f k1 k2).upd hu hs⟩
theorem GV.shrink (h : GV fs w B v x) : GV fs w w.heap.size v x := by
  obtain ⟨cs, e, h1, h2⟩ := h
  exact ⟨cs, e, h1, fun i v f k1 k2 => (h2 i v f k1 k2).shrink⟩
theorem GV.ok {n : Nat} {d : TypeDesc} (hn : ∀ x, (fs x).length = n) (hi : (Try.prog.info? T).map (·.size) = some n) (hd : Try.prog.underlying T = some d) (hr : d.isRow = true) : VOk T (GV fs) where
  agg := by
    intro w B v x h
    obtain ⟨cs, e, h1, h2⟩ := h
    refine ⟨cs, e, by rw [hi, h1, hn], ?_⟩
    rw [Array.all_eq_true]
    intro i hi
    have hif : i < (fs x).length := by rw [← h1]; exact hi
    exact (h2 i _ _ (Array.getElem?_eq_getElem hi) (List.getElem?_eq_getElem hif)).one
  str := ⟨d, hd, hr⟩
  upd := fun h hu hs => GV.upd h hu hs
  shrink := fun h => GV.shrink h
theorem GV.at_ (h : GV fs w B (.agg cs) x) (hf : (fs x)[i]? = some f) : ∃ v, cs[i]? = some v ∧ FdOk w B v f := by
  obtain ⟨cs', e, h1, h2⟩ := h
  injection e with e
  subst e
  have hi : i < cs.size := by rw [h1]; exact (List.getElem?_eq_some_iff.1 hf).1
  exact ⟨cs[i], Array.getElem?_eq_getElem hi, h2 i _ f (Array.getElem?_eq_getElem hi) hf⟩
theorem GV.val (h : GV fs w B (.agg cs) x) {u : Value} (hf : (fs x)[i]? = some (.val u)) : cs[i]? = some u := by
  obtain ⟨v, h1, h2, -⟩ := h.at_ hf
  rw [h1, h2]
theorem GV.byt (h : GV fs w B (.agg cs) x) {l : List UInt8} (hf : (fs x)[i]? = some (.byt l)) : ∃ A c, cs[i]? = some (.slice A l.length c) ∧ Byt w B (.slice A l.length c) l := by
  obtain ⟨v, h1, h2⟩ := h.at_ hf
  obtain ⟨A, c, rfl, h3, -⟩ := Byt.form h2 rfl
  exact ⟨A, c, h1, h3⟩
theorem GV.row (h : GV fs w B (.agg cs) x) {us : List Value} (hf : (fs x)[i]? = some (.row us)) {n : Nat} (hn : us.length = n) : ∃ A c, cs[i]? = some (.slice A n c) ∧ Row w B (.slice A n c) us := by
  obtain ⟨v, h1, h2⟩ := h.at_ hf
  obtain ⟨A, c, rfl, h3, -⟩ := Row.formN h2 hn
  exact ⟨A, c, h1, h3⟩
theorem GV.lst (h : GV fs w B (.agg cs) x) {ls : List (List UInt8)} (hf : (fs x)[i]? = some (.lst ls)) : ∃ A c, cs[i]? = some (.slice A ls.length c) ∧ Lst w B (.slice A ls.length c) ls := by
  obtain ⟨v, h1, h2⟩ := h.at_ hf
  obtain ⟨A, c, rfl, h3, -⟩ := h2.form
  exact ⟨A, c, h1, h3⟩
theorem GV.size (h : GV fs w B (.agg cs) x) : cs.size = (fs x).length := by
  obtain ⟨cs', e, h1, -⟩ := h
  injection e with e
  rw [e, h1]
theorem Blk.at_ (h : Blk w g T cs) {v : Value} (hc : cs[i]? = some v) : w.cell? ⟨g, i, none⟩ = some v := (h.cell i).trans hc
theorem GV.start {vs : List Value} (h : All2 (fun v f => FdOk w B v f) vs (fs x)) : GV fs w B (.agg vs.toArray) x := by
  have hl := h.length
  refine ⟨_, rfl, by simpa using hl, fun i v f h1 h2 => ?_⟩
  obtain ⟨hi2, e2⟩ := List.getElem?_eq_some_iff.1 h2
  have h1 : vs[i]? = some v := by simpa using h1
  obtain ⟨hi1, e1⟩ := List.getElem?_eq_some_iff.1 h1
  have := h.get i hi1 hi2
  rw [e1, e2] at this
  exact this
end
end Go.Proofs.Ytaajmfgplhfncaa
namespace Go.Proofs.Ytaajmfgplhfncaa
open Go.RowKit
set_option maxRecDepth 100000
def apartV (u v : Value) : Prop := ∀ g, u.ownBlock = some g → v.ownBlock ≠ some g
def nextV (v v' : Value) (n : Nat) : Prop := v'.ownBlock = v.ownBlock ∨ ∃ k, v'.ownBlock = some k ∧ n ≤ k
theorem apartV.symm {u v : Value} (h : apartV u v) : apartV v u := fun g hg he => h g he hg
theorem apartV.next {u v v' : Value} {n : Nat} (h : apartV u v) (hn : nextV v v' n) (hu : ∀ g, u.ownBlock = some g → g < n) : apartV u v' := by
  intro g hg he
  rcases hn with hn | ⟨k, hn, hk⟩
  · rw [hn] at he; exact h g hg he
  · rw [hn] at he; injection he with he; have := hu g hg; omega
theorem nextV.refl (v : Value) (n : Nat) : nextV v v n := .inl rfl
theorem nextV.trans {v v' v'' : Value} {n n' : Nat} (h : nextV v v' n) (h' : nextV v' v'' n') (hn : n ≤ n') : nextV v v'' n := by
  rcases h' with h' | ⟨k, h', hk⟩
  · rcases h with h | ⟨j, h, hj⟩
    · exact .inl (h'.trans h)
    · exact .inr ⟨j, h'.trans h, hj⟩
  · exact .inr ⟨k, h', Nat.le_trans hn hk⟩
structure ALoop (e : TypeId) (B p m : Nat) (T : TypeId) (CS : Value → Array Value) (lo : Nat) (wE : World) (v0 : Value) (x : List UInt8) (v : Value) (us : List Value) (wr : World) : Prop where
  sv : Sv wr B p x True
  hm : Blk wr m T (CS v)
  own : Own wr lo e v us
  nx : nextV v0 v wE.heap.size
  up : Upd (p :: m :: v0.ownBlock.toList) wE wr
section
variable {e : TypeId} {B p m lo : Nat} {T : TypeId} {CS : Value → Array Value} {wE wr w2 W2 w3 w4 : World} {v0 v v3 u : Value} {x x2 : List UInt8} {us : List Value}
theorem ALoop.lt (h : ALoop e B p m T CS lo wE v0 x v us wr) : ∀ g, v.ownBlock = some g → lo ≤ g ∧ g < wr.heap.size := fun g hg => h.own.ge hg
theorem ALoop.step (h : ALoop e B p m T CS lo wE v0 x v us wr) (hB : B ≤ lo) (hpm : p ≠ m) (hBm : B ≤ m) (he : e ≠ T) (hes : e ≠ 100) (hu2 : Upd [p] wr w2) (hsv : Sv w2 B p x2 True) (hW : Upd [] w2 W2)
    (hap : Appended W2 lo e v (us ++ [u]) v3 w3) (hu4 : Upd [m] w3 w4) (hm4 : Blk w4 m T (CS v3)) : ALoop e B p m T CS lo wE v0 x2 v3 (us ++ [u]) w4 := by
  obtain ⟨h1, h2, h3⟩ := hap
  have hsv0 := hsv
  obtain ⟨-, pv, hpb, -⟩ := hsv0
  have hmW : Blk W2 m T (CS v) := (h.hm.upd hu2 (by simpa using Ne.symm hpm)).upd hW (by simp)
  have hoW : Own W2 lo e v us := (h.own.upd hu2 (fun g hg hk => by
    obtain ⟨_, qv, hq, _⟩ := h.sv
    have := h.own.ne hq hes g hg
    simp at hk; exact this hk)).upd hW (by simp)
  have hnm : ∀ g, v.ownBlock = some g → g ≠ m := hoW.ne hmW he
  have hnp : ∀ g, v.ownBlock = some g → g ≠ p := hoW.ne (hpb.upd hW (by simp)) hes
  have hlo : ∀ g, v.ownBlock = some g → lo ≤ g := fun g hg => (hoW.ge hg).1
  have hsz : wE.heap.size ≤ W2.heap.size := Nat.le_trans h.up.size (Nat.le_trans hu2.size hW.size)
  have hm3 : Blk w3 m T (CS v) := hmW.upd h2 (fun hk => hnm m (Option.mem_toList.1 hk) rfl)
  refine ⟨((hsv.upd hW (by simp) (by simp)).upd h2 (fun k hk => Nat.le_trans hB (hlo k (Option.mem_toList.1 hk))) (fun hk => hnp p (Option.mem_toList.1 hk) rfl)).upd hu4 (by simpa using hBm) (by simpa using hpm), hm4, h1.upd hu4 (fun g hg hk => ?_), ?_, ?_⟩
  · have := h1.ne hm3 he g hg
    simp at hk; exact this hk
  · refine h.nx.trans (n' := wE.heap.size) ?_ (Nat.le_refl _)
    rcases h3 with h3 | h3
    · exact .inl h3
    · exact .inr ⟨_, h3, hsz⟩
  · refine (((h.up.trans hu2 (by simp)).trans hW (by simp)).trans h2 (fun k hk => ?_)).trans hu4 (by simp)
    rcases h.nx with hn | ⟨j, hn, hj⟩
    · left; rw [hn] at hk; exact List.mem_cons_of_mem _ (List.mem_cons_of_mem _ hk)
    · right
      rw [hn] at hk
      have : k = j := by simpa using hk
      omega
end
theorem u16_eq (k n : UInt16) : ((k.toNat : Int) == (n.toNat : Int)) = decide (k = n) := by
  by_cases h : k = n
  · subst h; simp
  · rw [decide_eq_false h, beq_eq_false_iff_ne]
    intro e
    exact h (UInt16.toNat_inj.1 (by omega))
end Go.Proofs.Ytaajmfgplhfncaa

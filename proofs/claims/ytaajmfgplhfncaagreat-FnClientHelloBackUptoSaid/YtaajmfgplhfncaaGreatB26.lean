/- Texts joined: ChP. -/
import Derived.Test.YtaajmfgplhfncaaGreatB25
import Derived.Test.YtaajmfgplhfncaaGreatB07
namespace Go.Proofs.YtaajmfgplhfncaaGreat
open Go.RowKit
set_option maxRecDepth 100000
noncomputable def unCh : Code := Tryz.f38.body.getD .skip
theorem Own.apart {w : World} {lo lo' : Nat} {e e' : TypeId} {v v' : Value} {us us' : List Value} (h : Own w lo e v us) (h' : Own w lo' e' v' us') (hne : e ≠ e') : ∀ g, v.ownBlock = some g → v'.ownBlock ≠ some g := by
  intro g hg hg'
  rcases h.2 with ⟨rfl, _⟩ | ⟨g1, cap, cur, rfl, _, hh, _⟩
  · simp [Value.ownBlock] at hg
  · have : g1 = g := by simpa [Value.ownBlock] using hg
    subst this
    exact (Own.ne h' (t := e) hh (Ne.symm hne)) g1 hg' rfl
theorem out_put {a a0 : Act} {b n d : Nat} {v : Value} (h : ∀ i, i < b ∨ b + n ≤ i → a.tmps[i]? = a0.tmps[i]?) (hd : b ≤ d ∧ d < b + n) : ∀ i, i < b ∨ b + n ≤ i → (a.put (some d) v).tmps[i]? = a0.tmps[i]? := by
  intro i hi
  show (a.tmps.setIfInBounds d v)[i]? = _
  rw [Array.getElem?_setIfInBounds_ne (by omega)]
  exact h i hi
theorem x_store {o : Oper} {a : Act} {w w' : World} {T : TypeId} {p q : Operand} {x y : Value} (ho : o.op = .store T p q) (hp : a.eval p = x) (hq : a.eval q = y) (h : (Instr.storeAt T x y).run Tryz.prog w = .ok () w') : (execOp a.eval o).run Tryz.prog w = .ok .skip w' := by
  unfold execOp
  simp only [ho, hp, hq]
  rw [Sem.run_bind, h]
  rfl
theorem x_bs {o : Oper} {a : Act} {w w' : World} {T : TypeId} {p : Operand} {x v : Value} (ho : o.op = .buildSlice T 1 #[(0, p)]) (hp : a.eval p = x) (h : (Instr.buildSlice T 1 #[(0, x)]).run Tryz.prog w = .ok v w') : (execOp a.eval o).run Tryz.prog w = .ok (.value v) w' := by
  unfold execOp
  simp only [ho, List.map_toArray, List.map_cons, List.map_nil, hp]
  rw [Sem.run_bind, h]
  rfl
theorem sml_u32s (w : World) (g i : Nat) (v : Value) (h : w.cell? ⟨g, i, none⟩ = some v) : (Instr.loadAt 27 (.pointer (some ⟨g, i, none⟩))).run Tryz.prog w = .ok v w := by go_simp
theorem sml_u32 (w : World) (g i : Nat) (v : Value) (h : w.cell? ⟨g, i, none⟩ = some v) : (Instr.loadAt 97 (.pointer (some ⟨g, i, none⟩))).run Tryz.prog w = .ok v w := by go_simp
theorem tcf20 (w : World) (g : Nat) : (Instr.fieldAt 72 (.pointer (some ⟨g, 0, none⟩)) 20).run Tryz.prog w = .ok (.pointer (some ⟨g, 20, none⟩)) w := by go_simp
theorem tcf21 (w : World) (g : Nat) : (Instr.fieldAt 72 (.pointer (some ⟨g, 0, none⟩)) 21).run Tryz.prog w = .ok (.pointer (some ⟨g, 21, none⟩)) w := by go_simp
theorem tcf24 (w : World) (g : Nat) : (Instr.fieldAt 72 (.pointer (some ⟨g, 0, none⟩)) 24).run Tryz.prog w = .ok (.pointer (some ⟨g, 24, none⟩)) w := by go_simp
theorem tcf25 (w : World) (g : Nat) : (Instr.fieldAt 72 (.pointer (some ⟨g, 0, none⟩)) 25).run Tryz.prog w = .ok (.pointer (some ⟨g, 25, none⟩)) w := by go_simp
theorem ksf0 (w : World) (g : Nat) : (Instr.fieldAt 108 (.pointer (some ⟨g, 0, none⟩)) 0).run Tryz.prog w = .ok (.pointer (some ⟨g, 0, none⟩)) w := by go_simp
theorem ksf1 (w : World) (g : Nat) : (Instr.fieldAt 108 (.pointer (some ⟨g, 0, none⟩)) 1).run Tryz.prog w = .ok (.pointer (some ⟨g, 1, none⟩)) w := by go_simp
theorem pif0 (w : World) (g : Nat) : (Instr.fieldAt 110 (.pointer (some ⟨g, 0, none⟩)) 0).run Tryz.prog w = .ok (.pointer (some ⟨g, 0, none⟩)) w := by go_simp
theorem pif1 (w : World) (g : Nat) : (Instr.fieldAt 110 (.pointer (some ⟨g, 0, none⟩)) 1).run Tryz.prog w = .ok (.pointer (some ⟨g, 1, none⟩)) w := by go_simp
theorem sms_words (w : World) (g i n c : Nat) (A : Option Addr) (u : Value) (h : w.cell? ⟨g, i, none⟩ = some u) (hf : w.frozen? ⟨g, i, none⟩ = false) : (Instr.storeAt 24 (.pointer (some ⟨g, i, none⟩)) (.slice A n c)).run Tryz.prog w = .ok () (w.setCell ⟨g, i, none⟩ (.slice A n c)) := by go_simp
theorem sms_lists (w : World) (g i n c : Nat) (A : Option Addr) (u : Value) (h : w.cell? ⟨g, i, none⟩ = some u) (hf : w.frozen? ⟨g, i, none⟩ = false) : (Instr.storeAt 26 (.pointer (some ⟨g, i, none⟩)) (.slice A n c)).run Tryz.prog w = .ok () (w.setCell ⟨g, i, none⟩ (.slice A n c)) := by go_simp
theorem sms_u32s (w : World) (g i n c : Nat) (A : Option Addr) (u : Value) (h : w.cell? ⟨g, i, none⟩ = some u) (hf : w.frozen? ⟨g, i, none⟩ = false) : (Instr.storeAt 27 (.pointer (some ⟨g, i, none⟩)) (.slice A n c)).run Tryz.prog w = .ok () (w.setCell ⟨g, i, none⟩ (.slice A n c)) := by go_simp
theorem smb_words (u : World) (x : UInt16) : (Instr.buildSlice 24 1 #[(0, wv x)]).run Tryz.prog u = .ok (.slice (some ⟨u.heap.size, 0, none⟩) 1 1) (u.alloc (.cells #[wv x] 22)) := by go_simp
theorem smb_u32s (u : World) (x : UInt32) : (Instr.buildSlice 27 1 #[(0, uv x)]).run Tryz.prog u = .ok (.slice (some ⟨u.heap.size, 0, none⟩) 1 1) (u.alloc (.cells #[uv x] 97)) := by go_simp
theorem smb_lists (u : World) (A : Option Addr) (n c : Nat) : (Instr.buildSlice 26 1 #[(0, .slice A n c)]).run Tryz.prog u = .ok (.slice (some ⟨u.heap.size, 0, none⟩) 1 1) (u.alloc (.cells #[.slice A n c] 23)) := by go_simp
noncomputable def pr1L : List Oper := regOf 8 unCh
set_option maxHeartbeats 4000000 in
theorem pr1_Ch {K : Act → World → Prop} {a : Act} {w : World} {b5 g lo : Nat} {cs : Array Value} {v1 v2 : Value} {us1 us2 : List Value} {x : UInt16} {Ay : Option Addr} {ny cy : Nat}
    (n : a.tmps.size = 175) (p5 : AtS a 5 (.pointer (some ⟨b5, 0, none⟩))) (pq : AtS a 7 (.pointer (some ⟨g, 0, none⟩))) (hb : Blk w b5 72 cs) (hg : Blk w g 108 #[wv x, .slice Ay ny cy]) (c1 : cs[20]? = some v1) (c2 : cs[21]? = some v2)
    (ho1 : Own w lo 22 v1 us1) (ho2 : Own w lo 23 v2 us2) (hl1 : us1.length + 1 ≤ 1099511627776) (hl2 : us2.length + 1 ≤ 1099511627776) (hlo : lo ≤ w.heap.size)
    (hK : ∀ (a' : Act) (w' : World) (v1' v2' : Value), a'.tmps.size = 175 → a'.defers = a.defers → (∀ i, i < 135 ∨ 135 + 14 ≤ i → a'.tmps[i]? = a.tmps[i]?) → Blk w' b5 72 ((cs.setIfInBounds 20 v1').setIfInBounds 21 v2') → Own w' lo 22 v1' (us1 ++ [wv x]) → Own w' lo 23 v2' (us2 ++ [.slice Ay ny cy]) →
      (∀ w0, Upd [b5] w0 w → w0.heap.size ≤ lo → Upd [b5] w0 w') → K a' w') : (Code.region 8 pr1L.toArray true).wp Tryz.prog (Exit.then K fun _ _ _ => False) a w := by
  obtain ⟨o0, h0a, h0b, h0c, h0d⟩ := OpIs.get (l := pr1L) (k := 0) (op := .fieldAddr 72 (.tmp 5) 20) (d := 135) (g := none) (.mk (by kernel_rfl))
  have i0 : pr1L.toArray[0]? = some o0 := by simpa using h0a
  obtain ⟨o1, h1a, h1b, h1c, h1d⟩ := OpIs.get (l := pr1L) (k := 1) (op := .load 24 (.tmp 135)) (d := 136) (g := none) (.mk (by kernel_rfl))
  have i1 : pr1L.toArray[1]? = some o1 := by simpa using h1a
  obtain ⟨o2, h2a, h2b, h2c, h2d⟩ := OpIs.get (l := pr1L) (k := 2) (op := .fieldAddr 108 (.tmp 7) 0) (d := 137) (g := none) (.mk (by kernel_rfl))
  have i2 : pr1L.toArray[2]? = some o2 := by simpa using h2a
  obtain ⟨o3, h3a, h3b, h3c, h3d⟩ := OpIs.get (l := pr1L) (k := 3) (op := .load 22 (.tmp 137)) (d := 138) (g := none) (.mk (by kernel_rfl))
  have i3 : pr1L.toArray[3]? = some o3 := by simpa using h3a
  obtain ⟨o4, h4a, h4b, h4c, h4d⟩ := OpIs.get (l := pr1L) (k := 4) (op := .buildSlice 24 1 #[(0, .tmp 138)]) (d := 139) (g := none) (.mk (by kernel_rfl))
  have i4 : pr1L.toArray[4]? = some o4 := by simpa using h4a
  obtain ⟨o5, h5a, h5b, h5c, h5d⟩ := OpIs.get (l := pr1L) (k := 5) (op := .call { callee := .builtin .append, args := #[.tmp 136, .tmp 139], argTypes := #[24, 24] }) (d := 140) (g := none) (.mk (by kernel_rfl))
  have i5 : pr1L.toArray[5]? = some o5 := by simpa using h5a
  obtain ⟨o6, h6a, h6b, h6c, h6d⟩ := OpIs.get (l := pr1L) (k := 6) (op := .fieldAddr 72 (.tmp 5) 21) (d := 141) (g := none) (.mk (by kernel_rfl))
  have i6 : pr1L.toArray[6]? = some o6 := by simpa using h6a
  obtain ⟨o7, h7a, h7b, h7c, h7d⟩ := OpIs.get (l := pr1L) (k := 7) (op := .load 26 (.tmp 141)) (d := 142) (g := none) (.mk (by kernel_rfl))
  have i7 : pr1L.toArray[7]? = some o7 := by simpa using h7a
  obtain ⟨o8, h8a, h8b, h8c, h8d⟩ := OpIs.get (l := pr1L) (k := 8) (op := .fieldAddr 108 (.tmp 7) 1) (d := 143) (g := none) (.mk (by kernel_rfl))
  have i8 : pr1L.toArray[8]? = some o8 := by simpa using h8a
  obtain ⟨o9, h9a, h9b, h9c, h9d⟩ := OpIs.get (l := pr1L) (k := 9) (op := .load 23 (.tmp 143)) (d := 144) (g := none) (.mk (by kernel_rfl))
  have i9 : pr1L.toArray[9]? = some o9 := by simpa using h9a
  obtain ⟨o10, h10a, h10b, h10c, h10d⟩ := OpIs.get (l := pr1L) (k := 10) (op := .buildSlice 26 1 #[(0, .tmp 144)]) (d := 145) (g := none) (.mk (by kernel_rfl))
  have i10 : pr1L.toArray[10]? = some o10 := by simpa using h10a
  obtain ⟨o11, h11a, h11b, h11c, h11d⟩ := OpIs.get (l := pr1L) (k := 11) (op := .call { callee := .builtin .append, args := #[.tmp 142, .tmp 145], argTypes := #[26, 26] }) (d := 146) (g := none) (.mk (by kernel_rfl))
  have i11 : pr1L.toArray[11]? = some o11 := by simpa using h11a
  obtain ⟨o12, h12a, h12b, h12c, h12d⟩ := OpIs.get (l := pr1L) (k := 12) (op := .fieldAddr 72 (.tmp 5) 20) (d := 147) (g := none) (.mk (by kernel_rfl))
  have i12 : pr1L.toArray[12]? = some o12 := by simpa using h12a
  obtain ⟨o14, h14a, h14b, h14c, h14d⟩ := OpIs.get (l := pr1L) (k := 14) (op := .fieldAddr 72 (.tmp 5) 21) (d := 148) (g := none) (.mk (by kernel_rfl))
  have i14 : pr1L.toArray[14]? = some o14 := by simpa using h14a
  obtain ⟨o13, i13, h13b, h13c, h13d⟩ : ∃ o : Oper, pr1L.toArray[13]? = some o ∧ o.op = .store 24 (.tmp 147) (.tmp 140) ∧ o.dst = none ∧ o.guard = none := by
    have h : (pr1L[13]?).map (fun o => (o.op, o.dst, o.guard)) = some (.store 24 (.tmp 147) (.tmp 140), none, none) := by kernel_rfl
    cases hk : pr1L[13]? with
    | none => rw [hk] at h; cases h
    | some o =>
      rw [hk] at h
      injection h with h
      injection h with h1 h
      injection h with h2 h3
      exact ⟨o, by simpa using hk, h1, h2, h3⟩
  obtain ⟨o15, i15, h15b, h15c, h15d⟩ : ∃ o : Oper, pr1L.toArray[15]? = some o ∧ o.op = .store 26 (.tmp 148) (.tmp 146) ∧ o.dst = none ∧ o.guard = none := by
    have h : (pr1L[15]?).map (fun o => (o.op, o.dst, o.guard)) = some (.store 26 (.tmp 148) (.tmp 146), none, none) := by kernel_rfl
    cases hk : pr1L[15]? with
    | none => rw [hk] at h; cases h
    | some o =>
      rw [hk] at h
      injection h with h
      injection h with h1 h
      injection h with h2 h3
      exact ⟨o, by simpa using hk, h1, h2, h3⟩
  have hsel : Region.noSelect pr1L.toArray = true := by kernel_rfl
  have hPQ : ∀ c (a : Act) (d : Option Tmp) (v : Value) w, Exit.then K (fun _ _ _ => False) (.panic c) (a.put d v) w → Exit.then K (fun _ _ _ => False) (.panic c) a w := fun _ _ _ _ _ h => h
  refine wp_region_E (S := fun u => Blk u b5 72 cs ∧ Blk u g 108 #[wv x, .slice Ay ny cy]) (E := fun j => j == 13 || j == 14 || j == 15) (by kernel_rfl) ?_
  change wpAnyE _ _ _ _ _ _ _ _ _ (World.drew _)
  obtain ⟨w0, hw0⟩ : ∃ x, World.drew w = x := ⟨_, rfl⟩
  rw [hw0]
  have hu0 : Upd [] w w0 := by rw [← hw0]; exact (Upd.refl _ _).drew
  have hS : Blk w0 b5 72 cs ∧ Blk w0 g 108 #[wv x, .slice Ay ny cy] := ⟨hb.upd hu0 (by simp), hg.upd hu0 (by simp)⟩
  replace ho1 := ho1.upd hu0 (by simp)
  replace ho2 := ho2.upd hu0 (by simp)
  have hUP : ∀ wx, Upd [b5] wx w → wx.heap.size ≤ lo → Upd [b5] wx w0 := fun wx h _ => h.trans hu0 (by simp)
  replace hlo : lo ≤ w0.heap.size := Nat.le_trans hlo hu0.size
  clear hw0 hu0 hb hg
  rw [show pr1L.toArray.size = 16 by kernel_rfl]
  obtain ⟨a100, ha⟩ : ∃ x, a = x := ⟨_, rfl⟩
  have hout : ∀ i, i < 135 ∨ 135 + 14 ≤ i → a100.tmps[i]? = a.tmps[i]? := fun _ _ => by rw [ha]
  have hdf : a100.defers = a.defers := by rw [ha]
  show wpAnyE _ _ _ _ _ _ _ _ a _
  rw [ha] at p5 pq n ⊢
  clear ha
  refine wpAnyE_take (i := 0) (oi := o0) (v := .pointer (some ⟨b5, 20, none⟩)) i0 hsel (by kernel_rfl) (by kernel_rfl) (by kernel_rfl) (by kernel_rfl) (fun c a w => hPQ c a _ _ w) (.inl ⟨wanted_none h0d, fun w hs => x_field h0b p5.ev (tcf20 w b5)⟩) hS ?_
  rw [h0c]
  obtain ⟨a101, ha⟩ : ∃ z9, a100.put (some 135) (.pointer (some ⟨b5, 20, none⟩)) = z9 := ⟨_, rfl⟩
  replace p5 := p5.put (d := 135) (x := .pointer (some ⟨b5, 20, none⟩)) (by decide)
  replace pq := pq.put (d := 135) (x := .pointer (some ⟨b5, 20, none⟩)) (by decide)
  have t0 : AtS (a100.put (some 135) (.pointer (some ⟨b5, 20, none⟩))) 135 (.pointer (some ⟨b5, 20, none⟩)) := AtS.new (by rw [n]; decide)
  replace hout := out_put (v := .pointer (some ⟨b5, 20, none⟩)) hout (show 135 ≤ 135 ∧ 135 < 135 + 14 by decide)
  replace n : (a100.put (some 135) (.pointer (some ⟨b5, 20, none⟩))).tmps.size = 175 := by rw [put_sz]; exact n
  replace hdf : (a100.put (some 135) (.pointer (some ⟨b5, 20, none⟩))).defers = a.defers := hdf
  rw [ha] at p5 pq t0 hout n hdf ⊢
  clear ha
  refine wpAnyE_take (i := 1) (oi := o1) (v := v1) i1 hsel (by kernel_rfl) (by kernel_rfl) (by kernel_rfl) (by kernel_rfl) (fun c a w => hPQ c a _ _ w) (.inl ⟨wanted_none h1d, fun w hs => x_load h1b t0.ev (sml_words w b5 20 v1 (hs.1.at_ c1))⟩) hS ?_
  rw [h1c]
  obtain ⟨a102, ha⟩ : ∃ z9, a101.put (some 136) (v1) = z9 := ⟨_, rfl⟩
  replace p5 := p5.put (d := 136) (x := v1) (by decide)
  replace pq := pq.put (d := 136) (x := v1) (by decide)
  replace t0 := t0.put (d := 136) (x := v1) (by decide)
  have t1 : AtS (a101.put (some 136) (v1)) 136 (v1) := AtS.new (by rw [n]; decide)
  replace hout := out_put (v := v1) hout (show 135 ≤ 136 ∧ 136 < 135 + 14 by decide)
  replace n : (a101.put (some 136) (v1)).tmps.size = 175 := by rw [put_sz]; exact n
  replace hdf : (a101.put (some 136) (v1)).defers = a.defers := hdf
  rw [ha] at p5 pq t0 t1 hout n hdf ⊢
  clear ha
  refine wpAnyE_take (i := 2) (oi := o2) (v := .pointer (some ⟨g, 0, none⟩)) i2 hsel (by kernel_rfl) (by kernel_rfl) (by kernel_rfl) (by kernel_rfl) (fun c a w => hPQ c a _ _ w) (.inl ⟨wanted_none h2d, fun w hs => x_field h2b pq.ev (ksf0 w g)⟩) hS ?_
  rw [h2c]
  obtain ⟨a103, ha⟩ : ∃ z9, a102.put (some 137) (.pointer (some ⟨g, 0, none⟩)) = z9 := ⟨_, rfl⟩
  replace p5 := p5.put (d := 137) (x := .pointer (some ⟨g, 0, none⟩)) (by decide)
  replace pq := pq.put (d := 137) (x := .pointer (some ⟨g, 0, none⟩)) (by decide)
  replace t0 := t0.put (d := 137) (x := .pointer (some ⟨g, 0, none⟩)) (by decide)
  replace t1 := t1.put (d := 137) (x := .pointer (some ⟨g, 0, none⟩)) (by decide)
  have t2 : AtS (a102.put (some 137) (.pointer (some ⟨g, 0, none⟩))) 137 (.pointer (some ⟨g, 0, none⟩)) := AtS.new (by rw [n]; decide)
  replace hout := out_put (v := .pointer (some ⟨g, 0, none⟩)) hout (show 135 ≤ 137 ∧ 137 < 135 + 14 by decide)
  replace n : (a102.put (some 137) (.pointer (some ⟨g, 0, none⟩))).tmps.size = 175 := by rw [put_sz]; exact n
  replace hdf : (a102.put (some 137) (.pointer (some ⟨g, 0, none⟩))).defers = a.defers := hdf
  rw [ha] at p5 pq t0 t1 t2 hout n hdf ⊢
  clear ha
  refine wpAnyE_take (i := 3) (oi := o3) (v := wv x) i3 hsel (by kernel_rfl) (by kernel_rfl) (by kernel_rfl) (by kernel_rfl) (fun c a w => hPQ c a _ _ w) (.inl ⟨wanted_none h3d, fun w hs => x_load h3b t2.ev (sml_u16 w g 0 _ (hs.2.at_ rfl))⟩) hS ?_
  rw [h3c]
  obtain ⟨a104, ha⟩ : ∃ z9, a103.put (some 138) (wv x) = z9 := ⟨_, rfl⟩
  replace p5 := p5.put (d := 138) (x := wv x) (by decide)
  replace pq := pq.put (d := 138) (x := wv x) (by decide)
  replace t0 := t0.put (d := 138) (x := wv x) (by decide)
  replace t1 := t1.put (d := 138) (x := wv x) (by decide)
  replace t2 := t2.put (d := 138) (x := wv x) (by decide)
  have t3 : AtS (a103.put (some 138) (wv x)) 138 (wv x) := AtS.new (by rw [n]; decide)
  replace hout := out_put (v := wv x) hout (show 135 ≤ 138 ∧ 138 < 135 + 14 by decide)
  replace n : (a103.put (some 138) (wv x)).tmps.size = 175 := by rw [put_sz]; exact n
  replace hdf : (a103.put (some 138) (wv x)).defers = a.defers := hdf
  rw [ha] at p5 pq t0 t1 t2 t3 hout n hdf ⊢
  clear ha
  refine wpAnyE_take (i := 6) (oi := o6) (v := .pointer (some ⟨b5, 21, none⟩)) i6 hsel (by kernel_rfl) (by kernel_rfl) (by kernel_rfl) (by kernel_rfl) (fun c a w => hPQ c a _ _ w) (.inl ⟨wanted_none h6d, fun w hs => x_field h6b p5.ev (tcf21 w b5)⟩) hS ?_
  rw [h6c]
  obtain ⟨a105, ha⟩ : ∃ z9, a104.put (some 141) (.pointer (some ⟨b5, 21, none⟩)) = z9 := ⟨_, rfl⟩
  replace p5 := p5.put (d := 141) (x := .pointer (some ⟨b5, 21, none⟩)) (by decide)
  replace pq := pq.put (d := 141) (x := .pointer (some ⟨b5, 21, none⟩)) (by decide)
  replace t0 := t0.put (d := 141) (x := .pointer (some ⟨b5, 21, none⟩)) (by decide)
  replace t1 := t1.put (d := 141) (x := .pointer (some ⟨b5, 21, none⟩)) (by decide)
  replace t2 := t2.put (d := 141) (x := .pointer (some ⟨b5, 21, none⟩)) (by decide)
  replace t3 := t3.put (d := 141) (x := .pointer (some ⟨b5, 21, none⟩)) (by decide)
  have t6 : AtS (a104.put (some 141) (.pointer (some ⟨b5, 21, none⟩))) 141 (.pointer (some ⟨b5, 21, none⟩)) := AtS.new (by rw [n]; decide)
  replace hout := out_put (v := .pointer (some ⟨b5, 21, none⟩)) hout (show 135 ≤ 141 ∧ 141 < 135 + 14 by decide)
  replace n : (a104.put (some 141) (.pointer (some ⟨b5, 21, none⟩))).tmps.size = 175 := by rw [put_sz]; exact n
  replace hdf : (a104.put (some 141) (.pointer (some ⟨b5, 21, none⟩))).defers = a.defers := hdf
  rw [ha] at p5 pq t0 t1 t2 t3 t6 hout n hdf ⊢
  clear ha
  refine wpAnyE_take (i := 7) (oi := o7) (v := v2) i7 hsel (by kernel_rfl) (by kernel_rfl) (by kernel_rfl) (by kernel_rfl) (fun c a w => hPQ c a _ _ w) (.inl ⟨wanted_none h7d, fun w hs => x_load h7b t6.ev (sml_lists w b5 21 v2 (hs.1.at_ c2))⟩) hS ?_
  rw [h7c]
  obtain ⟨a106, ha⟩ : ∃ z9, a105.put (some 142) (v2) = z9 := ⟨_, rfl⟩
  replace p5 := p5.put (d := 142) (x := v2) (by decide)
  replace pq := pq.put (d := 142) (x := v2) (by decide)
  replace t0 := t0.put (d := 142) (x := v2) (by decide)
  replace t1 := t1.put (d := 142) (x := v2) (by decide)
  replace t2 := t2.put (d := 142) (x := v2) (by decide)
  replace t3 := t3.put (d := 142) (x := v2) (by decide)
  replace t6 := t6.put (d := 142) (x := v2) (by decide)
  have t7 : AtS (a105.put (some 142) (v2)) 142 (v2) := AtS.new (by rw [n]; decide)
  replace hout := out_put (v := v2) hout (show 135 ≤ 142 ∧ 142 < 135 + 14 by decide)
  replace n : (a105.put (some 142) (v2)).tmps.size = 175 := by rw [put_sz]; exact n
  replace hdf : (a105.put (some 142) (v2)).defers = a.defers := hdf
  rw [ha] at p5 pq t0 t1 t2 t3 t6 t7 hout n hdf ⊢
  clear ha
  refine wpAnyE_take (i := 8) (oi := o8) (v := .pointer (some ⟨g, 1, none⟩)) i8 hsel (by kernel_rfl) (by kernel_rfl) (by kernel_rfl) (by kernel_rfl) (fun c a w => hPQ c a _ _ w) (.inl ⟨wanted_none h8d, fun w hs => x_field h8b pq.ev (ksf1 w g)⟩) hS ?_
  rw [h8c]
  obtain ⟨a107, ha⟩ : ∃ z9, a106.put (some 143) (.pointer (some ⟨g, 1, none⟩)) = z9 := ⟨_, rfl⟩
  replace p5 := p5.put (d := 143) (x := .pointer (some ⟨g, 1, none⟩)) (by decide)
  replace pq := pq.put (d := 143) (x := .pointer (some ⟨g, 1, none⟩)) (by decide)
  replace t0 := t0.put (d := 143) (x := .pointer (some ⟨g, 1, none⟩)) (by decide)
  replace t1 := t1.put (d := 143) (x := .pointer (some ⟨g, 1, none⟩)) (by decide)
  replace t2 := t2.put (d := 143) (x := .pointer (some ⟨g, 1, none⟩)) (by decide)
  replace t3 := t3.put (d := 143) (x := .pointer (some ⟨g, 1, none⟩)) (by decide)
  replace t6 := t6.put (d := 143) (x := .pointer (some ⟨g, 1, none⟩)) (by decide)
  replace t7 := t7.put (d := 143) (x := .pointer (some ⟨g, 1, none⟩)) (by decide)
  have t8 : AtS (a106.put (some 143) (.pointer (some ⟨g, 1, none⟩))) 143 (.pointer (some ⟨g, 1, none⟩)) := AtS.new (by rw [n]; decide)
  replace hout := out_put (v := .pointer (some ⟨g, 1, none⟩)) hout (show 135 ≤ 143 ∧ 143 < 135 + 14 by decide)
  replace n : (a106.put (some 143) (.pointer (some ⟨g, 1, none⟩))).tmps.size = 175 := by rw [put_sz]; exact n
  replace hdf : (a106.put (some 143) (.pointer (some ⟨g, 1, none⟩))).defers = a.defers := hdf
  rw [ha] at p5 pq t0 t1 t2 t3 t6 t7 t8 hout n hdf ⊢
  clear ha
  refine wpAnyE_take (i := 9) (oi := o9) (v := .slice Ay ny cy) i9 hsel (by kernel_rfl) (by kernel_rfl) (by kernel_rfl) (by kernel_rfl) (fun c a w => hPQ c a _ _ w) (.inl ⟨wanted_none h9d, fun w hs => x_load h9b t8.ev (sml_bytes w g 1 _ (hs.2.at_ rfl))⟩) hS ?_
  rw [h9c]
  obtain ⟨a108, ha⟩ : ∃ z9, a107.put (some 144) (.slice Ay ny cy) = z9 := ⟨_, rfl⟩
  replace p5 := p5.put (d := 144) (x := .slice Ay ny cy) (by decide)
  replace pq := pq.put (d := 144) (x := .slice Ay ny cy) (by decide)
  replace t0 := t0.put (d := 144) (x := .slice Ay ny cy) (by decide)
  replace t1 := t1.put (d := 144) (x := .slice Ay ny cy) (by decide)
  replace t2 := t2.put (d := 144) (x := .slice Ay ny cy) (by decide)
  replace t3 := t3.put (d := 144) (x := .slice Ay ny cy) (by decide)
  replace t6 := t6.put (d := 144) (x := .slice Ay ny cy) (by decide)
  replace t7 := t7.put (d := 144) (x := .slice Ay ny cy) (by decide)
  replace t8 := t8.put (d := 144) (x := .slice Ay ny cy) (by decide)
  have t9 : AtS (a107.put (some 144) (.slice Ay ny cy)) 144 (.slice Ay ny cy) := AtS.new (by rw [n]; decide)
  replace hout := out_put (v := .slice Ay ny cy) hout (show 135 ≤ 144 ∧ 144 < 135 + 14 by decide)
  replace n : (a107.put (some 144) (.slice Ay ny cy)).tmps.size = 175 := by rw [put_sz]; exact n
  replace hdf : (a107.put (some 144) (.slice Ay ny cy)).defers = a.defers := hdf
  rw [ha] at p5 pq t0 t1 t2 t3 t6 t7 t8 t9 hout n hdf ⊢
  clear ha
  refine wpAnyE_all (rs := [4, 10]) (by kernel_rfl) (by simp) (fun i hi => ?_)
  obtain rfl | rfl : i = 4 ∨ i = 10 := by simpa using hi
  · refine wpOp_val i4 h4d (x_bs h4b t3.ev (smb_words _ _)) ?_
    rw [h4c]
    obtain ⟨k1, hk1⟩ : ∃ x, w0.heap.size = x := ⟨_, rfl⟩
    have r1 := Row.one w0 22 (wv x)
    obtain ⟨w11, hw⟩ : ∃ z9, w0.alloc (.cells #[wv x] 22) = z9 := ⟨_, rfl⟩
    have hu : Upd [] w0 w11 := by rw [← hw]; exact (Upd.refl _ _).alloc _
    rw [hw, hk1] at r1
    rw [hw, hk1]
    replace hS : Blk w11 b5 72 cs ∧ Blk w11 g 108 #[wv x, .slice Ay ny cy] := ⟨hS.1.upd hu (by simp), hS.2.upd hu (by simp)⟩
    replace ho1 := ho1.upd hu (by simp)
    replace ho2 := ho2.upd hu (by simp)
    replace hlo := Nat.le_trans hlo hu.size
    replace hUP : ∀ wx, Upd [b5] wx w → wx.heap.size ≤ lo → Upd [b5] wx w11 := fun wx h1 h2 => (hUP wx h1 h2).trans hu (by simp)
    clear hu hw hk1
    refine ⟨fun _ => hS, ?_⟩
    obtain ⟨a109, ha⟩ : ∃ z9, a108.put (some 139) (.slice (some ⟨k1, 0, none⟩) 1 1) = z9 := ⟨_, rfl⟩
    replace p5 := p5.put (d := 139) (x := .slice (some ⟨k1, 0, none⟩) 1 1) (by decide)
    replace pq := pq.put (d := 139) (x := .slice (some ⟨k1, 0, none⟩) 1 1) (by decide)
    replace t0 := t0.put (d := 139) (x := .slice (some ⟨k1, 0, none⟩) 1 1) (by decide)
    replace t1 := t1.put (d := 139) (x := .slice (some ⟨k1, 0, none⟩) 1 1) (by decide)
    replace t2 := t2.put (d := 139) (x := .slice (some ⟨k1, 0, none⟩) 1 1) (by decide)
    replace t3 := t3.put (d := 139) (x := .slice (some ⟨k1, 0, none⟩) 1 1) (by decide)
    replace t6 := t6.put (d := 139) (x := .slice (some ⟨k1, 0, none⟩) 1 1) (by decide)
    replace t7 := t7.put (d := 139) (x := .slice (some ⟨k1, 0, none⟩) 1 1) (by decide)
    replace t8 := t8.put (d := 139) (x := .slice (some ⟨k1, 0, none⟩) 1 1) (by decide)
    replace t9 := t9.put (d := 139) (x := .slice (some ⟨k1, 0, none⟩) 1 1) (by decide)
    have t4 : AtS (a108.put (some 139) (.slice (some ⟨k1, 0, none⟩) 1 1)) 139 (.slice (some ⟨k1, 0, none⟩) 1 1) := AtS.new (by rw [n]; decide)
    replace hout := out_put (v := .slice (some ⟨k1, 0, none⟩) 1 1) hout (show 135 ≤ 139 ∧ 139 < 135 + 14 by decide)
    replace n : (a108.put (some 139) (.slice (some ⟨k1, 0, none⟩) 1 1)).tmps.size = 175 := by rw [put_sz]; exact n
    replace hdf : (a108.put (some 139) (.slice (some ⟨k1, 0, none⟩) 1 1)).defers = a.defers := hdf
    rw [ha] at p5 pq t0 t1 t2 t3 t6 t7 t8 t9 t4 hout n hdf ⊢
    clear ha
    refine wpAnyE_all (rs := [5, 10]) (by kernel_rfl) (by simp) (fun i hi => ?_)
    obtain rfl | rfl : i = 5 ∨ i = 10 := by simpa using hi
    · refine wpOp_wp i5 h5d (wp_append_row _ _ _ 24 h5b lo 22 (.int .u16 0) 2 Tryz.underlying24 info_u16 rfl t1.ev ho1 t4.ev r1 (by intro u hu; simp at hu; subst hu; rfl) (by simp; omega) (by simp; omega) hlo ?_)
      intro u1 w12 hap
      rw [h5c]
      have hb5 := hS.1.upd hap.2.1 (fun hk => ho1.ne hS.1 (by decide) b5 (Option.mem_toList.1 hk) rfl)
      have hgg := hS.2.upd hap.2.1 (fun hk => ho1.ne hS.2 (by decide) g (Option.mem_toList.1 hk) rfl)
      replace hUP : ∀ wx, Upd [b5] wx w → wx.heap.size ≤ lo → Upd [b5] wx w12 := fun wx h1 h2 => (hUP wx h1 h2).trans hap.2.1 (fun k hk => .inr (by have := (ho1.ge (Option.mem_toList.1 hk)).1; omega))
      replace ho2 := ho2.upd hap.2.1 (fun k hk hm => ho1.apart ho2 (by decide) k (Option.mem_toList.1 hm) hk)
      replace ho1 := hap.1
      obtain ⟨A1, c3, e1⟩ := Own.formN (n := us1.length + 1) ho1 (by simp)
      subst e1
      replace hlo := Nat.le_trans hlo hap.2.1.size
      replace hS : Blk w12 b5 72 cs ∧ Blk w12 g 108 #[wv x, .slice Ay ny cy] := ⟨hb5, hgg⟩
      clear hap hb5 hgg
      refine ⟨fun _ => hS, ?_⟩
      obtain ⟨a110, ha⟩ : ∃ z9, a109.put (some 140) (.slice A1 (us1.length + 1) c3) = z9 := ⟨_, rfl⟩
      replace p5 := p5.put (d := 140) (x := .slice A1 (us1.length + 1) c3) (by decide)
      replace pq := pq.put (d := 140) (x := .slice A1 (us1.length + 1) c3) (by decide)
      replace t0 := t0.put (d := 140) (x := .slice A1 (us1.length + 1) c3) (by decide)
      replace t1 := t1.put (d := 140) (x := .slice A1 (us1.length + 1) c3) (by decide)
      replace t2 := t2.put (d := 140) (x := .slice A1 (us1.length + 1) c3) (by decide)
      replace t3 := t3.put (d := 140) (x := .slice A1 (us1.length + 1) c3) (by decide)
      replace t6 := t6.put (d := 140) (x := .slice A1 (us1.length + 1) c3) (by decide)
      replace t7 := t7.put (d := 140) (x := .slice A1 (us1.length + 1) c3) (by decide)
      replace t8 := t8.put (d := 140) (x := .slice A1 (us1.length + 1) c3) (by decide)
      replace t9 := t9.put (d := 140) (x := .slice A1 (us1.length + 1) c3) (by decide)
      replace t4 := t4.put (d := 140) (x := .slice A1 (us1.length + 1) c3) (by decide)
      have t5 : AtS (a109.put (some 140) (.slice A1 (us1.length + 1) c3)) 140 (.slice A1 (us1.length + 1) c3) := AtS.new (by rw [n]; decide)
      replace hout := out_put (v := .slice A1 (us1.length + 1) c3) hout (show 135 ≤ 140 ∧ 140 < 135 + 14 by decide)
      replace n : (a109.put (some 140) (.slice A1 (us1.length + 1) c3)).tmps.size = 175 := by rw [put_sz]; exact n
      replace hdf : (a109.put (some 140) (.slice A1 (us1.length + 1) c3)).defers = a.defers := hdf
      rw [ha] at p5 pq t0 t1 t2 t3 t6 t7 t8 t9 t4 t5 hout n hdf ⊢
      clear ha
      refine wpAnyE_take (i := 12) (oi := o12) (v := .pointer (some ⟨b5, 20, none⟩)) i12 hsel (by kernel_rfl) (by kernel_rfl) (by kernel_rfl) (by kernel_rfl) (fun c a w => hPQ c a _ _ w) (.inl ⟨wanted_none h12d, fun w hs => x_field h12b p5.ev (tcf20 w b5)⟩) hS ?_
      rw [h12c]
      obtain ⟨a111, ha⟩ : ∃ z9, a110.put (some 147) (.pointer (some ⟨b5, 20, none⟩)) = z9 := ⟨_, rfl⟩
      replace p5 := p5.put (d := 147) (x := .pointer (some ⟨b5, 20, none⟩)) (by decide)
      replace pq := pq.put (d := 147) (x := .pointer (some ⟨b5, 20, none⟩)) (by decide)
      replace t0 := t0.put (d := 147) (x := .pointer (some ⟨b5, 20, none⟩)) (by decide)
      replace t1 := t1.put (d := 147) (x := .pointer (some ⟨b5, 20, none⟩)) (by decide)
      replace t2 := t2.put (d := 147) (x := .pointer (some ⟨b5, 20, none⟩)) (by decide)
      replace t3 := t3.put (d := 147) (x := .pointer (some ⟨b5, 20, none⟩)) (by decide)
      replace t6 := t6.put (d := 147) (x := .pointer (some ⟨b5, 20, none⟩)) (by decide)
      replace t7 := t7.put (d := 147) (x := .pointer (some ⟨b5, 20, none⟩)) (by decide)
      replace t8 := t8.put (d := 147) (x := .pointer (some ⟨b5, 20, none⟩)) (by decide)
      replace t9 := t9.put (d := 147) (x := .pointer (some ⟨b5, 20, none⟩)) (by decide)
      replace t4 := t4.put (d := 147) (x := .pointer (some ⟨b5, 20, none⟩)) (by decide)
      replace t5 := t5.put (d := 147) (x := .pointer (some ⟨b5, 20, none⟩)) (by decide)
      have t12 : AtS (a110.put (some 147) (.pointer (some ⟨b5, 20, none⟩))) 147 (.pointer (some ⟨b5, 20, none⟩)) := AtS.new (by rw [n]; decide)
      replace hout := out_put (v := .pointer (some ⟨b5, 20, none⟩)) hout (show 135 ≤ 147 ∧ 147 < 135 + 14 by decide)
      replace n : (a110.put (some 147) (.pointer (some ⟨b5, 20, none⟩))).tmps.size = 175 := by rw [put_sz]; exact n
      replace hdf : (a110.put (some 147) (.pointer (some ⟨b5, 20, none⟩))).defers = a.defers := hdf
      rw [ha] at p5 pq t0 t1 t2 t3 t6 t7 t8 t9 t4 t5 t12 hout n hdf ⊢
      clear ha
      refine wpAnyE_one (k := 10) (by kernel_rfl) ?_
      refine wpOp_val i10 h10d (x_bs h10b t9.ev (smb_lists _ _ _ _)) ?_
      rw [h10c]
      obtain ⟨k2, hk2⟩ : ∃ x, w12.heap.size = x := ⟨_, rfl⟩
      have r2 := Row.one w12 23 (.slice Ay ny cy)
      obtain ⟨w13, hw⟩ : ∃ z9, w12.alloc (.cells #[.slice Ay ny cy] 23) = z9 := ⟨_, rfl⟩
      have hu : Upd [] w12 w13 := by rw [← hw]; exact (Upd.refl _ _).alloc _
      rw [hw, hk2] at r2
      rw [hw, hk2]
      replace hS : Blk w13 b5 72 cs ∧ Blk w13 g 108 #[wv x, .slice Ay ny cy] := ⟨hS.1.upd hu (by simp), hS.2.upd hu (by simp)⟩
      replace ho1 := ho1.upd hu (by simp)
      replace ho2 := ho2.upd hu (by simp)
      replace hlo := Nat.le_trans hlo hu.size
      replace hUP : ∀ wx, Upd [b5] wx w → wx.heap.size ≤ lo → Upd [b5] wx w13 := fun wx h1 h2 => (hUP wx h1 h2).trans hu (by simp)
      clear hu hw hk2
      refine ⟨fun _ => hS, ?_⟩
      obtain ⟨a112, ha⟩ : ∃ z9, a111.put (some 145) (.slice (some ⟨k2, 0, none⟩) 1 1) = z9 := ⟨_, rfl⟩
      replace p5 := p5.put (d := 145) (x := .slice (some ⟨k2, 0, none⟩) 1 1) (by decide)
      replace pq := pq.put (d := 145) (x := .slice (some ⟨k2, 0, none⟩) 1 1) (by decide)
      replace t0 := t0.put (d := 145) (x := .slice (some ⟨k2, 0, none⟩) 1 1) (by decide)
      replace t1 := t1.put (d := 145) (x := .slice (some ⟨k2, 0, none⟩) 1 1) (by decide)
      replace t2 := t2.put (d := 145) (x := .slice (some ⟨k2, 0, none⟩) 1 1) (by decide)
      replace t3 := t3.put (d := 145) (x := .slice (some ⟨k2, 0, none⟩) 1 1) (by decide)
      replace t6 := t6.put (d := 145) (x := .slice (some ⟨k2, 0, none⟩) 1 1) (by decide)
      replace t7 := t7.put (d := 145) (x := .slice (some ⟨k2, 0, none⟩) 1 1) (by decide)
      replace t8 := t8.put (d := 145) (x := .slice (some ⟨k2, 0, none⟩) 1 1) (by decide)
      replace t9 := t9.put (d := 145) (x := .slice (some ⟨k2, 0, none⟩) 1 1) (by decide)
      replace t4 := t4.put (d := 145) (x := .slice (some ⟨k2, 0, none⟩) 1 1) (by decide)
      replace t5 := t5.put (d := 145) (x := .slice (some ⟨k2, 0, none⟩) 1 1) (by decide)
      replace t12 := t12.put (d := 145) (x := .slice (some ⟨k2, 0, none⟩) 1 1) (by decide)
      have t10 : AtS (a111.put (some 145) (.slice (some ⟨k2, 0, none⟩) 1 1)) 145 (.slice (some ⟨k2, 0, none⟩) 1 1) := AtS.new (by rw [n]; decide)
      replace hout := out_put (v := .slice (some ⟨k2, 0, none⟩) 1 1) hout (show 135 ≤ 145 ∧ 145 < 135 + 14 by decide)
      replace n : (a111.put (some 145) (.slice (some ⟨k2, 0, none⟩) 1 1)).tmps.size = 175 := by rw [put_sz]; exact n
      replace hdf : (a111.put (some 145) (.slice (some ⟨k2, 0, none⟩) 1 1)).defers = a.defers := hdf
      rw [ha] at p5 pq t0 t1 t2 t3 t6 t7 t8 t9 t4 t5 t12 t10 hout n hdf ⊢
      clear ha
      refine wpAnyE_one (k := 11) (by kernel_rfl) ?_
      refine wpOp_wp i11 h11d (wp_append_row _ _ _ 26 h11b lo 23 (.slice none 0 0) 24 Tryz.underlying26 info_bytes rfl t7.ev ho2 t10.ev r2 (by intro u hu; simp at hu; subst hu; rfl) (by simp; omega) (by simp; omega) hlo ?_)
      intro u2 w14 hap
      rw [h11c]
      have hb5 := hS.1.upd hap.2.1 (fun hk => ho2.ne hS.1 (by decide) b5 (Option.mem_toList.1 hk) rfl)
      have hgg := hS.2.upd hap.2.1 (fun hk => ho2.ne hS.2 (by decide) g (Option.mem_toList.1 hk) rfl)
      replace hUP : ∀ wx, Upd [b5] wx w → wx.heap.size ≤ lo → Upd [b5] wx w14 := fun wx h1 h2 => (hUP wx h1 h2).trans hap.2.1 (fun k hk => .inr (by have := (ho2.ge (Option.mem_toList.1 hk)).1; omega))
      replace ho1 := ho1.upd hap.2.1 (fun k hk hm => ho2.apart ho1 (by decide) k (Option.mem_toList.1 hm) hk)
      replace ho2 := hap.1
      obtain ⟨A2, c4, e2⟩ := Own.formN (n := us2.length + 1) ho2 (by simp)
      subst e2
      replace hlo := Nat.le_trans hlo hap.2.1.size
      replace hS : Blk w14 b5 72 cs ∧ Blk w14 g 108 #[wv x, .slice Ay ny cy] := ⟨hb5, hgg⟩
      clear hap hb5 hgg
      refine ⟨fun _ => hS, ?_⟩
      obtain ⟨a113, ha⟩ : ∃ z9, a112.put (some 146) (.slice A2 (us2.length + 1) c4) = z9 := ⟨_, rfl⟩
      replace p5 := p5.put (d := 146) (x := .slice A2 (us2.length + 1) c4) (by decide)
      replace pq := pq.put (d := 146) (x := .slice A2 (us2.length + 1) c4) (by decide)
      replace t0 := t0.put (d := 146) (x := .slice A2 (us2.length + 1) c4) (by decide)
      replace t1 := t1.put (d := 146) (x := .slice A2 (us2.length + 1) c4) (by decide)
      replace t2 := t2.put (d := 146) (x := .slice A2 (us2.length + 1) c4) (by decide)
      replace t3 := t3.put (d := 146) (x := .slice A2 (us2.length + 1) c4) (by decide)
      replace t6 := t6.put (d := 146) (x := .slice A2 (us2.length + 1) c4) (by decide)
      replace t7 := t7.put (d := 146) (x := .slice A2 (us2.length + 1) c4) (by decide)
      replace t8 := t8.put (d := 146) (x := .slice A2 (us2.length + 1) c4) (by decide)
      replace t9 := t9.put (d := 146) (x := .slice A2 (us2.length + 1) c4) (by decide)
      replace t4 := t4.put (d := 146) (x := .slice A2 (us2.length + 1) c4) (by decide)
      replace t5 := t5.put (d := 146) (x := .slice A2 (us2.length + 1) c4) (by decide)
      replace t12 := t12.put (d := 146) (x := .slice A2 (us2.length + 1) c4) (by decide)
      replace t10 := t10.put (d := 146) (x := .slice A2 (us2.length + 1) c4) (by decide)
      have t11 : AtS (a112.put (some 146) (.slice A2 (us2.length + 1) c4)) 146 (.slice A2 (us2.length + 1) c4) := AtS.new (by rw [n]; decide)
      replace hout := out_put (v := .slice A2 (us2.length + 1) c4) hout (show 135 ≤ 146 ∧ 146 < 135 + 14 by decide)
      replace n : (a112.put (some 146) (.slice A2 (us2.length + 1) c4)).tmps.size = 175 := by rw [put_sz]; exact n
      replace hdf : (a112.put (some 146) (.slice A2 (us2.length + 1) c4)).defers = a.defers := hdf
      rw [ha] at p5 pq t0 t1 t2 t3 t6 t7 t8 t9 t4 t5 t12 t10 t11 hout n hdf ⊢
      clear ha
      refine wpAnyE_one (k := 13) (by kernel_rfl) ?_
      refine wpOp_skip i13 h13d (x_store h13b t12.ev t5.ev (sms_words _ b5 20 _ _ _ v1 (hS.1.at_ c1) (hS.1.frozen 20))) ?_
      rw [h13c]
      obtain ⟨wA, hw⟩ : ∃ x, w14.setCell ⟨b5, 20, none⟩ (.slice A1 (us1.length + 1) c3) = x := ⟨_, rfl⟩
      have hu : Upd [b5] w14 wA := by rw [← hw]; exact (Upd.refl _ _).setCell (by simp) _
      have hbA : Blk wA b5 72 (cs.setIfInBounds 20 (.slice A1 (us1.length + 1) c3)) := by rw [← hw]; exact hS.1.set_ 20 _
      have n1 := ho1.ne hS.1 (by decide)
      have n2 := ho2.ne hS.1 (by decide)
      replace ho1 := ho1.upd hu (fun k hk hm => by have := n1 k hk; simp at hm; exact this hm)
      replace ho2 := ho2.upd hu (fun k hk hm => by have := n2 k hk; simp at hm; exact this hm)
      replace hUP : ∀ wx, Upd [b5] wx w → wx.heap.size ≤ lo → Upd [b5] wx wA := fun wx h1 h2 => (hUP wx h1 h2).trans hu (by simp)
      rw [hw]
      clear hw hu
      show _ ∧ wpAnyE _ _ _ _ _ _ _ _ a113 wA
      refine ⟨fun h => absurd h (by decide), ?_⟩
      refine wpAnyE_one (k := 14) (by kernel_rfl) ?_
      refine wpOp_val i14 h14d (x_field h14b p5.ev (tcf21 wA b5)) ?_
      rw [h14c]
      refine ⟨fun h => absurd h (by decide), ?_⟩
      obtain ⟨a114, ha⟩ : ∃ z9, a113.put (some 148) (.pointer (some ⟨b5, 21, none⟩)) = z9 := ⟨_, rfl⟩
      replace p5 := p5.put (d := 148) (x := .pointer (some ⟨b5, 21, none⟩)) (by decide)
      replace pq := pq.put (d := 148) (x := .pointer (some ⟨b5, 21, none⟩)) (by decide)
      replace t0 := t0.put (d := 148) (x := .pointer (some ⟨b5, 21, none⟩)) (by decide)
      replace t1 := t1.put (d := 148) (x := .pointer (some ⟨b5, 21, none⟩)) (by decide)
      replace t2 := t2.put (d := 148) (x := .pointer (some ⟨b5, 21, none⟩)) (by decide)
      replace t3 := t3.put (d := 148) (x := .pointer (some ⟨b5, 21, none⟩)) (by decide)
      replace t6 := t6.put (d := 148) (x := .pointer (some ⟨b5, 21, none⟩)) (by decide)
      replace t7 := t7.put (d := 148) (x := .pointer (some ⟨b5, 21, none⟩)) (by decide)
      replace t8 := t8.put (d := 148) (x := .pointer (some ⟨b5, 21, none⟩)) (by decide)
      replace t9 := t9.put (d := 148) (x := .pointer (some ⟨b5, 21, none⟩)) (by decide)
      replace t4 := t4.put (d := 148) (x := .pointer (some ⟨b5, 21, none⟩)) (by decide)
      replace t5 := t5.put (d := 148) (x := .pointer (some ⟨b5, 21, none⟩)) (by decide)
      replace t12 := t12.put (d := 148) (x := .pointer (some ⟨b5, 21, none⟩)) (by decide)
      replace t10 := t10.put (d := 148) (x := .pointer (some ⟨b5, 21, none⟩)) (by decide)
      replace t11 := t11.put (d := 148) (x := .pointer (some ⟨b5, 21, none⟩)) (by decide)
      have t14 : AtS (a113.put (some 148) (.pointer (some ⟨b5, 21, none⟩))) 148 (.pointer (some ⟨b5, 21, none⟩)) := AtS.new (by rw [n]; decide)
      replace hout := out_put (v := .pointer (some ⟨b5, 21, none⟩)) hout (show 135 ≤ 148 ∧ 148 < 135 + 14 by decide)
      replace n : (a113.put (some 148) (.pointer (some ⟨b5, 21, none⟩))).tmps.size = 175 := by rw [put_sz]; exact n
      replace hdf : (a113.put (some 148) (.pointer (some ⟨b5, 21, none⟩))).defers = a.defers := hdf
      rw [ha] at p5 pq t0 t1 t2 t3 t6 t7 t8 t9 t4 t5 t12 t10 t11 t14 hout n hdf ⊢
      clear ha
      have c2 : (cs.setIfInBounds 20 (.slice A1 (us1.length + 1) c3))[21]? = some v2 := by rw [Array.getElem?_setIfInBounds_ne (by decide)]; exact c2
      refine wpAnyE_one (k := 15) (by kernel_rfl) ?_
      refine wpOp_skip i15 h15d (x_store h15b t14.ev t11.ev (sms_lists _ b5 21 _ _ _ v2 (hbA.at_ c2) (hbA.frozen 21))) ?_
      rw [h15c]
      have hu : Upd [b5] wA (wA.setCell ⟨b5, 21, none⟩ (.slice A2 (us2.length + 1) c4)) := (Upd.refl _ _).setCell (by simp) _
      refine ⟨fun h => absurd h (by decide), ?_⟩
      refine wpAnyE_done (by kernel_rfl) ?_ _
      exact hK _ _ _ _ n hdf hout (hbA.set_ 21 _) (ho1.upd hu (fun k hk hm => by have := n1 k hk; simp at hm; exact this hm)) (ho2.upd hu (fun k hk hm => by have := n2 k hk; simp at hm; exact this hm)) (fun wx h1 h2 => (hUP wx h1 h2).trans hu (by simp))
    · refine wpOp_val i10 h10d (x_bs h10b t9.ev (smb_lists _ _ _ _)) ?_
      rw [h10c]
      obtain ⟨k2, hk2⟩ : ∃ x, w11.heap.size = x := ⟨_, rfl⟩
      have r2 := Row.one w11 23 (.slice Ay ny cy)
      obtain ⟨w12, hw⟩ : ∃ z9, w11.alloc (.cells #[.slice Ay ny cy] 23) = z9 := ⟨_, rfl⟩
      have hu : Upd [] w11 w12 := by rw [← hw]; exact (Upd.refl _ _).alloc _
      have hd2 : ∀ g, v1.ownBlock = some g → g < k2 := fun g hg => by rw [← hk2]; exact (ho1.ge hg).2
      rw [hw, hk2] at r2
      rw [hw, hk2]
      replace hS : Blk w12 b5 72 cs ∧ Blk w12 g 108 #[wv x, .slice Ay ny cy] := ⟨hS.1.upd hu (by simp), hS.2.upd hu (by simp)⟩
      replace ho1 := ho1.upd hu (by simp)
      replace ho2 := ho2.upd hu (by simp)
      replace hlo := Nat.le_trans hlo hu.size
      replace hUP : ∀ wx, Upd [b5] wx w → wx.heap.size ≤ lo → Upd [b5] wx w12 := fun wx h1 h2 => (hUP wx h1 h2).trans hu (by simp)
      replace r1 := Row.apart r1 hu (by simp)
      clear hu hw hk2
      refine ⟨fun _ => hS, ?_⟩
      obtain ⟨a110, ha⟩ : ∃ z9, a109.put (some 145) (.slice (some ⟨k2, 0, none⟩) 1 1) = z9 := ⟨_, rfl⟩
      replace p5 := p5.put (d := 145) (x := .slice (some ⟨k2, 0, none⟩) 1 1) (by decide)
      replace pq := pq.put (d := 145) (x := .slice (some ⟨k2, 0, none⟩) 1 1) (by decide)
      replace t0 := t0.put (d := 145) (x := .slice (some ⟨k2, 0, none⟩) 1 1) (by decide)
      replace t1 := t1.put (d := 145) (x := .slice (some ⟨k2, 0, none⟩) 1 1) (by decide)
      replace t2 := t2.put (d := 145) (x := .slice (some ⟨k2, 0, none⟩) 1 1) (by decide)
      replace t3 := t3.put (d := 145) (x := .slice (some ⟨k2, 0, none⟩) 1 1) (by decide)
      replace t6 := t6.put (d := 145) (x := .slice (some ⟨k2, 0, none⟩) 1 1) (by decide)
      replace t7 := t7.put (d := 145) (x := .slice (some ⟨k2, 0, none⟩) 1 1) (by decide)
      replace t8 := t8.put (d := 145) (x := .slice (some ⟨k2, 0, none⟩) 1 1) (by decide)
      replace t9 := t9.put (d := 145) (x := .slice (some ⟨k2, 0, none⟩) 1 1) (by decide)
      replace t4 := t4.put (d := 145) (x := .slice (some ⟨k2, 0, none⟩) 1 1) (by decide)
      have t10 : AtS (a109.put (some 145) (.slice (some ⟨k2, 0, none⟩) 1 1)) 145 (.slice (some ⟨k2, 0, none⟩) 1 1) := AtS.new (by rw [n]; decide)
      replace hout := out_put (v := .slice (some ⟨k2, 0, none⟩) 1 1) hout (show 135 ≤ 145 ∧ 145 < 135 + 14 by decide)
      replace n : (a109.put (some 145) (.slice (some ⟨k2, 0, none⟩) 1 1)).tmps.size = 175 := by rw [put_sz]; exact n
      replace hdf : (a109.put (some 145) (.slice (some ⟨k2, 0, none⟩) 1 1)).defers = a.defers := hdf
      rw [ha] at p5 pq t0 t1 t2 t3 t6 t7 t8 t9 t4 t10 hout n hdf ⊢
      clear ha
      refine wpAnyE_one (k := 5) (by kernel_rfl) ?_
      refine wpOp_wp i5 h5d (wp_append_row _ _ _ 24 h5b lo 22 (.int .u16 0) 2 Tryz.underlying24 info_u16 rfl t1.ev ho1 t4.ev r1 (by intro u hu; simp at hu; subst hu; rfl) (by simp; omega) (by simp; omega) hlo ?_)
      intro u1 w13 hap
      rw [h5c]
      have hb5 := hS.1.upd hap.2.1 (fun hk => ho1.ne hS.1 (by decide) b5 (Option.mem_toList.1 hk) rfl)
      have hgg := hS.2.upd hap.2.1 (fun hk => ho1.ne hS.2 (by decide) g (Option.mem_toList.1 hk) rfl)
      replace hUP : ∀ wx, Upd [b5] wx w → wx.heap.size ≤ lo → Upd [b5] wx w13 := fun wx h1 h2 => (hUP wx h1 h2).trans hap.2.1 (fun k hk => .inr (by have := (ho1.ge (Option.mem_toList.1 hk)).1; omega))
      replace ho2 := ho2.upd hap.2.1 (fun k hk hm => ho1.apart ho2 (by decide) k (Option.mem_toList.1 hm) hk)
      replace r2 := Row.apart r2 hap.2.1 (fun k hk hm => by have h1 := hd2 k (Option.mem_toList.1 hm); have h2 : k2 = k := (by simpa [Value.ownBlock] using hk); omega)
      replace ho1 := hap.1
      obtain ⟨A1, c3, e1⟩ := Own.formN (n := us1.length + 1) ho1 (by simp)
      subst e1
      replace hlo := Nat.le_trans hlo hap.2.1.size
      replace hS : Blk w13 b5 72 cs ∧ Blk w13 g 108 #[wv x, .slice Ay ny cy] := ⟨hb5, hgg⟩
      clear hap hb5 hgg
      refine ⟨fun _ => hS, ?_⟩
      obtain ⟨a111, ha⟩ : ∃ z9, a110.put (some 140) (.slice A1 (us1.length + 1) c3) = z9 := ⟨_, rfl⟩
      replace p5 := p5.put (d := 140) (x := .slice A1 (us1.length + 1) c3) (by decide)
      replace pq := pq.put (d := 140) (x := .slice A1 (us1.length + 1) c3) (by decide)
      replace t0 := t0.put (d := 140) (x := .slice A1 (us1.length + 1) c3) (by decide)
      replace t1 := t1.put (d := 140) (x := .slice A1 (us1.length + 1) c3) (by decide)
      replace t2 := t2.put (d := 140) (x := .slice A1 (us1.length + 1) c3) (by decide)
      replace t3 := t3.put (d := 140) (x := .slice A1 (us1.length + 1) c3) (by decide)
      replace t6 := t6.put (d := 140) (x := .slice A1 (us1.length + 1) c3) (by decide)
      replace t7 := t7.put (d := 140) (x := .slice A1 (us1.length + 1) c3) (by decide)
      replace t8 := t8.put (d := 140) (x := .slice A1 (us1.length + 1) c3) (by decide)
      replace t9 := t9.put (d := 140) (x := .slice A1 (us1.length + 1) c3) (by decide)
      replace t4 := t4.put (d := 140) (x := .slice A1 (us1.length + 1) c3) (by decide)
      replace t10 := t10.put (d := 140) (x := .slice A1 (us1.length + 1) c3) (by decide)
      have t5 : AtS (a110.put (some 140) (.slice A1 (us1.length + 1) c3)) 140 (.slice A1 (us1.length + 1) c3) := AtS.new (by rw [n]; decide)
      replace hout := out_put (v := .slice A1 (us1.length + 1) c3) hout (show 135 ≤ 140 ∧ 140 < 135 + 14 by decide)
      replace n : (a110.put (some 140) (.slice A1 (us1.length + 1) c3)).tmps.size = 175 := by rw [put_sz]; exact n
      replace hdf : (a110.put (some 140) (.slice A1 (us1.length + 1) c3)).defers = a.defers := hdf
      rw [ha] at p5 pq t0 t1 t2 t3 t6 t7 t8 t9 t4 t10 t5 hout n hdf ⊢
      clear ha
      refine wpAnyE_take (i := 12) (oi := o12) (v := .pointer (some ⟨b5, 20, none⟩)) i12 hsel (by kernel_rfl) (by kernel_rfl) (by kernel_rfl) (by kernel_rfl) (fun c a w => hPQ c a _ _ w) (.inl ⟨wanted_none h12d, fun w hs => x_field h12b p5.ev (tcf20 w b5)⟩) hS ?_
      rw [h12c]
      obtain ⟨a112, ha⟩ : ∃ z9, a111.put (some 147) (.pointer (some ⟨b5, 20, none⟩)) = z9 := ⟨_, rfl⟩
      replace p5 := p5.put (d := 147) (x := .pointer (some ⟨b5, 20, none⟩)) (by decide)
      replace pq := pq.put (d := 147) (x := .pointer (some ⟨b5, 20, none⟩)) (by decide)
      replace t0 := t0.put (d := 147) (x := .pointer (some ⟨b5, 20, none⟩)) (by decide)
      replace t1 := t1.put (d := 147) (x := .pointer (some ⟨b5, 20, none⟩)) (by decide)
      replace t2 := t2.put (d := 147) (x := .pointer (some ⟨b5, 20, none⟩)) (by decide)
      replace t3 := t3.put (d := 147) (x := .pointer (some ⟨b5, 20, none⟩)) (by decide)
      replace t6 := t6.put (d := 147) (x := .pointer (some ⟨b5, 20, none⟩)) (by decide)
      replace t7 := t7.put (d := 147) (x := .pointer (some ⟨b5, 20, none⟩)) (by decide)
      replace t8 := t8.put (d := 147) (x := .pointer (some ⟨b5, 20, none⟩)) (by decide)
      replace t9 := t9.put (d := 147) (x := .pointer (some ⟨b5, 20, none⟩)) (by decide)
      replace t4 := t4.put (d := 147) (x := .pointer (some ⟨b5, 20, none⟩)) (by decide)
      replace t10 := t10.put (d := 147) (x := .pointer (some ⟨b5, 20, none⟩)) (by decide)
      replace t5 := t5.put (d := 147) (x := .pointer (some ⟨b5, 20, none⟩)) (by decide)
      have t12 : AtS (a111.put (some 147) (.pointer (some ⟨b5, 20, none⟩))) 147 (.pointer (some ⟨b5, 20, none⟩)) := AtS.new (by rw [n]; decide)
      replace hout := out_put (v := .pointer (some ⟨b5, 20, none⟩)) hout (show 135 ≤ 147 ∧ 147 < 135 + 14 by decide)
      replace n : (a111.put (some 147) (.pointer (some ⟨b5, 20, none⟩))).tmps.size = 175 := by rw [put_sz]; exact n
      replace hdf : (a111.put (some 147) (.pointer (some ⟨b5, 20, none⟩))).defers = a.defers := hdf
      rw [ha] at p5 pq t0 t1 t2 t3 t6 t7 t8 t9 t4 t10 t5 t12 hout n hdf ⊢
      clear ha
      refine wpAnyE_one (k := 11) (by kernel_rfl) ?_
      refine wpOp_wp i11 h11d (wp_append_row _ _ _ 26 h11b lo 23 (.slice none 0 0) 24 Tryz.underlying26 info_bytes rfl t7.ev ho2 t10.ev r2 (by intro u hu; simp at hu; subst hu; rfl) (by simp; omega) (by simp; omega) hlo ?_)
      intro u2 w14 hap
      rw [h11c]
      have hb5 := hS.1.upd hap.2.1 (fun hk => ho2.ne hS.1 (by decide) b5 (Option.mem_toList.1 hk) rfl)
      have hgg := hS.2.upd hap.2.1 (fun hk => ho2.ne hS.2 (by decide) g (Option.mem_toList.1 hk) rfl)
      replace hUP : ∀ wx, Upd [b5] wx w → wx.heap.size ≤ lo → Upd [b5] wx w14 := fun wx h1 h2 => (hUP wx h1 h2).trans hap.2.1 (fun k hk => .inr (by have := (ho2.ge (Option.mem_toList.1 hk)).1; omega))
      replace ho1 := ho1.upd hap.2.1 (fun k hk hm => ho2.apart ho1 (by decide) k (Option.mem_toList.1 hm) hk)
      replace ho2 := hap.1
      obtain ⟨A2, c4, e2⟩ := Own.formN (n := us2.length + 1) ho2 (by simp)
      subst e2
      replace hlo := Nat.le_trans hlo hap.2.1.size
      replace hS : Blk w14 b5 72 cs ∧ Blk w14 g 108 #[wv x, .slice Ay ny cy] := ⟨hb5, hgg⟩
      clear hap hb5 hgg
      refine ⟨fun _ => hS, ?_⟩
      obtain ⟨a113, ha⟩ : ∃ z9, a112.put (some 146) (.slice A2 (us2.length + 1) c4) = z9 := ⟨_, rfl⟩
      replace p5 := p5.put (d := 146) (x := .slice A2 (us2.length + 1) c4) (by decide)
      replace pq := pq.put (d := 146) (x := .slice A2 (us2.length + 1) c4) (by decide)
      replace t0 := t0.put (d := 146) (x := .slice A2 (us2.length + 1) c4) (by decide)
      replace t1 := t1.put (d := 146) (x := .slice A2 (us2.length + 1) c4) (by decide)
      replace t2 := t2.put (d := 146) (x := .slice A2 (us2.length + 1) c4) (by decide)
      replace t3 := t3.put (d := 146) (x := .slice A2 (us2.length + 1) c4) (by decide)
      replace t6 := t6.put (d := 146) (x := .slice A2 (us2.length + 1) c4) (by decide)
      replace t7 := t7.put (d := 146) (x := .slice A2 (us2.length + 1) c4) (by decide)
      replace t8 := t8.put (d := 146) (x := .slice A2 (us2.length + 1) c4) (by decide)
      replace t9 := t9.put (d := 146) (x := .slice A2 (us2.length + 1) c4) (by decide)
      replace t4 := t4.put (d := 146) (x := .slice A2 (us2.length + 1) c4) (by decide)
      replace t10 := t10.put (d := 146) (x := .slice A2 (us2.length + 1) c4) (by decide)
      replace t5 := t5.put (d := 146) (x := .slice A2 (us2.length + 1) c4) (by decide)
      replace t12 := t12.put (d := 146) (x := .slice A2 (us2.length + 1) c4) (by decide)
      have t11 : AtS (a112.put (some 146) (.slice A2 (us2.length + 1) c4)) 146 (.slice A2 (us2.length + 1) c4) := AtS.new (by rw [n]; decide)
      replace hout := out_put (v := .slice A2 (us2.length + 1) c4) hout (show 135 ≤ 146 ∧ 146 < 135 + 14 by decide)
      replace n : (a112.put (some 146) (.slice A2 (us2.length + 1) c4)).tmps.size = 175 := by rw [put_sz]; exact n
      replace hdf : (a112.put (some 146) (.slice A2 (us2.length + 1) c4)).defers = a.defers := hdf
      rw [ha] at p5 pq t0 t1 t2 t3 t6 t7 t8 t9 t4 t10 t5 t12 t11 hout n hdf ⊢
      clear ha
      refine wpAnyE_one (k := 13) (by kernel_rfl) ?_
      refine wpOp_skip i13 h13d (x_store h13b t12.ev t5.ev (sms_words _ b5 20 _ _ _ v1 (hS.1.at_ c1) (hS.1.frozen 20))) ?_
      rw [h13c]
      obtain ⟨wA, hw⟩ : ∃ x, w14.setCell ⟨b5, 20, none⟩ (.slice A1 (us1.length + 1) c3) = x := ⟨_, rfl⟩
      have hu : Upd [b5] w14 wA := by rw [← hw]; exact (Upd.refl _ _).setCell (by simp) _
      have hbA : Blk wA b5 72 (cs.setIfInBounds 20 (.slice A1 (us1.length + 1) c3)) := by rw [← hw]; exact hS.1.set_ 20 _
      have n1 := ho1.ne hS.1 (by decide)
      have n2 := ho2.ne hS.1 (by decide)
      replace ho1 := ho1.upd hu (fun k hk hm => by have := n1 k hk; simp at hm; exact this hm)
      replace ho2 := ho2.upd hu (fun k hk hm => by have := n2 k hk; simp at hm; exact this hm)
      replace hUP : ∀ wx, Upd [b5] wx w → wx.heap.size ≤ lo → Upd [b5] wx wA := fun wx h1 h2 => (hUP wx h1 h2).trans hu (by simp)
      rw [hw]
      clear hw hu
      show _ ∧ wpAnyE _ _ _ _ _ _ _ _ a113 wA
      refine ⟨fun h => absurd h (by decide), ?_⟩
      refine wpAnyE_one (k := 14) (by kernel_rfl) ?_
      refine wpOp_val i14 h14d (x_field h14b p5.ev (tcf21 wA b5)) ?_
      rw [h14c]
      refine ⟨fun h => absurd h (by decide), ?_⟩
      obtain ⟨a114, ha⟩ : ∃ z9, a113.put (some 148) (.pointer (some ⟨b5, 21, none⟩)) = z9 := ⟨_, rfl⟩
      replace p5 := p5.put (d := 148) (x := .pointer (some ⟨b5, 21, none⟩)) (by decide)
      replace pq := pq.put (d := 148) (x := .pointer (some ⟨b5, 21, none⟩)) (by decide)
      replace t0 := t0.put (d := 148) (x := .pointer (some ⟨b5, 21, none⟩)) (by decide)
      replace t1 := t1.put (d := 148) (x := .pointer (some ⟨b5, 21, none⟩)) (by decide)
      replace t2 := t2.put (d := 148) (x := .pointer (some ⟨b5, 21, none⟩)) (by decide)
      replace t3 := t3.put (d := 148) (x := .pointer (some ⟨b5, 21, none⟩)) (by decide)
      replace t6 := t6.put (d := 148) (x := .pointer (some ⟨b5, 21, none⟩)) (by decide)
      replace t7 := t7.put (d := 148) (x := .pointer (some ⟨b5, 21, none⟩)) (by decide)
      replace t8 := t8.put (d := 148) (x := .pointer (some ⟨b5, 21, none⟩)) (by decide)
      replace t9 := t9.put (d := 148) (x := .pointer (some ⟨b5, 21, none⟩)) (by decide)
      replace t4 := t4.put (d := 148) (x := .pointer (some ⟨b5, 21, none⟩)) (by decide)
      replace t10 := t10.put (d := 148) (x := .pointer (some ⟨b5, 21, none⟩)) (by decide)
      replace t5 := t5.put (d := 148) (x := .pointer (some ⟨b5, 21, none⟩)) (by decide)
      replace t12 := t12.put (d := 148) (x := .pointer (some ⟨b5, 21, none⟩)) (by decide)
      replace t11 := t11.put (d := 148) (x := .pointer (some ⟨b5, 21, none⟩)) (by decide)
      have t14 : AtS (a113.put (some 148) (.pointer (some ⟨b5, 21, none⟩))) 148 (.pointer (some ⟨b5, 21, none⟩)) := AtS.new (by rw [n]; decide)
      replace hout := out_put (v := .pointer (some ⟨b5, 21, none⟩)) hout (show 135 ≤ 148 ∧ 148 < 135 + 14 by decide)
      replace n : (a113.put (some 148) (.pointer (some ⟨b5, 21, none⟩))).tmps.size = 175 := by rw [put_sz]; exact n
      replace hdf : (a113.put (some 148) (.pointer (some ⟨b5, 21, none⟩))).defers = a.defers := hdf
      rw [ha] at p5 pq t0 t1 t2 t3 t6 t7 t8 t9 t4 t10 t5 t12 t11 t14 hout n hdf ⊢
      clear ha
      have c2 : (cs.setIfInBounds 20 (.slice A1 (us1.length + 1) c3))[21]? = some v2 := by rw [Array.getElem?_setIfInBounds_ne (by decide)]; exact c2
      refine wpAnyE_one (k := 15) (by kernel_rfl) ?_
      refine wpOp_skip i15 h15d (x_store h15b t14.ev t11.ev (sms_lists _ b5 21 _ _ _ v2 (hbA.at_ c2) (hbA.frozen 21))) ?_
      rw [h15c]
      have hu : Upd [b5] wA (wA.setCell ⟨b5, 21, none⟩ (.slice A2 (us2.length + 1) c4)) := (Upd.refl _ _).setCell (by simp) _
      refine ⟨fun h => absurd h (by decide), ?_⟩
      refine wpAnyE_done (by kernel_rfl) ?_ _
      exact hK _ _ _ _ n hdf hout (hbA.set_ 21 _) (ho1.upd hu (fun k hk hm => by have := n1 k hk; simp at hm; exact this hm)) (ho2.upd hu (fun k hk hm => by have := n2 k hk; simp at hm; exact this hm)) (fun wx h1 h2 => (hUP wx h1 h2).trans hu (by simp))
  · refine wpOp_val i10 h10d (x_bs h10b t9.ev (smb_lists _ _ _ _)) ?_
    rw [h10c]
    obtain ⟨k2, hk2⟩ : ∃ x, w0.heap.size = x := ⟨_, rfl⟩
    have r2 := Row.one w0 23 (.slice Ay ny cy)
    obtain ⟨w11, hw⟩ : ∃ z9, w0.alloc (.cells #[.slice Ay ny cy] 23) = z9 := ⟨_, rfl⟩
    have hu : Upd [] w0 w11 := by rw [← hw]; exact (Upd.refl _ _).alloc _
    have hd2 : ∀ g, v1.ownBlock = some g → g < k2 := fun g hg => by rw [← hk2]; exact (ho1.ge hg).2
    rw [hw, hk2] at r2
    rw [hw, hk2]
    replace hS : Blk w11 b5 72 cs ∧ Blk w11 g 108 #[wv x, .slice Ay ny cy] := ⟨hS.1.upd hu (by simp), hS.2.upd hu (by simp)⟩
    replace ho1 := ho1.upd hu (by simp)
    replace ho2 := ho2.upd hu (by simp)
    replace hlo := Nat.le_trans hlo hu.size
    replace hUP : ∀ wx, Upd [b5] wx w → wx.heap.size ≤ lo → Upd [b5] wx w11 := fun wx h1 h2 => (hUP wx h1 h2).trans hu (by simp)
    clear hu hw hk2
    refine ⟨fun _ => hS, ?_⟩
    obtain ⟨a109, ha⟩ : ∃ z9, a108.put (some 145) (.slice (some ⟨k2, 0, none⟩) 1 1) = z9 := ⟨_, rfl⟩
    replace p5 := p5.put (d := 145) (x := .slice (some ⟨k2, 0, none⟩) 1 1) (by decide)
    replace pq := pq.put (d := 145) (x := .slice (some ⟨k2, 0, none⟩) 1 1) (by decide)
    replace t0 := t0.put (d := 145) (x := .slice (some ⟨k2, 0, none⟩) 1 1) (by decide)
    replace t1 := t1.put (d := 145) (x := .slice (some ⟨k2, 0, none⟩) 1 1) (by decide)
    replace t2 := t2.put (d := 145) (x := .slice (some ⟨k2, 0, none⟩) 1 1) (by decide)
    replace t3 := t3.put (d := 145) (x := .slice (some ⟨k2, 0, none⟩) 1 1) (by decide)
    replace t6 := t6.put (d := 145) (x := .slice (some ⟨k2, 0, none⟩) 1 1) (by decide)
    replace t7 := t7.put (d := 145) (x := .slice (some ⟨k2, 0, none⟩) 1 1) (by decide)
    replace t8 := t8.put (d := 145) (x := .slice (some ⟨k2, 0, none⟩) 1 1) (by decide)
    replace t9 := t9.put (d := 145) (x := .slice (some ⟨k2, 0, none⟩) 1 1) (by decide)
    have t10 : AtS (a108.put (some 145) (.slice (some ⟨k2, 0, none⟩) 1 1)) 145 (.slice (some ⟨k2, 0, none⟩) 1 1) := AtS.new (by rw [n]; decide)
    replace hout := out_put (v := .slice (some ⟨k2, 0, none⟩) 1 1) hout (show 135 ≤ 145 ∧ 145 < 135 + 14 by decide)
    replace n : (a108.put (some 145) (.slice (some ⟨k2, 0, none⟩) 1 1)).tmps.size = 175 := by rw [put_sz]; exact n
    replace hdf : (a108.put (some 145) (.slice (some ⟨k2, 0, none⟩) 1 1)).defers = a.defers := hdf
    rw [ha] at p5 pq t0 t1 t2 t3 t6 t7 t8 t9 t10 hout n hdf ⊢
    clear ha
    refine wpAnyE_one (k := 4) (by kernel_rfl) ?_
    refine wpOp_val i4 h4d (x_bs h4b t3.ev (smb_words _ _)) ?_
    rw [h4c]
    obtain ⟨k1, hk1⟩ : ∃ x, w11.heap.size = x := ⟨_, rfl⟩
    have r1 := Row.one w11 22 (wv x)
    obtain ⟨w12, hw⟩ : ∃ z9, w11.alloc (.cells #[wv x] 22) = z9 := ⟨_, rfl⟩
    have hu : Upd [] w11 w12 := by rw [← hw]; exact (Upd.refl _ _).alloc _
    rw [hw, hk1] at r1
    rw [hw, hk1]
    replace hS : Blk w12 b5 72 cs ∧ Blk w12 g 108 #[wv x, .slice Ay ny cy] := ⟨hS.1.upd hu (by simp), hS.2.upd hu (by simp)⟩
    replace ho1 := ho1.upd hu (by simp)
    replace ho2 := ho2.upd hu (by simp)
    replace hlo := Nat.le_trans hlo hu.size
    replace hUP : ∀ wx, Upd [b5] wx w → wx.heap.size ≤ lo → Upd [b5] wx w12 := fun wx h1 h2 => (hUP wx h1 h2).trans hu (by simp)
    replace r2 := Row.apart r2 hu (by simp)
    clear hu hw hk1
    refine ⟨fun _ => hS, ?_⟩
    obtain ⟨a110, ha⟩ : ∃ z9, a109.put (some 139) (.slice (some ⟨k1, 0, none⟩) 1 1) = z9 := ⟨_, rfl⟩
    replace p5 := p5.put (d := 139) (x := .slice (some ⟨k1, 0, none⟩) 1 1) (by decide)
    replace pq := pq.put (d := 139) (x := .slice (some ⟨k1, 0, none⟩) 1 1) (by decide)
    replace t0 := t0.put (d := 139) (x := .slice (some ⟨k1, 0, none⟩) 1 1) (by decide)
    replace t1 := t1.put (d := 139) (x := .slice (some ⟨k1, 0, none⟩) 1 1) (by decide)
    replace t2 := t2.put (d := 139) (x := .slice (some ⟨k1, 0, none⟩) 1 1) (by decide)
    replace t3 := t3.put (d := 139) (x := .slice (some ⟨k1, 0, none⟩) 1 1) (by decide)
    replace t6 := t6.put (d := 139) (x := .slice (some ⟨k1, 0, none⟩) 1 1) (by decide)
    replace t7 := t7.put (d := 139) (x := .slice (some ⟨k1, 0, none⟩) 1 1) (by decide)
    replace t8 := t8.put (d := 139) (x := .slice (some ⟨k1, 0, none⟩) 1 1) (by decide)
    replace t9 := t9.put (d := 139) (x := .slice (some ⟨k1, 0, none⟩) 1 1) (by decide)
    replace t10 := t10.put (d := 139) (x := .slice (some ⟨k1, 0, none⟩) 1 1) (by decide)
    have t4 : AtS (a109.put (some 139) (.slice (some ⟨k1, 0, none⟩) 1 1)) 139 (.slice (some ⟨k1, 0, none⟩) 1 1) := AtS.new (by rw [n]; decide)
    replace hout := out_put (v := .slice (some ⟨k1, 0, none⟩) 1 1) hout (show 135 ≤ 139 ∧ 139 < 135 + 14 by decide)
    replace n : (a109.put (some 139) (.slice (some ⟨k1, 0, none⟩) 1 1)).tmps.size = 175 := by rw [put_sz]; exact n
    replace hdf : (a109.put (some 139) (.slice (some ⟨k1, 0, none⟩) 1 1)).defers = a.defers := hdf
    rw [ha] at p5 pq t0 t1 t2 t3 t6 t7 t8 t9 t10 t4 hout n hdf ⊢
    clear ha
    refine wpAnyE_one (k := 5) (by kernel_rfl) ?_
    refine wpOp_wp i5 h5d (wp_append_row _ _ _ 24 h5b lo 22 (.int .u16 0) 2 Tryz.underlying24 info_u16 rfl t1.ev ho1 t4.ev r1 (by intro u hu; simp at hu; subst hu; rfl) (by simp; omega) (by simp; omega) hlo ?_)
    intro u1 w13 hap
    rw [h5c]
    have hb5 := hS.1.upd hap.2.1 (fun hk => ho1.ne hS.1 (by decide) b5 (Option.mem_toList.1 hk) rfl)
    have hgg := hS.2.upd hap.2.1 (fun hk => ho1.ne hS.2 (by decide) g (Option.mem_toList.1 hk) rfl)
    replace hUP : ∀ wx, Upd [b5] wx w → wx.heap.size ≤ lo → Upd [b5] wx w13 := fun wx h1 h2 => (hUP wx h1 h2).trans hap.2.1 (fun k hk => .inr (by have := (ho1.ge (Option.mem_toList.1 hk)).1; omega))
    replace ho2 := ho2.upd hap.2.1 (fun k hk hm => ho1.apart ho2 (by decide) k (Option.mem_toList.1 hm) hk)
    replace r2 := Row.apart r2 hap.2.1 (fun k hk hm => by have h1 := hd2 k (Option.mem_toList.1 hm); have h2 : k2 = k := (by simpa [Value.ownBlock] using hk); omega)
    replace ho1 := hap.1
    obtain ⟨A1, c3, e1⟩ := Own.formN (n := us1.length + 1) ho1 (by simp)
    subst e1
    replace hlo := Nat.le_trans hlo hap.2.1.size
    replace hS : Blk w13 b5 72 cs ∧ Blk w13 g 108 #[wv x, .slice Ay ny cy] := ⟨hb5, hgg⟩
    clear hap hb5 hgg
    refine ⟨fun _ => hS, ?_⟩
    obtain ⟨a111, ha⟩ : ∃ z9, a110.put (some 140) (.slice A1 (us1.length + 1) c3) = z9 := ⟨_, rfl⟩
    replace p5 := p5.put (d := 140) (x := .slice A1 (us1.length + 1) c3) (by decide)
    replace pq := pq.put (d := 140) (x := .slice A1 (us1.length + 1) c3) (by decide)
    replace t0 := t0.put (d := 140) (x := .slice A1 (us1.length + 1) c3) (by decide)
    replace t1 := t1.put (d := 140) (x := .slice A1 (us1.length + 1) c3) (by decide)
    replace t2 := t2.put (d := 140) (x := .slice A1 (us1.length + 1) c3) (by decide)
    replace t3 := t3.put (d := 140) (x := .slice A1 (us1.length + 1) c3) (by decide)
    replace t6 := t6.put (d := 140) (x := .slice A1 (us1.length + 1) c3) (by decide)
    replace t7 := t7.put (d := 140) (x := .slice A1 (us1.length + 1) c3) (by decide)
    replace t8 := t8.put (d := 140) (x := .slice A1 (us1.length + 1) c3) (by decide)
    replace t9 := t9.put (d := 140) (x := .slice A1 (us1.length + 1) c3) (by decide)
    replace t10 := t10.put (d := 140) (x := .slice A1 (us1.length + 1) c3) (by decide)
    replace t4 := t4.put (d := 140) (x := .slice A1 (us1.length + 1) c3) (by decide)
    have t5 : AtS (a110.put (some 140) (.slice A1 (us1.length + 1) c3)) 140 (.slice A1 (us1.length + 1) c3) := AtS.new (by rw [n]; decide)
    replace hout := out_put (v := .slice A1 (us1.length + 1) c3) hout (show 135 ≤ 140 ∧ 140 < 135 + 14 by decide)
    replace n : (a110.put (some 140) (.slice A1 (us1.length + 1) c3)).tmps.size = 175 := by rw [put_sz]; exact n
    replace hdf : (a110.put (some 140) (.slice A1 (us1.length + 1) c3)).defers = a.defers := hdf
    rw [ha] at p5 pq t0 t1 t2 t3 t6 t7 t8 t9 t10 t4 t5 hout n hdf ⊢
    clear ha
    refine wpAnyE_take (i := 12) (oi := o12) (v := .pointer (some ⟨b5, 20, none⟩)) i12 hsel (by kernel_rfl) (by kernel_rfl) (by kernel_rfl) (by kernel_rfl) (fun c a w => hPQ c a _ _ w) (.inl ⟨wanted_none h12d, fun w hs => x_field h12b p5.ev (tcf20 w b5)⟩) hS ?_
    rw [h12c]
    obtain ⟨a112, ha⟩ : ∃ z9, a111.put (some 147) (.pointer (some ⟨b5, 20, none⟩)) = z9 := ⟨_, rfl⟩
    replace p5 := p5.put (d := 147) (x := .pointer (some ⟨b5, 20, none⟩)) (by decide)
    replace pq := pq.put (d := 147) (x := .pointer (some ⟨b5, 20, none⟩)) (by decide)
    replace t0 := t0.put (d := 147) (x := .pointer (some ⟨b5, 20, none⟩)) (by decide)
    replace t1 := t1.put (d := 147) (x := .pointer (some ⟨b5, 20, none⟩)) (by decide)
    replace t2 := t2.put (d := 147) (x := .pointer (some ⟨b5, 20, none⟩)) (by decide)
    replace t3 := t3.put (d := 147) (x := .pointer (some ⟨b5, 20, none⟩)) (by decide)
    replace t6 := t6.put (d := 147) (x := .pointer (some ⟨b5, 20, none⟩)) (by decide)
    replace t7 := t7.put (d := 147) (x := .pointer (some ⟨b5, 20, none⟩)) (by decide)
    replace t8 := t8.put (d := 147) (x := .pointer (some ⟨b5, 20, none⟩)) (by decide)
    replace t9 := t9.put (d := 147) (x := .pointer (some ⟨b5, 20, none⟩)) (by decide)
    replace t10 := t10.put (d := 147) (x := .pointer (some ⟨b5, 20, none⟩)) (by decide)
    replace t4 := t4.put (d := 147) (x := .pointer (some ⟨b5, 20, none⟩)) (by decide)
    replace t5 := t5.put (d := 147) (x := .pointer (some ⟨b5, 20, none⟩)) (by decide)
    have t12 : AtS (a111.put (some 147) (.pointer (some ⟨b5, 20, none⟩))) 147 (.pointer (some ⟨b5, 20, none⟩)) := AtS.new (by rw [n]; decide)
    replace hout := out_put (v := .pointer (some ⟨b5, 20, none⟩)) hout (show 135 ≤ 147 ∧ 147 < 135 + 14 by decide)
    replace n : (a111.put (some 147) (.pointer (some ⟨b5, 20, none⟩))).tmps.size = 175 := by rw [put_sz]; exact n
    replace hdf : (a111.put (some 147) (.pointer (some ⟨b5, 20, none⟩))).defers = a.defers := hdf
    rw [ha] at p5 pq t0 t1 t2 t3 t6 t7 t8 t9 t10 t4 t5 t12 hout n hdf ⊢
    clear ha
    refine wpAnyE_one (k := 11) (by kernel_rfl) ?_
    refine wpOp_wp i11 h11d (wp_append_row _ _ _ 26 h11b lo 23 (.slice none 0 0) 24 Tryz.underlying26 info_bytes rfl t7.ev ho2 t10.ev r2 (by intro u hu; simp at hu; subst hu; rfl) (by simp; omega) (by simp; omega) hlo ?_)
    intro u2 w14 hap
    rw [h11c]
    have hb5 := hS.1.upd hap.2.1 (fun hk => ho2.ne hS.1 (by decide) b5 (Option.mem_toList.1 hk) rfl)
    have hgg := hS.2.upd hap.2.1 (fun hk => ho2.ne hS.2 (by decide) g (Option.mem_toList.1 hk) rfl)
    replace hUP : ∀ wx, Upd [b5] wx w → wx.heap.size ≤ lo → Upd [b5] wx w14 := fun wx h1 h2 => (hUP wx h1 h2).trans hap.2.1 (fun k hk => .inr (by have := (ho2.ge (Option.mem_toList.1 hk)).1; omega))
    replace ho1 := ho1.upd hap.2.1 (fun k hk hm => ho2.apart ho1 (by decide) k (Option.mem_toList.1 hm) hk)
    replace ho2 := hap.1
    obtain ⟨A2, c4, e2⟩ := Own.formN (n := us2.length + 1) ho2 (by simp)
    subst e2
    replace hlo := Nat.le_trans hlo hap.2.1.size
    replace hS : Blk w14 b5 72 cs ∧ Blk w14 g 108 #[wv x, .slice Ay ny cy] := ⟨hb5, hgg⟩
    clear hap hb5 hgg
    refine ⟨fun _ => hS, ?_⟩
    obtain ⟨a113, ha⟩ : ∃ z9, a112.put (some 146) (.slice A2 (us2.length + 1) c4) = z9 := ⟨_, rfl⟩
    replace p5 := p5.put (d := 146) (x := .slice A2 (us2.length + 1) c4) (by decide)
    replace pq := pq.put (d := 146) (x := .slice A2 (us2.length + 1) c4) (by decide)
    replace t0 := t0.put (d := 146) (x := .slice A2 (us2.length + 1) c4) (by decide)
    replace t1 := t1.put (d := 146) (x := .slice A2 (us2.length + 1) c4) (by decide)
    replace t2 := t2.put (d := 146) (x := .slice A2 (us2.length + 1) c4) (by decide)
    replace t3 := t3.put (d := 146) (x := .slice A2 (us2.length + 1) c4) (by decide)
    replace t6 := t6.put (d := 146) (x := .slice A2 (us2.length + 1) c4) (by decide)
    replace t7 := t7.put (d := 146) (x := .slice A2 (us2.length + 1) c4) (by decide)
    replace t8 := t8.put (d := 146) (x := .slice A2 (us2.length + 1) c4) (by decide)
    replace t9 := t9.put (d := 146) (x := .slice A2 (us2.length + 1) c4) (by decide)
    replace t10 := t10.put (d := 146) (x := .slice A2 (us2.length + 1) c4) (by decide)
    replace t4 := t4.put (d := 146) (x := .slice A2 (us2.length + 1) c4) (by decide)
    replace t5 := t5.put (d := 146) (x := .slice A2 (us2.length + 1) c4) (by decide)
    replace t12 := t12.put (d := 146) (x := .slice A2 (us2.length + 1) c4) (by decide)
    have t11 : AtS (a112.put (some 146) (.slice A2 (us2.length + 1) c4)) 146 (.slice A2 (us2.length + 1) c4) := AtS.new (by rw [n]; decide)
    replace hout := out_put (v := .slice A2 (us2.length + 1) c4) hout (show 135 ≤ 146 ∧ 146 < 135 + 14 by decide)
    replace n : (a112.put (some 146) (.slice A2 (us2.length + 1) c4)).tmps.size = 175 := by rw [put_sz]; exact n
    replace hdf : (a112.put (some 146) (.slice A2 (us2.length + 1) c4)).defers = a.defers := hdf
    rw [ha] at p5 pq t0 t1 t2 t3 t6 t7 t8 t9 t10 t4 t5 t12 t11 hout n hdf ⊢
    clear ha
    refine wpAnyE_one (k := 13) (by kernel_rfl) ?_
    refine wpOp_skip i13 h13d (x_store h13b t12.ev t5.ev (sms_words _ b5 20 _ _ _ v1 (hS.1.at_ c1) (hS.1.frozen 20))) ?_
    rw [h13c]
    obtain ⟨wA, hw⟩ : ∃ x, w14.setCell ⟨b5, 20, none⟩ (.slice A1 (us1.length + 1) c3) = x := ⟨_, rfl⟩
    have hu : Upd [b5] w14 wA := by rw [← hw]; exact (Upd.refl _ _).setCell (by simp) _
    have hbA : Blk wA b5 72 (cs.setIfInBounds 20 (.slice A1 (us1.length + 1) c3)) := by rw [← hw]; exact hS.1.set_ 20 _
    have n1 := ho1.ne hS.1 (by decide)
    have n2 := ho2.ne hS.1 (by decide)
    replace ho1 := ho1.upd hu (fun k hk hm => by have := n1 k hk; simp at hm; exact this hm)
    replace ho2 := ho2.upd hu (fun k hk hm => by have := n2 k hk; simp at hm; exact this hm)
    replace hUP : ∀ wx, Upd [b5] wx w → wx.heap.size ≤ lo → Upd [b5] wx wA := fun wx h1 h2 => (hUP wx h1 h2).trans hu (by simp)
    rw [hw]
    clear hw hu
    show _ ∧ wpAnyE _ _ _ _ _ _ _ _ a113 wA
    refine ⟨fun h => absurd h (by decide), ?_⟩
    refine wpAnyE_one (k := 14) (by kernel_rfl) ?_
    refine wpOp_val i14 h14d (x_field h14b p5.ev (tcf21 wA b5)) ?_
    rw [h14c]
    refine ⟨fun h => absurd h (by decide), ?_⟩
    obtain ⟨a114, ha⟩ : ∃ z9, a113.put (some 148) (.pointer (some ⟨b5, 21, none⟩)) = z9 := ⟨_, rfl⟩
    replace p5 := p5.put (d := 148) (x := .pointer (some ⟨b5, 21, none⟩)) (by decide)
    replace pq := pq.put (d := 148) (x := .pointer (some ⟨b5, 21, none⟩)) (by decide)
    replace t0 := t0.put (d := 148) (x := .pointer (some ⟨b5, 21, none⟩)) (by decide)
    replace t1 := t1.put (d := 148) (x := .pointer (some ⟨b5, 21, none⟩)) (by decide)
    replace t2 := t2.put (d := 148) (x := .pointer (some ⟨b5, 21, none⟩)) (by decide)
    replace t3 := t3.put (d := 148) (x := .pointer (some ⟨b5, 21, none⟩)) (by decide)
    replace t6 := t6.put (d := 148) (x := .pointer (some ⟨b5, 21, none⟩)) (by decide)
    replace t7 := t7.put (d := 148) (x := .pointer (some ⟨b5, 21, none⟩)) (by decide)
    replace t8 := t8.put (d := 148) (x := .pointer (some ⟨b5, 21, none⟩)) (by decide)
    replace t9 := t9.put (d := 148) (x := .pointer (some ⟨b5, 21, none⟩)) (by decide)
    replace t10 := t10.put (d := 148) (x := .pointer (some ⟨b5, 21, none⟩)) (by decide)
    replace t4 := t4.put (d := 148) (x := .pointer (some ⟨b5, 21, none⟩)) (by decide)
    replace t5 := t5.put (d := 148) (x := .pointer (some ⟨b5, 21, none⟩)) (by decide)
    replace t12 := t12.put (d := 148) (x := .pointer (some ⟨b5, 21, none⟩)) (by decide)
    replace t11 := t11.put (d := 148) (x := .pointer (some ⟨b5, 21, none⟩)) (by decide)
    have t14 : AtS (a113.put (some 148) (.pointer (some ⟨b5, 21, none⟩))) 148 (.pointer (some ⟨b5, 21, none⟩)) := AtS.new (by rw [n]; decide)
    replace hout := out_put (v := .pointer (some ⟨b5, 21, none⟩)) hout (show 135 ≤ 148 ∧ 148 < 135 + 14 by decide)
    replace n : (a113.put (some 148) (.pointer (some ⟨b5, 21, none⟩))).tmps.size = 175 := by rw [put_sz]; exact n
    replace hdf : (a113.put (some 148) (.pointer (some ⟨b5, 21, none⟩))).defers = a.defers := hdf
    rw [ha] at p5 pq t0 t1 t2 t3 t6 t7 t8 t9 t10 t4 t5 t12 t11 t14 hout n hdf ⊢
    clear ha
    have c2 : (cs.setIfInBounds 20 (.slice A1 (us1.length + 1) c3))[21]? = some v2 := by rw [Array.getElem?_setIfInBounds_ne (by decide)]; exact c2
    refine wpAnyE_one (k := 15) (by kernel_rfl) ?_
    refine wpOp_skip i15 h15d (x_store h15b t14.ev t11.ev (sms_lists _ b5 21 _ _ _ v2 (hbA.at_ c2) (hbA.frozen 21))) ?_
    rw [h15c]
    have hu : Upd [b5] wA (wA.setCell ⟨b5, 21, none⟩ (.slice A2 (us2.length + 1) c4)) := (Upd.refl _ _).setCell (by simp) _
    refine ⟨fun h => absurd h (by decide), ?_⟩
    refine wpAnyE_done (by kernel_rfl) ?_ _
    exact hK _ _ _ _ n hdf hout (hbA.set_ 21 _) (ho1.upd hu (fun k hk hm => by have := n1 k hk; simp at hm; exact this hm)) (ho2.upd hu (fun k hk hm => by have := n2 k hk; simp at hm; exact this hm)) (fun wx h1 h2 => (hUP wx h1 h2).trans hu (by simp))
noncomputable def pr2L : List Oper := regOf 13 unCh
set_option maxHeartbeats 4000000 in
theorem pr2_Ch {K : Act → World → Prop} {a : Act} {w : World} {b5 g lo : Nat} {cs : Array Value} {v1 v2 : Value} {us1 us2 : List Value} {x : UInt32} {Ay : Option Addr} {ny cy : Nat}
    (n : a.tmps.size = 175) (p5 : AtS a 5 (.pointer (some ⟨b5, 0, none⟩))) (pq : AtS a 9 (.pointer (some ⟨g, 0, none⟩))) (hb : Blk w b5 72 cs) (hg : Blk w g 110 #[.slice Ay ny cy, uv x]) (c1 : cs[24]? = some v1) (c2 : cs[25]? = some v2)
    (ho1 : Own w lo 23 v1 us1) (ho2 : Own w lo 97 v2 us2) (hl1 : us1.length + 1 ≤ 1099511627776) (hl2 : us2.length + 1 ≤ 1099511627776) (hlo : lo ≤ w.heap.size)
    (hK : ∀ (a' : Act) (w' : World) (v1' v2' : Value), a'.tmps.size = 175 → a'.defers = a.defers → (∀ i, i < 159 ∨ 159 + 14 ≤ i → a'.tmps[i]? = a.tmps[i]?) → Blk w' b5 72 ((cs.setIfInBounds 24 v1').setIfInBounds 25 v2') → Own w' lo 23 v1' (us1 ++ [.slice Ay ny cy]) → Own w' lo 97 v2' (us2 ++ [uv x]) →
      (∀ w0, Upd [b5] w0 w → w0.heap.size ≤ lo → Upd [b5] w0 w') → K a' w') : (Code.region 13 pr2L.toArray true).wp Tryz.prog (Exit.then K fun _ _ _ => False) a w := by
  obtain ⟨o0, h0a, h0b, h0c, h0d⟩ := OpIs.get (l := pr2L) (k := 0) (op := .fieldAddr 72 (.tmp 5) 24) (d := 159) (g := none) (.mk (by kernel_rfl))
  have i0 : pr2L.toArray[0]? = some o0 := by simpa using h0a
  obtain ⟨o1, h1a, h1b, h1c, h1d⟩ := OpIs.get (l := pr2L) (k := 1) (op := .load 26 (.tmp 159)) (d := 160) (g := none) (.mk (by kernel_rfl))
  have i1 : pr2L.toArray[1]? = some o1 := by simpa using h1a
  obtain ⟨o2, h2a, h2b, h2c, h2d⟩ := OpIs.get (l := pr2L) (k := 2) (op := .fieldAddr 110 (.tmp 9) 0) (d := 161) (g := none) (.mk (by kernel_rfl))
  have i2 : pr2L.toArray[2]? = some o2 := by simpa using h2a
  obtain ⟨o3, h3a, h3b, h3c, h3d⟩ := OpIs.get (l := pr2L) (k := 3) (op := .load 23 (.tmp 161)) (d := 162) (g := none) (.mk (by kernel_rfl))
  have i3 : pr2L.toArray[3]? = some o3 := by simpa using h3a
  obtain ⟨o4, h4a, h4b, h4c, h4d⟩ := OpIs.get (l := pr2L) (k := 4) (op := .buildSlice 26 1 #[(0, .tmp 162)]) (d := 163) (g := none) (.mk (by kernel_rfl))
  have i4 : pr2L.toArray[4]? = some o4 := by simpa using h4a
  obtain ⟨o5, h5a, h5b, h5c, h5d⟩ := OpIs.get (l := pr2L) (k := 5) (op := .call { callee := .builtin .append, args := #[.tmp 160, .tmp 163], argTypes := #[26, 26] }) (d := 164) (g := none) (.mk (by kernel_rfl))
  have i5 : pr2L.toArray[5]? = some o5 := by simpa using h5a
  obtain ⟨o6, h6a, h6b, h6c, h6d⟩ := OpIs.get (l := pr2L) (k := 6) (op := .fieldAddr 72 (.tmp 5) 25) (d := 165) (g := none) (.mk (by kernel_rfl))
  have i6 : pr2L.toArray[6]? = some o6 := by simpa using h6a
  obtain ⟨o7, h7a, h7b, h7c, h7d⟩ := OpIs.get (l := pr2L) (k := 7) (op := .load 27 (.tmp 165)) (d := 166) (g := none) (.mk (by kernel_rfl))
  have i7 : pr2L.toArray[7]? = some o7 := by simpa using h7a
  obtain ⟨o8, h8a, h8b, h8c, h8d⟩ := OpIs.get (l := pr2L) (k := 8) (op := .fieldAddr 110 (.tmp 9) 1) (d := 167) (g := none) (.mk (by kernel_rfl))
  have i8 : pr2L.toArray[8]? = some o8 := by simpa using h8a
  obtain ⟨o9, h9a, h9b, h9c, h9d⟩ := OpIs.get (l := pr2L) (k := 9) (op := .load 97 (.tmp 167)) (d := 168) (g := none) (.mk (by kernel_rfl))
  have i9 : pr2L.toArray[9]? = some o9 := by simpa using h9a
  obtain ⟨o10, h10a, h10b, h10c, h10d⟩ := OpIs.get (l := pr2L) (k := 10) (op := .buildSlice 27 1 #[(0, .tmp 168)]) (d := 169) (g := none) (.mk (by kernel_rfl))
  have i10 : pr2L.toArray[10]? = some o10 := by simpa using h10a
  obtain ⟨o11, h11a, h11b, h11c, h11d⟩ := OpIs.get (l := pr2L) (k := 11) (op := .call { callee := .builtin .append, args := #[.tmp 166, .tmp 169], argTypes := #[27, 27] }) (d := 170) (g := none) (.mk (by kernel_rfl))
  have i11 : pr2L.toArray[11]? = some o11 := by simpa using h11a
  obtain ⟨o12, h12a, h12b, h12c, h12d⟩ := OpIs.get (l := pr2L) (k := 12) (op := .fieldAddr 72 (.tmp 5) 24) (d := 171) (g := none) (.mk (by kernel_rfl))
  have i12 : pr2L.toArray[12]? = some o12 := by simpa using h12a
  obtain ⟨o14, h14a, h14b, h14c, h14d⟩ := OpIs.get (l := pr2L) (k := 14) (op := .fieldAddr 72 (.tmp 5) 25) (d := 172) (g := none) (.mk (by kernel_rfl))
  have i14 : pr2L.toArray[14]? = some o14 := by simpa using h14a
  obtain ⟨o13, i13, h13b, h13c, h13d⟩ : ∃ o : Oper, pr2L.toArray[13]? = some o ∧ o.op = .store 26 (.tmp 171) (.tmp 164) ∧ o.dst = none ∧ o.guard = none := by
    have h : (pr2L[13]?).map (fun o => (o.op, o.dst, o.guard)) = some (.store 26 (.tmp 171) (.tmp 164), none, none) := by kernel_rfl
    cases hk : pr2L[13]? with
    | none => rw [hk] at h; cases h
    | some o =>
      rw [hk] at h
      injection h with h
      injection h with h1 h
      injection h with h2 h3
      exact ⟨o, by simpa using hk, h1, h2, h3⟩
  obtain ⟨o15, i15, h15b, h15c, h15d⟩ : ∃ o : Oper, pr2L.toArray[15]? = some o ∧ o.op = .store 27 (.tmp 172) (.tmp 170) ∧ o.dst = none ∧ o.guard = none := by
    have h : (pr2L[15]?).map (fun o => (o.op, o.dst, o.guard)) = some (.store 27 (.tmp 172) (.tmp 170), none, none) := by kernel_rfl
    cases hk : pr2L[15]? with
    | none => rw [hk] at h; cases h
    | some o =>
      rw [hk] at h
      injection h with h
      injection h with h1 h
      injection h with h2 h3
      exact ⟨o, by simpa using hk, h1, h2, h3⟩
  have hsel : Region.noSelect pr2L.toArray = true := by kernel_rfl
  have hPQ : ∀ c (a : Act) (d : Option Tmp) (v : Value) w, Exit.then K (fun _ _ _ => False) (.panic c) (a.put d v) w → Exit.then K (fun _ _ _ => False) (.panic c) a w := fun _ _ _ _ _ h => h
  refine wp_region_E (S := fun u => Blk u b5 72 cs ∧ Blk u g 110 #[.slice Ay ny cy, uv x]) (E := fun j => j == 13 || j == 14 || j == 15) (by kernel_rfl) ?_
  change wpAnyE _ _ _ _ _ _ _ _ _ (World.drew _)
  obtain ⟨w0, hw0⟩ : ∃ x, World.drew w = x := ⟨_, rfl⟩
  rw [hw0]
  have hu0 : Upd [] w w0 := by rw [← hw0]; exact (Upd.refl _ _).drew
  have hS : Blk w0 b5 72 cs ∧ Blk w0 g 110 #[.slice Ay ny cy, uv x] := ⟨hb.upd hu0 (by simp), hg.upd hu0 (by simp)⟩
  replace ho1 := ho1.upd hu0 (by simp)
  replace ho2 := ho2.upd hu0 (by simp)
  have hUP : ∀ wx, Upd [b5] wx w → wx.heap.size ≤ lo → Upd [b5] wx w0 := fun wx h _ => h.trans hu0 (by simp)
  replace hlo : lo ≤ w0.heap.size := Nat.le_trans hlo hu0.size
  clear hw0 hu0 hb hg
  rw [show pr2L.toArray.size = 16 by kernel_rfl]
  obtain ⟨a100, ha⟩ : ∃ x, a = x := ⟨_, rfl⟩
  have hout : ∀ i, i < 159 ∨ 159 + 14 ≤ i → a100.tmps[i]? = a.tmps[i]? := fun _ _ => by rw [ha]
  have hdf : a100.defers = a.defers := by rw [ha]
  show wpAnyE _ _ _ _ _ _ _ _ a _
  rw [ha] at p5 pq n ⊢
  clear ha
  refine wpAnyE_take (i := 0) (oi := o0) (v := .pointer (some ⟨b5, 24, none⟩)) i0 hsel (by kernel_rfl) (by kernel_rfl) (by kernel_rfl) (by kernel_rfl) (fun c a w => hPQ c a _ _ w) (.inl ⟨wanted_none h0d, fun w hs => x_field h0b p5.ev (tcf24 w b5)⟩) hS ?_
  rw [h0c]
  obtain ⟨a101, ha⟩ : ∃ z9, a100.put (some 159) (.pointer (some ⟨b5, 24, none⟩)) = z9 := ⟨_, rfl⟩
  replace p5 := p5.put (d := 159) (x := .pointer (some ⟨b5, 24, none⟩)) (by decide)
  replace pq := pq.put (d := 159) (x := .pointer (some ⟨b5, 24, none⟩)) (by decide)
  have t0 : AtS (a100.put (some 159) (.pointer (some ⟨b5, 24, none⟩))) 159 (.pointer (some ⟨b5, 24, none⟩)) := AtS.new (by rw [n]; decide)
  replace hout := out_put (v := .pointer (some ⟨b5, 24, none⟩)) hout (show 159 ≤ 159 ∧ 159 < 159 + 14 by decide)
  replace n : (a100.put (some 159) (.pointer (some ⟨b5, 24, none⟩))).tmps.size = 175 := by rw [put_sz]; exact n
  replace hdf : (a100.put (some 159) (.pointer (some ⟨b5, 24, none⟩))).defers = a.defers := hdf
  rw [ha] at p5 pq t0 hout n hdf ⊢
  clear ha
  refine wpAnyE_take (i := 1) (oi := o1) (v := v1) i1 hsel (by kernel_rfl) (by kernel_rfl) (by kernel_rfl) (by kernel_rfl) (fun c a w => hPQ c a _ _ w) (.inl ⟨wanted_none h1d, fun w hs => x_load h1b t0.ev (sml_lists w b5 24 v1 (hs.1.at_ c1))⟩) hS ?_
  rw [h1c]
  obtain ⟨a102, ha⟩ : ∃ z9, a101.put (some 160) (v1) = z9 := ⟨_, rfl⟩
  replace p5 := p5.put (d := 160) (x := v1) (by decide)
  replace pq := pq.put (d := 160) (x := v1) (by decide)
  replace t0 := t0.put (d := 160) (x := v1) (by decide)
  have t1 : AtS (a101.put (some 160) (v1)) 160 (v1) := AtS.new (by rw [n]; decide)
  replace hout := out_put (v := v1) hout (show 159 ≤ 160 ∧ 160 < 159 + 14 by decide)
  replace n : (a101.put (some 160) (v1)).tmps.size = 175 := by rw [put_sz]; exact n
  replace hdf : (a101.put (some 160) (v1)).defers = a.defers := hdf
  rw [ha] at p5 pq t0 t1 hout n hdf ⊢
  clear ha
  refine wpAnyE_take (i := 2) (oi := o2) (v := .pointer (some ⟨g, 0, none⟩)) i2 hsel (by kernel_rfl) (by kernel_rfl) (by kernel_rfl) (by kernel_rfl) (fun c a w => hPQ c a _ _ w) (.inl ⟨wanted_none h2d, fun w hs => x_field h2b pq.ev (pif0 w g)⟩) hS ?_
  rw [h2c]
  obtain ⟨a103, ha⟩ : ∃ z9, a102.put (some 161) (.pointer (some ⟨g, 0, none⟩)) = z9 := ⟨_, rfl⟩
  replace p5 := p5.put (d := 161) (x := .pointer (some ⟨g, 0, none⟩)) (by decide)
  replace pq := pq.put (d := 161) (x := .pointer (some ⟨g, 0, none⟩)) (by decide)
  replace t0 := t0.put (d := 161) (x := .pointer (some ⟨g, 0, none⟩)) (by decide)
  replace t1 := t1.put (d := 161) (x := .pointer (some ⟨g, 0, none⟩)) (by decide)
  have t2 : AtS (a102.put (some 161) (.pointer (some ⟨g, 0, none⟩))) 161 (.pointer (some ⟨g, 0, none⟩)) := AtS.new (by rw [n]; decide)
  replace hout := out_put (v := .pointer (some ⟨g, 0, none⟩)) hout (show 159 ≤ 161 ∧ 161 < 159 + 14 by decide)
  replace n : (a102.put (some 161) (.pointer (some ⟨g, 0, none⟩))).tmps.size = 175 := by rw [put_sz]; exact n
  replace hdf : (a102.put (some 161) (.pointer (some ⟨g, 0, none⟩))).defers = a.defers := hdf
  rw [ha] at p5 pq t0 t1 t2 hout n hdf ⊢
  clear ha
  refine wpAnyE_take (i := 3) (oi := o3) (v := .slice Ay ny cy) i3 hsel (by kernel_rfl) (by kernel_rfl) (by kernel_rfl) (by kernel_rfl) (fun c a w => hPQ c a _ _ w) (.inl ⟨wanted_none h3d, fun w hs => x_load h3b t2.ev (sml_bytes w g 0 _ (hs.2.at_ rfl))⟩) hS ?_
  rw [h3c]
  obtain ⟨a104, ha⟩ : ∃ z9, a103.put (some 162) (.slice Ay ny cy) = z9 := ⟨_, rfl⟩
  replace p5 := p5.put (d := 162) (x := .slice Ay ny cy) (by decide)
  replace pq := pq.put (d := 162) (x := .slice Ay ny cy) (by decide)
  replace t0 := t0.put (d := 162) (x := .slice Ay ny cy) (by decide)
  replace t1 := t1.put (d := 162) (x := .slice Ay ny cy) (by decide)
  replace t2 := t2.put (d := 162) (x := .slice Ay ny cy) (by decide)
  have t3 : AtS (a103.put (some 162) (.slice Ay ny cy)) 162 (.slice Ay ny cy) := AtS.new (by rw [n]; decide)
  replace hout := out_put (v := .slice Ay ny cy) hout (show 159 ≤ 162 ∧ 162 < 159 + 14 by decide)
  replace n : (a103.put (some 162) (.slice Ay ny cy)).tmps.size = 175 := by rw [put_sz]; exact n
  replace hdf : (a103.put (some 162) (.slice Ay ny cy)).defers = a.defers := hdf
  rw [ha] at p5 pq t0 t1 t2 t3 hout n hdf ⊢
  clear ha
  refine wpAnyE_take (i := 6) (oi := o6) (v := .pointer (some ⟨b5, 25, none⟩)) i6 hsel (by kernel_rfl) (by kernel_rfl) (by kernel_rfl) (by kernel_rfl) (fun c a w => hPQ c a _ _ w) (.inl ⟨wanted_none h6d, fun w hs => x_field h6b p5.ev (tcf25 w b5)⟩) hS ?_
  rw [h6c]
  obtain ⟨a105, ha⟩ : ∃ z9, a104.put (some 165) (.pointer (some ⟨b5, 25, none⟩)) = z9 := ⟨_, rfl⟩
  replace p5 := p5.put (d := 165) (x := .pointer (some ⟨b5, 25, none⟩)) (by decide)
  replace pq := pq.put (d := 165) (x := .pointer (some ⟨b5, 25, none⟩)) (by decide)
  replace t0 := t0.put (d := 165) (x := .pointer (some ⟨b5, 25, none⟩)) (by decide)
  replace t1 := t1.put (d := 165) (x := .pointer (some ⟨b5, 25, none⟩)) (by decide)
  replace t2 := t2.put (d := 165) (x := .pointer (some ⟨b5, 25, none⟩)) (by decide)
  replace t3 := t3.put (d := 165) (x := .pointer (some ⟨b5, 25, none⟩)) (by decide)
  have t6 : AtS (a104.put (some 165) (.pointer (some ⟨b5, 25, none⟩))) 165 (.pointer (some ⟨b5, 25, none⟩)) := AtS.new (by rw [n]; decide)
  replace hout := out_put (v := .pointer (some ⟨b5, 25, none⟩)) hout (show 159 ≤ 165 ∧ 165 < 159 + 14 by decide)
  replace n : (a104.put (some 165) (.pointer (some ⟨b5, 25, none⟩))).tmps.size = 175 := by rw [put_sz]; exact n
  replace hdf : (a104.put (some 165) (.pointer (some ⟨b5, 25, none⟩))).defers = a.defers := hdf
  rw [ha] at p5 pq t0 t1 t2 t3 t6 hout n hdf ⊢
  clear ha
  refine wpAnyE_take (i := 7) (oi := o7) (v := v2) i7 hsel (by kernel_rfl) (by kernel_rfl) (by kernel_rfl) (by kernel_rfl) (fun c a w => hPQ c a _ _ w) (.inl ⟨wanted_none h7d, fun w hs => x_load h7b t6.ev (sml_u32s w b5 25 v2 (hs.1.at_ c2))⟩) hS ?_
  rw [h7c]
  obtain ⟨a106, ha⟩ : ∃ z9, a105.put (some 166) (v2) = z9 := ⟨_, rfl⟩
  replace p5 := p5.put (d := 166) (x := v2) (by decide)
  replace pq := pq.put (d := 166) (x := v2) (by decide)
  replace t0 := t0.put (d := 166) (x := v2) (by decide)
  replace t1 := t1.put (d := 166) (x := v2) (by decide)
  replace t2 := t2.put (d := 166) (x := v2) (by decide)
  replace t3 := t3.put (d := 166) (x := v2) (by decide)
  replace t6 := t6.put (d := 166) (x := v2) (by decide)
  have t7 : AtS (a105.put (some 166) (v2)) 166 (v2) := AtS.new (by rw [n]; decide)
  replace hout := out_put (v := v2) hout (show 159 ≤ 166 ∧ 166 < 159 + 14 by decide)
  replace n : (a105.put (some 166) (v2)).tmps.size = 175 := by rw [put_sz]; exact n
  replace hdf : (a105.put (some 166) (v2)).defers = a.defers := hdf
  rw [ha] at p5 pq t0 t1 t2 t3 t6 t7 hout n hdf ⊢
  clear ha
  refine wpAnyE_take (i := 8) (oi := o8) (v := .pointer (some ⟨g, 1, none⟩)) i8 hsel (by kernel_rfl) (by kernel_rfl) (by kernel_rfl) (by kernel_rfl) (fun c a w => hPQ c a _ _ w) (.inl ⟨wanted_none h8d, fun w hs => x_field h8b pq.ev (pif1 w g)⟩) hS ?_
  rw [h8c]
  obtain ⟨a107, ha⟩ : ∃ z9, a106.put (some 167) (.pointer (some ⟨g, 1, none⟩)) = z9 := ⟨_, rfl⟩
  replace p5 := p5.put (d := 167) (x := .pointer (some ⟨g, 1, none⟩)) (by decide)
  replace pq := pq.put (d := 167) (x := .pointer (some ⟨g, 1, none⟩)) (by decide)
  replace t0 := t0.put (d := 167) (x := .pointer (some ⟨g, 1, none⟩)) (by decide)
  replace t1 := t1.put (d := 167) (x := .pointer (some ⟨g, 1, none⟩)) (by decide)
  replace t2 := t2.put (d := 167) (x := .pointer (some ⟨g, 1, none⟩)) (by decide)
  replace t3 := t3.put (d := 167) (x := .pointer (some ⟨g, 1, none⟩)) (by decide)
  replace t6 := t6.put (d := 167) (x := .pointer (some ⟨g, 1, none⟩)) (by decide)
  replace t7 := t7.put (d := 167) (x := .pointer (some ⟨g, 1, none⟩)) (by decide)
  have t8 : AtS (a106.put (some 167) (.pointer (some ⟨g, 1, none⟩))) 167 (.pointer (some ⟨g, 1, none⟩)) := AtS.new (by rw [n]; decide)
  replace hout := out_put (v := .pointer (some ⟨g, 1, none⟩)) hout (show 159 ≤ 167 ∧ 167 < 159 + 14 by decide)
  replace n : (a106.put (some 167) (.pointer (some ⟨g, 1, none⟩))).tmps.size = 175 := by rw [put_sz]; exact n
  replace hdf : (a106.put (some 167) (.pointer (some ⟨g, 1, none⟩))).defers = a.defers := hdf
  rw [ha] at p5 pq t0 t1 t2 t3 t6 t7 t8 hout n hdf ⊢
  clear ha
  refine wpAnyE_take (i := 9) (oi := o9) (v := uv x) i9 hsel (by kernel_rfl) (by kernel_rfl) (by kernel_rfl) (by kernel_rfl) (fun c a w => hPQ c a _ _ w) (.inl ⟨wanted_none h9d, fun w hs => x_load h9b t8.ev (sml_u32 w g 1 _ (hs.2.at_ rfl))⟩) hS ?_
  rw [h9c]
  obtain ⟨a108, ha⟩ : ∃ z9, a107.put (some 168) (uv x) = z9 := ⟨_, rfl⟩
  replace p5 := p5.put (d := 168) (x := uv x) (by decide)
  replace pq := pq.put (d := 168) (x := uv x) (by decide)
  replace t0 := t0.put (d := 168) (x := uv x) (by decide)
  replace t1 := t1.put (d := 168) (x := uv x) (by decide)
  replace t2 := t2.put (d := 168) (x := uv x) (by decide)
  replace t3 := t3.put (d := 168) (x := uv x) (by decide)
  replace t6 := t6.put (d := 168) (x := uv x) (by decide)
  replace t7 := t7.put (d := 168) (x := uv x) (by decide)
  replace t8 := t8.put (d := 168) (x := uv x) (by decide)
  have t9 : AtS (a107.put (some 168) (uv x)) 168 (uv x) := AtS.new (by rw [n]; decide)
  replace hout := out_put (v := uv x) hout (show 159 ≤ 168 ∧ 168 < 159 + 14 by decide)
  replace n : (a107.put (some 168) (uv x)).tmps.size = 175 := by rw [put_sz]; exact n
  replace hdf : (a107.put (some 168) (uv x)).defers = a.defers := hdf
  rw [ha] at p5 pq t0 t1 t2 t3 t6 t7 t8 t9 hout n hdf ⊢
  clear ha
  refine wpAnyE_all (rs := [4, 10]) (by kernel_rfl) (by simp) (fun i hi => ?_)
  obtain rfl | rfl : i = 4 ∨ i = 10 := by simpa using hi
  · refine wpOp_val i4 h4d (x_bs h4b t3.ev (smb_lists _ _ _ _)) ?_
    rw [h4c]
    obtain ⟨k1, hk1⟩ : ∃ x, w0.heap.size = x := ⟨_, rfl⟩
    have r1 := Row.one w0 23 (.slice Ay ny cy)
    obtain ⟨w11, hw⟩ : ∃ z9, w0.alloc (.cells #[.slice Ay ny cy] 23) = z9 := ⟨_, rfl⟩
    have hu : Upd [] w0 w11 := by rw [← hw]; exact (Upd.refl _ _).alloc _
    rw [hw, hk1] at r1
    rw [hw, hk1]
    replace hS : Blk w11 b5 72 cs ∧ Blk w11 g 110 #[.slice Ay ny cy, uv x] := ⟨hS.1.upd hu (by simp), hS.2.upd hu (by simp)⟩
    replace ho1 := ho1.upd hu (by simp)
    replace ho2 := ho2.upd hu (by simp)
    replace hlo := Nat.le_trans hlo hu.size
    replace hUP : ∀ wx, Upd [b5] wx w → wx.heap.size ≤ lo → Upd [b5] wx w11 := fun wx h1 h2 => (hUP wx h1 h2).trans hu (by simp)
    clear hu hw hk1
    refine ⟨fun _ => hS, ?_⟩
    obtain ⟨a109, ha⟩ : ∃ z9, a108.put (some 163) (.slice (some ⟨k1, 0, none⟩) 1 1) = z9 := ⟨_, rfl⟩
    replace p5 := p5.put (d := 163) (x := .slice (some ⟨k1, 0, none⟩) 1 1) (by decide)
    replace pq := pq.put (d := 163) (x := .slice (some ⟨k1, 0, none⟩) 1 1) (by decide)
    replace t0 := t0.put (d := 163) (x := .slice (some ⟨k1, 0, none⟩) 1 1) (by decide)
    replace t1 := t1.put (d := 163) (x := .slice (some ⟨k1, 0, none⟩) 1 1) (by decide)
    replace t2 := t2.put (d := 163) (x := .slice (some ⟨k1, 0, none⟩) 1 1) (by decide)
    replace t3 := t3.put (d := 163) (x := .slice (some ⟨k1, 0, none⟩) 1 1) (by decide)
    replace t6 := t6.put (d := 163) (x := .slice (some ⟨k1, 0, none⟩) 1 1) (by decide)
    replace t7 := t7.put (d := 163) (x := .slice (some ⟨k1, 0, none⟩) 1 1) (by decide)
    replace t8 := t8.put (d := 163) (x := .slice (some ⟨k1, 0, none⟩) 1 1) (by decide)
    replace t9 := t9.put (d := 163) (x := .slice (some ⟨k1, 0, none⟩) 1 1) (by decide)
    have t4 : AtS (a108.put (some 163) (.slice (some ⟨k1, 0, none⟩) 1 1)) 163 (.slice (some ⟨k1, 0, none⟩) 1 1) := AtS.new (by rw [n]; decide)
    replace hout := out_put (v := .slice (some ⟨k1, 0, none⟩) 1 1) hout (show 159 ≤ 163 ∧ 163 < 159 + 14 by decide)
    replace n : (a108.put (some 163) (.slice (some ⟨k1, 0, none⟩) 1 1)).tmps.size = 175 := by rw [put_sz]; exact n
    replace hdf : (a108.put (some 163) (.slice (some ⟨k1, 0, none⟩) 1 1)).defers = a.defers := hdf
    rw [ha] at p5 pq t0 t1 t2 t3 t6 t7 t8 t9 t4 hout n hdf ⊢
    clear ha
    refine wpAnyE_all (rs := [5, 10]) (by kernel_rfl) (by simp) (fun i hi => ?_)
    obtain rfl | rfl : i = 5 ∨ i = 10 := by simpa using hi
    · refine wpOp_wp i5 h5d (wp_append_row _ _ _ 26 h5b lo 23 (.slice none 0 0) 24 Tryz.underlying26 info_bytes rfl t1.ev ho1 t4.ev r1 (by intro u hu; simp at hu; subst hu; rfl) (by simp; omega) (by simp; omega) hlo ?_)
      intro u1 w12 hap
      rw [h5c]
      have hb5 := hS.1.upd hap.2.1 (fun hk => ho1.ne hS.1 (by decide) b5 (Option.mem_toList.1 hk) rfl)
      have hgg := hS.2.upd hap.2.1 (fun hk => ho1.ne hS.2 (by decide) g (Option.mem_toList.1 hk) rfl)
      replace hUP : ∀ wx, Upd [b5] wx w → wx.heap.size ≤ lo → Upd [b5] wx w12 := fun wx h1 h2 => (hUP wx h1 h2).trans hap.2.1 (fun k hk => .inr (by have := (ho1.ge (Option.mem_toList.1 hk)).1; omega))
      replace ho2 := ho2.upd hap.2.1 (fun k hk hm => ho1.apart ho2 (by decide) k (Option.mem_toList.1 hm) hk)
      replace ho1 := hap.1
      obtain ⟨A1, c3, e1⟩ := Own.formN (n := us1.length + 1) ho1 (by simp)
      subst e1
      replace hlo := Nat.le_trans hlo hap.2.1.size
      replace hS : Blk w12 b5 72 cs ∧ Blk w12 g 110 #[.slice Ay ny cy, uv x] := ⟨hb5, hgg⟩
      clear hap hb5 hgg
      refine ⟨fun _ => hS, ?_⟩
      obtain ⟨a110, ha⟩ : ∃ z9, a109.put (some 164) (.slice A1 (us1.length + 1) c3) = z9 := ⟨_, rfl⟩
      replace p5 := p5.put (d := 164) (x := .slice A1 (us1.length + 1) c3) (by decide)
      replace pq := pq.put (d := 164) (x := .slice A1 (us1.length + 1) c3) (by decide)
      replace t0 := t0.put (d := 164) (x := .slice A1 (us1.length + 1) c3) (by decide)
      replace t1 := t1.put (d := 164) (x := .slice A1 (us1.length + 1) c3) (by decide)
      replace t2 := t2.put (d := 164) (x := .slice A1 (us1.length + 1) c3) (by decide)
      replace t3 := t3.put (d := 164) (x := .slice A1 (us1.length + 1) c3) (by decide)
      replace t6 := t6.put (d := 164) (x := .slice A1 (us1.length + 1) c3) (by decide)
      replace t7 := t7.put (d := 164) (x := .slice A1 (us1.length + 1) c3) (by decide)
      replace t8 := t8.put (d := 164) (x := .slice A1 (us1.length + 1) c3) (by decide)
      replace t9 := t9.put (d := 164) (x := .slice A1 (us1.length + 1) c3) (by decide)
      replace t4 := t4.put (d := 164) (x := .slice A1 (us1.length + 1) c3) (by decide)
      have t5 : AtS (a109.put (some 164) (.slice A1 (us1.length + 1) c3)) 164 (.slice A1 (us1.length + 1) c3) := AtS.new (by rw [n]; decide)
      replace hout := out_put (v := .slice A1 (us1.length + 1) c3) hout (show 159 ≤ 164 ∧ 164 < 159 + 14 by decide)
      replace n : (a109.put (some 164) (.slice A1 (us1.length + 1) c3)).tmps.size = 175 := by rw [put_sz]; exact n
      replace hdf : (a109.put (some 164) (.slice A1 (us1.length + 1) c3)).defers = a.defers := hdf
      rw [ha] at p5 pq t0 t1 t2 t3 t6 t7 t8 t9 t4 t5 hout n hdf ⊢
      clear ha
      refine wpAnyE_take (i := 12) (oi := o12) (v := .pointer (some ⟨b5, 24, none⟩)) i12 hsel (by kernel_rfl) (by kernel_rfl) (by kernel_rfl) (by kernel_rfl) (fun c a w => hPQ c a _ _ w) (.inl ⟨wanted_none h12d, fun w hs => x_field h12b p5.ev (tcf24 w b5)⟩) hS ?_
      rw [h12c]
      obtain ⟨a111, ha⟩ : ∃ z9, a110.put (some 171) (.pointer (some ⟨b5, 24, none⟩)) = z9 := ⟨_, rfl⟩
      replace p5 := p5.put (d := 171) (x := .pointer (some ⟨b5, 24, none⟩)) (by decide)
      replace pq := pq.put (d := 171) (x := .pointer (some ⟨b5, 24, none⟩)) (by decide)
      replace t0 := t0.put (d := 171) (x := .pointer (some ⟨b5, 24, none⟩)) (by decide)
      replace t1 := t1.put (d := 171) (x := .pointer (some ⟨b5, 24, none⟩)) (by decide)
      replace t2 := t2.put (d := 171) (x := .pointer (some ⟨b5, 24, none⟩)) (by decide)
      replace t3 := t3.put (d := 171) (x := .pointer (some ⟨b5, 24, none⟩)) (by decide)
      replace t6 := t6.put (d := 171) (x := .pointer (some ⟨b5, 24, none⟩)) (by decide)
      replace t7 := t7.put (d := 171) (x := .pointer (some ⟨b5, 24, none⟩)) (by decide)
      replace t8 := t8.put (d := 171) (x := .pointer (some ⟨b5, 24, none⟩)) (by decide)
      replace t9 := t9.put (d := 171) (x := .pointer (some ⟨b5, 24, none⟩)) (by decide)
      replace t4 := t4.put (d := 171) (x := .pointer (some ⟨b5, 24, none⟩)) (by decide)
      replace t5 := t5.put (d := 171) (x := .pointer (some ⟨b5, 24, none⟩)) (by decide)
      have t12 : AtS (a110.put (some 171) (.pointer (some ⟨b5, 24, none⟩))) 171 (.pointer (some ⟨b5, 24, none⟩)) := AtS.new (by rw [n]; decide)
      replace hout := out_put (v := .pointer (some ⟨b5, 24, none⟩)) hout (show 159 ≤ 171 ∧ 171 < 159 + 14 by decide)
      replace n : (a110.put (some 171) (.pointer (some ⟨b5, 24, none⟩))).tmps.size = 175 := by rw [put_sz]; exact n
      replace hdf : (a110.put (some 171) (.pointer (some ⟨b5, 24, none⟩))).defers = a.defers := hdf
      rw [ha] at p5 pq t0 t1 t2 t3 t6 t7 t8 t9 t4 t5 t12 hout n hdf ⊢
      clear ha
      refine wpAnyE_one (k := 10) (by kernel_rfl) ?_
      refine wpOp_val i10 h10d (x_bs h10b t9.ev (smb_u32s _ _)) ?_
      rw [h10c]
      obtain ⟨k2, hk2⟩ : ∃ x, w12.heap.size = x := ⟨_, rfl⟩
      have r2 := Row.one w12 97 (uv x)
      obtain ⟨w13, hw⟩ : ∃ z9, w12.alloc (.cells #[uv x] 97) = z9 := ⟨_, rfl⟩
      have hu : Upd [] w12 w13 := by rw [← hw]; exact (Upd.refl _ _).alloc _
      rw [hw, hk2] at r2
      rw [hw, hk2]
      replace hS : Blk w13 b5 72 cs ∧ Blk w13 g 110 #[.slice Ay ny cy, uv x] := ⟨hS.1.upd hu (by simp), hS.2.upd hu (by simp)⟩
      replace ho1 := ho1.upd hu (by simp)
      replace ho2 := ho2.upd hu (by simp)
      replace hlo := Nat.le_trans hlo hu.size
      replace hUP : ∀ wx, Upd [b5] wx w → wx.heap.size ≤ lo → Upd [b5] wx w13 := fun wx h1 h2 => (hUP wx h1 h2).trans hu (by simp)
      clear hu hw hk2
      refine ⟨fun _ => hS, ?_⟩
      obtain ⟨a112, ha⟩ : ∃ z9, a111.put (some 169) (.slice (some ⟨k2, 0, none⟩) 1 1) = z9 := ⟨_, rfl⟩
      replace p5 := p5.put (d := 169) (x := .slice (some ⟨k2, 0, none⟩) 1 1) (by decide)
      replace pq := pq.put (d := 169) (x := .slice (some ⟨k2, 0, none⟩) 1 1) (by decide)
      replace t0 := t0.put (d := 169) (x := .slice (some ⟨k2, 0, none⟩) 1 1) (by decide)
      replace t1 := t1.put (d := 169) (x := .slice (some ⟨k2, 0, none⟩) 1 1) (by decide)
      replace t2 := t2.put (d := 169) (x := .slice (some ⟨k2, 0, none⟩) 1 1) (by decide)
      replace t3 := t3.put (d := 169) (x := .slice (some ⟨k2, 0, none⟩) 1 1) (by decide)
      replace t6 := t6.put (d := 169) (x := .slice (some ⟨k2, 0, none⟩) 1 1) (by decide)
      replace t7 := t7.put (d := 169) (x := .slice (some ⟨k2, 0, none⟩) 1 1) (by decide)
      replace t8 := t8.put (d := 169) (x := .slice (some ⟨k2, 0, none⟩) 1 1) (by decide)
      replace t9 := t9.put (d := 169) (x := .slice (some ⟨k2, 0, none⟩) 1 1) (by decide)
      replace t4 := t4.put (d := 169) (x := .slice (some ⟨k2, 0, none⟩) 1 1) (by decide)
      replace t5 := t5.put (d := 169) (x := .slice (some ⟨k2, 0, none⟩) 1 1) (by decide)
      replace t12 := t12.put (d := 169) (x := .slice (some ⟨k2, 0, none⟩) 1 1) (by decide)
      have t10 : AtS (a111.put (some 169) (.slice (some ⟨k2, 0, none⟩) 1 1)) 169 (.slice (some ⟨k2, 0, none⟩) 1 1) := AtS.new (by rw [n]; decide)
      replace hout := out_put (v := .slice (some ⟨k2, 0, none⟩) 1 1) hout (show 159 ≤ 169 ∧ 169 < 159 + 14 by decide)
      replace n : (a111.put (some 169) (.slice (some ⟨k2, 0, none⟩) 1 1)).tmps.size = 175 := by rw [put_sz]; exact n
      replace hdf : (a111.put (some 169) (.slice (some ⟨k2, 0, none⟩) 1 1)).defers = a.defers := hdf
      rw [ha] at p5 pq t0 t1 t2 t3 t6 t7 t8 t9 t4 t5 t12 t10 hout n hdf ⊢
      clear ha
      refine wpAnyE_one (k := 11) (by kernel_rfl) ?_
      refine wpOp_wp i11 h11d (wp_append_row _ _ _ 27 h11b lo 97 (.int .u32 0) 4 Tryz.underlying27 (by kernel_rfl) rfl t7.ev ho2 t10.ev r2 (by intro u hu; simp at hu; subst hu; rfl) (by simp; omega) (by simp; omega) hlo ?_)
      intro u2 w14 hap
      rw [h11c]
      have hb5 := hS.1.upd hap.2.1 (fun hk => ho2.ne hS.1 (by decide) b5 (Option.mem_toList.1 hk) rfl)
      have hgg := hS.2.upd hap.2.1 (fun hk => ho2.ne hS.2 (by decide) g (Option.mem_toList.1 hk) rfl)
      replace hUP : ∀ wx, Upd [b5] wx w → wx.heap.size ≤ lo → Upd [b5] wx w14 := fun wx h1 h2 => (hUP wx h1 h2).trans hap.2.1 (fun k hk => .inr (by have := (ho2.ge (Option.mem_toList.1 hk)).1; omega))
      replace ho1 := ho1.upd hap.2.1 (fun k hk hm => ho2.apart ho1 (by decide) k (Option.mem_toList.1 hm) hk)
      replace ho2 := hap.1
      obtain ⟨A2, c4, e2⟩ := Own.formN (n := us2.length + 1) ho2 (by simp)
      subst e2
      replace hlo := Nat.le_trans hlo hap.2.1.size
      replace hS : Blk w14 b5 72 cs ∧ Blk w14 g 110 #[.slice Ay ny cy, uv x] := ⟨hb5, hgg⟩
      clear hap hb5 hgg
      refine ⟨fun _ => hS, ?_⟩
      obtain ⟨a113, ha⟩ : ∃ z9, a112.put (some 170) (.slice A2 (us2.length + 1) c4) = z9 := ⟨_, rfl⟩
      replace p5 := p5.put (d := 170) (x := .slice A2 (us2.length + 1) c4) (by decide)
      replace pq := pq.put (d := 170) (x := .slice A2 (us2.length + 1) c4) (by decide)
      replace t0 := t0.put (d := 170) (x := .slice A2 (us2.length + 1) c4) (by decide)
      replace t1 := t1.put (d := 170) (x := .slice A2 (us2.length + 1) c4) (by decide)
      replace t2 := t2.put (d := 170) (x := .slice A2 (us2.length + 1) c4) (by decide)
      replace t3 := t3.put (d := 170) (x := .slice A2 (us2.length + 1) c4) (by decide)
      replace t6 := t6.put (d := 170) (x := .slice A2 (us2.length + 1) c4) (by decide)
      replace t7 := t7.put (d := 170) (x := .slice A2 (us2.length + 1) c4) (by decide)
      replace t8 := t8.put (d := 170) (x := .slice A2 (us2.length + 1) c4) (by decide)
      replace t9 := t9.put (d := 170) (x := .slice A2 (us2.length + 1) c4) (by decide)
      replace t4 := t4.put (d := 170) (x := .slice A2 (us2.length + 1) c4) (by decide)
      replace t5 := t5.put (d := 170) (x := .slice A2 (us2.length + 1) c4) (by decide)
      replace t12 := t12.put (d := 170) (x := .slice A2 (us2.length + 1) c4) (by decide)
      replace t10 := t10.put (d := 170) (x := .slice A2 (us2.length + 1) c4) (by decide)
      have t11 : AtS (a112.put (some 170) (.slice A2 (us2.length + 1) c4)) 170 (.slice A2 (us2.length + 1) c4) := AtS.new (by rw [n]; decide)
      replace hout := out_put (v := .slice A2 (us2.length + 1) c4) hout (show 159 ≤ 170 ∧ 170 < 159 + 14 by decide)
      replace n : (a112.put (some 170) (.slice A2 (us2.length + 1) c4)).tmps.size = 175 := by rw [put_sz]; exact n
      replace hdf : (a112.put (some 170) (.slice A2 (us2.length + 1) c4)).defers = a.defers := hdf
      rw [ha] at p5 pq t0 t1 t2 t3 t6 t7 t8 t9 t4 t5 t12 t10 t11 hout n hdf ⊢
      clear ha
      refine wpAnyE_one (k := 13) (by kernel_rfl) ?_
      refine wpOp_skip i13 h13d (x_store h13b t12.ev t5.ev (sms_lists _ b5 24 _ _ _ v1 (hS.1.at_ c1) (hS.1.frozen 24))) ?_
      rw [h13c]
      obtain ⟨wA, hw⟩ : ∃ x, w14.setCell ⟨b5, 24, none⟩ (.slice A1 (us1.length + 1) c3) = x := ⟨_, rfl⟩
      have hu : Upd [b5] w14 wA := by rw [← hw]; exact (Upd.refl _ _).setCell (by simp) _
      have hbA : Blk wA b5 72 (cs.setIfInBounds 24 (.slice A1 (us1.length + 1) c3)) := by rw [← hw]; exact hS.1.set_ 24 _
      have n1 := ho1.ne hS.1 (by decide)
      have n2 := ho2.ne hS.1 (by decide)
      replace ho1 := ho1.upd hu (fun k hk hm => by have := n1 k hk; simp at hm; exact this hm)
      replace ho2 := ho2.upd hu (fun k hk hm => by have := n2 k hk; simp at hm; exact this hm)
      replace hUP : ∀ wx, Upd [b5] wx w → wx.heap.size ≤ lo → Upd [b5] wx wA := fun wx h1 h2 => (hUP wx h1 h2).trans hu (by simp)
      rw [hw]
      clear hw hu
      show _ ∧ wpAnyE _ _ _ _ _ _ _ _ a113 wA
      refine ⟨fun h => absurd h (by decide), ?_⟩
      refine wpAnyE_one (k := 14) (by kernel_rfl) ?_
      refine wpOp_val i14 h14d (x_field h14b p5.ev (tcf25 wA b5)) ?_
      rw [h14c]
      refine ⟨fun h => absurd h (by decide), ?_⟩
      obtain ⟨a114, ha⟩ : ∃ z9, a113.put (some 172) (.pointer (some ⟨b5, 25, none⟩)) = z9 := ⟨_, rfl⟩
      replace p5 := p5.put (d := 172) (x := .pointer (some ⟨b5, 25, none⟩)) (by decide)
      replace pq := pq.put (d := 172) (x := .pointer (some ⟨b5, 25, none⟩)) (by decide)
      replace t0 := t0.put (d := 172) (x := .pointer (some ⟨b5, 25, none⟩)) (by decide)
      replace t1 := t1.put (d := 172) (x := .pointer (some ⟨b5, 25, none⟩)) (by decide)
      replace t2 := t2.put (d := 172) (x := .pointer (some ⟨b5, 25, none⟩)) (by decide)
      replace t3 := t3.put (d := 172) (x := .pointer (some ⟨b5, 25, none⟩)) (by decide)
      replace t6 := t6.put (d := 172) (x := .pointer (some ⟨b5, 25, none⟩)) (by decide)
      replace t7 := t7.put (d := 172) (x := .pointer (some ⟨b5, 25, none⟩)) (by decide)
      replace t8 := t8.put (d := 172) (x := .pointer (some ⟨b5, 25, none⟩)) (by decide)
      replace t9 := t9.put (d := 172) (x := .pointer (some ⟨b5, 25, none⟩)) (by decide)
      replace t4 := t4.put (d := 172) (x := .pointer (some ⟨b5, 25, none⟩)) (by decide)
      replace t5 := t5.put (d := 172) (x := .pointer (some ⟨b5, 25, none⟩)) (by decide)
      replace t12 := t12.put (d := 172) (x := .pointer (some ⟨b5, 25, none⟩)) (by decide)
      replace t10 := t10.put (d := 172) (x := .pointer (some ⟨b5, 25, none⟩)) (by decide)
      replace t11 := t11.put (d := 172) (x := .pointer (some ⟨b5, 25, none⟩)) (by decide)
      have t14 : AtS (a113.put (some 172) (.pointer (some ⟨b5, 25, none⟩))) 172 (.pointer (some ⟨b5, 25, none⟩)) := AtS.new (by rw [n]; decide)
      replace hout := out_put (v := .pointer (some ⟨b5, 25, none⟩)) hout (show 159 ≤ 172 ∧ 172 < 159 + 14 by decide)
      replace n : (a113.put (some 172) (.pointer (some ⟨b5, 25, none⟩))).tmps.size = 175 := by rw [put_sz]; exact n
      replace hdf : (a113.put (some 172) (.pointer (some ⟨b5, 25, none⟩))).defers = a.defers := hdf
      rw [ha] at p5 pq t0 t1 t2 t3 t6 t7 t8 t9 t4 t5 t12 t10 t11 t14 hout n hdf ⊢
      clear ha
      have c2 : (cs.setIfInBounds 24 (.slice A1 (us1.length + 1) c3))[25]? = some v2 := by rw [Array.getElem?_setIfInBounds_ne (by decide)]; exact c2
      refine wpAnyE_one (k := 15) (by kernel_rfl) ?_
      refine wpOp_skip i15 h15d (x_store h15b t14.ev t11.ev (sms_u32s _ b5 25 _ _ _ v2 (hbA.at_ c2) (hbA.frozen 25))) ?_
      rw [h15c]
      have hu : Upd [b5] wA (wA.setCell ⟨b5, 25, none⟩ (.slice A2 (us2.length + 1) c4)) := (Upd.refl _ _).setCell (by simp) _
      refine ⟨fun h => absurd h (by decide), ?_⟩
      refine wpAnyE_done (by kernel_rfl) ?_ _
      exact hK _ _ _ _ n hdf hout (hbA.set_ 25 _) (ho1.upd hu (fun k hk hm => by have := n1 k hk; simp at hm; exact this hm)) (ho2.upd hu (fun k hk hm => by have := n2 k hk; simp at hm; exact this hm)) (fun wx h1 h2 => (hUP wx h1 h2).trans hu (by simp))
    · refine wpOp_val i10 h10d (x_bs h10b t9.ev (smb_u32s _ _)) ?_
      rw [h10c]
      obtain ⟨k2, hk2⟩ : ∃ x, w11.heap.size = x := ⟨_, rfl⟩
      have r2 := Row.one w11 97 (uv x)
      obtain ⟨w12, hw⟩ : ∃ z9, w11.alloc (.cells #[uv x] 97) = z9 := ⟨_, rfl⟩
      have hu : Upd [] w11 w12 := by rw [← hw]; exact (Upd.refl _ _).alloc _
      have hd2 : ∀ g, v1.ownBlock = some g → g < k2 := fun g hg => by rw [← hk2]; exact (ho1.ge hg).2
      rw [hw, hk2] at r2
      rw [hw, hk2]
      replace hS : Blk w12 b5 72 cs ∧ Blk w12 g 110 #[.slice Ay ny cy, uv x] := ⟨hS.1.upd hu (by simp), hS.2.upd hu (by simp)⟩
      replace ho1 := ho1.upd hu (by simp)
      replace ho2 := ho2.upd hu (by simp)
      replace hlo := Nat.le_trans hlo hu.size
      replace hUP : ∀ wx, Upd [b5] wx w → wx.heap.size ≤ lo → Upd [b5] wx w12 := fun wx h1 h2 => (hUP wx h1 h2).trans hu (by simp)
      replace r1 := Row.apart r1 hu (by simp)
      clear hu hw hk2
      refine ⟨fun _ => hS, ?_⟩
      obtain ⟨a110, ha⟩ : ∃ z9, a109.put (some 169) (.slice (some ⟨k2, 0, none⟩) 1 1) = z9 := ⟨_, rfl⟩
      replace p5 := p5.put (d := 169) (x := .slice (some ⟨k2, 0, none⟩) 1 1) (by decide)
      replace pq := pq.put (d := 169) (x := .slice (some ⟨k2, 0, none⟩) 1 1) (by decide)
      replace t0 := t0.put (d := 169) (x := .slice (some ⟨k2, 0, none⟩) 1 1) (by decide)
      replace t1 := t1.put (d := 169) (x := .slice (some ⟨k2, 0, none⟩) 1 1) (by decide)
      replace t2 := t2.put (d := 169) (x := .slice (some ⟨k2, 0, none⟩) 1 1) (by decide)
      replace t3 := t3.put (d := 169) (x := .slice (some ⟨k2, 0, none⟩) 1 1) (by decide)
      replace t6 := t6.put (d := 169) (x := .slice (some ⟨k2, 0, none⟩) 1 1) (by decide)
      replace t7 := t7.put (d := 169) (x := .slice (some ⟨k2, 0, none⟩) 1 1) (by decide)
      replace t8 := t8.put (d := 169) (x := .slice (some ⟨k2, 0, none⟩) 1 1) (by decide)
      replace t9 := t9.put (d := 169) (x := .slice (some ⟨k2, 0, none⟩) 1 1) (by decide)
      replace t4 := t4.put (d := 169) (x := .slice (some ⟨k2, 0, none⟩) 1 1) (by decide)
      have t10 : AtS (a109.put (some 169) (.slice (some ⟨k2, 0, none⟩) 1 1)) 169 (.slice (some ⟨k2, 0, none⟩) 1 1) := AtS.new (by rw [n]; decide)
      replace hout := out_put (v := .slice (some ⟨k2, 0, none⟩) 1 1) hout (show 159 ≤ 169 ∧ 169 < 159 + 14 by decide)
      replace n : (a109.put (some 169) (.slice (some ⟨k2, 0, none⟩) 1 1)).tmps.size = 175 := by rw [put_sz]; exact n
      replace hdf : (a109.put (some 169) (.slice (some ⟨k2, 0, none⟩) 1 1)).defers = a.defers := hdf
      rw [ha] at p5 pq t0 t1 t2 t3 t6 t7 t8 t9 t4 t10 hout n hdf ⊢
      clear ha
      refine wpAnyE_one (k := 5) (by kernel_rfl) ?_
      refine wpOp_wp i5 h5d (wp_append_row _ _ _ 26 h5b lo 23 (.slice none 0 0) 24 Tryz.underlying26 info_bytes rfl t1.ev ho1 t4.ev r1 (by intro u hu; simp at hu; subst hu; rfl) (by simp; omega) (by simp; omega) hlo ?_)
      intro u1 w13 hap
      rw [h5c]
      have hb5 := hS.1.upd hap.2.1 (fun hk => ho1.ne hS.1 (by decide) b5 (Option.mem_toList.1 hk) rfl)
      have hgg := hS.2.upd hap.2.1 (fun hk => ho1.ne hS.2 (by decide) g (Option.mem_toList.1 hk) rfl)
      replace hUP : ∀ wx, Upd [b5] wx w → wx.heap.size ≤ lo → Upd [b5] wx w13 := fun wx h1 h2 => (hUP wx h1 h2).trans hap.2.1 (fun k hk => .inr (by have := (ho1.ge (Option.mem_toList.1 hk)).1; omega))
      replace ho2 := ho2.upd hap.2.1 (fun k hk hm => ho1.apart ho2 (by decide) k (Option.mem_toList.1 hm) hk)
      replace r2 := Row.apart r2 hap.2.1 (fun k hk hm => by have h1 := hd2 k (Option.mem_toList.1 hm); have h2 : k2 = k := (by simpa [Value.ownBlock] using hk); omega)
      replace ho1 := hap.1
      obtain ⟨A1, c3, e1⟩ := Own.formN (n := us1.length + 1) ho1 (by simp)
      subst e1
      replace hlo := Nat.le_trans hlo hap.2.1.size
      replace hS : Blk w13 b5 72 cs ∧ Blk w13 g 110 #[.slice Ay ny cy, uv x] := ⟨hb5, hgg⟩
      clear hap hb5 hgg
      refine ⟨fun _ => hS, ?_⟩
      obtain ⟨a111, ha⟩ : ∃ z9, a110.put (some 164) (.slice A1 (us1.length + 1) c3) = z9 := ⟨_, rfl⟩
      replace p5 := p5.put (d := 164) (x := .slice A1 (us1.length + 1) c3) (by decide)
      replace pq := pq.put (d := 164) (x := .slice A1 (us1.length + 1) c3) (by decide)
      replace t0 := t0.put (d := 164) (x := .slice A1 (us1.length + 1) c3) (by decide)
      replace t1 := t1.put (d := 164) (x := .slice A1 (us1.length + 1) c3) (by decide)
      replace t2 := t2.put (d := 164) (x := .slice A1 (us1.length + 1) c3) (by decide)
      replace t3 := t3.put (d := 164) (x := .slice A1 (us1.length + 1) c3) (by decide)
      replace t6 := t6.put (d := 164) (x := .slice A1 (us1.length + 1) c3) (by decide)
      replace t7 := t7.put (d := 164) (x := .slice A1 (us1.length + 1) c3) (by decide)
      replace t8 := t8.put (d := 164) (x := .slice A1 (us1.length + 1) c3) (by decide)
      replace t9 := t9.put (d := 164) (x := .slice A1 (us1.length + 1) c3) (by decide)
      replace t4 := t4.put (d := 164) (x := .slice A1 (us1.length + 1) c3) (by decide)
      replace t10 := t10.put (d := 164) (x := .slice A1 (us1.length + 1) c3) (by decide)
      have t5 : AtS (a110.put (some 164) (.slice A1 (us1.length + 1) c3)) 164 (.slice A1 (us1.length + 1) c3) := AtS.new (by rw [n]; decide)
      replace hout := out_put (v := .slice A1 (us1.length + 1) c3) hout (show 159 ≤ 164 ∧ 164 < 159 + 14 by decide)
      replace n : (a110.put (some 164) (.slice A1 (us1.length + 1) c3)).tmps.size = 175 := by rw [put_sz]; exact n
      replace hdf : (a110.put (some 164) (.slice A1 (us1.length + 1) c3)).defers = a.defers := hdf
      rw [ha] at p5 pq t0 t1 t2 t3 t6 t7 t8 t9 t4 t10 t5 hout n hdf ⊢
      clear ha
      refine wpAnyE_take (i := 12) (oi := o12) (v := .pointer (some ⟨b5, 24, none⟩)) i12 hsel (by kernel_rfl) (by kernel_rfl) (by kernel_rfl) (by kernel_rfl) (fun c a w => hPQ c a _ _ w) (.inl ⟨wanted_none h12d, fun w hs => x_field h12b p5.ev (tcf24 w b5)⟩) hS ?_
      rw [h12c]
      obtain ⟨a112, ha⟩ : ∃ z9, a111.put (some 171) (.pointer (some ⟨b5, 24, none⟩)) = z9 := ⟨_, rfl⟩
      replace p5 := p5.put (d := 171) (x := .pointer (some ⟨b5, 24, none⟩)) (by decide)
      replace pq := pq.put (d := 171) (x := .pointer (some ⟨b5, 24, none⟩)) (by decide)
      replace t0 := t0.put (d := 171) (x := .pointer (some ⟨b5, 24, none⟩)) (by decide)
      replace t1 := t1.put (d := 171) (x := .pointer (some ⟨b5, 24, none⟩)) (by decide)
      replace t2 := t2.put (d := 171) (x := .pointer (some ⟨b5, 24, none⟩)) (by decide)
      replace t3 := t3.put (d := 171) (x := .pointer (some ⟨b5, 24, none⟩)) (by decide)
      replace t6 := t6.put (d := 171) (x := .pointer (some ⟨b5, 24, none⟩)) (by decide)
      replace t7 := t7.put (d := 171) (x := .pointer (some ⟨b5, 24, none⟩)) (by decide)
      replace t8 := t8.put (d := 171) (x := .pointer (some ⟨b5, 24, none⟩)) (by decide)
      replace t9 := t9.put (d := 171) (x := .pointer (some ⟨b5, 24, none⟩)) (by decide)
      replace t4 := t4.put (d := 171) (x := .pointer (some ⟨b5, 24, none⟩)) (by decide)
      replace t10 := t10.put (d := 171) (x := .pointer (some ⟨b5, 24, none⟩)) (by decide)
      replace t5 := t5.put (d := 171) (x := .pointer (some ⟨b5, 24, none⟩)) (by decide)
      have t12 : AtS (a111.put (some 171) (.pointer (some ⟨b5, 24, none⟩))) 171 (.pointer (some ⟨b5, 24, none⟩)) := AtS.new (by rw [n]; decide)
      replace hout := out_put (v := .pointer (some ⟨b5, 24, none⟩)) hout (show 159 ≤ 171 ∧ 171 < 159 + 14 by decide)
      replace n : (a111.put (some 171) (.pointer (some ⟨b5, 24, none⟩))).tmps.size = 175 := by rw [put_sz]; exact n
      replace hdf : (a111.put (some 171) (.pointer (some ⟨b5, 24, none⟩))).defers = a.defers := hdf
      rw [ha] at p5 pq t0 t1 t2 t3 t6 t7 t8 t9 t4 t10 t5 t12 hout n hdf ⊢
      clear ha
      refine wpAnyE_one (k := 11) (by kernel_rfl) ?_
      refine wpOp_wp i11 h11d (wp_append_row _ _ _ 27 h11b lo 97 (.int .u32 0) 4 Tryz.underlying27 (by kernel_rfl) rfl t7.ev ho2 t10.ev r2 (by intro u hu; simp at hu; subst hu; rfl) (by simp; omega) (by simp; omega) hlo ?_)
      intro u2 w14 hap
      rw [h11c]
      have hb5 := hS.1.upd hap.2.1 (fun hk => ho2.ne hS.1 (by decide) b5 (Option.mem_toList.1 hk) rfl)
      have hgg := hS.2.upd hap.2.1 (fun hk => ho2.ne hS.2 (by decide) g (Option.mem_toList.1 hk) rfl)
      replace hUP : ∀ wx, Upd [b5] wx w → wx.heap.size ≤ lo → Upd [b5] wx w14 := fun wx h1 h2 => (hUP wx h1 h2).trans hap.2.1 (fun k hk => .inr (by have := (ho2.ge (Option.mem_toList.1 hk)).1; omega))
      replace ho1 := ho1.upd hap.2.1 (fun k hk hm => ho2.apart ho1 (by decide) k (Option.mem_toList.1 hm) hk)
      replace ho2 := hap.1
      obtain ⟨A2, c4, e2⟩ := Own.formN (n := us2.length + 1) ho2 (by simp)
      subst e2
      replace hlo := Nat.le_trans hlo hap.2.1.size
      replace hS : Blk w14 b5 72 cs ∧ Blk w14 g 110 #[.slice Ay ny cy, uv x] := ⟨hb5, hgg⟩
      clear hap hb5 hgg
      refine ⟨fun _ => hS, ?_⟩
      obtain ⟨a113, ha⟩ : ∃ z9, a112.put (some 170) (.slice A2 (us2.length + 1) c4) = z9 := ⟨_, rfl⟩
      replace p5 := p5.put (d := 170) (x := .slice A2 (us2.length + 1) c4) (by decide)
      replace pq := pq.put (d := 170) (x := .slice A2 (us2.length + 1) c4) (by decide)
      replace t0 := t0.put (d := 170) (x := .slice A2 (us2.length + 1) c4) (by decide)
      replace t1 := t1.put (d := 170) (x := .slice A2 (us2.length + 1) c4) (by decide)
      replace t2 := t2.put (d := 170) (x := .slice A2 (us2.length + 1) c4) (by decide)
      replace t3 := t3.put (d := 170) (x := .slice A2 (us2.length + 1) c4) (by decide)
      replace t6 := t6.put (d := 170) (x := .slice A2 (us2.length + 1) c4) (by decide)
      replace t7 := t7.put (d := 170) (x := .slice A2 (us2.length + 1) c4) (by decide)
      replace t8 := t8.put (d := 170) (x := .slice A2 (us2.length + 1) c4) (by decide)
      replace t9 := t9.put (d := 170) (x := .slice A2 (us2.length + 1) c4) (by decide)
      replace t4 := t4.put (d := 170) (x := .slice A2 (us2.length + 1) c4) (by decide)
      replace t10 := t10.put (d := 170) (x := .slice A2 (us2.length + 1) c4) (by decide)
      replace t5 := t5.put (d := 170) (x := .slice A2 (us2.length + 1) c4) (by decide)
      replace t12 := t12.put (d := 170) (x := .slice A2 (us2.length + 1) c4) (by decide)
      have t11 : AtS (a112.put (some 170) (.slice A2 (us2.length + 1) c4)) 170 (.slice A2 (us2.length + 1) c4) := AtS.new (by rw [n]; decide)
      replace hout := out_put (v := .slice A2 (us2.length + 1) c4) hout (show 159 ≤ 170 ∧ 170 < 159 + 14 by decide)
      replace n : (a112.put (some 170) (.slice A2 (us2.length + 1) c4)).tmps.size = 175 := by rw [put_sz]; exact n
      replace hdf : (a112.put (some 170) (.slice A2 (us2.length + 1) c4)).defers = a.defers := hdf
      rw [ha] at p5 pq t0 t1 t2 t3 t6 t7 t8 t9 t4 t10 t5 t12 t11 hout n hdf ⊢
      clear ha
      refine wpAnyE_one (k := 13) (by kernel_rfl) ?_
      refine wpOp_skip i13 h13d (x_store h13b t12.ev t5.ev (sms_lists _ b5 24 _ _ _ v1 (hS.1.at_ c1) (hS.1.frozen 24))) ?_
      rw [h13c]
      obtain ⟨wA, hw⟩ : ∃ x, w14.setCell ⟨b5, 24, none⟩ (.slice A1 (us1.length + 1) c3) = x := ⟨_, rfl⟩
      have hu : Upd [b5] w14 wA := by rw [← hw]; exact (Upd.refl _ _).setCell (by simp) _
      have hbA : Blk wA b5 72 (cs.setIfInBounds 24 (.slice A1 (us1.length + 1) c3)) := by rw [← hw]; exact hS.1.set_ 24 _
      have n1 := ho1.ne hS.1 (by decide)
      have n2 := ho2.ne hS.1 (by decide)
      replace ho1 := ho1.upd hu (fun k hk hm => by have := n1 k hk; simp at hm; exact this hm)
      replace ho2 := ho2.upd hu (fun k hk hm => by have := n2 k hk; simp at hm; exact this hm)
      replace hUP : ∀ wx, Upd [b5] wx w → wx.heap.size ≤ lo → Upd [b5] wx wA := fun wx h1 h2 => (hUP wx h1 h2).trans hu (by simp)
      rw [hw]
      clear hw hu
      show _ ∧ wpAnyE _ _ _ _ _ _ _ _ a113 wA
      refine ⟨fun h => absurd h (by decide), ?_⟩
      refine wpAnyE_one (k := 14) (by kernel_rfl) ?_
      refine wpOp_val i14 h14d (x_field h14b p5.ev (tcf25 wA b5)) ?_
      rw [h14c]
      refine ⟨fun h => absurd h (by decide), ?_⟩
      obtain ⟨a114, ha⟩ : ∃ z9, a113.put (some 172) (.pointer (some ⟨b5, 25, none⟩)) = z9 := ⟨_, rfl⟩
      replace p5 := p5.put (d := 172) (x := .pointer (some ⟨b5, 25, none⟩)) (by decide)
      replace pq := pq.put (d := 172) (x := .pointer (some ⟨b5, 25, none⟩)) (by decide)
      replace t0 := t0.put (d := 172) (x := .pointer (some ⟨b5, 25, none⟩)) (by decide)
      replace t1 := t1.put (d := 172) (x := .pointer (some ⟨b5, 25, none⟩)) (by decide)
      replace t2 := t2.put (d := 172) (x := .pointer (some ⟨b5, 25, none⟩)) (by decide)
      replace t3 := t3.put (d := 172) (x := .pointer (some ⟨b5, 25, none⟩)) (by decide)
      replace t6 := t6.put (d := 172) (x := .pointer (some ⟨b5, 25, none⟩)) (by decide)
      replace t7 := t7.put (d := 172) (x := .pointer (some ⟨b5, 25, none⟩)) (by decide)
      replace t8 := t8.put (d := 172) (x := .pointer (some ⟨b5, 25, none⟩)) (by decide)
      replace t9 := t9.put (d := 172) (x := .pointer (some ⟨b5, 25, none⟩)) (by decide)
      replace t4 := t4.put (d := 172) (x := .pointer (some ⟨b5, 25, none⟩)) (by decide)
      replace t10 := t10.put (d := 172) (x := .pointer (some ⟨b5, 25, none⟩)) (by decide)
      replace t5 := t5.put (d := 172) (x := .pointer (some ⟨b5, 25, none⟩)) (by decide)
      replace t12 := t12.put (d := 172) (x := .pointer (some ⟨b5, 25, none⟩)) (by decide)
      replace t11 := t11.put (d := 172) (x := .pointer (some ⟨b5, 25, none⟩)) (by decide)
      have t14 : AtS (a113.put (some 172) (.pointer (some ⟨b5, 25, none⟩))) 172 (.pointer (some ⟨b5, 25, none⟩)) := AtS.new (by rw [n]; decide)
      replace hout := out_put (v := .pointer (some ⟨b5, 25, none⟩)) hout (show 159 ≤ 172 ∧ 172 < 159 + 14 by decide)
      replace n : (a113.put (some 172) (.pointer (some ⟨b5, 25, none⟩))).tmps.size = 175 := by rw [put_sz]; exact n
      replace hdf : (a113.put (some 172) (.pointer (some ⟨b5, 25, none⟩))).defers = a.defers := hdf
      rw [ha] at p5 pq t0 t1 t2 t3 t6 t7 t8 t9 t4 t10 t5 t12 t11 t14 hout n hdf ⊢
      clear ha
      have c2 : (cs.setIfInBounds 24 (.slice A1 (us1.length + 1) c3))[25]? = some v2 := by rw [Array.getElem?_setIfInBounds_ne (by decide)]; exact c2
      refine wpAnyE_one (k := 15) (by kernel_rfl) ?_
      refine wpOp_skip i15 h15d (x_store h15b t14.ev t11.ev (sms_u32s _ b5 25 _ _ _ v2 (hbA.at_ c2) (hbA.frozen 25))) ?_
      rw [h15c]
      have hu : Upd [b5] wA (wA.setCell ⟨b5, 25, none⟩ (.slice A2 (us2.length + 1) c4)) := (Upd.refl _ _).setCell (by simp) _
      refine ⟨fun h => absurd h (by decide), ?_⟩
      refine wpAnyE_done (by kernel_rfl) ?_ _
      exact hK _ _ _ _ n hdf hout (hbA.set_ 25 _) (ho1.upd hu (fun k hk hm => by have := n1 k hk; simp at hm; exact this hm)) (ho2.upd hu (fun k hk hm => by have := n2 k hk; simp at hm; exact this hm)) (fun wx h1 h2 => (hUP wx h1 h2).trans hu (by simp))
  · refine wpOp_val i10 h10d (x_bs h10b t9.ev (smb_u32s _ _)) ?_
    rw [h10c]
    obtain ⟨k2, hk2⟩ : ∃ x, w0.heap.size = x := ⟨_, rfl⟩
    have r2 := Row.one w0 97 (uv x)
    obtain ⟨w11, hw⟩ : ∃ z9, w0.alloc (.cells #[uv x] 97) = z9 := ⟨_, rfl⟩
    have hu : Upd [] w0 w11 := by rw [← hw]; exact (Upd.refl _ _).alloc _
    have hd2 : ∀ g, v1.ownBlock = some g → g < k2 := fun g hg => by rw [← hk2]; exact (ho1.ge hg).2
    rw [hw, hk2] at r2
    rw [hw, hk2]
    replace hS : Blk w11 b5 72 cs ∧ Blk w11 g 110 #[.slice Ay ny cy, uv x] := ⟨hS.1.upd hu (by simp), hS.2.upd hu (by simp)⟩
    replace ho1 := ho1.upd hu (by simp)
    replace ho2 := ho2.upd hu (by simp)
    replace hlo := Nat.le_trans hlo hu.size
    replace hUP : ∀ wx, Upd [b5] wx w → wx.heap.size ≤ lo → Upd [b5] wx w11 := fun wx h1 h2 => (hUP wx h1 h2).trans hu (by simp)
    clear hu hw hk2
    refine ⟨fun _ => hS, ?_⟩
    obtain ⟨a109, ha⟩ : ∃ z9, a108.put (some 169) (.slice (some ⟨k2, 0, none⟩) 1 1) = z9 := ⟨_, rfl⟩
    replace p5 := p5.put (d := 169) (x := .slice (some ⟨k2, 0, none⟩) 1 1) (by decide)
    replace pq := pq.put (d := 169) (x := .slice (some ⟨k2, 0, none⟩) 1 1) (by decide)
    replace t0 := t0.put (d := 169) (x := .slice (some ⟨k2, 0, none⟩) 1 1) (by decide)
    replace t1 := t1.put (d := 169) (x := .slice (some ⟨k2, 0, none⟩) 1 1) (by decide)
    replace t2 := t2.put (d := 169) (x := .slice (some ⟨k2, 0, none⟩) 1 1) (by decide)
    replace t3 := t3.put (d := 169) (x := .slice (some ⟨k2, 0, none⟩) 1 1) (by decide)
    replace t6 := t6.put (d := 169) (x := .slice (some ⟨k2, 0, none⟩) 1 1) (by decide)
    replace t7 := t7.put (d := 169) (x := .slice (some ⟨k2, 0, none⟩) 1 1) (by decide)
    replace t8 := t8.put (d := 169) (x := .slice (some ⟨k2, 0, none⟩) 1 1) (by decide)
    replace t9 := t9.put (d := 169) (x := .slice (some ⟨k2, 0, none⟩) 1 1) (by decide)
    have t10 : AtS (a108.put (some 169) (.slice (some ⟨k2, 0, none⟩) 1 1)) 169 (.slice (some ⟨k2, 0, none⟩) 1 1) := AtS.new (by rw [n]; decide)
    replace hout := out_put (v := .slice (some ⟨k2, 0, none⟩) 1 1) hout (show 159 ≤ 169 ∧ 169 < 159 + 14 by decide)
    replace n : (a108.put (some 169) (.slice (some ⟨k2, 0, none⟩) 1 1)).tmps.size = 175 := by rw [put_sz]; exact n
    replace hdf : (a108.put (some 169) (.slice (some ⟨k2, 0, none⟩) 1 1)).defers = a.defers := hdf
    rw [ha] at p5 pq t0 t1 t2 t3 t6 t7 t8 t9 t10 hout n hdf ⊢
    clear ha
    refine wpAnyE_one (k := 4) (by kernel_rfl) ?_
    refine wpOp_val i4 h4d (x_bs h4b t3.ev (smb_lists _ _ _ _)) ?_
    rw [h4c]
    obtain ⟨k1, hk1⟩ : ∃ x, w11.heap.size = x := ⟨_, rfl⟩
    have r1 := Row.one w11 23 (.slice Ay ny cy)
    obtain ⟨w12, hw⟩ : ∃ z9, w11.alloc (.cells #[.slice Ay ny cy] 23) = z9 := ⟨_, rfl⟩
    have hu : Upd [] w11 w12 := by rw [← hw]; exact (Upd.refl _ _).alloc _
    rw [hw, hk1] at r1
    rw [hw, hk1]
    replace hS : Blk w12 b5 72 cs ∧ Blk w12 g 110 #[.slice Ay ny cy, uv x] := ⟨hS.1.upd hu (by simp), hS.2.upd hu (by simp)⟩
    replace ho1 := ho1.upd hu (by simp)
    replace ho2 := ho2.upd hu (by simp)
    replace hlo := Nat.le_trans hlo hu.size
    replace hUP : ∀ wx, Upd [b5] wx w → wx.heap.size ≤ lo → Upd [b5] wx w12 := fun wx h1 h2 => (hUP wx h1 h2).trans hu (by simp)
    replace r2 := Row.apart r2 hu (by simp)
    clear hu hw hk1
    refine ⟨fun _ => hS, ?_⟩
    obtain ⟨a110, ha⟩ : ∃ z9, a109.put (some 163) (.slice (some ⟨k1, 0, none⟩) 1 1) = z9 := ⟨_, rfl⟩
    replace p5 := p5.put (d := 163) (x := .slice (some ⟨k1, 0, none⟩) 1 1) (by decide)
    replace pq := pq.put (d := 163) (x := .slice (some ⟨k1, 0, none⟩) 1 1) (by decide)
    replace t0 := t0.put (d := 163) (x := .slice (some ⟨k1, 0, none⟩) 1 1) (by decide)
    replace t1 := t1.put (d := 163) (x := .slice (some ⟨k1, 0, none⟩) 1 1) (by decide)
    replace t2 := t2.put (d := 163) (x := .slice (some ⟨k1, 0, none⟩) 1 1) (by decide)
    replace t3 := t3.put (d := 163) (x := .slice (some ⟨k1, 0, none⟩) 1 1) (by decide)
    replace t6 := t6.put (d := 163) (x := .slice (some ⟨k1, 0, none⟩) 1 1) (by decide)
    replace t7 := t7.put (d := 163) (x := .slice (some ⟨k1, 0, none⟩) 1 1) (by decide)
    replace t8 := t8.put (d := 163) (x := .slice (some ⟨k1, 0, none⟩) 1 1) (by decide)
    replace t9 := t9.put (d := 163) (x := .slice (some ⟨k1, 0, none⟩) 1 1) (by decide)
    replace t10 := t10.put (d := 163) (x := .slice (some ⟨k1, 0, none⟩) 1 1) (by decide)
    have t4 : AtS (a109.put (some 163) (.slice (some ⟨k1, 0, none⟩) 1 1)) 163 (.slice (some ⟨k1, 0, none⟩) 1 1) := AtS.new (by rw [n]; decide)
    replace hout := out_put (v := .slice (some ⟨k1, 0, none⟩) 1 1) hout (show 159 ≤ 163 ∧ 163 < 159 + 14 by decide)
    replace n : (a109.put (some 163) (.slice (some ⟨k1, 0, none⟩) 1 1)).tmps.size = 175 := by rw [put_sz]; exact n
    replace hdf : (a109.put (some 163) (.slice (some ⟨k1, 0, none⟩) 1 1)).defers = a.defers := hdf
    rw [ha] at p5 pq t0 t1 t2 t3 t6 t7 t8 t9 t10 t4 hout n hdf ⊢
    clear ha
    refine wpAnyE_one (k := 5) (by kernel_rfl) ?_
    refine wpOp_wp i5 h5d (wp_append_row _ _ _ 26 h5b lo 23 (.slice none 0 0) 24 Tryz.underlying26 info_bytes rfl t1.ev ho1 t4.ev r1 (by intro u hu; simp at hu; subst hu; rfl) (by simp; omega) (by simp; omega) hlo ?_)
    intro u1 w13 hap
    rw [h5c]
    have hb5 := hS.1.upd hap.2.1 (fun hk => ho1.ne hS.1 (by decide) b5 (Option.mem_toList.1 hk) rfl)
    have hgg := hS.2.upd hap.2.1 (fun hk => ho1.ne hS.2 (by decide) g (Option.mem_toList.1 hk) rfl)
    replace hUP : ∀ wx, Upd [b5] wx w → wx.heap.size ≤ lo → Upd [b5] wx w13 := fun wx h1 h2 => (hUP wx h1 h2).trans hap.2.1 (fun k hk => .inr (by have := (ho1.ge (Option.mem_toList.1 hk)).1; omega))
    replace ho2 := ho2.upd hap.2.1 (fun k hk hm => ho1.apart ho2 (by decide) k (Option.mem_toList.1 hm) hk)
    replace r2 := Row.apart r2 hap.2.1 (fun k hk hm => by have h1 := hd2 k (Option.mem_toList.1 hm); have h2 : k2 = k := (by simpa [Value.ownBlock] using hk); omega)
    replace ho1 := hap.1
    obtain ⟨A1, c3, e1⟩ := Own.formN (n := us1.length + 1) ho1 (by simp)
    subst e1
    replace hlo := Nat.le_trans hlo hap.2.1.size
    replace hS : Blk w13 b5 72 cs ∧ Blk w13 g 110 #[.slice Ay ny cy, uv x] := ⟨hb5, hgg⟩
    clear hap hb5 hgg
    refine ⟨fun _ => hS, ?_⟩
    obtain ⟨a111, ha⟩ : ∃ z9, a110.put (some 164) (.slice A1 (us1.length + 1) c3) = z9 := ⟨_, rfl⟩
    replace p5 := p5.put (d := 164) (x := .slice A1 (us1.length + 1) c3) (by decide)
    replace pq := pq.put (d := 164) (x := .slice A1 (us1.length + 1) c3) (by decide)
    replace t0 := t0.put (d := 164) (x := .slice A1 (us1.length + 1) c3) (by decide)
    replace t1 := t1.put (d := 164) (x := .slice A1 (us1.length + 1) c3) (by decide)
    replace t2 := t2.put (d := 164) (x := .slice A1 (us1.length + 1) c3) (by decide)
    replace t3 := t3.put (d := 164) (x := .slice A1 (us1.length + 1) c3) (by decide)
    replace t6 := t6.put (d := 164) (x := .slice A1 (us1.length + 1) c3) (by decide)
    replace t7 := t7.put (d := 164) (x := .slice A1 (us1.length + 1) c3) (by decide)
    replace t8 := t8.put (d := 164) (x := .slice A1 (us1.length + 1) c3) (by decide)
    replace t9 := t9.put (d := 164) (x := .slice A1 (us1.length + 1) c3) (by decide)
    replace t10 := t10.put (d := 164) (x := .slice A1 (us1.length + 1) c3) (by decide)
    replace t4 := t4.put (d := 164) (x := .slice A1 (us1.length + 1) c3) (by decide)
    have t5 : AtS (a110.put (some 164) (.slice A1 (us1.length + 1) c3)) 164 (.slice A1 (us1.length + 1) c3) := AtS.new (by rw [n]; decide)
    replace hout := out_put (v := .slice A1 (us1.length + 1) c3) hout (show 159 ≤ 164 ∧ 164 < 159 + 14 by decide)
    replace n : (a110.put (some 164) (.slice A1 (us1.length + 1) c3)).tmps.size = 175 := by rw [put_sz]; exact n
    replace hdf : (a110.put (some 164) (.slice A1 (us1.length + 1) c3)).defers = a.defers := hdf
    rw [ha] at p5 pq t0 t1 t2 t3 t6 t7 t8 t9 t10 t4 t5 hout n hdf ⊢
    clear ha
    refine wpAnyE_take (i := 12) (oi := o12) (v := .pointer (some ⟨b5, 24, none⟩)) i12 hsel (by kernel_rfl) (by kernel_rfl) (by kernel_rfl) (by kernel_rfl) (fun c a w => hPQ c a _ _ w) (.inl ⟨wanted_none h12d, fun w hs => x_field h12b p5.ev (tcf24 w b5)⟩) hS ?_
    rw [h12c]
    obtain ⟨a112, ha⟩ : ∃ z9, a111.put (some 171) (.pointer (some ⟨b5, 24, none⟩)) = z9 := ⟨_, rfl⟩
    replace p5 := p5.put (d := 171) (x := .pointer (some ⟨b5, 24, none⟩)) (by decide)
    replace pq := pq.put (d := 171) (x := .pointer (some ⟨b5, 24, none⟩)) (by decide)
    replace t0 := t0.put (d := 171) (x := .pointer (some ⟨b5, 24, none⟩)) (by decide)
    replace t1 := t1.put (d := 171) (x := .pointer (some ⟨b5, 24, none⟩)) (by decide)
    replace t2 := t2.put (d := 171) (x := .pointer (some ⟨b5, 24, none⟩)) (by decide)
    replace t3 := t3.put (d := 171) (x := .pointer (some ⟨b5, 24, none⟩)) (by decide)
    replace t6 := t6.put (d := 171) (x := .pointer (some ⟨b5, 24, none⟩)) (by decide)
    replace t7 := t7.put (d := 171) (x := .pointer (some ⟨b5, 24, none⟩)) (by decide)
    replace t8 := t8.put (d := 171) (x := .pointer (some ⟨b5, 24, none⟩)) (by decide)
    replace t9 := t9.put (d := 171) (x := .pointer (some ⟨b5, 24, none⟩)) (by decide)
    replace t10 := t10.put (d := 171) (x := .pointer (some ⟨b5, 24, none⟩)) (by decide)
    replace t4 := t4.put (d := 171) (x := .pointer (some ⟨b5, 24, none⟩)) (by decide)
    replace t5 := t5.put (d := 171) (x := .pointer (some ⟨b5, 24, none⟩)) (by decide)
    have t12 : AtS (a111.put (some 171) (.pointer (some ⟨b5, 24, none⟩))) 171 (.pointer (some ⟨b5, 24, none⟩)) := AtS.new (by rw [n]; decide)
    replace hout := out_put (v := .pointer (some ⟨b5, 24, none⟩)) hout (show 159 ≤ 171 ∧ 171 < 159 + 14 by decide)
    replace n : (a111.put (some 171) (.pointer (some ⟨b5, 24, none⟩))).tmps.size = 175 := by rw [put_sz]; exact n
    replace hdf : (a111.put (some 171) (.pointer (some ⟨b5, 24, none⟩))).defers = a.defers := hdf
    rw [ha] at p5 pq t0 t1 t2 t3 t6 t7 t8 t9 t10 t4 t5 t12 hout n hdf ⊢
    clear ha
    refine wpAnyE_one (k := 11) (by kernel_rfl) ?_
    refine wpOp_wp i11 h11d (wp_append_row _ _ _ 27 h11b lo 97 (.int .u32 0) 4 Tryz.underlying27 (by kernel_rfl) rfl t7.ev ho2 t10.ev r2 (by intro u hu; simp at hu; subst hu; rfl) (by simp; omega) (by simp; omega) hlo ?_)
    intro u2 w14 hap
    rw [h11c]
    have hb5 := hS.1.upd hap.2.1 (fun hk => ho2.ne hS.1 (by decide) b5 (Option.mem_toList.1 hk) rfl)
    have hgg := hS.2.upd hap.2.1 (fun hk => ho2.ne hS.2 (by decide) g (Option.mem_toList.1 hk) rfl)
    replace hUP : ∀ wx, Upd [b5] wx w → wx.heap.size ≤ lo → Upd [b5] wx w14 := fun wx h1 h2 => (hUP wx h1 h2).trans hap.2.1 (fun k hk => .inr (by have := (ho2.ge (Option.mem_toList.1 hk)).1; omega))
    replace ho1 := ho1.upd hap.2.1 (fun k hk hm => ho2.apart ho1 (by decide) k (Option.mem_toList.1 hm) hk)
    replace ho2 := hap.1
    obtain ⟨A2, c4, e2⟩ := Own.formN (n := us2.length + 1) ho2 (by simp)
    subst e2
    replace hlo := Nat.le_trans hlo hap.2.1.size
    replace hS : Blk w14 b5 72 cs ∧ Blk w14 g 110 #[.slice Ay ny cy, uv x] := ⟨hb5, hgg⟩
    clear hap hb5 hgg
    refine ⟨fun _ => hS, ?_⟩
    obtain ⟨a113, ha⟩ : ∃ z9, a112.put (some 170) (.slice A2 (us2.length + 1) c4) = z9 := ⟨_, rfl⟩
    replace p5 := p5.put (d := 170) (x := .slice A2 (us2.length + 1) c4) (by decide)
    replace pq := pq.put (d := 170) (x := .slice A2 (us2.length + 1) c4) (by decide)
    replace t0 := t0.put (d := 170) (x := .slice A2 (us2.length + 1) c4) (by decide)
    replace t1 := t1.put (d := 170) (x := .slice A2 (us2.length + 1) c4) (by decide)
    replace t2 := t2.put (d := 170) (x := .slice A2 (us2.length + 1) c4) (by decide)
    replace t3 := t3.put (d := 170) (x := .slice A2 (us2.length + 1) c4) (by decide)
    replace t6 := t6.put (d := 170) (x := .slice A2 (us2.length + 1) c4) (by decide)
    replace t7 := t7.put (d := 170) (x := .slice A2 (us2.length + 1) c4) (by decide)
    replace t8 := t8.put (d := 170) (x := .slice A2 (us2.length + 1) c4) (by decide)
    replace t9 := t9.put (d := 170) (x := .slice A2 (us2.length + 1) c4) (by decide)
    replace t10 := t10.put (d := 170) (x := .slice A2 (us2.length + 1) c4) (by decide)
    replace t4 := t4.put (d := 170) (x := .slice A2 (us2.length + 1) c4) (by decide)
    replace t5 := t5.put (d := 170) (x := .slice A2 (us2.length + 1) c4) (by decide)
    replace t12 := t12.put (d := 170) (x := .slice A2 (us2.length + 1) c4) (by decide)
    have t11 : AtS (a112.put (some 170) (.slice A2 (us2.length + 1) c4)) 170 (.slice A2 (us2.length + 1) c4) := AtS.new (by rw [n]; decide)
    replace hout := out_put (v := .slice A2 (us2.length + 1) c4) hout (show 159 ≤ 170 ∧ 170 < 159 + 14 by decide)
    replace n : (a112.put (some 170) (.slice A2 (us2.length + 1) c4)).tmps.size = 175 := by rw [put_sz]; exact n
    replace hdf : (a112.put (some 170) (.slice A2 (us2.length + 1) c4)).defers = a.defers := hdf
    rw [ha] at p5 pq t0 t1 t2 t3 t6 t7 t8 t9 t10 t4 t5 t12 t11 hout n hdf ⊢
    clear ha
    refine wpAnyE_one (k := 13) (by kernel_rfl) ?_
    refine wpOp_skip i13 h13d (x_store h13b t12.ev t5.ev (sms_lists _ b5 24 _ _ _ v1 (hS.1.at_ c1) (hS.1.frozen 24))) ?_
    rw [h13c]
    obtain ⟨wA, hw⟩ : ∃ x, w14.setCell ⟨b5, 24, none⟩ (.slice A1 (us1.length + 1) c3) = x := ⟨_, rfl⟩
    have hu : Upd [b5] w14 wA := by rw [← hw]; exact (Upd.refl _ _).setCell (by simp) _
    have hbA : Blk wA b5 72 (cs.setIfInBounds 24 (.slice A1 (us1.length + 1) c3)) := by rw [← hw]; exact hS.1.set_ 24 _
    have n1 := ho1.ne hS.1 (by decide)
    have n2 := ho2.ne hS.1 (by decide)
    replace ho1 := ho1.upd hu (fun k hk hm => by have := n1 k hk; simp at hm; exact this hm)
    replace ho2 := ho2.upd hu (fun k hk hm => by have := n2 k hk; simp at hm; exact this hm)
    replace hUP : ∀ wx, Upd [b5] wx w → wx.heap.size ≤ lo → Upd [b5] wx wA := fun wx h1 h2 => (hUP wx h1 h2).trans hu (by simp)
    rw [hw]
    clear hw hu
    show _ ∧ wpAnyE _ _ _ _ _ _ _ _ a113 wA
    refine ⟨fun h => absurd h (by decide), ?_⟩
    refine wpAnyE_one (k := 14) (by kernel_rfl) ?_
    refine wpOp_val i14 h14d (x_field h14b p5.ev (tcf25 wA b5)) ?_
    rw [h14c]
    refine ⟨fun h => absurd h (by decide), ?_⟩
    obtain ⟨a114, ha⟩ : ∃ z9, a113.put (some 172) (.pointer (some ⟨b5, 25, none⟩)) = z9 := ⟨_, rfl⟩
    replace p5 := p5.put (d := 172) (x := .pointer (some ⟨b5, 25, none⟩)) (by decide)
    replace pq := pq.put (d := 172) (x := .pointer (some ⟨b5, 25, none⟩)) (by decide)
    replace t0 := t0.put (d := 172) (x := .pointer (some ⟨b5, 25, none⟩)) (by decide)
    replace t1 := t1.put (d := 172) (x := .pointer (some ⟨b5, 25, none⟩)) (by decide)
    replace t2 := t2.put (d := 172) (x := .pointer (some ⟨b5, 25, none⟩)) (by decide)
    replace t3 := t3.put (d := 172) (x := .pointer (some ⟨b5, 25, none⟩)) (by decide)
    replace t6 := t6.put (d := 172) (x := .pointer (some ⟨b5, 25, none⟩)) (by decide)
    replace t7 := t7.put (d := 172) (x := .pointer (some ⟨b5, 25, none⟩)) (by decide)
    replace t8 := t8.put (d := 172) (x := .pointer (some ⟨b5, 25, none⟩)) (by decide)
    replace t9 := t9.put (d := 172) (x := .pointer (some ⟨b5, 25, none⟩)) (by decide)
    replace t10 := t10.put (d := 172) (x := .pointer (some ⟨b5, 25, none⟩)) (by decide)
    replace t4 := t4.put (d := 172) (x := .pointer (some ⟨b5, 25, none⟩)) (by decide)
    replace t5 := t5.put (d := 172) (x := .pointer (some ⟨b5, 25, none⟩)) (by decide)
    replace t12 := t12.put (d := 172) (x := .pointer (some ⟨b5, 25, none⟩)) (by decide)
    replace t11 := t11.put (d := 172) (x := .pointer (some ⟨b5, 25, none⟩)) (by decide)
    have t14 : AtS (a113.put (some 172) (.pointer (some ⟨b5, 25, none⟩))) 172 (.pointer (some ⟨b5, 25, none⟩)) := AtS.new (by rw [n]; decide)
    replace hout := out_put (v := .pointer (some ⟨b5, 25, none⟩)) hout (show 159 ≤ 172 ∧ 172 < 159 + 14 by decide)
    replace n : (a113.put (some 172) (.pointer (some ⟨b5, 25, none⟩))).tmps.size = 175 := by rw [put_sz]; exact n
    replace hdf : (a113.put (some 172) (.pointer (some ⟨b5, 25, none⟩))).defers = a.defers := hdf
    rw [ha] at p5 pq t0 t1 t2 t3 t6 t7 t8 t9 t10 t4 t5 t12 t11 t14 hout n hdf ⊢
    clear ha
    have c2 : (cs.setIfInBounds 24 (.slice A1 (us1.length + 1) c3))[25]? = some v2 := by rw [Array.getElem?_setIfInBounds_ne (by decide)]; exact c2
    refine wpAnyE_one (k := 15) (by kernel_rfl) ?_
    refine wpOp_skip i15 h15d (x_store h15b t14.ev t11.ev (sms_u32s _ b5 25 _ _ _ v2 (hbA.at_ c2) (hbA.frozen 25))) ?_
    rw [h15c]
    have hu : Upd [b5] wA (wA.setCell ⟨b5, 25, none⟩ (.slice A2 (us2.length + 1) c4)) := (Upd.refl _ _).setCell (by simp) _
    refine ⟨fun h => absurd h (by decide), ?_⟩
    refine wpAnyE_done (by kernel_rfl) ?_ _
    exact hK _ _ _ _ n hdf hout (hbA.set_ 25 _) (ho1.upd hu (fun k hk hm => by have := n1 k hk; simp at hm; exact this hm)) (ho2.upd hu (fun k hk hm => by have := n2 k hk; simp at hm; exact this hm)) (fun wx h1 h2 => (hUP wx h1 h2).trans hu (by simp))
end Go.Proofs.YtaajmfgplhfncaaGreat

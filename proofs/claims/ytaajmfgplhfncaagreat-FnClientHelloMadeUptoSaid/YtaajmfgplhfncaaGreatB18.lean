/- Texts joined: ChR2. -/
import Derived.Test.YtaajmfgplhfncaaGreatB17
import Derived.Test.YtaajmfgplhfncaaGreatB07
namespace Go.Proofs.YtaajmfgplhfncaaGreat
open Go.RowKit
set_option maxRecDepth 100000
theorem Own.apart8 {w : World} {lo lo' : Nat} {e e' : TypeId} {v v' : Value} {us us' : List Value} (h : Own w lo e v us) (h' : Own w lo' e' v' us') (hne : e ≠ e') : ∀ g, v.ownBlock = some g → v'.ownBlock ≠ some g := by
  intro g hg hg'
  rcases h.2 with ⟨rfl, _⟩ | ⟨g1, cap, cur, rfl, _, hh, _⟩
  · simp [Value.ownBlock] at hg
  · have : g1 = g := by simpa [Value.ownBlock] using hg
    subst this
    exact (Own.ne h' (t := e) hh (Ne.symm hne)) g1 hg' rfl
theorem out_put8 {a a0 : Act} {b n d : Nat} {v : Value} (h : ∀ i, i < b ∨ b + n ≤ i → a.tmps[i]? = a0.tmps[i]?) (hd : b ≤ d ∧ d < b + n) : ∀ i, i < b ∨ b + n ≤ i → (a.put (some d) v).tmps[i]? = a0.tmps[i]? := by
  intro i hi
  show (a.tmps.setIfInBounds d v)[i]? = _
  rw [Array.getElem?_setIfInBounds_ne (by omega)]
  exact h i hi
theorem x_store8 {o : Oper} {a : Act} {w w' : World} {T : TypeId} {p q : Operand} {x y : Value} (ho : o.op = .store T p q) (hp : a.eval p = x) (hq : a.eval q = y) (h : (Instr.storeAt T x y).run Tryz.prog w = .ok () w') : (execOp a.eval o).run Tryz.prog w = .ok .skip w' := by
  unfold execOp
  simp only [ho, hp, hq]
  rw [Sem.run_bind, h]
  rfl
theorem x_bs8 {o : Oper} {a : Act} {w w' : World} {T : TypeId} {p : Operand} {x v : Value} (ho : o.op = .buildSlice T 1 #[(0, p)]) (hp : a.eval p = x) (h : (Instr.buildSlice T 1 #[(0, x)]).run Tryz.prog w = .ok v w') : (execOp a.eval o).run Tryz.prog w = .ok (.value v) w' := by
  unfold execOp
  simp only [ho, List.map_toArray, List.map_cons, List.map_nil, hp]
  rw [Sem.run_bind, h]
  rfl
theorem x_nil8 {o : Oper} {a : Act} {w : World} {p : Operand} {g : Nat} (ho : o.op = .nilCheck p) (hp : a.eval p = .pointer (some ⟨g, 0, none⟩)) : (execOp a.eval o).run Tryz.prog w = .ok (.value (.pointer (some ⟨g, 0, none⟩))) w := by
  unfold execOp
  simp only [ho, hp]
  rfl
theorem x_conv8 {o : Oper} {a : Act} {w : World} {p : Operand} {s d : TypeId} {x v : Value} (ho : o.op = .convert s d p) (hp : a.eval p = x) (h : (convert s d x).run Tryz.prog w = .ok v w) : (execOp a.eval o).run Tryz.prog w = .ok (.value v) w := by
  unfold execOp
  simp only [ho, hp]
  rw [Sem.run_bind, h]
  rfl
theorem cv_u16 (w : World) (x : UInt16) : (convert 3 22 (.int .i64 (x.toNat : Int))).run Tryz.prog w = .ok (wv x) w := by
  have hx : IntKind.u16.wrap (x.toNat : Int) = (x.toNat : Int) := by
    have := x.toNat_lt
    simp only [IntKind.wrap, IntKind.signed, IntKind.bits]
    have : ((x.toNat : Int)) % 2 ^ 16 = (x.toNat : Int) := by omega
    simpa using this
  go_simp
theorem cv_u32 (w : World) (x : UInt32) : (convert 3 97 (.int .i64 (x.toNat : Int))).run Tryz.prog w = .ok (uv x) w := by
  have hx : IntKind.u32.wrap (x.toNat : Int) = (x.toNat : Int) := by
    have := x.toNat_lt
    simp only [IntKind.wrap, IntKind.signed, IntKind.bits]
    have : ((x.toNat : Int)) % 2 ^ 32 = (x.toNat : Int) := by omega
    simpa using this
  go_simp
theorem sml8_u32s (w : World) (g i : Nat) (v : Value) (h : w.cell? ⟨g, i, none⟩ = some v) : (Instr.loadAt 27 (.pointer (some ⟨g, i, none⟩))).run Tryz.prog w = .ok v w := by go_simp
theorem smf8_24 (w : World) (g : Nat) : (Instr.fieldAt 29 (.pointer (some ⟨g, 0, none⟩)) 24).run Tryz.prog w = .ok (.pointer (some ⟨g, 24, none⟩)) w := by go_simp
theorem smf8_25 (w : World) (g : Nat) : (Instr.fieldAt 29 (.pointer (some ⟨g, 0, none⟩)) 25).run Tryz.prog w = .ok (.pointer (some ⟨g, 25, none⟩)) w := by go_simp
theorem sms8_words (w : World) (g i n c : Nat) (A : Option Addr) (u : Value) (h : w.cell? ⟨g, i, none⟩ = some u) (hf : w.frozen? ⟨g, i, none⟩ = false) : (Instr.storeAt 24 (.pointer (some ⟨g, i, none⟩)) (.slice A n c)).run Tryz.prog w = .ok () (w.setCell ⟨g, i, none⟩ (.slice A n c)) := by go_simp
theorem sms8_lists (w : World) (g i n c : Nat) (A : Option Addr) (u : Value) (h : w.cell? ⟨g, i, none⟩ = some u) (hf : w.frozen? ⟨g, i, none⟩ = false) : (Instr.storeAt 26 (.pointer (some ⟨g, i, none⟩)) (.slice A n c)).run Tryz.prog w = .ok () (w.setCell ⟨g, i, none⟩ (.slice A n c)) := by go_simp
theorem sms8_u32s (w : World) (g i n c : Nat) (A : Option Addr) (u : Value) (h : w.cell? ⟨g, i, none⟩ = some u) (hf : w.frozen? ⟨g, i, none⟩ = false) : (Instr.storeAt 27 (.pointer (some ⟨g, i, none⟩)) (.slice A n c)).run Tryz.prog w = .ok () (w.setCell ⟨g, i, none⟩ (.slice A n c)) := by go_simp
theorem smb8_words (u : World) (x : UInt16) : (Instr.buildSlice 24 1 #[(0, wv x)]).run Tryz.prog u = .ok (.slice (some ⟨u.heap.size, 0, none⟩) 1 1) (u.alloc (.cells #[wv x] 22)) := by go_simp
theorem smb8_u32s (u : World) (x : UInt32) : (Instr.buildSlice 27 1 #[(0, uv x)]).run Tryz.prog u = .ok (.slice (some ⟨u.heap.size, 0, none⟩) 1 1) (u.alloc (.cells #[uv x] 97)) := by go_simp
theorem smb8_lists (u : World) (A : Option Addr) (n c : Nat) : (Instr.buildSlice 26 1 #[(0, .slice A n c)]).run Tryz.prog u = .ok (.slice (some ⟨u.heap.size, 0, none⟩) 1 1) (u.alloc (.cells #[.slice A n c] 23)) := by go_simp
theorem fn8_num (x y : Value) (u : World) : (callFunc 44 #[x, y]).run Tryz.prog u = .ok (.enter 44 #[x, y]) u := by kernel_rfl
theorem fn8_vec (x y z t : Value) (u : World) : (callFunc 46 #[x, y, z, t]).run Tryz.prog u = .ok (.enter 46 #[x, y, z, t]) u := by kernel_rfl
theorem x_call8 {o : Oper} {a : Act} {w : World} {fn : FuncId} {ops : Array Operand} {args : Array Value} {ts : Array TypeId} (ho : o.op = .call { callee := .value (.func fn), args := ops, argTypes := ts }) (hp : ops.map a.eval = args) (hm : ∀ u : World, (callFunc fn args).run Tryz.prog u = .ok (.enter fn args) u) : (execOp a.eval o).run Tryz.prog w = .ok (.enter fn args) w := by
  have e : a.eval (.func fn) = .func (.func fn) #[] #[] := rfl
  unfold execOp
  simp only [ho, resolve, hp, Deferred.ofValue, e, Sem.run_bind, Sem.run_pure, Result.andThen_ok, invoke]
  rw [show (#[] ++ args ++ #[] : Array Value) = args by simp]
  exact hm w
theorem list11 : ∀ {l : List Value}, l.length = 11 → ∃ y0 y1 y2 y3 y4 y5 y6 y7 y8 y9 y10 : Value, l = [y0, y1, y2, y3, y4, y5, y6, y7, y8, y9, y10]
  | [y0, y1, y2, y3, y4, y5, y6, y7, y8, y9, y10], _ => ⟨y0, y1, y2, y3, y4, y5, y6, y7, y8, y9, y10, rfl⟩
theorem list12 : ∀ {l : List Value}, l.length = 12 → ∃ y0 y1 y2 y3 y4 y5 y6 y7 y8 y9 y10 y11 : Value, l = [y0, y1, y2, y3, y4, y5, y6, y7, y8, y9, y10, y11]
  | [y0, y1, y2, y3, y4, y5, y6, y7, y8, y9, y10, y11], _ => ⟨y0, y1, y2, y3, y4, y5, y6, y7, y8, y9, y10, y11, rfl⟩
theorem layN {xs : List Value} {ds : List Deferred} {a' : Act} {b n N : Nat} (hn : a'.tmps.size = N) (hd : a'.defers = ds) (ho : ∀ i, i < b ∨ b + n ≤ i → a'.tmps[i]? = xs.toArray[i]?) (hb : b + n ≤ N) :
    ∃ ys : List Value, ys.length = n ∧ a' = ⟨(xs.take b ++ (ys ++ xs.drop (b + n))).toArray, ds⟩ := by
  obtain ⟨⟨tl⟩, df⟩ := a'
  have hd : df = ds := hd
  subst hd
  have hn : tl.length = N := by simpa using hn
  have ho : ∀ i, i < b ∨ b + n ≤ i → tl[i]? = xs[i]? := fun i hi => by simpa using ho i hi
  refine ⟨(tl.drop b).take n, by simp; omega, ?_⟩
  have e1 : tl.take b = xs.take b := by
    apply List.ext_getElem?
    intro i
    rw [List.getElem?_take, List.getElem?_take]
    by_cases hi : i < b
    · rw [if_pos hi, if_pos hi, ho i (.inl hi)]
    · rw [if_neg hi, if_neg hi]
  have e2 : tl.drop (b + n) = xs.drop (b + n) := by
    apply List.ext_getElem?
    intro i
    rw [List.getElem?_drop, List.getElem?_drop]
    exact ho _ (.inr (by omega))
  have e3 : tl = xs.take b ++ ((tl.drop b).take n ++ xs.drop (b + n)) := by
    have h1 : tl = tl.take b ++ ((tl.drop b).take n ++ (tl.drop b).drop n) := by rw [List.take_append_drop, List.take_append_drop]
    rw [List.drop_drop, e1, e2] at h1
    exact h1
  exact congrArg (fun z => Act.mk (List.toArray z) df) e3
noncomputable def kr1L : List Oper := regOf 9 (Tryz.f63.body.getD .skip)
set_option maxHeartbeats 4000000 in
theorem kr1_Ch {K : Act → World → Prop} {a : Act} {w : World} {mb y lo N : Nat} {cs : Array Value} {v1 v2 : Value} {us1 us2 : List Value} {x : UInt16} {r : List UInt8}
    (n : a.tmps.size = 108) (pm : AtS a 2 (.pointer (some ⟨mb, 0, none⟩))) (py : AtS a 6 (.pointer (some ⟨y, 0, none⟩))) (hb : Blk w mb 29 cs) (c1 : cs[20]? = some v1) (ho1 : Own w lo 22 v1 us1) (ho2 : Own w lo 23 v2 us2) (hl1 : us1.length + 1 ≤ 1099511627776) (hlo : lo ≤ w.heap.size)
    (hy : Rd w N y ⟨be 2 x.toNat ++ r, 0⟩) (hne : y ≠ mb) (hNl : N ≤ lo) (hNm : N ≤ mb)
    (hK : ∀ (a' : Act) (w' : World) (v1' : Value), a'.tmps.size = 108 → a'.defers = a.defers → (∀ i, i < 43 ∨ 43 + 12 ≤ i → a'.tmps[i]? = a.tmps[i]?) → Blk w' mb 29 (cs.setIfInBounds 20 v1') → Own w' lo 22 v1' (us1 ++ [wv x]) → Own w' lo 23 v2 us2 → Rd w' N y ⟨r, 0⟩ →
      (∀ w0, Upd [y, mb] w0 w → w0.heap.size ≤ lo → Upd [y, mb] w0 w') → (∀ u l, Byt w N u l → Byt w' N u l) → K a' w') : (Code.region 9 kr1L.toArray true).wp Tryz.prog (Exit.then K fun _ _ _ => False) a w := by
  obtain ⟨o0, h0a, h0b, h0c, h0d⟩ := OpIs.get (l := kr1L) (k := 0) (op := .move (.tmp 2)) (d := 43) (g := none) (.mk (by kernel_rfl))
  have i0 : kr1L.toArray[0]? = some o0 := by simpa using h0a
  obtain ⟨o1, h1a, h1b, h1c, h1d⟩ := OpIs.get (l := kr1L) (k := 1) (op := .move (.tmp 2)) (d := 44) (g := none) (.mk (by kernel_rfl))
  have i1 : kr1L.toArray[1]? = some o1 := by simpa using h1a
  obtain ⟨o2, h2a, h2b, h2c, h2d⟩ := OpIs.get (l := kr1L) (k := 2) (op := .nilCheck (.tmp 44)) (d := 45) (g := none) (.mk (by kernel_rfl))
  have i2 : kr1L.toArray[2]? = some o2 := by simpa using h2a
  obtain ⟨o3, h3a, h3b, h3c, h3d⟩ := OpIs.get (l := kr1L) (k := 3) (op := .fieldAddr 29 (.tmp 45) 20) (d := 46) (g := none) (.mk (by kernel_rfl))
  have i3 : kr1L.toArray[3]? = some o3 := by simpa using h3a
  obtain ⟨o4, h4a, h4b, h4c, h4d⟩ := OpIs.get (l := kr1L) (k := 4) (op := .load 24 (.tmp 46)) (d := 47) (g := none) (.mk (by kernel_rfl))
  have i4 : kr1L.toArray[4]? = some o4 := by simpa using h4a
  obtain ⟨o5, h5a, h5b, h5c, h5d⟩ := OpIs.get (l := kr1L) (k := 5) (op := .move (.tmp 6)) (d := 48) (g := none) (.mk (by kernel_rfl))
  have i5 : kr1L.toArray[5]? = some o5 := by simpa using h5a
  obtain ⟨o6, h6a, h6b, h6c, h6d⟩ := OpIs.get (l := kr1L) (k := 6) (op := .call { callee := .value (.func 44), args := #[.tmp 48, .const (.int .i64 2)], argTypes := #[77, 3] }) (d := 49) (g := none) (.mk (by kernel_rfl))
  have i6 : kr1L.toArray[6]? = some o6 := by simpa using h6a
  obtain ⟨o7, h7a, h7b, h7c, h7d⟩ := OpIs.get (l := kr1L) (k := 7) (op := .convert 3 22 (.tmp 49)) (d := 50) (g := none) (.mk (by kernel_rfl))
  have i7 : kr1L.toArray[7]? = some o7 := by simpa using h7a
  obtain ⟨o8, h8a, h8b, h8c, h8d⟩ := OpIs.get (l := kr1L) (k := 8) (op := .buildSlice 24 1 #[(0, .tmp 50)]) (d := 51) (g := none) (.mk (by kernel_rfl))
  have i8 : kr1L.toArray[8]? = some o8 := by simpa using h8a
  obtain ⟨o9, h9a, h9b, h9c, h9d⟩ := OpIs.get (l := kr1L) (k := 9) (op := .call { callee := .builtin .append, args := #[.tmp 47, .tmp 51], argTypes := #[24, 24] }) (d := 52) (g := none) (.mk (by kernel_rfl))
  have i9 : kr1L.toArray[9]? = some o9 := by simpa using h9a
  obtain ⟨o10, h10a, h10b, h10c, h10d⟩ := OpIs.get (l := kr1L) (k := 10) (op := .nilCheck (.tmp 43)) (d := 53) (g := none) (.mk (by kernel_rfl))
  have i10 : kr1L.toArray[10]? = some o10 := by simpa using h10a
  obtain ⟨o11, h11a, h11b, h11c, h11d⟩ := OpIs.get (l := kr1L) (k := 11) (op := .fieldAddr 29 (.tmp 53) 20) (d := 54) (g := none) (.mk (by kernel_rfl))
  have i11 : kr1L.toArray[11]? = some o11 := by simpa using h11a
  obtain ⟨o12, i12, h12b, h12c, h12d⟩ : ∃ o : Oper, kr1L.toArray[12]? = some o ∧ o.op = .store 24 (.tmp 54) (.tmp 52) ∧ o.dst = none ∧ o.guard = none := by
    have h : (kr1L[12]?).map (fun o => (o.op, o.dst, o.guard)) = some (.store 24 (.tmp 54) (.tmp 52), none, none) := by kernel_rfl
    cases hk : kr1L[12]? with
    | none => rw [hk] at h; cases h
    | some o =>
      rw [hk] at h
      injection h with h
      injection h with h1 h
      injection h with h2 h3
      exact ⟨o, by simpa using hk, h1, h2, h3⟩
  have hsel : Region.noSelect kr1L.toArray = true := by kernel_rfl
  have hPQ : ∀ c (a : Act) (d : Option Tmp) (v : Value) w, Exit.then K (fun _ _ _ => False) (.panic c) (a.put d v) w → Exit.then K (fun _ _ _ => False) (.panic c) a w := fun _ _ _ _ _ h => h
  refine wp_region_E (S := fun u => Blk u mb 29 cs) (E := fun j => j == 10 || j == 11 || j == 12) (by kernel_rfl) ?_
  change wpAnyE _ _ _ _ _ _ _ _ _ (World.drew _)
  obtain ⟨w0, hw0⟩ : ∃ z9, World.drew w = z9 := ⟨_, rfl⟩
  rw [hw0]
  have hu0 : Upd [] w w0 := by rw [← hw0]; exact (Upd.refl _ _).drew
  have hS : Blk w0 mb 29 cs := hb.upd hu0 (by simp)
  replace ho1 := ho1.upd hu0 (by simp)
  replace ho2 := ho2.upd hu0 (by simp)
  replace hy := hy.upd hu0 (by simp) (by simp)
  have hUP : ∀ wx, Upd [y, mb] wx w → wx.heap.size ≤ lo → Upd [y, mb] wx w0 := fun wx h _ => h.trans hu0 (by simp)
  have hBY : ∀ u l, Byt w N u l → Byt w0 N u l := fun u l h => Row.upd h hu0 (by simp)
  replace hlo : lo ≤ w0.heap.size := Nat.le_trans hlo hu0.size
  clear hw0 hu0 hb
  rw [show kr1L.toArray.size = 13 by kernel_rfl]
  obtain ⟨a100, ha⟩ : ∃ z9, a = z9 := ⟨_, rfl⟩
  have hout : ∀ i, i < 43 ∨ 43 + 12 ≤ i → a100.tmps[i]? = a.tmps[i]? := fun _ _ => by rw [ha]
  have hdf : a100.defers = a.defers := by rw [ha]
  show wpAnyE _ _ _ _ _ _ _ _ a _
  rw [ha] at pm py n ⊢
  clear ha
  refine wpAnyE_take (i := 0) (oi := o0) (v := .pointer (some ⟨mb, 0, none⟩)) i0 hsel (by kernel_rfl) (by kernel_rfl) (by kernel_rfl) (by kernel_rfl) (fun c a w => hPQ c a _ _ w) (.inl ⟨wanted_none h0d, fun w hs => x_move h0b pm.ev⟩) hS ?_
  rw [h0c]
  obtain ⟨a101, ha⟩ : ∃ z9, a100.put (some 43) (.pointer (some ⟨mb, 0, none⟩)) = z9 := ⟨_, rfl⟩
  replace pm := pm.put (d := 43) (x := .pointer (some ⟨mb, 0, none⟩)) (by decide)
  replace py := py.put (d := 43) (x := .pointer (some ⟨mb, 0, none⟩)) (by decide)
  have t0 : AtS (a100.put (some 43) (.pointer (some ⟨mb, 0, none⟩))) 43 (.pointer (some ⟨mb, 0, none⟩)) := AtS.new (by rw [n]; decide)
  replace hout := out_put8 (v := .pointer (some ⟨mb, 0, none⟩)) hout (show 43 ≤ 43 ∧ 43 < 43 + 12 by decide)
  replace n : (a100.put (some 43) (.pointer (some ⟨mb, 0, none⟩))).tmps.size = 108 := by rw [put_sz]; exact n
  replace hdf : (a100.put (some 43) (.pointer (some ⟨mb, 0, none⟩))).defers = a.defers := hdf
  rw [ha] at pm py t0 hout n hdf ⊢
  clear ha
  refine wpAnyE_take (i := 1) (oi := o1) (v := .pointer (some ⟨mb, 0, none⟩)) i1 hsel (by kernel_rfl) (by kernel_rfl) (by kernel_rfl) (by kernel_rfl) (fun c a w => hPQ c a _ _ w) (.inl ⟨wanted_none h1d, fun w hs => x_move h1b pm.ev⟩) hS ?_
  rw [h1c]
  obtain ⟨a102, ha⟩ : ∃ z9, a101.put (some 44) (.pointer (some ⟨mb, 0, none⟩)) = z9 := ⟨_, rfl⟩
  replace pm := pm.put (d := 44) (x := .pointer (some ⟨mb, 0, none⟩)) (by decide)
  replace py := py.put (d := 44) (x := .pointer (some ⟨mb, 0, none⟩)) (by decide)
  replace t0 := t0.put (d := 44) (x := .pointer (some ⟨mb, 0, none⟩)) (by decide)
  have t1 : AtS (a101.put (some 44) (.pointer (some ⟨mb, 0, none⟩))) 44 (.pointer (some ⟨mb, 0, none⟩)) := AtS.new (by rw [n]; decide)
  replace hout := out_put8 (v := .pointer (some ⟨mb, 0, none⟩)) hout (show 43 ≤ 44 ∧ 44 < 43 + 12 by decide)
  replace n : (a101.put (some 44) (.pointer (some ⟨mb, 0, none⟩))).tmps.size = 108 := by rw [put_sz]; exact n
  replace hdf : (a101.put (some 44) (.pointer (some ⟨mb, 0, none⟩))).defers = a.defers := hdf
  rw [ha] at pm py t0 t1 hout n hdf ⊢
  clear ha
  refine wpAnyE_take (i := 2) (oi := o2) (v := .pointer (some ⟨mb, 0, none⟩)) i2 hsel (by kernel_rfl) (by kernel_rfl) (by kernel_rfl) (by kernel_rfl) (fun c a w => hPQ c a _ _ w) (.inl ⟨wanted_none h2d, fun w hs => x_nil8 h2b t1.ev⟩) hS ?_
  rw [h2c]
  obtain ⟨a103, ha⟩ : ∃ z9, a102.put (some 45) (.pointer (some ⟨mb, 0, none⟩)) = z9 := ⟨_, rfl⟩
  replace pm := pm.put (d := 45) (x := .pointer (some ⟨mb, 0, none⟩)) (by decide)
  replace py := py.put (d := 45) (x := .pointer (some ⟨mb, 0, none⟩)) (by decide)
  replace t0 := t0.put (d := 45) (x := .pointer (some ⟨mb, 0, none⟩)) (by decide)
  replace t1 := t1.put (d := 45) (x := .pointer (some ⟨mb, 0, none⟩)) (by decide)
  have t2 : AtS (a102.put (some 45) (.pointer (some ⟨mb, 0, none⟩))) 45 (.pointer (some ⟨mb, 0, none⟩)) := AtS.new (by rw [n]; decide)
  replace hout := out_put8 (v := .pointer (some ⟨mb, 0, none⟩)) hout (show 43 ≤ 45 ∧ 45 < 43 + 12 by decide)
  replace n : (a102.put (some 45) (.pointer (some ⟨mb, 0, none⟩))).tmps.size = 108 := by rw [put_sz]; exact n
  replace hdf : (a102.put (some 45) (.pointer (some ⟨mb, 0, none⟩))).defers = a.defers := hdf
  rw [ha] at pm py t0 t1 t2 hout n hdf ⊢
  clear ha
  refine wpAnyE_take (i := 3) (oi := o3) (v := .pointer (some ⟨mb, 20, none⟩)) i3 hsel (by kernel_rfl) (by kernel_rfl) (by kernel_rfl) (by kernel_rfl) (fun c a w => hPQ c a _ _ w) (.inl ⟨wanted_none h3d, fun w hs => x_field h3b t2.ev (smf20 w mb)⟩) hS ?_
  rw [h3c]
  obtain ⟨a104, ha⟩ : ∃ z9, a103.put (some 46) (.pointer (some ⟨mb, 20, none⟩)) = z9 := ⟨_, rfl⟩
  replace pm := pm.put (d := 46) (x := .pointer (some ⟨mb, 20, none⟩)) (by decide)
  replace py := py.put (d := 46) (x := .pointer (some ⟨mb, 20, none⟩)) (by decide)
  replace t0 := t0.put (d := 46) (x := .pointer (some ⟨mb, 20, none⟩)) (by decide)
  replace t1 := t1.put (d := 46) (x := .pointer (some ⟨mb, 20, none⟩)) (by decide)
  replace t2 := t2.put (d := 46) (x := .pointer (some ⟨mb, 20, none⟩)) (by decide)
  have t3 : AtS (a103.put (some 46) (.pointer (some ⟨mb, 20, none⟩))) 46 (.pointer (some ⟨mb, 20, none⟩)) := AtS.new (by rw [n]; decide)
  replace hout := out_put8 (v := .pointer (some ⟨mb, 20, none⟩)) hout (show 43 ≤ 46 ∧ 46 < 43 + 12 by decide)
  replace n : (a103.put (some 46) (.pointer (some ⟨mb, 20, none⟩))).tmps.size = 108 := by rw [put_sz]; exact n
  replace hdf : (a103.put (some 46) (.pointer (some ⟨mb, 20, none⟩))).defers = a.defers := hdf
  rw [ha] at pm py t0 t1 t2 t3 hout n hdf ⊢
  clear ha
  refine wpAnyE_take (i := 4) (oi := o4) (v := v1) i4 hsel (by kernel_rfl) (by kernel_rfl) (by kernel_rfl) (by kernel_rfl) (fun c a w => hPQ c a _ _ w) (.inl ⟨wanted_none h4d, fun w hs => x_load h4b t3.ev (sml_words w mb 20 v1 (hs.at_ c1))⟩) hS ?_
  rw [h4c]
  obtain ⟨a105, ha⟩ : ∃ z9, a104.put (some 47) (v1) = z9 := ⟨_, rfl⟩
  replace pm := pm.put (d := 47) (x := v1) (by decide)
  replace py := py.put (d := 47) (x := v1) (by decide)
  replace t0 := t0.put (d := 47) (x := v1) (by decide)
  replace t1 := t1.put (d := 47) (x := v1) (by decide)
  replace t2 := t2.put (d := 47) (x := v1) (by decide)
  replace t3 := t3.put (d := 47) (x := v1) (by decide)
  have t4 : AtS (a104.put (some 47) (v1)) 47 (v1) := AtS.new (by rw [n]; decide)
  replace hout := out_put8 (v := v1) hout (show 43 ≤ 47 ∧ 47 < 43 + 12 by decide)
  replace n : (a104.put (some 47) (v1)).tmps.size = 108 := by rw [put_sz]; exact n
  replace hdf : (a104.put (some 47) (v1)).defers = a.defers := hdf
  rw [ha] at pm py t0 t1 t2 t3 t4 hout n hdf ⊢
  clear ha
  refine wpAnyE_take (i := 5) (oi := o5) (v := .pointer (some ⟨y, 0, none⟩)) i5 hsel (by kernel_rfl) (by kernel_rfl) (by kernel_rfl) (by kernel_rfl) (fun c a w => hPQ c a _ _ w) (.inl ⟨wanted_none h5d, fun w hs => x_move h5b py.ev⟩) hS ?_
  rw [h5c]
  obtain ⟨a106, ha⟩ : ∃ z9, a105.put (some 48) (.pointer (some ⟨y, 0, none⟩)) = z9 := ⟨_, rfl⟩
  replace pm := pm.put (d := 48) (x := .pointer (some ⟨y, 0, none⟩)) (by decide)
  replace py := py.put (d := 48) (x := .pointer (some ⟨y, 0, none⟩)) (by decide)
  replace t0 := t0.put (d := 48) (x := .pointer (some ⟨y, 0, none⟩)) (by decide)
  replace t1 := t1.put (d := 48) (x := .pointer (some ⟨y, 0, none⟩)) (by decide)
  replace t2 := t2.put (d := 48) (x := .pointer (some ⟨y, 0, none⟩)) (by decide)
  replace t3 := t3.put (d := 48) (x := .pointer (some ⟨y, 0, none⟩)) (by decide)
  replace t4 := t4.put (d := 48) (x := .pointer (some ⟨y, 0, none⟩)) (by decide)
  have t5 : AtS (a105.put (some 48) (.pointer (some ⟨y, 0, none⟩))) 48 (.pointer (some ⟨y, 0, none⟩)) := AtS.new (by rw [n]; decide)
  replace hout := out_put8 (v := .pointer (some ⟨y, 0, none⟩)) hout (show 43 ≤ 48 ∧ 48 < 43 + 12 by decide)
  replace n : (a105.put (some 48) (.pointer (some ⟨y, 0, none⟩))).tmps.size = 108 := by rw [put_sz]; exact n
  replace hdf : (a105.put (some 48) (.pointer (some ⟨y, 0, none⟩))).defers = a.defers := hdf
  rw [ha] at pm py t0 t1 t2 t3 t4 t5 hout n hdf ⊢
  clear ha
  refine wpAnyE_one (k := 6) (by kernel_rfl) ?_
  refine wpOp_enter i6 (wanted_none h6d) 44 #[.pointer (some ⟨y, 0, none⟩), .int .i64 2] (x_call8 h6b (by simp only [List.map_toArray, List.map_cons, List.map_nil, t5.ev]; rfl) (fn8_num _ _)) ?_
  refine (numS (n := 2) (k := x.toNat) hy (by omega) (beNat_be2 x.toNat (by have := x.toNat_lt; omega))).mono ?_
  rintro e w1 ⟨rfl, hu, hy1⟩
  show _ ∧ wpAnyE _ _ _ _ _ _ _ _ _ w1
  have hyb : Blk w0 y 84 _ := hy.2.choose_spec.1
  have n1 := ho1.ne hyb (by decide)
  have n2 := ho2.ne hyb (by decide)
  replace hS : Blk w1 mb 29 cs := hS.upd hu (by simpa using Ne.symm hne)
  replace ho1 := ho1.upd hu (fun k hk hm => n1 k hk (by simpa using hm))
  replace ho2 := ho2.upd hu (fun k hk hm => n2 k hk (by simpa using hm))
  have hyN : N ≤ y := hy.1
  replace hUP : ∀ wx, Upd [y, mb] wx w → wx.heap.size ≤ lo → Upd [y, mb] wx w1 := fun wx h1 h2 => (hUP wx h1 h2).trans hu (by simp)
  replace hBY : ∀ u l, Byt w N u l → Byt w1 N u l := fun u l h => Row.upd (hBY u l h) hu (by simpa using hyN)
  replace hlo := Nat.le_trans hlo hu.size
  clear hu hy n1 n2 hyb
  refine ⟨fun _ => hS, ?_⟩
  rw [h6c]
  obtain ⟨a107, ha⟩ : ∃ z9, a106.put (some 49) (.int .i64 (x.toNat : Int)) = z9 := ⟨_, rfl⟩
  replace pm := pm.put (d := 49) (x := .int .i64 (x.toNat : Int)) (by decide)
  replace py := py.put (d := 49) (x := .int .i64 (x.toNat : Int)) (by decide)
  replace t0 := t0.put (d := 49) (x := .int .i64 (x.toNat : Int)) (by decide)
  replace t1 := t1.put (d := 49) (x := .int .i64 (x.toNat : Int)) (by decide)
  replace t2 := t2.put (d := 49) (x := .int .i64 (x.toNat : Int)) (by decide)
  replace t3 := t3.put (d := 49) (x := .int .i64 (x.toNat : Int)) (by decide)
  replace t4 := t4.put (d := 49) (x := .int .i64 (x.toNat : Int)) (by decide)
  replace t5 := t5.put (d := 49) (x := .int .i64 (x.toNat : Int)) (by decide)
  have t6 : AtS (a106.put (some 49) (.int .i64 (x.toNat : Int))) 49 (.int .i64 (x.toNat : Int)) := AtS.new (by rw [n]; decide)
  replace hout := out_put8 (v := .int .i64 (x.toNat : Int)) hout (show 43 ≤ 49 ∧ 49 < 43 + 12 by decide)
  replace n : (a106.put (some 49) (.int .i64 (x.toNat : Int))).tmps.size = 108 := by rw [put_sz]; exact n
  replace hdf : (a106.put (some 49) (.int .i64 (x.toNat : Int))).defers = a.defers := hdf
  rw [ha] at pm py t0 t1 t2 t3 t4 t5 t6 hout n hdf ⊢
  clear ha
  refine wpAnyE_one (k := 7) (by kernel_rfl) ?_
  refine wpOp_val i7 h7d (x_conv8 h7b t6.ev (cv_u16 w1 x)) ?_
  refine ⟨fun _ => hS, ?_⟩
  rw [h7c]
  obtain ⟨a108, ha⟩ : ∃ z9, a107.put (some 50) (wv x) = z9 := ⟨_, rfl⟩
  replace pm := pm.put (d := 50) (x := wv x) (by decide)
  replace py := py.put (d := 50) (x := wv x) (by decide)
  replace t0 := t0.put (d := 50) (x := wv x) (by decide)
  replace t1 := t1.put (d := 50) (x := wv x) (by decide)
  replace t2 := t2.put (d := 50) (x := wv x) (by decide)
  replace t3 := t3.put (d := 50) (x := wv x) (by decide)
  replace t4 := t4.put (d := 50) (x := wv x) (by decide)
  replace t5 := t5.put (d := 50) (x := wv x) (by decide)
  replace t6 := t6.put (d := 50) (x := wv x) (by decide)
  have t7 : AtS (a107.put (some 50) (wv x)) 50 (wv x) := AtS.new (by rw [n]; decide)
  replace hout := out_put8 (v := wv x) hout (show 43 ≤ 50 ∧ 50 < 43 + 12 by decide)
  replace n : (a107.put (some 50) (wv x)).tmps.size = 108 := by rw [put_sz]; exact n
  replace hdf : (a107.put (some 50) (wv x)).defers = a.defers := hdf
  rw [ha] at pm py t0 t1 t2 t3 t4 t5 t6 t7 hout n hdf ⊢
  clear ha
  refine wpAnyE_one (k := 8) (by kernel_rfl) ?_
  refine wpOp_val i8 h8d (x_bs8 h8b t7.ev (smb8_words w1 _)) ?_
  rw [h8c]
  obtain ⟨k1, hk1⟩ : ∃ z9, w1.heap.size = z9 := ⟨_, rfl⟩
  have r1 := Row.one w1 22 (wv x)
  obtain ⟨w2, hw⟩ : ∃ z9, w1.alloc (.cells #[wv x] 22) = z9 := ⟨_, rfl⟩
  have hu : Upd [] w1 w2 := by rw [← hw]; exact (Upd.refl _ _).alloc _
  rw [hw, hk1] at r1
  rw [hw, hk1]
  replace hS : Blk w2 mb 29 cs := hS.upd hu (by simp)
  replace ho1 := ho1.upd hu (by simp)
  replace ho2 := ho2.upd hu (by simp)
  replace hy1 := hy1.upd hu (by simp) (by simp)
  replace hlo := Nat.le_trans hlo hu.size
  replace hUP : ∀ wx, Upd [y, mb] wx w → wx.heap.size ≤ lo → Upd [y, mb] wx w2 := fun wx h1 h2 => (hUP wx h1 h2).trans hu (by simp)
  replace hBY : ∀ u l, Byt w N u l → Byt w2 N u l := fun u l h => Row.upd (hBY u l h) hu (by simp)
  clear hu hw hk1
  refine ⟨fun _ => hS, ?_⟩
  obtain ⟨a109, ha⟩ : ∃ z9, a108.put (some 51) (.slice (some ⟨k1, 0, none⟩) 1 1) = z9 := ⟨_, rfl⟩
  replace pm := pm.put (d := 51) (x := .slice (some ⟨k1, 0, none⟩) 1 1) (by decide)
  replace py := py.put (d := 51) (x := .slice (some ⟨k1, 0, none⟩) 1 1) (by decide)
  replace t0 := t0.put (d := 51) (x := .slice (some ⟨k1, 0, none⟩) 1 1) (by decide)
  replace t1 := t1.put (d := 51) (x := .slice (some ⟨k1, 0, none⟩) 1 1) (by decide)
  replace t2 := t2.put (d := 51) (x := .slice (some ⟨k1, 0, none⟩) 1 1) (by decide)
  replace t3 := t3.put (d := 51) (x := .slice (some ⟨k1, 0, none⟩) 1 1) (by decide)
  replace t4 := t4.put (d := 51) (x := .slice (some ⟨k1, 0, none⟩) 1 1) (by decide)
  replace t5 := t5.put (d := 51) (x := .slice (some ⟨k1, 0, none⟩) 1 1) (by decide)
  replace t6 := t6.put (d := 51) (x := .slice (some ⟨k1, 0, none⟩) 1 1) (by decide)
  replace t7 := t7.put (d := 51) (x := .slice (some ⟨k1, 0, none⟩) 1 1) (by decide)
  have t8 : AtS (a108.put (some 51) (.slice (some ⟨k1, 0, none⟩) 1 1)) 51 (.slice (some ⟨k1, 0, none⟩) 1 1) := AtS.new (by rw [n]; decide)
  replace hout := out_put8 (v := .slice (some ⟨k1, 0, none⟩) 1 1) hout (show 43 ≤ 51 ∧ 51 < 43 + 12 by decide)
  replace n : (a108.put (some 51) (.slice (some ⟨k1, 0, none⟩) 1 1)).tmps.size = 108 := by rw [put_sz]; exact n
  replace hdf : (a108.put (some 51) (.slice (some ⟨k1, 0, none⟩) 1 1)).defers = a.defers := hdf
  rw [ha] at pm py t0 t1 t2 t3 t4 t5 t6 t7 t8 hout n hdf ⊢
  clear ha
  refine wpAnyE_one (k := 9) (by kernel_rfl) ?_
  refine wpOp_wp i9 h9d (wp_append_row _ _ _ 24 h9b lo 22 (.int .u16 0) 2 Tryz.underlying24 info_u16 rfl t4.ev ho1 t8.ev r1 (by intro u hu; simp at hu; subst hu; rfl) (by simp; omega) (by simp; omega) hlo ?_)
  intro u1 w3 hap
  rw [h9c]
  have hyb : Blk w2 y 84 _ := hy1.2.choose_spec.1
  have hge : ∀ k ∈ v1.ownBlock.toList, lo ≤ k := fun k hk => (ho1.ge (Option.mem_toList.1 hk)).1
  replace hS : Blk w3 mb 29 cs := hS.upd hap.2.1 (fun hk => ho1.ne hS (by decide) mb (Option.mem_toList.1 hk) rfl)
  replace hy1 := hy1.upd hap.2.1 (fun k hk => Nat.le_trans hNl (hge k hk)) (fun hk => ho1.ne hyb (by decide) y (Option.mem_toList.1 hk) rfl)
  replace hUP : ∀ wx, Upd [y, mb] wx w → wx.heap.size ≤ lo → Upd [y, mb] wx w3 := fun wx h1 h2 => (hUP wx h1 h2).trans hap.2.1 (fun k hk => .inr (Nat.le_trans h2 (hge k hk)))
  replace hBY : ∀ u l, Byt w N u l → Byt w3 N u l := fun u l h => Row.upd (hBY u l h) hap.2.1 (fun k hk => Nat.le_trans hNl (hge k hk))
  replace ho2 := ho2.upd hap.2.1 (fun k hk hm => ho1.apart8 ho2 (by decide) k (Option.mem_toList.1 hm) hk)
  replace ho1 := hap.1
  obtain ⟨A1, c3, e1⟩ := Own.formN (n := us1.length + 1) ho1 (by simp)
  subst e1
  replace hlo := Nat.le_trans hlo hap.2.1.size
  clear hap hge r1 hyb
  refine ⟨fun _ => hS, ?_⟩
  obtain ⟨a110, ha⟩ : ∃ z9, a109.put (some 52) (.slice A1 (us1.length + 1) c3) = z9 := ⟨_, rfl⟩
  replace pm := pm.put (d := 52) (x := .slice A1 (us1.length + 1) c3) (by decide)
  replace py := py.put (d := 52) (x := .slice A1 (us1.length + 1) c3) (by decide)
  replace t0 := t0.put (d := 52) (x := .slice A1 (us1.length + 1) c3) (by decide)
  replace t1 := t1.put (d := 52) (x := .slice A1 (us1.length + 1) c3) (by decide)
  replace t2 := t2.put (d := 52) (x := .slice A1 (us1.length + 1) c3) (by decide)
  replace t3 := t3.put (d := 52) (x := .slice A1 (us1.length + 1) c3) (by decide)
  replace t4 := t4.put (d := 52) (x := .slice A1 (us1.length + 1) c3) (by decide)
  replace t5 := t5.put (d := 52) (x := .slice A1 (us1.length + 1) c3) (by decide)
  replace t6 := t6.put (d := 52) (x := .slice A1 (us1.length + 1) c3) (by decide)
  replace t7 := t7.put (d := 52) (x := .slice A1 (us1.length + 1) c3) (by decide)
  replace t8 := t8.put (d := 52) (x := .slice A1 (us1.length + 1) c3) (by decide)
  have t9 : AtS (a109.put (some 52) (.slice A1 (us1.length + 1) c3)) 52 (.slice A1 (us1.length + 1) c3) := AtS.new (by rw [n]; decide)
  replace hout := out_put8 (v := .slice A1 (us1.length + 1) c3) hout (show 43 ≤ 52 ∧ 52 < 43 + 12 by decide)
  replace n : (a109.put (some 52) (.slice A1 (us1.length + 1) c3)).tmps.size = 108 := by rw [put_sz]; exact n
  replace hdf : (a109.put (some 52) (.slice A1 (us1.length + 1) c3)).defers = a.defers := hdf
  rw [ha] at pm py t0 t1 t2 t3 t4 t5 t6 t7 t8 t9 hout n hdf ⊢
  clear ha
  refine wpAnyE_one (k := 10) (by kernel_rfl) ?_
  refine wpOp_val i10 h10d (x_nil8 h10b t0.ev) ?_
  refine ⟨fun h => absurd h (by decide), ?_⟩
  rw [h10c]
  obtain ⟨a111, ha⟩ : ∃ z9, a110.put (some 53) (.pointer (some ⟨mb, 0, none⟩)) = z9 := ⟨_, rfl⟩
  replace pm := pm.put (d := 53) (x := .pointer (some ⟨mb, 0, none⟩)) (by decide)
  replace py := py.put (d := 53) (x := .pointer (some ⟨mb, 0, none⟩)) (by decide)
  replace t0 := t0.put (d := 53) (x := .pointer (some ⟨mb, 0, none⟩)) (by decide)
  replace t1 := t1.put (d := 53) (x := .pointer (some ⟨mb, 0, none⟩)) (by decide)
  replace t2 := t2.put (d := 53) (x := .pointer (some ⟨mb, 0, none⟩)) (by decide)
  replace t3 := t3.put (d := 53) (x := .pointer (some ⟨mb, 0, none⟩)) (by decide)
  replace t4 := t4.put (d := 53) (x := .pointer (some ⟨mb, 0, none⟩)) (by decide)
  replace t5 := t5.put (d := 53) (x := .pointer (some ⟨mb, 0, none⟩)) (by decide)
  replace t6 := t6.put (d := 53) (x := .pointer (some ⟨mb, 0, none⟩)) (by decide)
  replace t7 := t7.put (d := 53) (x := .pointer (some ⟨mb, 0, none⟩)) (by decide)
  replace t8 := t8.put (d := 53) (x := .pointer (some ⟨mb, 0, none⟩)) (by decide)
  replace t9 := t9.put (d := 53) (x := .pointer (some ⟨mb, 0, none⟩)) (by decide)
  have t10 : AtS (a110.put (some 53) (.pointer (some ⟨mb, 0, none⟩))) 53 (.pointer (some ⟨mb, 0, none⟩)) := AtS.new (by rw [n]; decide)
  replace hout := out_put8 (v := .pointer (some ⟨mb, 0, none⟩)) hout (show 43 ≤ 53 ∧ 53 < 43 + 12 by decide)
  replace n : (a110.put (some 53) (.pointer (some ⟨mb, 0, none⟩))).tmps.size = 108 := by rw [put_sz]; exact n
  replace hdf : (a110.put (some 53) (.pointer (some ⟨mb, 0, none⟩))).defers = a.defers := hdf
  rw [ha] at pm py t0 t1 t2 t3 t4 t5 t6 t7 t8 t9 t10 hout n hdf ⊢
  clear ha
  refine wpAnyE_one (k := 11) (by kernel_rfl) ?_
  refine wpOp_val i11 h11d (x_field h11b t10.ev (smf20 w3 mb)) ?_
  refine ⟨fun h => absurd h (by decide), ?_⟩
  rw [h11c]
  obtain ⟨a112, ha⟩ : ∃ z9, a111.put (some 54) (.pointer (some ⟨mb, 20, none⟩)) = z9 := ⟨_, rfl⟩
  replace pm := pm.put (d := 54) (x := .pointer (some ⟨mb, 20, none⟩)) (by decide)
  replace py := py.put (d := 54) (x := .pointer (some ⟨mb, 20, none⟩)) (by decide)
  replace t0 := t0.put (d := 54) (x := .pointer (some ⟨mb, 20, none⟩)) (by decide)
  replace t1 := t1.put (d := 54) (x := .pointer (some ⟨mb, 20, none⟩)) (by decide)
  replace t2 := t2.put (d := 54) (x := .pointer (some ⟨mb, 20, none⟩)) (by decide)
  replace t3 := t3.put (d := 54) (x := .pointer (some ⟨mb, 20, none⟩)) (by decide)
  replace t4 := t4.put (d := 54) (x := .pointer (some ⟨mb, 20, none⟩)) (by decide)
  replace t5 := t5.put (d := 54) (x := .pointer (some ⟨mb, 20, none⟩)) (by decide)
  replace t6 := t6.put (d := 54) (x := .pointer (some ⟨mb, 20, none⟩)) (by decide)
  replace t7 := t7.put (d := 54) (x := .pointer (some ⟨mb, 20, none⟩)) (by decide)
  replace t8 := t8.put (d := 54) (x := .pointer (some ⟨mb, 20, none⟩)) (by decide)
  replace t9 := t9.put (d := 54) (x := .pointer (some ⟨mb, 20, none⟩)) (by decide)
  replace t10 := t10.put (d := 54) (x := .pointer (some ⟨mb, 20, none⟩)) (by decide)
  have t11 : AtS (a111.put (some 54) (.pointer (some ⟨mb, 20, none⟩))) 54 (.pointer (some ⟨mb, 20, none⟩)) := AtS.new (by rw [n]; decide)
  replace hout := out_put8 (v := .pointer (some ⟨mb, 20, none⟩)) hout (show 43 ≤ 54 ∧ 54 < 43 + 12 by decide)
  replace n : (a111.put (some 54) (.pointer (some ⟨mb, 20, none⟩))).tmps.size = 108 := by rw [put_sz]; exact n
  replace hdf : (a111.put (some 54) (.pointer (some ⟨mb, 20, none⟩))).defers = a.defers := hdf
  rw [ha] at pm py t0 t1 t2 t3 t4 t5 t6 t7 t8 t9 t10 t11 hout n hdf ⊢
  clear ha
  refine wpAnyE_one (k := 12) (by kernel_rfl) ?_
  refine wpOp_skip i12 h12d (x_store8 h12b t11.ev t9.ev (sms8_words _ mb 20 _ _ _ v1 (hS.at_ c1) (hS.frozen 20))) ?_
  rw [h12c]
  have hu : Upd [mb] w3 (w3.setCell ⟨mb, 20, none⟩ (.slice A1 (us1.length + 1) c3)) := (Upd.refl _ _).setCell (by simp) _
  have n1 := ho1.ne hS (by decide)
  have n2 := ho2.ne hS (by decide)
  refine ⟨fun h => absurd h (by decide), ?_⟩
  refine wpAnyE_done (by kernel_rfl) ?_ _
  exact hK _ _ _ n hdf hout (hS.set_ 20 _) (ho1.upd hu (fun k hk hm => n1 k hk (by simpa using hm))) (ho2.upd hu (fun k hk hm => n2 k hk (by simpa using hm))) (hy1.upd hu (by simpa using hNm) (by simpa using hne)) (fun wx h1 h2 => (hUP wx h1 h2).trans hu (by simp)) (fun u l h => Row.upd (hBY u l h) hu (by simpa using hNm))
theorem kr1_wp {Q : Exit → Act → World → Prop} {xs : List Value} {ds : List Deferred} {w : World} {mb y lo N : Nat} {cs : Array Value} {v1 v2 : Value} {us1 us2 : List Value} {x : UInt16} {r : List UInt8}
    (n : xs.length = 108) (pm : xs[2]? = some (.pointer (some ⟨mb, 0, none⟩))) (py : xs[6]? = some (.pointer (some ⟨y, 0, none⟩))) (hb : Blk w mb 29 cs) (c1 : cs[20]? = some v1) (ho1 : Own w lo 22 v1 us1) (ho2 : Own w lo 23 v2 us2) (hl1 : us1.length + 1 ≤ 1099511627776) (hlo : lo ≤ w.heap.size)
    (hy : Rd w N y ⟨be 2 x.toNat ++ r, 0⟩) (hne : y ≠ mb) (hNl : N ≤ lo) (hNm : N ≤ mb)
    (h : ∀ (y0 y1 y2 y3 y4 y5 y6 y7 y8 y9 y10 y11 : Value) (w' : World) (v1' : Value), Blk w' mb 29 (cs.setIfInBounds 20 v1') → Own w' lo 22 v1' (us1 ++ [wv x]) → Own w' lo 23 v2 us2 → Rd w' N y ⟨r, 0⟩ →
      (∀ w0, Upd [y, mb] w0 w → w0.heap.size ≤ lo → Upd [y, mb] w0 w') → (∀ u l, Byt w N u l → Byt w' N u l) → Q .normal ⟨(xs.take 43 ++ (y0 :: y1 :: y2 :: y3 :: y4 :: y5 :: y6 :: y7 :: y8 :: y9 :: y10 :: y11 :: xs.drop (43 + 12))).toArray, ds⟩ w') : (Code.region 9 kr1L.toArray true).wp Tryz.prog Q ⟨xs.toArray, ds⟩ w := by
  refine wp_normal2 (R := fun a' w' => ∃ (y0 y1 y2 y3 y4 y5 y6 y7 y8 y9 y10 y11 : Value), a' = ⟨(xs.take 43 ++ (y0 :: y1 :: y2 :: y3 :: y4 :: y5 :: y6 :: y7 :: y8 :: y9 :: y10 :: y11 :: xs.drop (43 + 12))).toArray, ds⟩ ∧ Q .normal a' w') (fun K hK => kr1_Ch (by simpa using n) (.mk (by simpa using pm)) (.mk (by simpa using py)) hb c1 ho1 ho2 hl1 hlo hy hne hNl hNm (fun a' w' v1' k1 k2 k3 k4 k5 k6 k7 k8 k9 => ?_)) (fun a' w' ⟨y0, y1, y2, y3, y4, y5, y6, y7, y8, y9, y10, y11, _, hq⟩ => hq)
  obtain ⟨ys, hl, rfl⟩ := layN k1 k2 k3 (by decide)
  obtain ⟨y0, y1, y2, y3, y4, y5, y6, y7, y8, y9, y10, y11, rfl⟩ := list12 hl
  exact hK _ _ ⟨y0, y1, y2, y3, y4, y5, y6, y7, y8, y9, y10, y11, rfl, h y0 y1 y2 y3 y4 y5 y6 y7 y8 y9 y10 y11 w' v1' k4 k5 k6 k7 k8 k9⟩
noncomputable def kr2L : List Oper := regOf 10 (Tryz.f63.body.getD .skip)
set_option maxHeartbeats 4000000 in
theorem kr2_Ch {K : Act → World → Prop} {a : Act} {w : World} {mb y lo N : Nat} {cs : Array Value} {v1 v2 : Value} {us1 us2 : List Value} {d : List UInt8} {r : List UInt8} {bs : List UInt8} (hlp : lp 2 bs = some (d, r)) (hd1 : 1 ≤ d.length) (hd2 : d.length ≤ 65535)
    (n : a.tmps.size = 108) (pm : AtS a 2 (.pointer (some ⟨mb, 0, none⟩))) (py : AtS a 6 (.pointer (some ⟨y, 0, none⟩))) (hb : Blk w mb 29 cs) (c1 : cs[21]? = some v1) (ho1 : Own w lo 23 v1 us1) (ho2 : Own w lo 22 v2 us2) (hl1 : us1.length + 1 ≤ 1099511627776) (hlo : lo ≤ w.heap.size)
    (hy : Rd w N y ⟨bs, 0⟩) (hne : y ≠ mb) (hNl : N ≤ lo) (hNm : N ≤ mb)
    (hK : ∀ (a' : Act) (w' : World) (v1' : Value), a'.tmps.size = 108 → a'.defers = a.defers → (∀ i, i < 55 ∨ 55 + 11 ≤ i → a'.tmps[i]? = a.tmps[i]?) → Blk w' mb 29 (cs.setIfInBounds 21 v1') → ∀ (A : Option Addr) (c : Nat), Byt w' N (.slice A d.length c) d → Own w' lo 23 v1' (us1 ++ [.slice A d.length c]) → Own w' lo 22 v2 us2 → Rd w' N y ⟨r, 0⟩ →
      (∀ w0, Upd [y, mb] w0 w → w0.heap.size ≤ lo → Upd [y, mb] w0 w') → (∀ u l, Byt w N u l → Byt w' N u l) → K a' w') : (Code.region 10 kr2L.toArray true).wp Tryz.prog (Exit.then K fun _ _ _ => False) a w := by
  obtain ⟨o0, h0a, h0b, h0c, h0d⟩ := OpIs.get (l := kr2L) (k := 0) (op := .move (.tmp 2)) (d := 55) (g := none) (.mk (by kernel_rfl))
  have i0 : kr2L.toArray[0]? = some o0 := by simpa using h0a
  obtain ⟨o1, h1a, h1b, h1c, h1d⟩ := OpIs.get (l := kr2L) (k := 1) (op := .move (.tmp 2)) (d := 56) (g := none) (.mk (by kernel_rfl))
  have i1 : kr2L.toArray[1]? = some o1 := by simpa using h1a
  obtain ⟨o2, h2a, h2b, h2c, h2d⟩ := OpIs.get (l := kr2L) (k := 2) (op := .nilCheck (.tmp 56)) (d := 57) (g := none) (.mk (by kernel_rfl))
  have i2 : kr2L.toArray[2]? = some o2 := by simpa using h2a
  obtain ⟨o3, h3a, h3b, h3c, h3d⟩ := OpIs.get (l := kr2L) (k := 3) (op := .fieldAddr 29 (.tmp 57) 21) (d := 58) (g := none) (.mk (by kernel_rfl))
  have i3 : kr2L.toArray[3]? = some o3 := by simpa using h3a
  obtain ⟨o4, h4a, h4b, h4c, h4d⟩ := OpIs.get (l := kr2L) (k := 4) (op := .load 26 (.tmp 58)) (d := 59) (g := none) (.mk (by kernel_rfl))
  have i4 : kr2L.toArray[4]? = some o4 := by simpa using h4a
  obtain ⟨o5, h5a, h5b, h5c, h5d⟩ := OpIs.get (l := kr2L) (k := 5) (op := .move (.tmp 6)) (d := 60) (g := none) (.mk (by kernel_rfl))
  have i5 : kr2L.toArray[5]? = some o5 := by simpa using h5a
  obtain ⟨o6, h6a, h6b, h6c, h6d⟩ := OpIs.get (l := kr2L) (k := 6) (op := .call { callee := .value (.func 46), args := #[.tmp 60, .const (.int .i64 2), .const (.int .i64 1), .const (.int .i64 65535)], argTypes := #[77, 3, 3, 3] }) (d := 61) (g := none) (.mk (by kernel_rfl))
  have i6 : kr2L.toArray[6]? = some o6 := by simpa using h6a
  obtain ⟨o7, h7a, h7b, h7c, h7d⟩ := OpIs.get (l := kr2L) (k := 7) (op := .buildSlice 26 1 #[(0, .tmp 61)]) (d := 62) (g := none) (.mk (by kernel_rfl))
  have i7 : kr2L.toArray[7]? = some o7 := by simpa using h7a
  obtain ⟨o8, h8a, h8b, h8c, h8d⟩ := OpIs.get (l := kr2L) (k := 8) (op := .call { callee := .builtin .append, args := #[.tmp 59, .tmp 62], argTypes := #[26, 26] }) (d := 63) (g := none) (.mk (by kernel_rfl))
  have i8 : kr2L.toArray[8]? = some o8 := by simpa using h8a
  obtain ⟨o9, h9a, h9b, h9c, h9d⟩ := OpIs.get (l := kr2L) (k := 9) (op := .nilCheck (.tmp 55)) (d := 64) (g := none) (.mk (by kernel_rfl))
  have i9 : kr2L.toArray[9]? = some o9 := by simpa using h9a
  obtain ⟨o10, h10a, h10b, h10c, h10d⟩ := OpIs.get (l := kr2L) (k := 10) (op := .fieldAddr 29 (.tmp 64) 21) (d := 65) (g := none) (.mk (by kernel_rfl))
  have i10 : kr2L.toArray[10]? = some o10 := by simpa using h10a
  obtain ⟨o11, i11, h11b, h11c, h11d⟩ : ∃ o : Oper, kr2L.toArray[11]? = some o ∧ o.op = .store 26 (.tmp 65) (.tmp 63) ∧ o.dst = none ∧ o.guard = none := by
    have h : (kr2L[11]?).map (fun o => (o.op, o.dst, o.guard)) = some (.store 26 (.tmp 65) (.tmp 63), none, none) := by kernel_rfl
    cases hk : kr2L[11]? with
    | none => rw [hk] at h; cases h
    | some o =>
      rw [hk] at h
      injection h with h
      injection h with h1 h
      injection h with h2 h3
      exact ⟨o, by simpa using hk, h1, h2, h3⟩
  have hsel : Region.noSelect kr2L.toArray = true := by kernel_rfl
  have hPQ : ∀ c (a : Act) (d : Option Tmp) (v : Value) w, Exit.then K (fun _ _ _ => False) (.panic c) (a.put d v) w → Exit.then K (fun _ _ _ => False) (.panic c) a w := fun _ _ _ _ _ h => h
  refine wp_region_E (S := fun u => Blk u mb 29 cs) (E := fun j => j == 9 || j == 10 || j == 11) (by kernel_rfl) ?_
  change wpAnyE _ _ _ _ _ _ _ _ _ (World.drew _)
  obtain ⟨w0, hw0⟩ : ∃ z9, World.drew w = z9 := ⟨_, rfl⟩
  rw [hw0]
  have hu0 : Upd [] w w0 := by rw [← hw0]; exact (Upd.refl _ _).drew
  have hS : Blk w0 mb 29 cs := hb.upd hu0 (by simp)
  replace ho1 := ho1.upd hu0 (by simp)
  replace ho2 := ho2.upd hu0 (by simp)
  replace hy := hy.upd hu0 (by simp) (by simp)
  have hUP : ∀ wx, Upd [y, mb] wx w → wx.heap.size ≤ lo → Upd [y, mb] wx w0 := fun wx h _ => h.trans hu0 (by simp)
  have hBY : ∀ u l, Byt w N u l → Byt w0 N u l := fun u l h => Row.upd h hu0 (by simp)
  replace hlo : lo ≤ w0.heap.size := Nat.le_trans hlo hu0.size
  clear hw0 hu0 hb
  rw [show kr2L.toArray.size = 12 by kernel_rfl]
  obtain ⟨a100, ha⟩ : ∃ z9, a = z9 := ⟨_, rfl⟩
  have hout : ∀ i, i < 55 ∨ 55 + 11 ≤ i → a100.tmps[i]? = a.tmps[i]? := fun _ _ => by rw [ha]
  have hdf : a100.defers = a.defers := by rw [ha]
  show wpAnyE _ _ _ _ _ _ _ _ a _
  rw [ha] at pm py n ⊢
  clear ha
  refine wpAnyE_take (i := 0) (oi := o0) (v := .pointer (some ⟨mb, 0, none⟩)) i0 hsel (by kernel_rfl) (by kernel_rfl) (by kernel_rfl) (by kernel_rfl) (fun c a w => hPQ c a _ _ w) (.inl ⟨wanted_none h0d, fun w hs => x_move h0b pm.ev⟩) hS ?_
  rw [h0c]
  obtain ⟨a101, ha⟩ : ∃ z9, a100.put (some 55) (.pointer (some ⟨mb, 0, none⟩)) = z9 := ⟨_, rfl⟩
  replace pm := pm.put (d := 55) (x := .pointer (some ⟨mb, 0, none⟩)) (by decide)
  replace py := py.put (d := 55) (x := .pointer (some ⟨mb, 0, none⟩)) (by decide)
  have t0 : AtS (a100.put (some 55) (.pointer (some ⟨mb, 0, none⟩))) 55 (.pointer (some ⟨mb, 0, none⟩)) := AtS.new (by rw [n]; decide)
  replace hout := out_put8 (v := .pointer (some ⟨mb, 0, none⟩)) hout (show 55 ≤ 55 ∧ 55 < 55 + 11 by decide)
  replace n : (a100.put (some 55) (.pointer (some ⟨mb, 0, none⟩))).tmps.size = 108 := by rw [put_sz]; exact n
  replace hdf : (a100.put (some 55) (.pointer (some ⟨mb, 0, none⟩))).defers = a.defers := hdf
  rw [ha] at pm py t0 hout n hdf ⊢
  clear ha
  refine wpAnyE_take (i := 1) (oi := o1) (v := .pointer (some ⟨mb, 0, none⟩)) i1 hsel (by kernel_rfl) (by kernel_rfl) (by kernel_rfl) (by kernel_rfl) (fun c a w => hPQ c a _ _ w) (.inl ⟨wanted_none h1d, fun w hs => x_move h1b pm.ev⟩) hS ?_
  rw [h1c]
  obtain ⟨a102, ha⟩ : ∃ z9, a101.put (some 56) (.pointer (some ⟨mb, 0, none⟩)) = z9 := ⟨_, rfl⟩
  replace pm := pm.put (d := 56) (x := .pointer (some ⟨mb, 0, none⟩)) (by decide)
  replace py := py.put (d := 56) (x := .pointer (some ⟨mb, 0, none⟩)) (by decide)
  replace t0 := t0.put (d := 56) (x := .pointer (some ⟨mb, 0, none⟩)) (by decide)
  have t1 : AtS (a101.put (some 56) (.pointer (some ⟨mb, 0, none⟩))) 56 (.pointer (some ⟨mb, 0, none⟩)) := AtS.new (by rw [n]; decide)
  replace hout := out_put8 (v := .pointer (some ⟨mb, 0, none⟩)) hout (show 55 ≤ 56 ∧ 56 < 55 + 11 by decide)
  replace n : (a101.put (some 56) (.pointer (some ⟨mb, 0, none⟩))).tmps.size = 108 := by rw [put_sz]; exact n
  replace hdf : (a101.put (some 56) (.pointer (some ⟨mb, 0, none⟩))).defers = a.defers := hdf
  rw [ha] at pm py t0 t1 hout n hdf ⊢
  clear ha
  refine wpAnyE_take (i := 2) (oi := o2) (v := .pointer (some ⟨mb, 0, none⟩)) i2 hsel (by kernel_rfl) (by kernel_rfl) (by kernel_rfl) (by kernel_rfl) (fun c a w => hPQ c a _ _ w) (.inl ⟨wanted_none h2d, fun w hs => x_nil8 h2b t1.ev⟩) hS ?_
  rw [h2c]
  obtain ⟨a103, ha⟩ : ∃ z9, a102.put (some 57) (.pointer (some ⟨mb, 0, none⟩)) = z9 := ⟨_, rfl⟩
  replace pm := pm.put (d := 57) (x := .pointer (some ⟨mb, 0, none⟩)) (by decide)
  replace py := py.put (d := 57) (x := .pointer (some ⟨mb, 0, none⟩)) (by decide)
  replace t0 := t0.put (d := 57) (x := .pointer (some ⟨mb, 0, none⟩)) (by decide)
  replace t1 := t1.put (d := 57) (x := .pointer (some ⟨mb, 0, none⟩)) (by decide)
  have t2 : AtS (a102.put (some 57) (.pointer (some ⟨mb, 0, none⟩))) 57 (.pointer (some ⟨mb, 0, none⟩)) := AtS.new (by rw [n]; decide)
  replace hout := out_put8 (v := .pointer (some ⟨mb, 0, none⟩)) hout (show 55 ≤ 57 ∧ 57 < 55 + 11 by decide)
  replace n : (a102.put (some 57) (.pointer (some ⟨mb, 0, none⟩))).tmps.size = 108 := by rw [put_sz]; exact n
  replace hdf : (a102.put (some 57) (.pointer (some ⟨mb, 0, none⟩))).defers = a.defers := hdf
  rw [ha] at pm py t0 t1 t2 hout n hdf ⊢
  clear ha
  refine wpAnyE_take (i := 3) (oi := o3) (v := .pointer (some ⟨mb, 21, none⟩)) i3 hsel (by kernel_rfl) (by kernel_rfl) (by kernel_rfl) (by kernel_rfl) (fun c a w => hPQ c a _ _ w) (.inl ⟨wanted_none h3d, fun w hs => x_field h3b t2.ev (smf21 w mb)⟩) hS ?_
  rw [h3c]
  obtain ⟨a104, ha⟩ : ∃ z9, a103.put (some 58) (.pointer (some ⟨mb, 21, none⟩)) = z9 := ⟨_, rfl⟩
  replace pm := pm.put (d := 58) (x := .pointer (some ⟨mb, 21, none⟩)) (by decide)
  replace py := py.put (d := 58) (x := .pointer (some ⟨mb, 21, none⟩)) (by decide)
  replace t0 := t0.put (d := 58) (x := .pointer (some ⟨mb, 21, none⟩)) (by decide)
  replace t1 := t1.put (d := 58) (x := .pointer (some ⟨mb, 21, none⟩)) (by decide)
  replace t2 := t2.put (d := 58) (x := .pointer (some ⟨mb, 21, none⟩)) (by decide)
  have t3 : AtS (a103.put (some 58) (.pointer (some ⟨mb, 21, none⟩))) 58 (.pointer (some ⟨mb, 21, none⟩)) := AtS.new (by rw [n]; decide)
  replace hout := out_put8 (v := .pointer (some ⟨mb, 21, none⟩)) hout (show 55 ≤ 58 ∧ 58 < 55 + 11 by decide)
  replace n : (a103.put (some 58) (.pointer (some ⟨mb, 21, none⟩))).tmps.size = 108 := by rw [put_sz]; exact n
  replace hdf : (a103.put (some 58) (.pointer (some ⟨mb, 21, none⟩))).defers = a.defers := hdf
  rw [ha] at pm py t0 t1 t2 t3 hout n hdf ⊢
  clear ha
  refine wpAnyE_take (i := 4) (oi := o4) (v := v1) i4 hsel (by kernel_rfl) (by kernel_rfl) (by kernel_rfl) (by kernel_rfl) (fun c a w => hPQ c a _ _ w) (.inl ⟨wanted_none h4d, fun w hs => x_load h4b t3.ev (sml_lists w mb 21 v1 (hs.at_ c1))⟩) hS ?_
  rw [h4c]
  obtain ⟨a105, ha⟩ : ∃ z9, a104.put (some 59) (v1) = z9 := ⟨_, rfl⟩
  replace pm := pm.put (d := 59) (x := v1) (by decide)
  replace py := py.put (d := 59) (x := v1) (by decide)
  replace t0 := t0.put (d := 59) (x := v1) (by decide)
  replace t1 := t1.put (d := 59) (x := v1) (by decide)
  replace t2 := t2.put (d := 59) (x := v1) (by decide)
  replace t3 := t3.put (d := 59) (x := v1) (by decide)
  have t4 : AtS (a104.put (some 59) (v1)) 59 (v1) := AtS.new (by rw [n]; decide)
  replace hout := out_put8 (v := v1) hout (show 55 ≤ 59 ∧ 59 < 55 + 11 by decide)
  replace n : (a104.put (some 59) (v1)).tmps.size = 108 := by rw [put_sz]; exact n
  replace hdf : (a104.put (some 59) (v1)).defers = a.defers := hdf
  rw [ha] at pm py t0 t1 t2 t3 t4 hout n hdf ⊢
  clear ha
  refine wpAnyE_take (i := 5) (oi := o5) (v := .pointer (some ⟨y, 0, none⟩)) i5 hsel (by kernel_rfl) (by kernel_rfl) (by kernel_rfl) (by kernel_rfl) (fun c a w => hPQ c a _ _ w) (.inl ⟨wanted_none h5d, fun w hs => x_move h5b py.ev⟩) hS ?_
  rw [h5c]
  obtain ⟨a106, ha⟩ : ∃ z9, a105.put (some 60) (.pointer (some ⟨y, 0, none⟩)) = z9 := ⟨_, rfl⟩
  replace pm := pm.put (d := 60) (x := .pointer (some ⟨y, 0, none⟩)) (by decide)
  replace py := py.put (d := 60) (x := .pointer (some ⟨y, 0, none⟩)) (by decide)
  replace t0 := t0.put (d := 60) (x := .pointer (some ⟨y, 0, none⟩)) (by decide)
  replace t1 := t1.put (d := 60) (x := .pointer (some ⟨y, 0, none⟩)) (by decide)
  replace t2 := t2.put (d := 60) (x := .pointer (some ⟨y, 0, none⟩)) (by decide)
  replace t3 := t3.put (d := 60) (x := .pointer (some ⟨y, 0, none⟩)) (by decide)
  replace t4 := t4.put (d := 60) (x := .pointer (some ⟨y, 0, none⟩)) (by decide)
  have t5 : AtS (a105.put (some 60) (.pointer (some ⟨y, 0, none⟩))) 60 (.pointer (some ⟨y, 0, none⟩)) := AtS.new (by rw [n]; decide)
  replace hout := out_put8 (v := .pointer (some ⟨y, 0, none⟩)) hout (show 55 ≤ 60 ∧ 60 < 55 + 11 by decide)
  replace n : (a105.put (some 60) (.pointer (some ⟨y, 0, none⟩))).tmps.size = 108 := by rw [put_sz]; exact n
  replace hdf : (a105.put (some 60) (.pointer (some ⟨y, 0, none⟩))).defers = a.defers := hdf
  rw [ha] at pm py t0 t1 t2 t3 t4 t5 hout n hdf ⊢
  clear ha
  refine wpAnyE_one (k := 6) (by kernel_rfl) ?_
  refine wpOp_enter i6 (wanted_none h6d) 46 #[.pointer (some ⟨y, 0, none⟩), .int .i64 2, .int .i64 1, .int .i64 65535] (x_call8 h6b (by simp only [List.map_toArray, List.map_cons, List.map_nil, t5.ev]; rfl) (fn8_vec _ _ _ _)) ?_
  refine (vecS hy 2 1 65535 hlp (by omega) hd1 hd2).mono ?_
  rintro e w1 ⟨A, c, rfl, hu, hy1, hyr⟩
  show _ ∧ wpAnyE _ _ _ _ _ _ _ _ _ w1
  have hyb : Blk w0 y 84 _ := hy.2.choose_spec.1
  have n1 := ho1.ne hyb (by decide)
  have n2 := ho2.ne hyb (by decide)
  replace hS : Blk w1 mb 29 cs := hS.upd hu (by simpa using Ne.symm hne)
  replace ho1 := ho1.upd hu (fun k hk hm => n1 k hk (by simpa using hm))
  replace ho2 := ho2.upd hu (fun k hk hm => n2 k hk (by simpa using hm))
  have hyN : N ≤ y := hy.1
  replace hUP : ∀ wx, Upd [y, mb] wx w → wx.heap.size ≤ lo → Upd [y, mb] wx w1 := fun wx h1 h2 => (hUP wx h1 h2).trans hu (by simp)
  replace hBY : ∀ u l, Byt w N u l → Byt w1 N u l := fun u l h => Row.upd (hBY u l h) hu (by simpa using hyN)
  replace hlo := Nat.le_trans hlo hu.size
  clear hu hy n1 n2 hyb
  refine ⟨fun _ => hS, ?_⟩
  rw [h6c]
  obtain ⟨a107, ha⟩ : ∃ z9, a106.put (some 61) (.slice A d.length c) = z9 := ⟨_, rfl⟩
  replace pm := pm.put (d := 61) (x := .slice A d.length c) (by decide)
  replace py := py.put (d := 61) (x := .slice A d.length c) (by decide)
  replace t0 := t0.put (d := 61) (x := .slice A d.length c) (by decide)
  replace t1 := t1.put (d := 61) (x := .slice A d.length c) (by decide)
  replace t2 := t2.put (d := 61) (x := .slice A d.length c) (by decide)
  replace t3 := t3.put (d := 61) (x := .slice A d.length c) (by decide)
  replace t4 := t4.put (d := 61) (x := .slice A d.length c) (by decide)
  replace t5 := t5.put (d := 61) (x := .slice A d.length c) (by decide)
  have t6 : AtS (a106.put (some 61) (.slice A d.length c)) 61 (.slice A d.length c) := AtS.new (by rw [n]; decide)
  replace hout := out_put8 (v := .slice A d.length c) hout (show 55 ≤ 61 ∧ 61 < 55 + 11 by decide)
  replace n : (a106.put (some 61) (.slice A d.length c)).tmps.size = 108 := by rw [put_sz]; exact n
  replace hdf : (a106.put (some 61) (.slice A d.length c)).defers = a.defers := hdf
  rw [ha] at pm py t0 t1 t2 t3 t4 t5 t6 hout n hdf ⊢
  clear ha
  refine wpAnyE_one (k := 7) (by kernel_rfl) ?_
  refine wpOp_val i7 h7d (x_bs8 h7b t6.ev (smb8_lists w1 _ _ _)) ?_
  rw [h7c]
  obtain ⟨k1, hk1⟩ : ∃ z9, w1.heap.size = z9 := ⟨_, rfl⟩
  have r1 := Row.one w1 23 (.slice A d.length c)
  obtain ⟨w2, hw⟩ : ∃ z9, w1.alloc (.cells #[.slice A d.length c] 23) = z9 := ⟨_, rfl⟩
  have hu : Upd [] w1 w2 := by rw [← hw]; exact (Upd.refl _ _).alloc _
  rw [hw, hk1] at r1
  rw [hw, hk1]
  replace hS : Blk w2 mb 29 cs := hS.upd hu (by simp)
  replace ho1 := ho1.upd hu (by simp)
  replace ho2 := ho2.upd hu (by simp)
  replace hy1 := hy1.upd hu (by simp) (by simp)
  replace hyr := Row.upd hyr hu (by simp)
  replace hlo := Nat.le_trans hlo hu.size
  replace hUP : ∀ wx, Upd [y, mb] wx w → wx.heap.size ≤ lo → Upd [y, mb] wx w2 := fun wx h1 h2 => (hUP wx h1 h2).trans hu (by simp)
  replace hBY : ∀ u l, Byt w N u l → Byt w2 N u l := fun u l h => Row.upd (hBY u l h) hu (by simp)
  clear hu hw hk1
  refine ⟨fun _ => hS, ?_⟩
  obtain ⟨a108, ha⟩ : ∃ z9, a107.put (some 62) (.slice (some ⟨k1, 0, none⟩) 1 1) = z9 := ⟨_, rfl⟩
  replace pm := pm.put (d := 62) (x := .slice (some ⟨k1, 0, none⟩) 1 1) (by decide)
  replace py := py.put (d := 62) (x := .slice (some ⟨k1, 0, none⟩) 1 1) (by decide)
  replace t0 := t0.put (d := 62) (x := .slice (some ⟨k1, 0, none⟩) 1 1) (by decide)
  replace t1 := t1.put (d := 62) (x := .slice (some ⟨k1, 0, none⟩) 1 1) (by decide)
  replace t2 := t2.put (d := 62) (x := .slice (some ⟨k1, 0, none⟩) 1 1) (by decide)
  replace t3 := t3.put (d := 62) (x := .slice (some ⟨k1, 0, none⟩) 1 1) (by decide)
  replace t4 := t4.put (d := 62) (x := .slice (some ⟨k1, 0, none⟩) 1 1) (by decide)
  replace t5 := t5.put (d := 62) (x := .slice (some ⟨k1, 0, none⟩) 1 1) (by decide)
  replace t6 := t6.put (d := 62) (x := .slice (some ⟨k1, 0, none⟩) 1 1) (by decide)
  have t8 : AtS (a107.put (some 62) (.slice (some ⟨k1, 0, none⟩) 1 1)) 62 (.slice (some ⟨k1, 0, none⟩) 1 1) := AtS.new (by rw [n]; decide)
  replace hout := out_put8 (v := .slice (some ⟨k1, 0, none⟩) 1 1) hout (show 55 ≤ 62 ∧ 62 < 55 + 11 by decide)
  replace n : (a107.put (some 62) (.slice (some ⟨k1, 0, none⟩) 1 1)).tmps.size = 108 := by rw [put_sz]; exact n
  replace hdf : (a107.put (some 62) (.slice (some ⟨k1, 0, none⟩) 1 1)).defers = a.defers := hdf
  rw [ha] at pm py t0 t1 t2 t3 t4 t5 t6 t8 hout n hdf ⊢
  clear ha
  refine wpAnyE_one (k := 8) (by kernel_rfl) ?_
  refine wpOp_wp i8 h8d (wp_append_row _ _ _ 26 h8b lo 23 (.slice none 0 0) 24 Tryz.underlying26 info_bytes rfl t4.ev ho1 t8.ev r1 (by intro u hu; simp at hu; subst hu; rfl) (by simp; omega) (by simp; omega) hlo ?_)
  intro u1 w3 hap
  rw [h8c]
  have hyb : Blk w2 y 84 _ := hy1.2.choose_spec.1
  have hge : ∀ k ∈ v1.ownBlock.toList, lo ≤ k := fun k hk => (ho1.ge (Option.mem_toList.1 hk)).1
  replace hS : Blk w3 mb 29 cs := hS.upd hap.2.1 (fun hk => ho1.ne hS (by decide) mb (Option.mem_toList.1 hk) rfl)
  replace hy1 := hy1.upd hap.2.1 (fun k hk => Nat.le_trans hNl (hge k hk)) (fun hk => ho1.ne hyb (by decide) y (Option.mem_toList.1 hk) rfl)
  replace hyr := Row.upd hyr hap.2.1 (fun k hk => Nat.le_trans hNl (hge k hk))
  replace hUP : ∀ wx, Upd [y, mb] wx w → wx.heap.size ≤ lo → Upd [y, mb] wx w3 := fun wx h1 h2 => (hUP wx h1 h2).trans hap.2.1 (fun k hk => .inr (Nat.le_trans h2 (hge k hk)))
  replace hBY : ∀ u l, Byt w N u l → Byt w3 N u l := fun u l h => Row.upd (hBY u l h) hap.2.1 (fun k hk => Nat.le_trans hNl (hge k hk))
  replace ho2 := ho2.upd hap.2.1 (fun k hk hm => ho1.apart8 ho2 (by decide) k (Option.mem_toList.1 hm) hk)
  replace ho1 := hap.1
  obtain ⟨A1, c3, e1⟩ := Own.formN (n := us1.length + 1) ho1 (by simp)
  subst e1
  replace hlo := Nat.le_trans hlo hap.2.1.size
  clear hap hge r1 hyb
  refine ⟨fun _ => hS, ?_⟩
  obtain ⟨a109, ha⟩ : ∃ z9, a108.put (some 63) (.slice A1 (us1.length + 1) c3) = z9 := ⟨_, rfl⟩
  replace pm := pm.put (d := 63) (x := .slice A1 (us1.length + 1) c3) (by decide)
  replace py := py.put (d := 63) (x := .slice A1 (us1.length + 1) c3) (by decide)
  replace t0 := t0.put (d := 63) (x := .slice A1 (us1.length + 1) c3) (by decide)
  replace t1 := t1.put (d := 63) (x := .slice A1 (us1.length + 1) c3) (by decide)
  replace t2 := t2.put (d := 63) (x := .slice A1 (us1.length + 1) c3) (by decide)
  replace t3 := t3.put (d := 63) (x := .slice A1 (us1.length + 1) c3) (by decide)
  replace t4 := t4.put (d := 63) (x := .slice A1 (us1.length + 1) c3) (by decide)
  replace t5 := t5.put (d := 63) (x := .slice A1 (us1.length + 1) c3) (by decide)
  replace t6 := t6.put (d := 63) (x := .slice A1 (us1.length + 1) c3) (by decide)
  replace t8 := t8.put (d := 63) (x := .slice A1 (us1.length + 1) c3) (by decide)
  have t9 : AtS (a108.put (some 63) (.slice A1 (us1.length + 1) c3)) 63 (.slice A1 (us1.length + 1) c3) := AtS.new (by rw [n]; decide)
  replace hout := out_put8 (v := .slice A1 (us1.length + 1) c3) hout (show 55 ≤ 63 ∧ 63 < 55 + 11 by decide)
  replace n : (a108.put (some 63) (.slice A1 (us1.length + 1) c3)).tmps.size = 108 := by rw [put_sz]; exact n
  replace hdf : (a108.put (some 63) (.slice A1 (us1.length + 1) c3)).defers = a.defers := hdf
  rw [ha] at pm py t0 t1 t2 t3 t4 t5 t6 t8 t9 hout n hdf ⊢
  clear ha
  refine wpAnyE_one (k := 9) (by kernel_rfl) ?_
  refine wpOp_val i9 h9d (x_nil8 h9b t0.ev) ?_
  refine ⟨fun h => absurd h (by decide), ?_⟩
  rw [h9c]
  obtain ⟨a110, ha⟩ : ∃ z9, a109.put (some 64) (.pointer (some ⟨mb, 0, none⟩)) = z9 := ⟨_, rfl⟩
  replace pm := pm.put (d := 64) (x := .pointer (some ⟨mb, 0, none⟩)) (by decide)
  replace py := py.put (d := 64) (x := .pointer (some ⟨mb, 0, none⟩)) (by decide)
  replace t0 := t0.put (d := 64) (x := .pointer (some ⟨mb, 0, none⟩)) (by decide)
  replace t1 := t1.put (d := 64) (x := .pointer (some ⟨mb, 0, none⟩)) (by decide)
  replace t2 := t2.put (d := 64) (x := .pointer (some ⟨mb, 0, none⟩)) (by decide)
  replace t3 := t3.put (d := 64) (x := .pointer (some ⟨mb, 0, none⟩)) (by decide)
  replace t4 := t4.put (d := 64) (x := .pointer (some ⟨mb, 0, none⟩)) (by decide)
  replace t5 := t5.put (d := 64) (x := .pointer (some ⟨mb, 0, none⟩)) (by decide)
  replace t6 := t6.put (d := 64) (x := .pointer (some ⟨mb, 0, none⟩)) (by decide)
  replace t8 := t8.put (d := 64) (x := .pointer (some ⟨mb, 0, none⟩)) (by decide)
  replace t9 := t9.put (d := 64) (x := .pointer (some ⟨mb, 0, none⟩)) (by decide)
  have t10 : AtS (a109.put (some 64) (.pointer (some ⟨mb, 0, none⟩))) 64 (.pointer (some ⟨mb, 0, none⟩)) := AtS.new (by rw [n]; decide)
  replace hout := out_put8 (v := .pointer (some ⟨mb, 0, none⟩)) hout (show 55 ≤ 64 ∧ 64 < 55 + 11 by decide)
  replace n : (a109.put (some 64) (.pointer (some ⟨mb, 0, none⟩))).tmps.size = 108 := by rw [put_sz]; exact n
  replace hdf : (a109.put (some 64) (.pointer (some ⟨mb, 0, none⟩))).defers = a.defers := hdf
  rw [ha] at pm py t0 t1 t2 t3 t4 t5 t6 t8 t9 t10 hout n hdf ⊢
  clear ha
  refine wpAnyE_one (k := 10) (by kernel_rfl) ?_
  refine wpOp_val i10 h10d (x_field h10b t10.ev (smf21 w3 mb)) ?_
  refine ⟨fun h => absurd h (by decide), ?_⟩
  rw [h10c]
  obtain ⟨a111, ha⟩ : ∃ z9, a110.put (some 65) (.pointer (some ⟨mb, 21, none⟩)) = z9 := ⟨_, rfl⟩
  replace pm := pm.put (d := 65) (x := .pointer (some ⟨mb, 21, none⟩)) (by decide)
  replace py := py.put (d := 65) (x := .pointer (some ⟨mb, 21, none⟩)) (by decide)
  replace t0 := t0.put (d := 65) (x := .pointer (some ⟨mb, 21, none⟩)) (by decide)
  replace t1 := t1.put (d := 65) (x := .pointer (some ⟨mb, 21, none⟩)) (by decide)
  replace t2 := t2.put (d := 65) (x := .pointer (some ⟨mb, 21, none⟩)) (by decide)
  replace t3 := t3.put (d := 65) (x := .pointer (some ⟨mb, 21, none⟩)) (by decide)
  replace t4 := t4.put (d := 65) (x := .pointer (some ⟨mb, 21, none⟩)) (by decide)
  replace t5 := t5.put (d := 65) (x := .pointer (some ⟨mb, 21, none⟩)) (by decide)
  replace t6 := t6.put (d := 65) (x := .pointer (some ⟨mb, 21, none⟩)) (by decide)
  replace t8 := t8.put (d := 65) (x := .pointer (some ⟨mb, 21, none⟩)) (by decide)
  replace t9 := t9.put (d := 65) (x := .pointer (some ⟨mb, 21, none⟩)) (by decide)
  replace t10 := t10.put (d := 65) (x := .pointer (some ⟨mb, 21, none⟩)) (by decide)
  have t11 : AtS (a110.put (some 65) (.pointer (some ⟨mb, 21, none⟩))) 65 (.pointer (some ⟨mb, 21, none⟩)) := AtS.new (by rw [n]; decide)
  replace hout := out_put8 (v := .pointer (some ⟨mb, 21, none⟩)) hout (show 55 ≤ 65 ∧ 65 < 55 + 11 by decide)
  replace n : (a110.put (some 65) (.pointer (some ⟨mb, 21, none⟩))).tmps.size = 108 := by rw [put_sz]; exact n
  replace hdf : (a110.put (some 65) (.pointer (some ⟨mb, 21, none⟩))).defers = a.defers := hdf
  rw [ha] at pm py t0 t1 t2 t3 t4 t5 t6 t8 t9 t10 t11 hout n hdf ⊢
  clear ha
  refine wpAnyE_one (k := 11) (by kernel_rfl) ?_
  refine wpOp_skip i11 h11d (x_store8 h11b t11.ev t9.ev (sms8_lists _ mb 21 _ _ _ v1 (hS.at_ c1) (hS.frozen 21))) ?_
  rw [h11c]
  have hu : Upd [mb] w3 (w3.setCell ⟨mb, 21, none⟩ (.slice A1 (us1.length + 1) c3)) := (Upd.refl _ _).setCell (by simp) _
  have n1 := ho1.ne hS (by decide)
  have n2 := ho2.ne hS (by decide)
  refine ⟨fun h => absurd h (by decide), ?_⟩
  refine wpAnyE_done (by kernel_rfl) ?_ _
  exact hK _ _ _ n hdf hout (hS.set_ 21 _) A c (Row.upd hyr hu (by simpa using hNm)) (ho1.upd hu (fun k hk hm => n1 k hk (by simpa using hm))) (ho2.upd hu (fun k hk hm => n2 k hk (by simpa using hm))) (hy1.upd hu (by simpa using hNm) (by simpa using hne)) (fun wx h1 h2 => (hUP wx h1 h2).trans hu (by simp)) (fun u l h => Row.upd (hBY u l h) hu (by simpa using hNm))
theorem kr2_wp {Q : Exit → Act → World → Prop} {xs : List Value} {ds : List Deferred} {w : World} {mb y lo N : Nat} {cs : Array Value} {v1 v2 : Value} {us1 us2 : List Value} {d : List UInt8} {r : List UInt8} {bs : List UInt8} (hlp : lp 2 bs = some (d, r)) (hd1 : 1 ≤ d.length) (hd2 : d.length ≤ 65535)
    (n : xs.length = 108) (pm : xs[2]? = some (.pointer (some ⟨mb, 0, none⟩))) (py : xs[6]? = some (.pointer (some ⟨y, 0, none⟩))) (hb : Blk w mb 29 cs) (c1 : cs[21]? = some v1) (ho1 : Own w lo 23 v1 us1) (ho2 : Own w lo 22 v2 us2) (hl1 : us1.length + 1 ≤ 1099511627776) (hlo : lo ≤ w.heap.size)
    (hy : Rd w N y ⟨bs, 0⟩) (hne : y ≠ mb) (hNl : N ≤ lo) (hNm : N ≤ mb)
    (h : ∀ (y0 y1 y2 y3 y4 y5 y6 y7 y8 y9 y10 : Value) (w' : World) (v1' : Value), Blk w' mb 29 (cs.setIfInBounds 21 v1') → ∀ (A : Option Addr) (c : Nat), Byt w' N (.slice A d.length c) d → Own w' lo 23 v1' (us1 ++ [.slice A d.length c]) → Own w' lo 22 v2 us2 → Rd w' N y ⟨r, 0⟩ →
      (∀ w0, Upd [y, mb] w0 w → w0.heap.size ≤ lo → Upd [y, mb] w0 w') → (∀ u l, Byt w N u l → Byt w' N u l) → Q .normal ⟨(xs.take 55 ++ (y0 :: y1 :: y2 :: y3 :: y4 :: y5 :: y6 :: y7 :: y8 :: y9 :: y10 :: xs.drop (55 + 11))).toArray, ds⟩ w') : (Code.region 10 kr2L.toArray true).wp Tryz.prog Q ⟨xs.toArray, ds⟩ w := by
  refine wp_normal2 (R := fun a' w' => ∃ (y0 y1 y2 y3 y4 y5 y6 y7 y8 y9 y10 : Value), a' = ⟨(xs.take 55 ++ (y0 :: y1 :: y2 :: y3 :: y4 :: y5 :: y6 :: y7 :: y8 :: y9 :: y10 :: xs.drop (55 + 11))).toArray, ds⟩ ∧ Q .normal a' w') (fun K hK => kr2_Ch hlp hd1 hd2 (by simpa using n) (.mk (by simpa using pm)) (.mk (by simpa using py)) hb c1 ho1 ho2 hl1 hlo hy hne hNl hNm (fun a' w' v1' k1 k2 k3 k4 A c kb k5 k6 k7 k8 k9 => ?_)) (fun a' w' ⟨y0, y1, y2, y3, y4, y5, y6, y7, y8, y9, y10, _, hq⟩ => hq)
  obtain ⟨ys, hl, rfl⟩ := layN k1 k2 k3 (by decide)
  obtain ⟨y0, y1, y2, y3, y4, y5, y6, y7, y8, y9, y10, rfl⟩ := list11 hl
  exact hK _ _ ⟨y0, y1, y2, y3, y4, y5, y6, y7, y8, y9, y10, rfl, h y0 y1 y2 y3 y4 y5 y6 y7 y8 y9 y10 w' v1' k4 A c kb k5 k6 k7 k8 k9⟩
noncomputable def kr3L : List Oper := regOf 2 (Tryz.f81.body.getD .skip)
set_option maxHeartbeats 4000000 in
theorem kr3_Ch {K : Act → World → Prop} {a : Act} {w : World} {mb y lo N : Nat} {cs : Array Value} {v1 v2 : Value} {us1 us2 : List Value} {d : List UInt8} {r : List UInt8} {bs : List UInt8} (hlp : lp 2 bs = some (d, r)) (hd1 : 1 ≤ d.length) (hd2 : d.length ≤ 65535)
    (n : a.tmps.size = 76) (pm : AtS a 1 (.pointer (some ⟨mb, 0, none⟩))) (py : AtS a 4 (.pointer (some ⟨y, 0, none⟩))) (hb : Blk w mb 29 cs) (c1 : cs[24]? = some v1) (ho1 : Own w lo 23 v1 us1) (ho2 : Own w lo 97 v2 us2) (hl1 : us1.length + 1 ≤ 1099511627776) (hlo : lo ≤ w.heap.size)
    (hy : Rd w N y ⟨bs, 0⟩) (hne : y ≠ mb) (hNl : N ≤ lo) (hNm : N ≤ mb)
    (hK : ∀ (a' : Act) (w' : World) (v1' : Value), a'.tmps.size = 76 → a'.defers = a.defers → (∀ i, i < 15 ∨ 15 + 11 ≤ i → a'.tmps[i]? = a.tmps[i]?) → Blk w' mb 29 (cs.setIfInBounds 24 v1') → ∀ (A : Option Addr) (c : Nat), Byt w' N (.slice A d.length c) d → Own w' lo 23 v1' (us1 ++ [.slice A d.length c]) → Own w' lo 97 v2 us2 → Rd w' N y ⟨r, 0⟩ →
      (∀ w0, Upd [y, mb] w0 w → w0.heap.size ≤ lo → Upd [y, mb] w0 w') → (∀ u l, Byt w N u l → Byt w' N u l) → K a' w') : (Code.region 2 kr3L.toArray true).wp Tryz.prog (Exit.then K fun _ _ _ => False) a w := by
  obtain ⟨o0, h0a, h0b, h0c, h0d⟩ := OpIs.get (l := kr3L) (k := 0) (op := .move (.tmp 1)) (d := 15) (g := none) (.mk (by kernel_rfl))
  have i0 : kr3L.toArray[0]? = some o0 := by simpa using h0a
  obtain ⟨o1, h1a, h1b, h1c, h1d⟩ := OpIs.get (l := kr3L) (k := 1) (op := .move (.tmp 1)) (d := 16) (g := none) (.mk (by kernel_rfl))
  have i1 : kr3L.toArray[1]? = some o1 := by simpa using h1a
  obtain ⟨o2, h2a, h2b, h2c, h2d⟩ := OpIs.get (l := kr3L) (k := 2) (op := .nilCheck (.tmp 16)) (d := 17) (g := none) (.mk (by kernel_rfl))
  have i2 : kr3L.toArray[2]? = some o2 := by simpa using h2a
  obtain ⟨o3, h3a, h3b, h3c, h3d⟩ := OpIs.get (l := kr3L) (k := 3) (op := .fieldAddr 29 (.tmp 17) 24) (d := 18) (g := none) (.mk (by kernel_rfl))
  have i3 : kr3L.toArray[3]? = some o3 := by simpa using h3a
  obtain ⟨o4, h4a, h4b, h4c, h4d⟩ := OpIs.get (l := kr3L) (k := 4) (op := .load 26 (.tmp 18)) (d := 19) (g := none) (.mk (by kernel_rfl))
  have i4 : kr3L.toArray[4]? = some o4 := by simpa using h4a
  obtain ⟨o5, h5a, h5b, h5c, h5d⟩ := OpIs.get (l := kr3L) (k := 5) (op := .move (.tmp 4)) (d := 20) (g := none) (.mk (by kernel_rfl))
  have i5 : kr3L.toArray[5]? = some o5 := by simpa using h5a
  obtain ⟨o6, h6a, h6b, h6c, h6d⟩ := OpIs.get (l := kr3L) (k := 6) (op := .call { callee := .value (.func 46), args := #[.tmp 20, .const (.int .i64 2), .const (.int .i64 1), .const (.int .i64 65535)], argTypes := #[77, 3, 3, 3] }) (d := 21) (g := none) (.mk (by kernel_rfl))
  have i6 : kr3L.toArray[6]? = some o6 := by simpa using h6a
  obtain ⟨o7, h7a, h7b, h7c, h7d⟩ := OpIs.get (l := kr3L) (k := 7) (op := .buildSlice 26 1 #[(0, .tmp 21)]) (d := 22) (g := none) (.mk (by kernel_rfl))
  have i7 : kr3L.toArray[7]? = some o7 := by simpa using h7a
  obtain ⟨o8, h8a, h8b, h8c, h8d⟩ := OpIs.get (l := kr3L) (k := 8) (op := .call { callee := .builtin .append, args := #[.tmp 19, .tmp 22], argTypes := #[26, 26] }) (d := 23) (g := none) (.mk (by kernel_rfl))
  have i8 : kr3L.toArray[8]? = some o8 := by simpa using h8a
  obtain ⟨o9, h9a, h9b, h9c, h9d⟩ := OpIs.get (l := kr3L) (k := 9) (op := .nilCheck (.tmp 15)) (d := 24) (g := none) (.mk (by kernel_rfl))
  have i9 : kr3L.toArray[9]? = some o9 := by simpa using h9a
  obtain ⟨o10, h10a, h10b, h10c, h10d⟩ := OpIs.get (l := kr3L) (k := 10) (op := .fieldAddr 29 (.tmp 24) 24) (d := 25) (g := none) (.mk (by kernel_rfl))
  have i10 : kr3L.toArray[10]? = some o10 := by simpa using h10a
  obtain ⟨o11, i11, h11b, h11c, h11d⟩ : ∃ o : Oper, kr3L.toArray[11]? = some o ∧ o.op = .store 26 (.tmp 25) (.tmp 23) ∧ o.dst = none ∧ o.guard = none := by
    have h : (kr3L[11]?).map (fun o => (o.op, o.dst, o.guard)) = some (.store 26 (.tmp 25) (.tmp 23), none, none) := by kernel_rfl
    cases hk : kr3L[11]? with
    | none => rw [hk] at h; cases h
    | some o =>
      rw [hk] at h
      injection h with h
      injection h with h1 h
      injection h with h2 h3
      exact ⟨o, by simpa using hk, h1, h2, h3⟩
  have hsel : Region.noSelect kr3L.toArray = true := by kernel_rfl
  have hPQ : ∀ c (a : Act) (d : Option Tmp) (v : Value) w, Exit.then K (fun _ _ _ => False) (.panic c) (a.put d v) w → Exit.then K (fun _ _ _ => False) (.panic c) a w := fun _ _ _ _ _ h => h
  refine wp_region_E (S := fun u => Blk u mb 29 cs) (E := fun j => j == 9 || j == 10 || j == 11) (by kernel_rfl) ?_
  change wpAnyE _ _ _ _ _ _ _ _ _ (World.drew _)
  obtain ⟨w0, hw0⟩ : ∃ z9, World.drew w = z9 := ⟨_, rfl⟩
  rw [hw0]
  have hu0 : Upd [] w w0 := by rw [← hw0]; exact (Upd.refl _ _).drew
  have hS : Blk w0 mb 29 cs := hb.upd hu0 (by simp)
  replace ho1 := ho1.upd hu0 (by simp)
  replace ho2 := ho2.upd hu0 (by simp)
  replace hy := hy.upd hu0 (by simp) (by simp)
  have hUP : ∀ wx, Upd [y, mb] wx w → wx.heap.size ≤ lo → Upd [y, mb] wx w0 := fun wx h _ => h.trans hu0 (by simp)
  have hBY : ∀ u l, Byt w N u l → Byt w0 N u l := fun u l h => Row.upd h hu0 (by simp)
  replace hlo : lo ≤ w0.heap.size := Nat.le_trans hlo hu0.size
  clear hw0 hu0 hb
  rw [show kr3L.toArray.size = 12 by kernel_rfl]
  obtain ⟨a100, ha⟩ : ∃ z9, a = z9 := ⟨_, rfl⟩
  have hout : ∀ i, i < 15 ∨ 15 + 11 ≤ i → a100.tmps[i]? = a.tmps[i]? := fun _ _ => by rw [ha]
  have hdf : a100.defers = a.defers := by rw [ha]
  show wpAnyE _ _ _ _ _ _ _ _ a _
  rw [ha] at pm py n ⊢
  clear ha
  refine wpAnyE_take (i := 0) (oi := o0) (v := .pointer (some ⟨mb, 0, none⟩)) i0 hsel (by kernel_rfl) (by kernel_rfl) (by kernel_rfl) (by kernel_rfl) (fun c a w => hPQ c a _ _ w) (.inl ⟨wanted_none h0d, fun w hs => x_move h0b pm.ev⟩) hS ?_
  rw [h0c]
  obtain ⟨a101, ha⟩ : ∃ z9, a100.put (some 15) (.pointer (some ⟨mb, 0, none⟩)) = z9 := ⟨_, rfl⟩
  replace pm := pm.put (d := 15) (x := .pointer (some ⟨mb, 0, none⟩)) (by decide)
  replace py := py.put (d := 15) (x := .pointer (some ⟨mb, 0, none⟩)) (by decide)
  have t0 : AtS (a100.put (some 15) (.pointer (some ⟨mb, 0, none⟩))) 15 (.pointer (some ⟨mb, 0, none⟩)) := AtS.new (by rw [n]; decide)
  replace hout := out_put8 (v := .pointer (some ⟨mb, 0, none⟩)) hout (show 15 ≤ 15 ∧ 15 < 15 + 11 by decide)
  replace n : (a100.put (some 15) (.pointer (some ⟨mb, 0, none⟩))).tmps.size = 76 := by rw [put_sz]; exact n
  replace hdf : (a100.put (some 15) (.pointer (some ⟨mb, 0, none⟩))).defers = a.defers := hdf
  rw [ha] at pm py t0 hout n hdf ⊢
  clear ha
  refine wpAnyE_take (i := 1) (oi := o1) (v := .pointer (some ⟨mb, 0, none⟩)) i1 hsel (by kernel_rfl) (by kernel_rfl) (by kernel_rfl) (by kernel_rfl) (fun c a w => hPQ c a _ _ w) (.inl ⟨wanted_none h1d, fun w hs => x_move h1b pm.ev⟩) hS ?_
  rw [h1c]
  obtain ⟨a102, ha⟩ : ∃ z9, a101.put (some 16) (.pointer (some ⟨mb, 0, none⟩)) = z9 := ⟨_, rfl⟩
  replace pm := pm.put (d := 16) (x := .pointer (some ⟨mb, 0, none⟩)) (by decide)
  replace py := py.put (d := 16) (x := .pointer (some ⟨mb, 0, none⟩)) (by decide)
  replace t0 := t0.put (d := 16) (x := .pointer (some ⟨mb, 0, none⟩)) (by decide)
  have t1 : AtS (a101.put (some 16) (.pointer (some ⟨mb, 0, none⟩))) 16 (.pointer (some ⟨mb, 0, none⟩)) := AtS.new (by rw [n]; decide)
  replace hout := out_put8 (v := .pointer (some ⟨mb, 0, none⟩)) hout (show 15 ≤ 16 ∧ 16 < 15 + 11 by decide)
  replace n : (a101.put (some 16) (.pointer (some ⟨mb, 0, none⟩))).tmps.size = 76 := by rw [put_sz]; exact n
  replace hdf : (a101.put (some 16) (.pointer (some ⟨mb, 0, none⟩))).defers = a.defers := hdf
  rw [ha] at pm py t0 t1 hout n hdf ⊢
  clear ha
  refine wpAnyE_take (i := 2) (oi := o2) (v := .pointer (some ⟨mb, 0, none⟩)) i2 hsel (by kernel_rfl) (by kernel_rfl) (by kernel_rfl) (by kernel_rfl) (fun c a w => hPQ c a _ _ w) (.inl ⟨wanted_none h2d, fun w hs => x_nil8 h2b t1.ev⟩) hS ?_
  rw [h2c]
  obtain ⟨a103, ha⟩ : ∃ z9, a102.put (some 17) (.pointer (some ⟨mb, 0, none⟩)) = z9 := ⟨_, rfl⟩
  replace pm := pm.put (d := 17) (x := .pointer (some ⟨mb, 0, none⟩)) (by decide)
  replace py := py.put (d := 17) (x := .pointer (some ⟨mb, 0, none⟩)) (by decide)
  replace t0 := t0.put (d := 17) (x := .pointer (some ⟨mb, 0, none⟩)) (by decide)
  replace t1 := t1.put (d := 17) (x := .pointer (some ⟨mb, 0, none⟩)) (by decide)
  have t2 : AtS (a102.put (some 17) (.pointer (some ⟨mb, 0, none⟩))) 17 (.pointer (some ⟨mb, 0, none⟩)) := AtS.new (by rw [n]; decide)
  replace hout := out_put8 (v := .pointer (some ⟨mb, 0, none⟩)) hout (show 15 ≤ 17 ∧ 17 < 15 + 11 by decide)
  replace n : (a102.put (some 17) (.pointer (some ⟨mb, 0, none⟩))).tmps.size = 76 := by rw [put_sz]; exact n
  replace hdf : (a102.put (some 17) (.pointer (some ⟨mb, 0, none⟩))).defers = a.defers := hdf
  rw [ha] at pm py t0 t1 t2 hout n hdf ⊢
  clear ha
  refine wpAnyE_take (i := 3) (oi := o3) (v := .pointer (some ⟨mb, 24, none⟩)) i3 hsel (by kernel_rfl) (by kernel_rfl) (by kernel_rfl) (by kernel_rfl) (fun c a w => hPQ c a _ _ w) (.inl ⟨wanted_none h3d, fun w hs => x_field h3b t2.ev (smf8_24 w mb)⟩) hS ?_
  rw [h3c]
  obtain ⟨a104, ha⟩ : ∃ z9, a103.put (some 18) (.pointer (some ⟨mb, 24, none⟩)) = z9 := ⟨_, rfl⟩
  replace pm := pm.put (d := 18) (x := .pointer (some ⟨mb, 24, none⟩)) (by decide)
  replace py := py.put (d := 18) (x := .pointer (some ⟨mb, 24, none⟩)) (by decide)
  replace t0 := t0.put (d := 18) (x := .pointer (some ⟨mb, 24, none⟩)) (by decide)
  replace t1 := t1.put (d := 18) (x := .pointer (some ⟨mb, 24, none⟩)) (by decide)
  replace t2 := t2.put (d := 18) (x := .pointer (some ⟨mb, 24, none⟩)) (by decide)
  have t3 : AtS (a103.put (some 18) (.pointer (some ⟨mb, 24, none⟩))) 18 (.pointer (some ⟨mb, 24, none⟩)) := AtS.new (by rw [n]; decide)
  replace hout := out_put8 (v := .pointer (some ⟨mb, 24, none⟩)) hout (show 15 ≤ 18 ∧ 18 < 15 + 11 by decide)
  replace n : (a103.put (some 18) (.pointer (some ⟨mb, 24, none⟩))).tmps.size = 76 := by rw [put_sz]; exact n
  replace hdf : (a103.put (some 18) (.pointer (some ⟨mb, 24, none⟩))).defers = a.defers := hdf
  rw [ha] at pm py t0 t1 t2 t3 hout n hdf ⊢
  clear ha
  refine wpAnyE_take (i := 4) (oi := o4) (v := v1) i4 hsel (by kernel_rfl) (by kernel_rfl) (by kernel_rfl) (by kernel_rfl) (fun c a w => hPQ c a _ _ w) (.inl ⟨wanted_none h4d, fun w hs => x_load h4b t3.ev (sml_lists w mb 24 v1 (hs.at_ c1))⟩) hS ?_
  rw [h4c]
  obtain ⟨a105, ha⟩ : ∃ z9, a104.put (some 19) (v1) = z9 := ⟨_, rfl⟩
  replace pm := pm.put (d := 19) (x := v1) (by decide)
  replace py := py.put (d := 19) (x := v1) (by decide)
  replace t0 := t0.put (d := 19) (x := v1) (by decide)
  replace t1 := t1.put (d := 19) (x := v1) (by decide)
  replace t2 := t2.put (d := 19) (x := v1) (by decide)
  replace t3 := t3.put (d := 19) (x := v1) (by decide)
  have t4 : AtS (a104.put (some 19) (v1)) 19 (v1) := AtS.new (by rw [n]; decide)
  replace hout := out_put8 (v := v1) hout (show 15 ≤ 19 ∧ 19 < 15 + 11 by decide)
  replace n : (a104.put (some 19) (v1)).tmps.size = 76 := by rw [put_sz]; exact n
  replace hdf : (a104.put (some 19) (v1)).defers = a.defers := hdf
  rw [ha] at pm py t0 t1 t2 t3 t4 hout n hdf ⊢
  clear ha
  refine wpAnyE_take (i := 5) (oi := o5) (v := .pointer (some ⟨y, 0, none⟩)) i5 hsel (by kernel_rfl) (by kernel_rfl) (by kernel_rfl) (by kernel_rfl) (fun c a w => hPQ c a _ _ w) (.inl ⟨wanted_none h5d, fun w hs => x_move h5b py.ev⟩) hS ?_
  rw [h5c]
  obtain ⟨a106, ha⟩ : ∃ z9, a105.put (some 20) (.pointer (some ⟨y, 0, none⟩)) = z9 := ⟨_, rfl⟩
  replace pm := pm.put (d := 20) (x := .pointer (some ⟨y, 0, none⟩)) (by decide)
  replace py := py.put (d := 20) (x := .pointer (some ⟨y, 0, none⟩)) (by decide)
  replace t0 := t0.put (d := 20) (x := .pointer (some ⟨y, 0, none⟩)) (by decide)
  replace t1 := t1.put (d := 20) (x := .pointer (some ⟨y, 0, none⟩)) (by decide)
  replace t2 := t2.put (d := 20) (x := .pointer (some ⟨y, 0, none⟩)) (by decide)
  replace t3 := t3.put (d := 20) (x := .pointer (some ⟨y, 0, none⟩)) (by decide)
  replace t4 := t4.put (d := 20) (x := .pointer (some ⟨y, 0, none⟩)) (by decide)
  have t5 : AtS (a105.put (some 20) (.pointer (some ⟨y, 0, none⟩))) 20 (.pointer (some ⟨y, 0, none⟩)) := AtS.new (by rw [n]; decide)
  replace hout := out_put8 (v := .pointer (some ⟨y, 0, none⟩)) hout (show 15 ≤ 20 ∧ 20 < 15 + 11 by decide)
  replace n : (a105.put (some 20) (.pointer (some ⟨y, 0, none⟩))).tmps.size = 76 := by rw [put_sz]; exact n
  replace hdf : (a105.put (some 20) (.pointer (some ⟨y, 0, none⟩))).defers = a.defers := hdf
  rw [ha] at pm py t0 t1 t2 t3 t4 t5 hout n hdf ⊢
  clear ha
  refine wpAnyE_one (k := 6) (by kernel_rfl) ?_
  refine wpOp_enter i6 (wanted_none h6d) 46 #[.pointer (some ⟨y, 0, none⟩), .int .i64 2, .int .i64 1, .int .i64 65535] (x_call8 h6b (by simp only [List.map_toArray, List.map_cons, List.map_nil, t5.ev]; rfl) (fn8_vec _ _ _ _)) ?_
  refine (vecS hy 2 1 65535 hlp (by omega) hd1 hd2).mono ?_
  rintro e w1 ⟨A, c, rfl, hu, hy1, hyr⟩
  show _ ∧ wpAnyE _ _ _ _ _ _ _ _ _ w1
  have hyb : Blk w0 y 84 _ := hy.2.choose_spec.1
  have n1 := ho1.ne hyb (by decide)
  have n2 := ho2.ne hyb (by decide)
  replace hS : Blk w1 mb 29 cs := hS.upd hu (by simpa using Ne.symm hne)
  replace ho1 := ho1.upd hu (fun k hk hm => n1 k hk (by simpa using hm))
  replace ho2 := ho2.upd hu (fun k hk hm => n2 k hk (by simpa using hm))
  have hyN : N ≤ y := hy.1
  replace hUP : ∀ wx, Upd [y, mb] wx w → wx.heap.size ≤ lo → Upd [y, mb] wx w1 := fun wx h1 h2 => (hUP wx h1 h2).trans hu (by simp)
  replace hBY : ∀ u l, Byt w N u l → Byt w1 N u l := fun u l h => Row.upd (hBY u l h) hu (by simpa using hyN)
  replace hlo := Nat.le_trans hlo hu.size
  clear hu hy n1 n2 hyb
  refine ⟨fun _ => hS, ?_⟩
  rw [h6c]
  obtain ⟨a107, ha⟩ : ∃ z9, a106.put (some 21) (.slice A d.length c) = z9 := ⟨_, rfl⟩
  replace pm := pm.put (d := 21) (x := .slice A d.length c) (by decide)
  replace py := py.put (d := 21) (x := .slice A d.length c) (by decide)
  replace t0 := t0.put (d := 21) (x := .slice A d.length c) (by decide)
  replace t1 := t1.put (d := 21) (x := .slice A d.length c) (by decide)
  replace t2 := t2.put (d := 21) (x := .slice A d.length c) (by decide)
  replace t3 := t3.put (d := 21) (x := .slice A d.length c) (by decide)
  replace t4 := t4.put (d := 21) (x := .slice A d.length c) (by decide)
  replace t5 := t5.put (d := 21) (x := .slice A d.length c) (by decide)
  have t6 : AtS (a106.put (some 21) (.slice A d.length c)) 21 (.slice A d.length c) := AtS.new (by rw [n]; decide)
  replace hout := out_put8 (v := .slice A d.length c) hout (show 15 ≤ 21 ∧ 21 < 15 + 11 by decide)
  replace n : (a106.put (some 21) (.slice A d.length c)).tmps.size = 76 := by rw [put_sz]; exact n
  replace hdf : (a106.put (some 21) (.slice A d.length c)).defers = a.defers := hdf
  rw [ha] at pm py t0 t1 t2 t3 t4 t5 t6 hout n hdf ⊢
  clear ha
  refine wpAnyE_one (k := 7) (by kernel_rfl) ?_
  refine wpOp_val i7 h7d (x_bs8 h7b t6.ev (smb8_lists w1 _ _ _)) ?_
  rw [h7c]
  obtain ⟨k1, hk1⟩ : ∃ z9, w1.heap.size = z9 := ⟨_, rfl⟩
  have r1 := Row.one w1 23 (.slice A d.length c)
  obtain ⟨w2, hw⟩ : ∃ z9, w1.alloc (.cells #[.slice A d.length c] 23) = z9 := ⟨_, rfl⟩
  have hu : Upd [] w1 w2 := by rw [← hw]; exact (Upd.refl _ _).alloc _
  rw [hw, hk1] at r1
  rw [hw, hk1]
  replace hS : Blk w2 mb 29 cs := hS.upd hu (by simp)
  replace ho1 := ho1.upd hu (by simp)
  replace ho2 := ho2.upd hu (by simp)
  replace hy1 := hy1.upd hu (by simp) (by simp)
  replace hyr := Row.upd hyr hu (by simp)
  replace hlo := Nat.le_trans hlo hu.size
  replace hUP : ∀ wx, Upd [y, mb] wx w → wx.heap.size ≤ lo → Upd [y, mb] wx w2 := fun wx h1 h2 => (hUP wx h1 h2).trans hu (by simp)
  replace hBY : ∀ u l, Byt w N u l → Byt w2 N u l := fun u l h => Row.upd (hBY u l h) hu (by simp)
  clear hu hw hk1
  refine ⟨fun _ => hS, ?_⟩
  obtain ⟨a108, ha⟩ : ∃ z9, a107.put (some 22) (.slice (some ⟨k1, 0, none⟩) 1 1) = z9 := ⟨_, rfl⟩
  replace pm := pm.put (d := 22) (x := .slice (some ⟨k1, 0, none⟩) 1 1) (by decide)
  replace py := py.put (d := 22) (x := .slice (some ⟨k1, 0, none⟩) 1 1) (by decide)
  replace t0 := t0.put (d := 22) (x := .slice (some ⟨k1, 0, none⟩) 1 1) (by decide)
  replace t1 := t1.put (d := 22) (x := .slice (some ⟨k1, 0, none⟩) 1 1) (by decide)
  replace t2 := t2.put (d := 22) (x := .slice (some ⟨k1, 0, none⟩) 1 1) (by decide)
  replace t3 := t3.put (d := 22) (x := .slice (some ⟨k1, 0, none⟩) 1 1) (by decide)
  replace t4 := t4.put (d := 22) (x := .slice (some ⟨k1, 0, none⟩) 1 1) (by decide)
  replace t5 := t5.put (d := 22) (x := .slice (some ⟨k1, 0, none⟩) 1 1) (by decide)
  replace t6 := t6.put (d := 22) (x := .slice (some ⟨k1, 0, none⟩) 1 1) (by decide)
  have t8 : AtS (a107.put (some 22) (.slice (some ⟨k1, 0, none⟩) 1 1)) 22 (.slice (some ⟨k1, 0, none⟩) 1 1) := AtS.new (by rw [n]; decide)
  replace hout := out_put8 (v := .slice (some ⟨k1, 0, none⟩) 1 1) hout (show 15 ≤ 22 ∧ 22 < 15 + 11 by decide)
  replace n : (a107.put (some 22) (.slice (some ⟨k1, 0, none⟩) 1 1)).tmps.size = 76 := by rw [put_sz]; exact n
  replace hdf : (a107.put (some 22) (.slice (some ⟨k1, 0, none⟩) 1 1)).defers = a.defers := hdf
  rw [ha] at pm py t0 t1 t2 t3 t4 t5 t6 t8 hout n hdf ⊢
  clear ha
  refine wpAnyE_one (k := 8) (by kernel_rfl) ?_
  refine wpOp_wp i8 h8d (wp_append_row _ _ _ 26 h8b lo 23 (.slice none 0 0) 24 Tryz.underlying26 info_bytes rfl t4.ev ho1 t8.ev r1 (by intro u hu; simp at hu; subst hu; rfl) (by simp; omega) (by simp; omega) hlo ?_)
  intro u1 w3 hap
  rw [h8c]
  have hyb : Blk w2 y 84 _ := hy1.2.choose_spec.1
  have hge : ∀ k ∈ v1.ownBlock.toList, lo ≤ k := fun k hk => (ho1.ge (Option.mem_toList.1 hk)).1
  replace hS : Blk w3 mb 29 cs := hS.upd hap.2.1 (fun hk => ho1.ne hS (by decide) mb (Option.mem_toList.1 hk) rfl)
  replace hy1 := hy1.upd hap.2.1 (fun k hk => Nat.le_trans hNl (hge k hk)) (fun hk => ho1.ne hyb (by decide) y (Option.mem_toList.1 hk) rfl)
  replace hyr := Row.upd hyr hap.2.1 (fun k hk => Nat.le_trans hNl (hge k hk))
  replace hUP : ∀ wx, Upd [y, mb] wx w → wx.heap.size ≤ lo → Upd [y, mb] wx w3 := fun wx h1 h2 => (hUP wx h1 h2).trans hap.2.1 (fun k hk => .inr (Nat.le_trans h2 (hge k hk)))
  replace hBY : ∀ u l, Byt w N u l → Byt w3 N u l := fun u l h => Row.upd (hBY u l h) hap.2.1 (fun k hk => Nat.le_trans hNl (hge k hk))
  replace ho2 := ho2.upd hap.2.1 (fun k hk hm => ho1.apart8 ho2 (by decide) k (Option.mem_toList.1 hm) hk)
  replace ho1 := hap.1
  obtain ⟨A1, c3, e1⟩ := Own.formN (n := us1.length + 1) ho1 (by simp)
  subst e1
  replace hlo := Nat.le_trans hlo hap.2.1.size
  clear hap hge r1 hyb
  refine ⟨fun _ => hS, ?_⟩
  obtain ⟨a109, ha⟩ : ∃ z9, a108.put (some 23) (.slice A1 (us1.length + 1) c3) = z9 := ⟨_, rfl⟩
  replace pm := pm.put (d := 23) (x := .slice A1 (us1.length + 1) c3) (by decide)
  replace py := py.put (d := 23) (x := .slice A1 (us1.length + 1) c3) (by decide)
  replace t0 := t0.put (d := 23) (x := .slice A1 (us1.length + 1) c3) (by decide)
  replace t1 := t1.put (d := 23) (x := .slice A1 (us1.length + 1) c3) (by decide)
  replace t2 := t2.put (d := 23) (x := .slice A1 (us1.length + 1) c3) (by decide)
  replace t3 := t3.put (d := 23) (x := .slice A1 (us1.length + 1) c3) (by decide)
  replace t4 := t4.put (d := 23) (x := .slice A1 (us1.length + 1) c3) (by decide)
  replace t5 := t5.put (d := 23) (x := .slice A1 (us1.length + 1) c3) (by decide)
  replace t6 := t6.put (d := 23) (x := .slice A1 (us1.length + 1) c3) (by decide)
  replace t8 := t8.put (d := 23) (x := .slice A1 (us1.length + 1) c3) (by decide)
  have t9 : AtS (a108.put (some 23) (.slice A1 (us1.length + 1) c3)) 23 (.slice A1 (us1.length + 1) c3) := AtS.new (by rw [n]; decide)
  replace hout := out_put8 (v := .slice A1 (us1.length + 1) c3) hout (show 15 ≤ 23 ∧ 23 < 15 + 11 by decide)
  replace n : (a108.put (some 23) (.slice A1 (us1.length + 1) c3)).tmps.size = 76 := by rw [put_sz]; exact n
  replace hdf : (a108.put (some 23) (.slice A1 (us1.length + 1) c3)).defers = a.defers := hdf
  rw [ha] at pm py t0 t1 t2 t3 t4 t5 t6 t8 t9 hout n hdf ⊢
  clear ha
  refine wpAnyE_one (k := 9) (by kernel_rfl) ?_
  refine wpOp_val i9 h9d (x_nil8 h9b t0.ev) ?_
  refine ⟨fun h => absurd h (by decide), ?_⟩
  rw [h9c]
  obtain ⟨a110, ha⟩ : ∃ z9, a109.put (some 24) (.pointer (some ⟨mb, 0, none⟩)) = z9 := ⟨_, rfl⟩
  replace pm := pm.put (d := 24) (x := .pointer (some ⟨mb, 0, none⟩)) (by decide)
  replace py := py.put (d := 24) (x := .pointer (some ⟨mb, 0, none⟩)) (by decide)
  replace t0 := t0.put (d := 24) (x := .pointer (some ⟨mb, 0, none⟩)) (by decide)
  replace t1 := t1.put (d := 24) (x := .pointer (some ⟨mb, 0, none⟩)) (by decide)
  replace t2 := t2.put (d := 24) (x := .pointer (some ⟨mb, 0, none⟩)) (by decide)
  replace t3 := t3.put (d := 24) (x := .pointer (some ⟨mb, 0, none⟩)) (by decide)
  replace t4 := t4.put (d := 24) (x := .pointer (some ⟨mb, 0, none⟩)) (by decide)
  replace t5 := t5.put (d := 24) (x := .pointer (some ⟨mb, 0, none⟩)) (by decide)
  replace t6 := t6.put (d := 24) (x := .pointer (some ⟨mb, 0, none⟩)) (by decide)
  replace t8 := t8.put (d := 24) (x := .pointer (some ⟨mb, 0, none⟩)) (by decide)
  replace t9 := t9.put (d := 24) (x := .pointer (some ⟨mb, 0, none⟩)) (by decide)
  have t10 : AtS (a109.put (some 24) (.pointer (some ⟨mb, 0, none⟩))) 24 (.pointer (some ⟨mb, 0, none⟩)) := AtS.new (by rw [n]; decide)
  replace hout := out_put8 (v := .pointer (some ⟨mb, 0, none⟩)) hout (show 15 ≤ 24 ∧ 24 < 15 + 11 by decide)
  replace n : (a109.put (some 24) (.pointer (some ⟨mb, 0, none⟩))).tmps.size = 76 := by rw [put_sz]; exact n
  replace hdf : (a109.put (some 24) (.pointer (some ⟨mb, 0, none⟩))).defers = a.defers := hdf
  rw [ha] at pm py t0 t1 t2 t3 t4 t5 t6 t8 t9 t10 hout n hdf ⊢
  clear ha
  refine wpAnyE_one (k := 10) (by kernel_rfl) ?_
  refine wpOp_val i10 h10d (x_field h10b t10.ev (smf8_24 w3 mb)) ?_
  refine ⟨fun h => absurd h (by decide), ?_⟩
  rw [h10c]
  obtain ⟨a111, ha⟩ : ∃ z9, a110.put (some 25) (.pointer (some ⟨mb, 24, none⟩)) = z9 := ⟨_, rfl⟩
  replace pm := pm.put (d := 25) (x := .pointer (some ⟨mb, 24, none⟩)) (by decide)
  replace py := py.put (d := 25) (x := .pointer (some ⟨mb, 24, none⟩)) (by decide)
  replace t0 := t0.put (d := 25) (x := .pointer (some ⟨mb, 24, none⟩)) (by decide)
  replace t1 := t1.put (d := 25) (x := .pointer (some ⟨mb, 24, none⟩)) (by decide)
  replace t2 := t2.put (d := 25) (x := .pointer (some ⟨mb, 24, none⟩)) (by decide)
  replace t3 := t3.put (d := 25) (x := .pointer (some ⟨mb, 24, none⟩)) (by decide)
  replace t4 := t4.put (d := 25) (x := .pointer (some ⟨mb, 24, none⟩)) (by decide)
  replace t5 := t5.put (d := 25) (x := .pointer (some ⟨mb, 24, none⟩)) (by decide)
  replace t6 := t6.put (d := 25) (x := .pointer (some ⟨mb, 24, none⟩)) (by decide)
  replace t8 := t8.put (d := 25) (x := .pointer (some ⟨mb, 24, none⟩)) (by decide)
  replace t9 := t9.put (d := 25) (x := .pointer (some ⟨mb, 24, none⟩)) (by decide)
  replace t10 := t10.put (d := 25) (x := .pointer (some ⟨mb, 24, none⟩)) (by decide)
  have t11 : AtS (a110.put (some 25) (.pointer (some ⟨mb, 24, none⟩))) 25 (.pointer (some ⟨mb, 24, none⟩)) := AtS.new (by rw [n]; decide)
  replace hout := out_put8 (v := .pointer (some ⟨mb, 24, none⟩)) hout (show 15 ≤ 25 ∧ 25 < 15 + 11 by decide)
  replace n : (a110.put (some 25) (.pointer (some ⟨mb, 24, none⟩))).tmps.size = 76 := by rw [put_sz]; exact n
  replace hdf : (a110.put (some 25) (.pointer (some ⟨mb, 24, none⟩))).defers = a.defers := hdf
  rw [ha] at pm py t0 t1 t2 t3 t4 t5 t6 t8 t9 t10 t11 hout n hdf ⊢
  clear ha
  refine wpAnyE_one (k := 11) (by kernel_rfl) ?_
  refine wpOp_skip i11 h11d (x_store8 h11b t11.ev t9.ev (sms8_lists _ mb 24 _ _ _ v1 (hS.at_ c1) (hS.frozen 24))) ?_
  rw [h11c]
  have hu : Upd [mb] w3 (w3.setCell ⟨mb, 24, none⟩ (.slice A1 (us1.length + 1) c3)) := (Upd.refl _ _).setCell (by simp) _
  have n1 := ho1.ne hS (by decide)
  have n2 := ho2.ne hS (by decide)
  refine ⟨fun h => absurd h (by decide), ?_⟩
  refine wpAnyE_done (by kernel_rfl) ?_ _
  exact hK _ _ _ n hdf hout (hS.set_ 24 _) A c (Row.upd hyr hu (by simpa using hNm)) (ho1.upd hu (fun k hk hm => n1 k hk (by simpa using hm))) (ho2.upd hu (fun k hk hm => n2 k hk (by simpa using hm))) (hy1.upd hu (by simpa using hNm) (by simpa using hne)) (fun wx h1 h2 => (hUP wx h1 h2).trans hu (by simp)) (fun u l h => Row.upd (hBY u l h) hu (by simpa using hNm))
theorem kr3_wp {Q : Exit → Act → World → Prop} {xs : List Value} {ds : List Deferred} {w : World} {mb y lo N : Nat} {cs : Array Value} {v1 v2 : Value} {us1 us2 : List Value} {d : List UInt8} {r : List UInt8} {bs : List UInt8} (hlp : lp 2 bs = some (d, r)) (hd1 : 1 ≤ d.length) (hd2 : d.length ≤ 65535)
    (n : xs.length = 76) (pm : xs[1]? = some (.pointer (some ⟨mb, 0, none⟩))) (py : xs[4]? = some (.pointer (some ⟨y, 0, none⟩))) (hb : Blk w mb 29 cs) (c1 : cs[24]? = some v1) (ho1 : Own w lo 23 v1 us1) (ho2 : Own w lo 97 v2 us2) (hl1 : us1.length + 1 ≤ 1099511627776) (hlo : lo ≤ w.heap.size)
    (hy : Rd w N y ⟨bs, 0⟩) (hne : y ≠ mb) (hNl : N ≤ lo) (hNm : N ≤ mb)
    (h : ∀ (y0 y1 y2 y3 y4 y5 y6 y7 y8 y9 y10 : Value) (w' : World) (v1' : Value), Blk w' mb 29 (cs.setIfInBounds 24 v1') → ∀ (A : Option Addr) (c : Nat), Byt w' N (.slice A d.length c) d → Own w' lo 23 v1' (us1 ++ [.slice A d.length c]) → Own w' lo 97 v2 us2 → Rd w' N y ⟨r, 0⟩ →
      (∀ w0, Upd [y, mb] w0 w → w0.heap.size ≤ lo → Upd [y, mb] w0 w') → (∀ u l, Byt w N u l → Byt w' N u l) → Q .normal ⟨(xs.take 15 ++ (y0 :: y1 :: y2 :: y3 :: y4 :: y5 :: y6 :: y7 :: y8 :: y9 :: y10 :: xs.drop (15 + 11))).toArray, ds⟩ w') : (Code.region 2 kr3L.toArray true).wp Tryz.prog Q ⟨xs.toArray, ds⟩ w := by
  refine wp_normal2 (R := fun a' w' => ∃ (y0 y1 y2 y3 y4 y5 y6 y7 y8 y9 y10 : Value), a' = ⟨(xs.take 15 ++ (y0 :: y1 :: y2 :: y3 :: y4 :: y5 :: y6 :: y7 :: y8 :: y9 :: y10 :: xs.drop (15 + 11))).toArray, ds⟩ ∧ Q .normal a' w') (fun K hK => kr3_Ch hlp hd1 hd2 (by simpa using n) (.mk (by simpa using pm)) (.mk (by simpa using py)) hb c1 ho1 ho2 hl1 hlo hy hne hNl hNm (fun a' w' v1' k1 k2 k3 k4 A c kb k5 k6 k7 k8 k9 => ?_)) (fun a' w' ⟨y0, y1, y2, y3, y4, y5, y6, y7, y8, y9, y10, _, hq⟩ => hq)
  obtain ⟨ys, hl, rfl⟩ := layN k1 k2 k3 (by decide)
  obtain ⟨y0, y1, y2, y3, y4, y5, y6, y7, y8, y9, y10, rfl⟩ := list11 hl
  exact hK _ _ ⟨y0, y1, y2, y3, y4, y5, y6, y7, y8, y9, y10, rfl, h y0 y1 y2 y3 y4 y5 y6 y7 y8 y9 y10 w' v1' k4 A c kb k5 k6 k7 k8 k9⟩
noncomputable def kr4L : List Oper := regOf 3 (Tryz.f81.body.getD .skip)
set_option maxHeartbeats 4000000 in
theorem kr4_Ch {K : Act → World → Prop} {a : Act} {w : World} {mb y lo N : Nat} {cs : Array Value} {v1 v2 : Value} {us1 us2 : List Value} {x : UInt32} {r : List UInt8}
    (n : a.tmps.size = 76) (pm : AtS a 1 (.pointer (some ⟨mb, 0, none⟩))) (py : AtS a 4 (.pointer (some ⟨y, 0, none⟩))) (hb : Blk w mb 29 cs) (c1 : cs[25]? = some v1) (ho1 : Own w lo 97 v1 us1) (ho2 : Own w lo 23 v2 us2) (hl1 : us1.length + 1 ≤ 1099511627776) (hlo : lo ≤ w.heap.size)
    (hy : Rd w N y ⟨be 4 x.toNat ++ r, 0⟩) (hne : y ≠ mb) (hNl : N ≤ lo) (hNm : N ≤ mb)
    (hK : ∀ (a' : Act) (w' : World) (v1' : Value), a'.tmps.size = 76 → a'.defers = a.defers → (∀ i, i < 26 ∨ 26 + 12 ≤ i → a'.tmps[i]? = a.tmps[i]?) → Blk w' mb 29 (cs.setIfInBounds 25 v1') → Own w' lo 97 v1' (us1 ++ [uv x]) → Own w' lo 23 v2 us2 → Rd w' N y ⟨r, 0⟩ →
      (∀ w0, Upd [y, mb] w0 w → w0.heap.size ≤ lo → Upd [y, mb] w0 w') → (∀ u l, Byt w N u l → Byt w' N u l) → K a' w') : (Code.region 3 kr4L.toArray true).wp Tryz.prog (Exit.then K fun _ _ _ => False) a w := by
  obtain ⟨o0, h0a, h0b, h0c, h0d⟩ := OpIs.get (l := kr4L) (k := 0) (op := .move (.tmp 1)) (d := 26) (g := none) (.mk (by kernel_rfl))
  have i0 : kr4L.toArray[0]? = some o0 := by simpa using h0a
  obtain ⟨o1, h1a, h1b, h1c, h1d⟩ := OpIs.get (l := kr4L) (k := 1) (op := .move (.tmp 1)) (d := 27) (g := none) (.mk (by kernel_rfl))
  have i1 : kr4L.toArray[1]? = some o1 := by simpa using h1a
  obtain ⟨o2, h2a, h2b, h2c, h2d⟩ := OpIs.get (l := kr4L) (k := 2) (op := .nilCheck (.tmp 27)) (d := 28) (g := none) (.mk (by kernel_rfl))
  have i2 : kr4L.toArray[2]? = some o2 := by simpa using h2a
  obtain ⟨o3, h3a, h3b, h3c, h3d⟩ := OpIs.get (l := kr4L) (k := 3) (op := .fieldAddr 29 (.tmp 28) 25) (d := 29) (g := none) (.mk (by kernel_rfl))
  have i3 : kr4L.toArray[3]? = some o3 := by simpa using h3a
  obtain ⟨o4, h4a, h4b, h4c, h4d⟩ := OpIs.get (l := kr4L) (k := 4) (op := .load 27 (.tmp 29)) (d := 30) (g := none) (.mk (by kernel_rfl))
  have i4 : kr4L.toArray[4]? = some o4 := by simpa using h4a
  obtain ⟨o5, h5a, h5b, h5c, h5d⟩ := OpIs.get (l := kr4L) (k := 5) (op := .move (.tmp 4)) (d := 31) (g := none) (.mk (by kernel_rfl))
  have i5 : kr4L.toArray[5]? = some o5 := by simpa using h5a
  obtain ⟨o6, h6a, h6b, h6c, h6d⟩ := OpIs.get (l := kr4L) (k := 6) (op := .call { callee := .value (.func 44), args := #[.tmp 31, .const (.int .i64 4)], argTypes := #[77, 3] }) (d := 32) (g := none) (.mk (by kernel_rfl))
  have i6 : kr4L.toArray[6]? = some o6 := by simpa using h6a
  obtain ⟨o7, h7a, h7b, h7c, h7d⟩ := OpIs.get (l := kr4L) (k := 7) (op := .convert 3 97 (.tmp 32)) (d := 33) (g := none) (.mk (by kernel_rfl))
  have i7 : kr4L.toArray[7]? = some o7 := by simpa using h7a
  obtain ⟨o8, h8a, h8b, h8c, h8d⟩ := OpIs.get (l := kr4L) (k := 8) (op := .buildSlice 27 1 #[(0, .tmp 33)]) (d := 34) (g := none) (.mk (by kernel_rfl))
  have i8 : kr4L.toArray[8]? = some o8 := by simpa using h8a
  obtain ⟨o9, h9a, h9b, h9c, h9d⟩ := OpIs.get (l := kr4L) (k := 9) (op := .call { callee := .builtin .append, args := #[.tmp 30, .tmp 34], argTypes := #[27, 27] }) (d := 35) (g := none) (.mk (by kernel_rfl))
  have i9 : kr4L.toArray[9]? = some o9 := by simpa using h9a
  obtain ⟨o10, h10a, h10b, h10c, h10d⟩ := OpIs.get (l := kr4L) (k := 10) (op := .nilCheck (.tmp 26)) (d := 36) (g := none) (.mk (by kernel_rfl))
  have i10 : kr4L.toArray[10]? = some o10 := by simpa using h10a
  obtain ⟨o11, h11a, h11b, h11c, h11d⟩ := OpIs.get (l := kr4L) (k := 11) (op := .fieldAddr 29 (.tmp 36) 25) (d := 37) (g := none) (.mk (by kernel_rfl))
  have i11 : kr4L.toArray[11]? = some o11 := by simpa using h11a
  obtain ⟨o12, i12, h12b, h12c, h12d⟩ : ∃ o : Oper, kr4L.toArray[12]? = some o ∧ o.op = .store 27 (.tmp 37) (.tmp 35) ∧ o.dst = none ∧ o.guard = none := by
    have h : (kr4L[12]?).map (fun o => (o.op, o.dst, o.guard)) = some (.store 27 (.tmp 37) (.tmp 35), none, none) := by kernel_rfl
    cases hk : kr4L[12]? with
    | none => rw [hk] at h; cases h
    | some o =>
      rw [hk] at h
      injection h with h
      injection h with h1 h
      injection h with h2 h3
      exact ⟨o, by simpa using hk, h1, h2, h3⟩
  have hsel : Region.noSelect kr4L.toArray = true := by kernel_rfl
  have hPQ : ∀ c (a : Act) (d : Option Tmp) (v : Value) w, Exit.then K (fun _ _ _ => False) (.panic c) (a.put d v) w → Exit.then K (fun _ _ _ => False) (.panic c) a w := fun _ _ _ _ _ h => h
  refine wp_region_E (S := fun u => Blk u mb 29 cs) (E := fun j => j == 10 || j == 11 || j == 12) (by kernel_rfl) ?_
  change wpAnyE _ _ _ _ _ _ _ _ _ (World.drew _)
  obtain ⟨w0, hw0⟩ : ∃ z9, World.drew w = z9 := ⟨_, rfl⟩
  rw [hw0]
  have hu0 : Upd [] w w0 := by rw [← hw0]; exact (Upd.refl _ _).drew
  have hS : Blk w0 mb 29 cs := hb.upd hu0 (by simp)
  replace ho1 := ho1.upd hu0 (by simp)
  replace ho2 := ho2.upd hu0 (by simp)
  replace hy := hy.upd hu0 (by simp) (by simp)
  have hUP : ∀ wx, Upd [y, mb] wx w → wx.heap.size ≤ lo → Upd [y, mb] wx w0 := fun wx h _ => h.trans hu0 (by simp)
  have hBY : ∀ u l, Byt w N u l → Byt w0 N u l := fun u l h => Row.upd h hu0 (by simp)
  replace hlo : lo ≤ w0.heap.size := Nat.le_trans hlo hu0.size
  clear hw0 hu0 hb
  rw [show kr4L.toArray.size = 13 by kernel_rfl]
  obtain ⟨a100, ha⟩ : ∃ z9, a = z9 := ⟨_, rfl⟩
  have hout : ∀ i, i < 26 ∨ 26 + 12 ≤ i → a100.tmps[i]? = a.tmps[i]? := fun _ _ => by rw [ha]
  have hdf : a100.defers = a.defers := by rw [ha]
  show wpAnyE _ _ _ _ _ _ _ _ a _
  rw [ha] at pm py n ⊢
  clear ha
  refine wpAnyE_take (i := 0) (oi := o0) (v := .pointer (some ⟨mb, 0, none⟩)) i0 hsel (by kernel_rfl) (by kernel_rfl) (by kernel_rfl) (by kernel_rfl) (fun c a w => hPQ c a _ _ w) (.inl ⟨wanted_none h0d, fun w hs => x_move h0b pm.ev⟩) hS ?_
  rw [h0c]
  obtain ⟨a101, ha⟩ : ∃ z9, a100.put (some 26) (.pointer (some ⟨mb, 0, none⟩)) = z9 := ⟨_, rfl⟩
  replace pm := pm.put (d := 26) (x := .pointer (some ⟨mb, 0, none⟩)) (by decide)
  replace py := py.put (d := 26) (x := .pointer (some ⟨mb, 0, none⟩)) (by decide)
  have t0 : AtS (a100.put (some 26) (.pointer (some ⟨mb, 0, none⟩))) 26 (.pointer (some ⟨mb, 0, none⟩)) := AtS.new (by rw [n]; decide)
  replace hout := out_put8 (v := .pointer (some ⟨mb, 0, none⟩)) hout (show 26 ≤ 26 ∧ 26 < 26 + 12 by decide)
  replace n : (a100.put (some 26) (.pointer (some ⟨mb, 0, none⟩))).tmps.size = 76 := by rw [put_sz]; exact n
  replace hdf : (a100.put (some 26) (.pointer (some ⟨mb, 0, none⟩))).defers = a.defers := hdf
  rw [ha] at pm py t0 hout n hdf ⊢
  clear ha
  refine wpAnyE_take (i := 1) (oi := o1) (v := .pointer (some ⟨mb, 0, none⟩)) i1 hsel (by kernel_rfl) (by kernel_rfl) (by kernel_rfl) (by kernel_rfl) (fun c a w => hPQ c a _ _ w) (.inl ⟨wanted_none h1d, fun w hs => x_move h1b pm.ev⟩) hS ?_
  rw [h1c]
  obtain ⟨a102, ha⟩ : ∃ z9, a101.put (some 27) (.pointer (some ⟨mb, 0, none⟩)) = z9 := ⟨_, rfl⟩
  replace pm := pm.put (d := 27) (x := .pointer (some ⟨mb, 0, none⟩)) (by decide)
  replace py := py.put (d := 27) (x := .pointer (some ⟨mb, 0, none⟩)) (by decide)
  replace t0 := t0.put (d := 27) (x := .pointer (some ⟨mb, 0, none⟩)) (by decide)
  have t1 : AtS (a101.put (some 27) (.pointer (some ⟨mb, 0, none⟩))) 27 (.pointer (some ⟨mb, 0, none⟩)) := AtS.new (by rw [n]; decide)
  replace hout := out_put8 (v := .pointer (some ⟨mb, 0, none⟩)) hout (show 26 ≤ 27 ∧ 27 < 26 + 12 by decide)
  replace n : (a101.put (some 27) (.pointer (some ⟨mb, 0, none⟩))).tmps.size = 76 := by rw [put_sz]; exact n
  replace hdf : (a101.put (some 27) (.pointer (some ⟨mb, 0, none⟩))).defers = a.defers := hdf
  rw [ha] at pm py t0 t1 hout n hdf ⊢
  clear ha
  refine wpAnyE_take (i := 2) (oi := o2) (v := .pointer (some ⟨mb, 0, none⟩)) i2 hsel (by kernel_rfl) (by kernel_rfl) (by kernel_rfl) (by kernel_rfl) (fun c a w => hPQ c a _ _ w) (.inl ⟨wanted_none h2d, fun w hs => x_nil8 h2b t1.ev⟩) hS ?_
  rw [h2c]
  obtain ⟨a103, ha⟩ : ∃ z9, a102.put (some 28) (.pointer (some ⟨mb, 0, none⟩)) = z9 := ⟨_, rfl⟩
  replace pm := pm.put (d := 28) (x := .pointer (some ⟨mb, 0, none⟩)) (by decide)
  replace py := py.put (d := 28) (x := .pointer (some ⟨mb, 0, none⟩)) (by decide)
  replace t0 := t0.put (d := 28) (x := .pointer (some ⟨mb, 0, none⟩)) (by decide)
  replace t1 := t1.put (d := 28) (x := .pointer (some ⟨mb, 0, none⟩)) (by decide)
  have t2 : AtS (a102.put (some 28) (.pointer (some ⟨mb, 0, none⟩))) 28 (.pointer (some ⟨mb, 0, none⟩)) := AtS.new (by rw [n]; decide)
  replace hout := out_put8 (v := .pointer (some ⟨mb, 0, none⟩)) hout (show 26 ≤ 28 ∧ 28 < 26 + 12 by decide)
  replace n : (a102.put (some 28) (.pointer (some ⟨mb, 0, none⟩))).tmps.size = 76 := by rw [put_sz]; exact n
  replace hdf : (a102.put (some 28) (.pointer (some ⟨mb, 0, none⟩))).defers = a.defers := hdf
  rw [ha] at pm py t0 t1 t2 hout n hdf ⊢
  clear ha
  refine wpAnyE_take (i := 3) (oi := o3) (v := .pointer (some ⟨mb, 25, none⟩)) i3 hsel (by kernel_rfl) (by kernel_rfl) (by kernel_rfl) (by kernel_rfl) (fun c a w => hPQ c a _ _ w) (.inl ⟨wanted_none h3d, fun w hs => x_field h3b t2.ev (smf8_25 w mb)⟩) hS ?_
  rw [h3c]
  obtain ⟨a104, ha⟩ : ∃ z9, a103.put (some 29) (.pointer (some ⟨mb, 25, none⟩)) = z9 := ⟨_, rfl⟩
  replace pm := pm.put (d := 29) (x := .pointer (some ⟨mb, 25, none⟩)) (by decide)
  replace py := py.put (d := 29) (x := .pointer (some ⟨mb, 25, none⟩)) (by decide)
  replace t0 := t0.put (d := 29) (x := .pointer (some ⟨mb, 25, none⟩)) (by decide)
  replace t1 := t1.put (d := 29) (x := .pointer (some ⟨mb, 25, none⟩)) (by decide)
  replace t2 := t2.put (d := 29) (x := .pointer (some ⟨mb, 25, none⟩)) (by decide)
  have t3 : AtS (a103.put (some 29) (.pointer (some ⟨mb, 25, none⟩))) 29 (.pointer (some ⟨mb, 25, none⟩)) := AtS.new (by rw [n]; decide)
  replace hout := out_put8 (v := .pointer (some ⟨mb, 25, none⟩)) hout (show 26 ≤ 29 ∧ 29 < 26 + 12 by decide)
  replace n : (a103.put (some 29) (.pointer (some ⟨mb, 25, none⟩))).tmps.size = 76 := by rw [put_sz]; exact n
  replace hdf : (a103.put (some 29) (.pointer (some ⟨mb, 25, none⟩))).defers = a.defers := hdf
  rw [ha] at pm py t0 t1 t2 t3 hout n hdf ⊢
  clear ha
  refine wpAnyE_take (i := 4) (oi := o4) (v := v1) i4 hsel (by kernel_rfl) (by kernel_rfl) (by kernel_rfl) (by kernel_rfl) (fun c a w => hPQ c a _ _ w) (.inl ⟨wanted_none h4d, fun w hs => x_load h4b t3.ev (sml8_u32s w mb 25 v1 (hs.at_ c1))⟩) hS ?_
  rw [h4c]
  obtain ⟨a105, ha⟩ : ∃ z9, a104.put (some 30) (v1) = z9 := ⟨_, rfl⟩
  replace pm := pm.put (d := 30) (x := v1) (by decide)
  replace py := py.put (d := 30) (x := v1) (by decide)
  replace t0 := t0.put (d := 30) (x := v1) (by decide)
  replace t1 := t1.put (d := 30) (x := v1) (by decide)
  replace t2 := t2.put (d := 30) (x := v1) (by decide)
  replace t3 := t3.put (d := 30) (x := v1) (by decide)
  have t4 : AtS (a104.put (some 30) (v1)) 30 (v1) := AtS.new (by rw [n]; decide)
  replace hout := out_put8 (v := v1) hout (show 26 ≤ 30 ∧ 30 < 26 + 12 by decide)
  replace n : (a104.put (some 30) (v1)).tmps.size = 76 := by rw [put_sz]; exact n
  replace hdf : (a104.put (some 30) (v1)).defers = a.defers := hdf
  rw [ha] at pm py t0 t1 t2 t3 t4 hout n hdf ⊢
  clear ha
  refine wpAnyE_take (i := 5) (oi := o5) (v := .pointer (some ⟨y, 0, none⟩)) i5 hsel (by kernel_rfl) (by kernel_rfl) (by kernel_rfl) (by kernel_rfl) (fun c a w => hPQ c a _ _ w) (.inl ⟨wanted_none h5d, fun w hs => x_move h5b py.ev⟩) hS ?_
  rw [h5c]
  obtain ⟨a106, ha⟩ : ∃ z9, a105.put (some 31) (.pointer (some ⟨y, 0, none⟩)) = z9 := ⟨_, rfl⟩
  replace pm := pm.put (d := 31) (x := .pointer (some ⟨y, 0, none⟩)) (by decide)
  replace py := py.put (d := 31) (x := .pointer (some ⟨y, 0, none⟩)) (by decide)
  replace t0 := t0.put (d := 31) (x := .pointer (some ⟨y, 0, none⟩)) (by decide)
  replace t1 := t1.put (d := 31) (x := .pointer (some ⟨y, 0, none⟩)) (by decide)
  replace t2 := t2.put (d := 31) (x := .pointer (some ⟨y, 0, none⟩)) (by decide)
  replace t3 := t3.put (d := 31) (x := .pointer (some ⟨y, 0, none⟩)) (by decide)
  replace t4 := t4.put (d := 31) (x := .pointer (some ⟨y, 0, none⟩)) (by decide)
  have t5 : AtS (a105.put (some 31) (.pointer (some ⟨y, 0, none⟩))) 31 (.pointer (some ⟨y, 0, none⟩)) := AtS.new (by rw [n]; decide)
  replace hout := out_put8 (v := .pointer (some ⟨y, 0, none⟩)) hout (show 26 ≤ 31 ∧ 31 < 26 + 12 by decide)
  replace n : (a105.put (some 31) (.pointer (some ⟨y, 0, none⟩))).tmps.size = 76 := by rw [put_sz]; exact n
  replace hdf : (a105.put (some 31) (.pointer (some ⟨y, 0, none⟩))).defers = a.defers := hdf
  rw [ha] at pm py t0 t1 t2 t3 t4 t5 hout n hdf ⊢
  clear ha
  refine wpAnyE_one (k := 6) (by kernel_rfl) ?_
  refine wpOp_enter i6 (wanted_none h6d) 44 #[.pointer (some ⟨y, 0, none⟩), .int .i64 4] (x_call8 h6b (by simp only [List.map_toArray, List.map_cons, List.map_nil, t5.ev]; rfl) (fn8_num _ _)) ?_
  refine (numS (n := 4) (k := x.toNat) hy (by omega) (beNat_be4 x.toNat (by have := x.toNat_lt; omega))).mono ?_
  rintro e w1 ⟨rfl, hu, hy1⟩
  show _ ∧ wpAnyE _ _ _ _ _ _ _ _ _ w1
  have hyb : Blk w0 y 84 _ := hy.2.choose_spec.1
  have n1 := ho1.ne hyb (by decide)
  have n2 := ho2.ne hyb (by decide)
  replace hS : Blk w1 mb 29 cs := hS.upd hu (by simpa using Ne.symm hne)
  replace ho1 := ho1.upd hu (fun k hk hm => n1 k hk (by simpa using hm))
  replace ho2 := ho2.upd hu (fun k hk hm => n2 k hk (by simpa using hm))
  have hyN : N ≤ y := hy.1
  replace hUP : ∀ wx, Upd [y, mb] wx w → wx.heap.size ≤ lo → Upd [y, mb] wx w1 := fun wx h1 h2 => (hUP wx h1 h2).trans hu (by simp)
  replace hBY : ∀ u l, Byt w N u l → Byt w1 N u l := fun u l h => Row.upd (hBY u l h) hu (by simpa using hyN)
  replace hlo := Nat.le_trans hlo hu.size
  clear hu hy n1 n2 hyb
  refine ⟨fun _ => hS, ?_⟩
  rw [h6c]
  obtain ⟨a107, ha⟩ : ∃ z9, a106.put (some 32) (.int .i64 (x.toNat : Int)) = z9 := ⟨_, rfl⟩
  replace pm := pm.put (d := 32) (x := .int .i64 (x.toNat : Int)) (by decide)
  replace py := py.put (d := 32) (x := .int .i64 (x.toNat : Int)) (by decide)
  replace t0 := t0.put (d := 32) (x := .int .i64 (x.toNat : Int)) (by decide)
  replace t1 := t1.put (d := 32) (x := .int .i64 (x.toNat : Int)) (by decide)
  replace t2 := t2.put (d := 32) (x := .int .i64 (x.toNat : Int)) (by decide)
  replace t3 := t3.put (d := 32) (x := .int .i64 (x.toNat : Int)) (by decide)
  replace t4 := t4.put (d := 32) (x := .int .i64 (x.toNat : Int)) (by decide)
  replace t5 := t5.put (d := 32) (x := .int .i64 (x.toNat : Int)) (by decide)
  have t6 : AtS (a106.put (some 32) (.int .i64 (x.toNat : Int))) 32 (.int .i64 (x.toNat : Int)) := AtS.new (by rw [n]; decide)
  replace hout := out_put8 (v := .int .i64 (x.toNat : Int)) hout (show 26 ≤ 32 ∧ 32 < 26 + 12 by decide)
  replace n : (a106.put (some 32) (.int .i64 (x.toNat : Int))).tmps.size = 76 := by rw [put_sz]; exact n
  replace hdf : (a106.put (some 32) (.int .i64 (x.toNat : Int))).defers = a.defers := hdf
  rw [ha] at pm py t0 t1 t2 t3 t4 t5 t6 hout n hdf ⊢
  clear ha
  refine wpAnyE_one (k := 7) (by kernel_rfl) ?_
  refine wpOp_val i7 h7d (x_conv8 h7b t6.ev (cv_u32 w1 x)) ?_
  refine ⟨fun _ => hS, ?_⟩
  rw [h7c]
  obtain ⟨a108, ha⟩ : ∃ z9, a107.put (some 33) (uv x) = z9 := ⟨_, rfl⟩
  replace pm := pm.put (d := 33) (x := uv x) (by decide)
  replace py := py.put (d := 33) (x := uv x) (by decide)
  replace t0 := t0.put (d := 33) (x := uv x) (by decide)
  replace t1 := t1.put (d := 33) (x := uv x) (by decide)
  replace t2 := t2.put (d := 33) (x := uv x) (by decide)
  replace t3 := t3.put (d := 33) (x := uv x) (by decide)
  replace t4 := t4.put (d := 33) (x := uv x) (by decide)
  replace t5 := t5.put (d := 33) (x := uv x) (by decide)
  replace t6 := t6.put (d := 33) (x := uv x) (by decide)
  have t7 : AtS (a107.put (some 33) (uv x)) 33 (uv x) := AtS.new (by rw [n]; decide)
  replace hout := out_put8 (v := uv x) hout (show 26 ≤ 33 ∧ 33 < 26 + 12 by decide)
  replace n : (a107.put (some 33) (uv x)).tmps.size = 76 := by rw [put_sz]; exact n
  replace hdf : (a107.put (some 33) (uv x)).defers = a.defers := hdf
  rw [ha] at pm py t0 t1 t2 t3 t4 t5 t6 t7 hout n hdf ⊢
  clear ha
  refine wpAnyE_one (k := 8) (by kernel_rfl) ?_
  refine wpOp_val i8 h8d (x_bs8 h8b t7.ev (smb8_u32s w1 _)) ?_
  rw [h8c]
  obtain ⟨k1, hk1⟩ : ∃ z9, w1.heap.size = z9 := ⟨_, rfl⟩
  have r1 := Row.one w1 97 (uv x)
  obtain ⟨w2, hw⟩ : ∃ z9, w1.alloc (.cells #[uv x] 97) = z9 := ⟨_, rfl⟩
  have hu : Upd [] w1 w2 := by rw [← hw]; exact (Upd.refl _ _).alloc _
  rw [hw, hk1] at r1
  rw [hw, hk1]
  replace hS : Blk w2 mb 29 cs := hS.upd hu (by simp)
  replace ho1 := ho1.upd hu (by simp)
  replace ho2 := ho2.upd hu (by simp)
  replace hy1 := hy1.upd hu (by simp) (by simp)
  replace hlo := Nat.le_trans hlo hu.size
  replace hUP : ∀ wx, Upd [y, mb] wx w → wx.heap.size ≤ lo → Upd [y, mb] wx w2 := fun wx h1 h2 => (hUP wx h1 h2).trans hu (by simp)
  replace hBY : ∀ u l, Byt w N u l → Byt w2 N u l := fun u l h => Row.upd (hBY u l h) hu (by simp)
  clear hu hw hk1
  refine ⟨fun _ => hS, ?_⟩
  obtain ⟨a109, ha⟩ : ∃ z9, a108.put (some 34) (.slice (some ⟨k1, 0, none⟩) 1 1) = z9 := ⟨_, rfl⟩
  replace pm := pm.put (d := 34) (x := .slice (some ⟨k1, 0, none⟩) 1 1) (by decide)
  replace py := py.put (d := 34) (x := .slice (some ⟨k1, 0, none⟩) 1 1) (by decide)
  replace t0 := t0.put (d := 34) (x := .slice (some ⟨k1, 0, none⟩) 1 1) (by decide)
  replace t1 := t1.put (d := 34) (x := .slice (some ⟨k1, 0, none⟩) 1 1) (by decide)
  replace t2 := t2.put (d := 34) (x := .slice (some ⟨k1, 0, none⟩) 1 1) (by decide)
  replace t3 := t3.put (d := 34) (x := .slice (some ⟨k1, 0, none⟩) 1 1) (by decide)
  replace t4 := t4.put (d := 34) (x := .slice (some ⟨k1, 0, none⟩) 1 1) (by decide)
  replace t5 := t5.put (d := 34) (x := .slice (some ⟨k1, 0, none⟩) 1 1) (by decide)
  replace t6 := t6.put (d := 34) (x := .slice (some ⟨k1, 0, none⟩) 1 1) (by decide)
  replace t7 := t7.put (d := 34) (x := .slice (some ⟨k1, 0, none⟩) 1 1) (by decide)
  have t8 : AtS (a108.put (some 34) (.slice (some ⟨k1, 0, none⟩) 1 1)) 34 (.slice (some ⟨k1, 0, none⟩) 1 1) := AtS.new (by rw [n]; decide)
  replace hout := out_put8 (v := .slice (some ⟨k1, 0, none⟩) 1 1) hout (show 26 ≤ 34 ∧ 34 < 26 + 12 by decide)
  replace n : (a108.put (some 34) (.slice (some ⟨k1, 0, none⟩) 1 1)).tmps.size = 76 := by rw [put_sz]; exact n
  replace hdf : (a108.put (some 34) (.slice (some ⟨k1, 0, none⟩) 1 1)).defers = a.defers := hdf
  rw [ha] at pm py t0 t1 t2 t3 t4 t5 t6 t7 t8 hout n hdf ⊢
  clear ha
  refine wpAnyE_one (k := 9) (by kernel_rfl) ?_
  refine wpOp_wp i9 h9d (wp_append_row _ _ _ 27 h9b lo 97 (.int .u32 0) 4 Tryz.underlying27 (by kernel_rfl) rfl t4.ev ho1 t8.ev r1 (by intro u hu; simp at hu; subst hu; rfl) (by simp; omega) (by simp; omega) hlo ?_)
  intro u1 w3 hap
  rw [h9c]
  have hyb : Blk w2 y 84 _ := hy1.2.choose_spec.1
  have hge : ∀ k ∈ v1.ownBlock.toList, lo ≤ k := fun k hk => (ho1.ge (Option.mem_toList.1 hk)).1
  replace hS : Blk w3 mb 29 cs := hS.upd hap.2.1 (fun hk => ho1.ne hS (by decide) mb (Option.mem_toList.1 hk) rfl)
  replace hy1 := hy1.upd hap.2.1 (fun k hk => Nat.le_trans hNl (hge k hk)) (fun hk => ho1.ne hyb (by decide) y (Option.mem_toList.1 hk) rfl)
  replace hUP : ∀ wx, Upd [y, mb] wx w → wx.heap.size ≤ lo → Upd [y, mb] wx w3 := fun wx h1 h2 => (hUP wx h1 h2).trans hap.2.1 (fun k hk => .inr (Nat.le_trans h2 (hge k hk)))
  replace hBY : ∀ u l, Byt w N u l → Byt w3 N u l := fun u l h => Row.upd (hBY u l h) hap.2.1 (fun k hk => Nat.le_trans hNl (hge k hk))
  replace ho2 := ho2.upd hap.2.1 (fun k hk hm => ho1.apart8 ho2 (by decide) k (Option.mem_toList.1 hm) hk)
  replace ho1 := hap.1
  obtain ⟨A1, c3, e1⟩ := Own.formN (n := us1.length + 1) ho1 (by simp)
  subst e1
  replace hlo := Nat.le_trans hlo hap.2.1.size
  clear hap hge r1 hyb
  refine ⟨fun _ => hS, ?_⟩
  obtain ⟨a110, ha⟩ : ∃ z9, a109.put (some 35) (.slice A1 (us1.length + 1) c3) = z9 := ⟨_, rfl⟩
  replace pm := pm.put (d := 35) (x := .slice A1 (us1.length + 1) c3) (by decide)
  replace py := py.put (d := 35) (x := .slice A1 (us1.length + 1) c3) (by decide)
  replace t0 := t0.put (d := 35) (x := .slice A1 (us1.length + 1) c3) (by decide)
  replace t1 := t1.put (d := 35) (x := .slice A1 (us1.length + 1) c3) (by decide)
  replace t2 := t2.put (d := 35) (x := .slice A1 (us1.length + 1) c3) (by decide)
  replace t3 := t3.put (d := 35) (x := .slice A1 (us1.length + 1) c3) (by decide)
  replace t4 := t4.put (d := 35) (x := .slice A1 (us1.length + 1) c3) (by decide)
  replace t5 := t5.put (d := 35) (x := .slice A1 (us1.length + 1) c3) (by decide)
  replace t6 := t6.put (d := 35) (x := .slice A1 (us1.length + 1) c3) (by decide)
  replace t7 := t7.put (d := 35) (x := .slice A1 (us1.length + 1) c3) (by decide)
  replace t8 := t8.put (d := 35) (x := .slice A1 (us1.length + 1) c3) (by decide)
  have t9 : AtS (a109.put (some 35) (.slice A1 (us1.length + 1) c3)) 35 (.slice A1 (us1.length + 1) c3) := AtS.new (by rw [n]; decide)
  replace hout := out_put8 (v := .slice A1 (us1.length + 1) c3) hout (show 26 ≤ 35 ∧ 35 < 26 + 12 by decide)
  replace n : (a109.put (some 35) (.slice A1 (us1.length + 1) c3)).tmps.size = 76 := by rw [put_sz]; exact n
  replace hdf : (a109.put (some 35) (.slice A1 (us1.length + 1) c3)).defers = a.defers := hdf
  rw [ha] at pm py t0 t1 t2 t3 t4 t5 t6 t7 t8 t9 hout n hdf ⊢
  clear ha
  refine wpAnyE_one (k := 10) (by kernel_rfl) ?_
  refine wpOp_val i10 h10d (x_nil8 h10b t0.ev) ?_
  refine ⟨fun h => absurd h (by decide), ?_⟩
  rw [h10c]
  obtain ⟨a111, ha⟩ : ∃ z9, a110.put (some 36) (.pointer (some ⟨mb, 0, none⟩)) = z9 := ⟨_, rfl⟩
  replace pm := pm.put (d := 36) (x := .pointer (some ⟨mb, 0, none⟩)) (by decide)
  replace py := py.put (d := 36) (x := .pointer (some ⟨mb, 0, none⟩)) (by decide)
  replace t0 := t0.put (d := 36) (x := .pointer (some ⟨mb, 0, none⟩)) (by decide)
  replace t1 := t1.put (d := 36) (x := .pointer (some ⟨mb, 0, none⟩)) (by decide)
  replace t2 := t2.put (d := 36) (x := .pointer (some ⟨mb, 0, none⟩)) (by decide)
  replace t3 := t3.put (d := 36) (x := .pointer (some ⟨mb, 0, none⟩)) (by decide)
  replace t4 := t4.put (d := 36) (x := .pointer (some ⟨mb, 0, none⟩)) (by decide)
  replace t5 := t5.put (d := 36) (x := .pointer (some ⟨mb, 0, none⟩)) (by decide)
  replace t6 := t6.put (d := 36) (x := .pointer (some ⟨mb, 0, none⟩)) (by decide)
  replace t7 := t7.put (d := 36) (x := .pointer (some ⟨mb, 0, none⟩)) (by decide)
  replace t8 := t8.put (d := 36) (x := .pointer (some ⟨mb, 0, none⟩)) (by decide)
  replace t9 := t9.put (d := 36) (x := .pointer (some ⟨mb, 0, none⟩)) (by decide)
  have t10 : AtS (a110.put (some 36) (.pointer (some ⟨mb, 0, none⟩))) 36 (.pointer (some ⟨mb, 0, none⟩)) := AtS.new (by rw [n]; decide)
  replace hout := out_put8 (v := .pointer (some ⟨mb, 0, none⟩)) hout (show 26 ≤ 36 ∧ 36 < 26 + 12 by decide)
  replace n : (a110.put (some 36) (.pointer (some ⟨mb, 0, none⟩))).tmps.size = 76 := by rw [put_sz]; exact n
  replace hdf : (a110.put (some 36) (.pointer (some ⟨mb, 0, none⟩))).defers = a.defers := hdf
  rw [ha] at pm py t0 t1 t2 t3 t4 t5 t6 t7 t8 t9 t10 hout n hdf ⊢
  clear ha
  refine wpAnyE_one (k := 11) (by kernel_rfl) ?_
  refine wpOp_val i11 h11d (x_field h11b t10.ev (smf8_25 w3 mb)) ?_
  refine ⟨fun h => absurd h (by decide), ?_⟩
  rw [h11c]
  obtain ⟨a112, ha⟩ : ∃ z9, a111.put (some 37) (.pointer (some ⟨mb, 25, none⟩)) = z9 := ⟨_, rfl⟩
  replace pm := pm.put (d := 37) (x := .pointer (some ⟨mb, 25, none⟩)) (by decide)
  replace py := py.put (d := 37) (x := .pointer (some ⟨mb, 25, none⟩)) (by decide)
  replace t0 := t0.put (d := 37) (x := .pointer (some ⟨mb, 25, none⟩)) (by decide)
  replace t1 := t1.put (d := 37) (x := .pointer (some ⟨mb, 25, none⟩)) (by decide)
  replace t2 := t2.put (d := 37) (x := .pointer (some ⟨mb, 25, none⟩)) (by decide)
  replace t3 := t3.put (d := 37) (x := .pointer (some ⟨mb, 25, none⟩)) (by decide)
  replace t4 := t4.put (d := 37) (x := .pointer (some ⟨mb, 25, none⟩)) (by decide)
  replace t5 := t5.put (d := 37) (x := .pointer (some ⟨mb, 25, none⟩)) (by decide)
  replace t6 := t6.put (d := 37) (x := .pointer (some ⟨mb, 25, none⟩)) (by decide)
  replace t7 := t7.put (d := 37) (x := .pointer (some ⟨mb, 25, none⟩)) (by decide)
  replace t8 := t8.put (d := 37) (x := .pointer (some ⟨mb, 25, none⟩)) (by decide)
  replace t9 := t9.put (d := 37) (x := .pointer (some ⟨mb, 25, none⟩)) (by decide)
  replace t10 := t10.put (d := 37) (x := .pointer (some ⟨mb, 25, none⟩)) (by decide)
  have t11 : AtS (a111.put (some 37) (.pointer (some ⟨mb, 25, none⟩))) 37 (.pointer (some ⟨mb, 25, none⟩)) := AtS.new (by rw [n]; decide)
  replace hout := out_put8 (v := .pointer (some ⟨mb, 25, none⟩)) hout (show 26 ≤ 37 ∧ 37 < 26 + 12 by decide)
  replace n : (a111.put (some 37) (.pointer (some ⟨mb, 25, none⟩))).tmps.size = 76 := by rw [put_sz]; exact n
  replace hdf : (a111.put (some 37) (.pointer (some ⟨mb, 25, none⟩))).defers = a.defers := hdf
  rw [ha] at pm py t0 t1 t2 t3 t4 t5 t6 t7 t8 t9 t10 t11 hout n hdf ⊢
  clear ha
  refine wpAnyE_one (k := 12) (by kernel_rfl) ?_
  refine wpOp_skip i12 h12d (x_store8 h12b t11.ev t9.ev (sms8_u32s _ mb 25 _ _ _ v1 (hS.at_ c1) (hS.frozen 25))) ?_
  rw [h12c]
  have hu : Upd [mb] w3 (w3.setCell ⟨mb, 25, none⟩ (.slice A1 (us1.length + 1) c3)) := (Upd.refl _ _).setCell (by simp) _
  have n1 := ho1.ne hS (by decide)
  have n2 := ho2.ne hS (by decide)
  refine ⟨fun h => absurd h (by decide), ?_⟩
  refine wpAnyE_done (by kernel_rfl) ?_ _
  exact hK _ _ _ n hdf hout (hS.set_ 25 _) (ho1.upd hu (fun k hk hm => n1 k hk (by simpa using hm))) (ho2.upd hu (fun k hk hm => n2 k hk (by simpa using hm))) (hy1.upd hu (by simpa using hNm) (by simpa using hne)) (fun wx h1 h2 => (hUP wx h1 h2).trans hu (by simp)) (fun u l h => Row.upd (hBY u l h) hu (by simpa using hNm))
theorem kr4_wp {Q : Exit → Act → World → Prop} {xs : List Value} {ds : List Deferred} {w : World} {mb y lo N : Nat} {cs : Array Value} {v1 v2 : Value} {us1 us2 : List Value} {x : UInt32} {r : List UInt8}
    (n : xs.length = 76) (pm : xs[1]? = some (.pointer (some ⟨mb, 0, none⟩))) (py : xs[4]? = some (.pointer (some ⟨y, 0, none⟩))) (hb : Blk w mb 29 cs) (c1 : cs[25]? = some v1) (ho1 : Own w lo 97 v1 us1) (ho2 : Own w lo 23 v2 us2) (hl1 : us1.length + 1 ≤ 1099511627776) (hlo : lo ≤ w.heap.size)
    (hy : Rd w N y ⟨be 4 x.toNat ++ r, 0⟩) (hne : y ≠ mb) (hNl : N ≤ lo) (hNm : N ≤ mb)
    (h : ∀ (y0 y1 y2 y3 y4 y5 y6 y7 y8 y9 y10 y11 : Value) (w' : World) (v1' : Value), Blk w' mb 29 (cs.setIfInBounds 25 v1') → Own w' lo 97 v1' (us1 ++ [uv x]) → Own w' lo 23 v2 us2 → Rd w' N y ⟨r, 0⟩ →
      (∀ w0, Upd [y, mb] w0 w → w0.heap.size ≤ lo → Upd [y, mb] w0 w') → (∀ u l, Byt w N u l → Byt w' N u l) → Q .normal ⟨(xs.take 26 ++ (y0 :: y1 :: y2 :: y3 :: y4 :: y5 :: y6 :: y7 :: y8 :: y9 :: y10 :: y11 :: xs.drop (26 + 12))).toArray, ds⟩ w') : (Code.region 3 kr4L.toArray true).wp Tryz.prog Q ⟨xs.toArray, ds⟩ w := by
  refine wp_normal2 (R := fun a' w' => ∃ (y0 y1 y2 y3 y4 y5 y6 y7 y8 y9 y10 y11 : Value), a' = ⟨(xs.take 26 ++ (y0 :: y1 :: y2 :: y3 :: y4 :: y5 :: y6 :: y7 :: y8 :: y9 :: y10 :: y11 :: xs.drop (26 + 12))).toArray, ds⟩ ∧ Q .normal a' w') (fun K hK => kr4_Ch (by simpa using n) (.mk (by simpa using pm)) (.mk (by simpa using py)) hb c1 ho1 ho2 hl1 hlo hy hne hNl hNm (fun a' w' v1' k1 k2 k3 k4 k5 k6 k7 k8 k9 => ?_)) (fun a' w' ⟨y0, y1, y2, y3, y4, y5, y6, y7, y8, y9, y10, y11, _, hq⟩ => hq)
  obtain ⟨ys, hl, rfl⟩ := layN k1 k2 k3 (by decide)
  obtain ⟨y0, y1, y2, y3, y4, y5, y6, y7, y8, y9, y10, y11, rfl⟩ := list12 hl
  exact hK _ _ ⟨y0, y1, y2, y3, y4, y5, y6, y7, y8, y9, y10, y11, rfl, h y0 y1 y2 y3 y4 y5 y6 y7 y8 y9 y10 y11 w' v1' k4 k5 k6 k7 k8 k9⟩
end Go.Proofs.YtaajmfgplhfncaaGreat

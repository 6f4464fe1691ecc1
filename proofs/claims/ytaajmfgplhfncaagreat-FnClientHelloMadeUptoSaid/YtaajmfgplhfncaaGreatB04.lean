/- Texts joined: Build. -/
import Derived.Test.YtaajmfgplhfncaaGreatB03
namespace Go.Proofs.YtaajmfgplhfncaaGreat
open Go.RowKit
set_option maxRecDepth 20000
def bcs (v child : Value) (off pl : Nat) (ic : Value) : Array Value := #[.nilIface, v, .bool false, child, .int .i64 off, .int .i64 pl, .bool false, ic]
def Bld (w : World) (base p : Nat) (v : Value) (off pl : Nat) (ic : Value) (bs : List UInt8) : Prop :=
  base ≤ p ∧ Blk w p 139 (bcs v (.pointer none) off pl ic) ∧ Own w base 5 v (bs.map bv)
def BErr (w : World) (base p : Nat) : Prop := base ≤ p ∧ ∃ cs t x, Blk w p 139 cs ∧ cs.size = 8 ∧ cs[0]? = some (.iface t x) ∧ cs[3]? = some (.pointer none)
def BS (w : World) (base p : Nat) (v : Value) (off pl : Nat) (ic : Value) : Option (List UInt8) → Prop
  | some bs => Bld w base p v off pl ic bs
  | none => BErr w base p
def BSP (w : World) (base p : Nat) (v : Value) (off pl : Nat) (ic : Value) (st : Option (List UInt8)) (e : Ending) (w' : World) : Prop :=
  e = .returned (.tuple #[]) ∧ ∃ v', BS w' base p v' off pl ic st ∧ Upd (p :: v.ownBlock.toList) w w' ∧ (v'.ownBlock = v.ownBlock ∨ ∃ g, v'.ownBlock = some g ∧ w.heap.size ≤ g)
def app (st out : Option (List UInt8)) : Option (List UInt8) := match st, out with
  | some bs, some xs => some (bs ++ xs)
  | _, _ => none
def olen (st : Option (List UInt8)) : Nat := match st with
  | some bs => bs.length
  | none => 0
theorem app_none (st : Option (List UInt8)) : app st none = none := by cases st <;> rfl
theorem app_nil (st : Option (List UInt8)) : app st (some []) = st := by cases st <;> simp [app]
theorem app_assoc (st a b : Option (List UInt8)) : app (app st a) b = app st (app a b) := by
  cases st <;> cases a <;> cases b <;> simp [app]
theorem olen_app (st out : Option (List UInt8)) : olen (app st out) ≤ olen st + olen out := by
  cases st <;> cases out <;> simp [app, olen]
theorem neq_err_nil (w : World) : (binOp .neq 69 .nilIface .nilIface).run Tryz.prog w = .ok (.bool false) w := by kernel_rfl
theorem neq_err_some (w : World) (t : TypeId) (x : Value) : (binOp .neq 69 (.iface t x) .nilIface).run Tryz.prog w = .ok (.bool true) w := by kernel_rfl
section
variable {w w' : World} {base p off pl : Nat} {v content ic : Value} {xs bs : List UInt8} {st : Option (List UInt8)} {S : List Nat}
theorem Bld.open_ (h : Bld w base p v off pl ic bs) : ∃ A c, v = .slice A bs.length c ∧ w.cell? ⟨p, 0, none⟩ = some .nilIface ∧ w.cell? ⟨p, 1, none⟩ = some (.slice A bs.length c) ∧ w.cell? ⟨p, 2, none⟩ = some (.bool false) ∧
    w.cell? ⟨p, 3, none⟩ = some (.pointer none) ∧ w.cell? ⟨p, 4, none⟩ = some (.int .i64 (off : Int)) ∧ w.cell? ⟨p, 5, none⟩ = some (.int .i64 (pl : Int)) ∧ w.cell? ⟨p, 6, none⟩ = some (.bool false) ∧ w.cell? ⟨p, 7, none⟩ = some ic ∧
    (∀ i, w.frozen? ⟨p, i, none⟩ = false) ∧ bs.length ≤ c ∧ c ≤ 9223372036854775807 := by
  obtain ⟨hb, h1, h2⟩ := h
  obtain ⟨A, c, e, h3, h4⟩ := h2.form
  rw [List.length_map] at e h3
  refine ⟨A, c, e, ?_, ?_, ?_, ?_, ?_, ?_, ?_, ?_, fun i => h1.frozen i, h3, h4⟩
  all_goals rw [h1.cell]
  all_goals first | rfl | (rw [e]; rfl)
theorem BErr.open_ (h : BErr w base p) : ∃ t x, w.cell? ⟨p, 0, none⟩ = some (.iface t x) ∧ w.cell? ⟨p, 3, none⟩ = some (.pointer none) := by
  obtain ⟨_, cs, t, x, h1, h2, h3, h4⟩ := h
  exact ⟨t, x, by rw [h1.cell, h3], by rw [h1.cell, h4]⟩
theorem Bld.stored (h : Blk w p 139 (bcs v (.pointer none) off pl ic)) (hb : base ≤ p) {v' : Value} (ho : Own w base 5 v' (bs.map bv)) : Bld (w.setCell ⟨p, 1, none⟩ v') base p v' off pl ic bs := by
  refine ⟨hb, ?_, ho.upd ((Upd.refl [p] _).setCell (by simp) _) (fun g hg hm => ?_)⟩
  · have := h.set_ 1 v'
    simpa [bcs] using this
  · simp at hm
    exact ho.ne h (by decide) g hg hm
set_option maxHeartbeats 2000000 in
theorem add_any (hb : BS w base p v off pl ic st) (hc : Src w base p v content xs) (hl : olen st ≤ 17592186044416) (hx : xs.length ≤ 17592186044416) :
    Calls Tryz.prog 138 #[.pointer (some ⟨p, 0, none⟩), content] w (BSP w base p v off pl ic (app st (some xs))) := by
  have q1 := neq_err_nil
  have q2 := neq_err_some
  obtain ⟨Ax, cx, rfl, -⟩ : ∃ A c, content = .slice A xs.length c ∧ True := by
    obtain ⟨B, hb, _⟩ := hc
    obtain ⟨A, c, e, _⟩ := Byt.form hb rfl
    exact ⟨A, c, e, trivial⟩
  cases st with
  | none =>
    obtain ⟨t, x, c0, -⟩ := BErr.open_ hb
    go_enter Tryz.func138, Tryz.ntmps138
    go_wp2
    exact bodyPost_ret (results_none rfl _ _ _) rfl ⟨rfl, v, hb, Upd.refl _ _, .inl rfl⟩
  | some bs =>
    have hb : Bld w base p v off pl ic bs := hb
    obtain ⟨A, c, hve, c0, c1, c2, c3, c4, c5, c6, c7, fz, hlc, hcm⟩ := hb.open_
    have f1 := fz 1
    have hbp := hb.1
    have hpl := hb.2.1.lt
    have hown := hb.2.2
    have hpn : p ∉ v.ownBlock.toList := fun hm => hb.2.2.ne hb.2.1 (by decide) _ (Option.mem_toList.1 hm) rfl
    have hcb : ∃ B, Byt w B (.slice Ax xs.length cx) xs := by
      obtain ⟨B, h, _⟩ := hc
      exact ⟨B, h⟩
    obtain ⟨B, hx2⟩ := hcb
    have hl' : bs.length ≤ 17592186044416 := hl
    have HL := hid hl'
    have HX := hid hx
    have hd : decide ((bs.length : Int) + (xs.length : Int) < (xs.length : Int)) = false := by
      rw [decide_eq_false_iff_not]
      intro h
      have := Int.natCast_nonneg bs.length
      omega
    have hs1 : (bs.length : Int) + (xs.length : Int) ≤ 35184372088832 := by omega
    subst hve
    clear hl hl' hx fz
    go_enter Tryz.func138, Tryz.ntmps138
    go_wp2_with fail
    go_quiet (fail)
    go_wp2_with (at_builtin; go_must (refine wpList_append_row _ rfl _ _ _ rfl base 5 (.int .u8 0) 1 Tryz.underlying23 info_u8 rfl rfl (Own.upd hown ((Upd.refl [] _).drewN _) (by simp)) rfl (Row.drewN hx2 _) (byt_oneCell xs) (by have := HL.out; have := HX.out; simp; omega) (by have := HL.out; have := HX.out; simp; omega) (by simp; omega) ?_; intro v3 w3 hap; have hb3 := (hb.2.1.drewN _).upd hap.2.1 hpn; have e3 := hb3.cell 1; simp [bcs] at e3; have h3 := hb3.frozen 1; obtain ⟨A3, c3', hv3⟩ := Own.formN (n := bs.length + xs.length) hap.1 (by simp); subst hv3))
    go_end0
    have hap2 := hap.2
    refine ⟨rfl, .slice A3 (bs.length + xs.length) c3', Bld.stored (bs := bs ++ xs) hb3 hbp (by rw [List.map_append]; exact hap.1), ?_, ?_⟩
    · exact ((((Upd.refl _ w).drewN _).trans hap2.1 (fun x hx => .inl (List.mem_cons_of_mem _ hx))).setCell (by simp) _)
    · rcases hap2.2 with h | h
      · exact .inl h
      · exact .inr ⟨_, h, Nat.le_refl _⟩
theorem byt_lit (w : World) (e : TypeId) (xs : List UInt8) (hl : xs.length ≤ 1099511627776) : Byt (w.alloc (.cells (xs.map bv).toArray e)) (w.heap.size + 1) (.slice (some ⟨w.heap.size, 0, none⟩) xs.length xs.length) xs :=
  ⟨some ⟨w.heap.size, 0, none⟩, xs.length, by simp, by simp, by unfold maxLen; omega, fun e => (by cases e), fun _ => ⟨w.heap.size, 0, rfl, by omega, fun j u hj => by
    rw [(Blk.new w e _).cell]
    simpa using hj⟩⟩
theorem BS.upd (h : BS w base p v off pl ic st) (hu : Upd S w w') (hp : p ∉ S) (hs : ∀ g, v.ownBlock = some g → g ∉ S) : BS w' base p v off pl ic st := by
  cases st with
  | none =>
    obtain ⟨h1, cs, t, x, h2, h3⟩ := h
    exact ⟨h1, cs, t, x, h2.upd hu hp, h3⟩
  | some bs => exact ⟨h.1, h.2.1.upd hu hp, h.2.2.upd hu hs⟩
theorem BS.lt (h : BS w base p v off pl ic st) : p < w.heap.size := by
  cases st with
  | none =>
    obtain ⟨h1, cs, t, x, h2, h3⟩ := h
    exact h2.lt
  | some bs => exact h.2.1.lt
theorem BS.ownLt (h : BS w base p v off pl ic st) (hs : st ≠ none) : ∀ k, v.ownBlock = some k → k < w.heap.size ∧ base ≤ k ∧ k ≠ p := by
  cases st with
  | none => exact absurd rfl hs
  | some bs =>
    intro k hk
    have := h.2.2.ge hk
    exact ⟨this.2, this.1, h.2.2.ne h.2.1 (by decide) k hk⟩
theorem BSP.before {w0 : World} (hu : Upd [] w0 w) {e : Ending} (h : BSP w base p v off pl ic st e w') : BSP w0 base p v off pl ic st e w' := by
  obtain ⟨he, v', h1, h2, h3⟩ := h
  exact ⟨he, v', h1, (hu.mono (by simp)).two h2, h3.imp id fun ⟨g, h1, h2⟩ => ⟨g, h1, Nat.le_trans hu.size h2⟩⟩
theorem BSP.after {w1 w2 : World} {v1 : Value} {e : Ending} (hu : Upd (p :: v.ownBlock.toList) w w1) (hv : v1.ownBlock = v.ownBlock ∨ ∃ g, v1.ownBlock = some g ∧ w.heap.size ≤ g)
    (h : BSP w1 base p v1 off pl ic st e w2) : BSP w base p v off pl ic st e w2 := by
  obtain ⟨he, v', h1, h2, h3⟩ := h
  have hsz := hu.size
  refine ⟨he, v', h1, hu.trans h2 ?_, ?_⟩
  · intro k hk
    rcases List.mem_cons.1 hk with rfl | hk
    · simp
    · rcases hv with hv | ⟨g, hg, hge⟩
      · rw [hv] at hk; left; exact List.mem_cons_of_mem _ hk
      · rw [hg] at hk; right; simp at hk; omega
  · rcases h3 with h3 | ⟨g, hg, hge⟩
    · rw [h3]; exact hv
    · exact .inr ⟨g, hg, by omega⟩
theorem add_lit_any (hb : BS w base p v off pl ic st) (hl : olen st ≤ 17592186044416) (xs : List UInt8) (hx : xs.length ≤ 1024) (e : TypeId) :
    Calls Tryz.prog 138 #[.pointer (some ⟨p, 0, none⟩), .slice (some ⟨w.heap.size, 0, none⟩) xs.length xs.length] (w.alloc (.cells (xs.map bv).toArray e)) (BSP w base p v off pl ic (app st (some xs))) := by
  have hu : Upd [] w (w.alloc (.cells (xs.map bv).toArray e)) := (Upd.refl _ _).alloc _
  by_cases hs : st = none
  · have hsv : BS (w.alloc (.cells (xs.map bv).toArray e)) base p (.slice none 0 0) off pl ic st := by subst hs; exact BS.upd (v := .slice none 0 0) hb hu (by simp) (by simp)
    refine (add_any hsv ⟨_, byt_lit w e xs (by omega), .inr ?_⟩ hl (by omega)).mono ?_
    · intro k hk
      have := hb.lt
      injection hk with hk
      exact ⟨by show k ≠ p; have : w.heap.size = k := hk; omega, by simp [Value.ownBlock]⟩
    · intro e2 w2 hp
      subst hs
      obtain ⟨he, v', h1, h2, h3⟩ := hp
      exact ⟨he, v, h1, (hu.mono (by simp)).trans h2 (by simp [Value.ownBlock]), .inl rfl⟩
  · refine (add_any (hb.upd hu (by simp) (by simp)) ⟨_, byt_lit w e xs (by omega), .inr ?_⟩ hl (by omega)).mono fun e2 w2 hp => hp.before hu
    intro k hk
    have h1 := hb.lt
    injection hk with hk
    have hk : w.heap.size = k := hk
    exact ⟨by omega, fun h2 => by have := (hb.ownLt hs k h2).1; omega⟩
theorem bv_of {m : Nat} {z : Int} (h : z = ((m % 256 : Nat) : Int)) : bv (UInt8.ofNat m) = .int .u8 z := by
  subst h
  show Value.int .u8 (((UInt8.ofNat m).toNat : Nat) : Int) = _
  rw [UInt8.toNat_ofNat']
theorem AddUint8_any (hb : BS w base p v off pl ic st) (hl : olen st ≤ 17592186044416) (n : Nat) (hn : n < 256) :
    Calls Tryz.prog 87 #[.pointer (some ⟨p, 0, none⟩), .int .u8 (n : Int)] w (BSP w base p v off pl ic (app st (some [UInt8.ofNat n]))) := by
  have h := add_lit_any hb hl [UInt8.ofNat n] (by simp) 5
  have e : bv (UInt8.ofNat n) = .int .u8 (n : Int) := bv_of (by omega)
  simp only [List.map_cons, List.map_nil, List.length_cons, List.length_nil, Nat.zero_add, e] at h
  have H := hid h
  clear h
  go_enter Tryz.func87, Tryz.ntmps87
  go_wp2_with fail
  refine H.out.mono ?_
  intro e1 w1 hp
  have he := hp.1
  subst he
  go_wp2
  go_end0
  exact hp
theorem AddUint16_any (hb : BS w base p v off pl ic st) (hl : olen st ≤ 17592186044416) (n : Nat) (hn : n < 65536) :
    Calls Tryz.prog 83 #[.pointer (some ⟨p, 0, none⟩), .int .u16 (n : Int)] w (BSP w base p v off pl ic (app st (some (be 2 n)))) := by
  have h := add_lit_any hb hl (be 2 n) (by simp [be_len]) 5
  rw [be_len] at h
  have e1 : bv (UInt8.ofNat (n / 256 ^ 1)) = .int .u8 ((n : Int) / 256) := bv_of (by omega)
  have e0 : bv (UInt8.ofNat (n / 256 ^ 0)) = .int .u8 ((n : Int) % 256) := bv_of (by omega)
  simp only [be, List.map_cons, List.map_nil, e1, e0] at h
  have H := hid h
  clear h e0 e1
  go_enter Tryz.func83, Tryz.ntmps83
  go_wp2_with fail
  refine H.out.mono ?_
  intro e1 w1 hp
  have he := hp.1
  subst he
  go_wp2
  go_end0
  exact hp
theorem AddBytes_any (hb : BS w base p v off pl ic st) (hc : Src w base p v content xs) (hl : olen st ≤ 17592186044416) (hx : xs.length ≤ 17592186044416) :
    Calls Tryz.prog 89 #[.pointer (some ⟨p, 0, none⟩), content] w (BSP w base p v off pl ic (app st (some xs))) := by
  have H := hid (add_any hb hc hl hx)
  go_enter Tryz.func89, Tryz.ntmps89
  go_wp2_with fail
  refine H.out.mono ?_
  intro e1 w1 hp
  have he := hp.1
  subst he
  go_wp2
  go_end0
  exact hp
end
end Go.Proofs.YtaajmfgplhfncaaGreat

/- Texts joined: Build, Build2, Build3, Build4, Build5, Build6. -/
import Derived.Test.YtaajmfgplhfncaaGreatStr
import Derived.Deep.DeepFit
import Derived.Recover
import Derived.Deep.RegionHeld3

/- Contracts of cryptobyte's Builder: add and its kin. -/
namespace Go.Proofs.YtaajmfgplhfncaaGreat
open Go.RowKit
set_option maxRecDepth 20000

/-- the cells of a Builder that has no error: its row, its child, its own length's place, the flag's address -/
def bcs (v child : Value) (off pl : Nat) (ic : Value) : Array Value := #[.nilIface, v, .bool false, child, .int .i64 off, .int .i64 pl, .bool false, ic]
/-- the Builder at block p: no error, these bytes -/
def Bld (w : World) (base p : Nat) (v : Value) (off pl : Nat) (ic : Value) (bs : List UInt8) : Prop :=
  base ≤ p ∧ Blk w p 139 (bcs v (.pointer none) off pl ic) ∧ Own w base 5 v (bs.map bv)
/-- the Builder at block p has an error -/
def BErr (w : World) (base p : Nat) : Prop := base ≤ p ∧ ∃ cs t x, Blk w p 139 cs ∧ cs.size = 8 ∧ cs[0]? = some (.iface t x) ∧ cs[3]? = some (.pointer none)
/-- the Builder at block p: its bytes, or none where it has an error -/
def BS (w : World) (base p : Nat) (v : Value) (off pl : Nat) (ic : Value) : Option (List UInt8) → Prop
  | some bs => Bld w base p v off pl ic bs
  | none => BErr w base p
/-- what a method of a Builder leaves -/
def BSP (w : World) (base p : Nat) (v : Value) (off pl : Nat) (ic : Value) (st : Option (List UInt8)) (e : Ending) (w' : World) : Prop :=
  e = .returned (.tuple #[]) ∧ ∃ v', BS w' base p v' off pl ic st ∧ Upd (p :: v.ownBlock.toList) w w' ∧ (v'.ownBlock = v.ownBlock ∨ ∃ g, v'.ownBlock = some g ∧ w.heap.size ≤ g)
/-- one state behind another -/
def app (st out : Option (List UInt8)) : Option (List UInt8) := match st, out with
  | some bs, some xs => some (bs ++ xs)
  | _, _ => none
/-- how long a state is -/
def olen (st : Option (List UInt8)) : Nat := match st with
  | some bs => bs.length
  | none => 0
theorem app_none (st : Option (List UInt8)) : app st none = none := by cases st <;> rfl
theorem app_nil (st : Option (List UInt8)) : app st (some []) = st := by cases st <;> simp [app]
theorem app_assoc (st a b : Option (List UInt8)) : app (app st a) b = app st (app a b) := by
  cases st <;> cases a <;> cases b <;> simp [app]
theorem olen_app (st out : Option (List UInt8)) : olen (app st out) ≤ olen st + olen out := by
  cases st <;> cases out <;> simp [app, olen]

theorem neq_err_nil (w : World) : (binOp .neq 69 .nilIface .nilIface).run Tryz.prog w = .ok (.bool false) w := by kernel_rfl
theorem neq_err_some (w : World) (t : TypeId) (x : Value) : (binOp .neq 69 (.iface t x) .nilIface).run Tryz.prog w = .ok (.bool true) w := by kernel_rfl

section
variable {w w' : World} {base p off pl : Nat} {v content ic : Value} {xs bs : List UInt8} {st : Option (List UInt8)} {S : List Nat}

theorem Bld.open_ (h : Bld w base p v off pl ic bs) : ∃ A c, v = .slice A bs.length c ∧ w.cell? ⟨p, 0, none⟩ = some .nilIface ∧ w.cell? ⟨p, 1, none⟩ = some (.slice A bs.length c) ∧ w.cell? ⟨p, 2, none⟩ = some (.bool false) ∧
    w.cell? ⟨p, 3, none⟩ = some (.pointer none) ∧ w.cell? ⟨p, 4, none⟩ = some (.int .i64 (off : Int)) ∧ w.cell? ⟨p, 5, none⟩ = some (.int .i64 (pl : Int)) ∧ w.cell? ⟨p, 6, none⟩ = some (.bool false) ∧ w.cell? ⟨p, 7, none⟩ = some ic ∧
    (∀ i, w.frozen? ⟨p, i, none⟩ = false) ∧ bs.length ≤ c ∧ c ≤ 9223372036854775807 := by
  obtain ⟨hb, h1, h2⟩ := h
  obtain ⟨A, c, e, h3, h4⟩ := h2.form
  rw [List.length_map] at e h3
  refine ⟨A, c, e, ?_, ?_, ?_, ?_, ?_, ?_, ?_, ?_, fun i => h1.frozen i, h3, h4⟩
  all_goals rw [h1.cell]
  all_goals first | rfl | (rw [e]; rfl)
theorem BErr.open_ (h : BErr w base p) : ∃ t x, w.cell? ⟨p, 0, none⟩ = some (.iface t x) ∧ w.cell? ⟨p, 3, none⟩ = some (.pointer none) := by
  obtain ⟨_, cs, t, x, h1, h2, h3, h4⟩ := h
  exact ⟨t, x, by rw [h1.cell, h3], by rw [h1.cell, h4]⟩
theorem Bld.stored (h : Blk w p 139 (bcs v (.pointer none) off pl ic)) (hb : base ≤ p) {v' : Value} (ho : Own w base 5 v' (bs.map bv)) : Bld (w.setCell ⟨p, 1, none⟩ v') base p v' off pl ic bs := by
  refine ⟨hb, ?_, ho.upd ((Upd.refl [p] _).setCell (by simp) _) (fun g hg hm => ?_)⟩
  · have := h.set_ 1 v'
    simpa [bcs] using this
  · simp at hm
    exact ho.ne h (by decide) g hg hm

set_option maxHeartbeats 2000000 in
theorem add_any (hb : BS w base p v off pl ic st) (hc : Src w base p v content xs) (hl : olen st ≤ 17592186044416) (hx : xs.length ≤ 17592186044416) :
    Calls Tryz.prog 138 #[.pointer (some ⟨p, 0, none⟩), content] w (BSP w base p v off pl ic (app st (some xs))) := by
  have q1 := neq_err_nil
  have q2 := neq_err_some
  obtain ⟨Ax, cx, rfl, -⟩ : ∃ A c, content = .slice A xs.length c ∧ True := by
    obtain ⟨B, hb, _⟩ := hc
    obtain ⟨A, c, e, _⟩ := Byt.form hb rfl
    exact ⟨A, c, e, trivial⟩
  cases st with
  | none =>
    obtain ⟨t, x, c0, -⟩ := BErr.open_ hb
    go_enter Tryz.func138, Tryz.ntmps138
    go_wp2
    exact bodyPost_ret (results_none rfl _ _ _) rfl ⟨rfl, v, hb, Upd.refl _ _, .inl rfl⟩
  | some bs =>
    have hb : Bld w base p v off pl ic bs := hb
    obtain ⟨A, c, hve, c0, c1, c2, c3, c4, c5, c6, c7, fz, hlc, hcm⟩ := hb.open_
    have f1 := fz 1
    have hbp := hb.1
    have hpl := hb.2.1.lt
    have hown := hb.2.2
    have hpn : p ∉ v.ownBlock.toList := fun hm => hb.2.2.ne hb.2.1 (by decide) _ (Option.mem_toList.1 hm) rfl
    have hcb : ∃ B, Byt w B (.slice Ax xs.length cx) xs := by
      obtain ⟨B, h, _⟩ := hc
      exact ⟨B, h⟩
    obtain ⟨B, hx2⟩ := hcb
    have hl' : bs.length ≤ 17592186044416 := hl
    have HL := hid hl'
    have HX := hid hx
    have hd : decide ((bs.length : Int) + (xs.length : Int) < (xs.length : Int)) = false := by
      rw [decide_eq_false_iff_not]
      intro h
      have := Int.natCast_nonneg bs.length
      omega
    have hs1 : (bs.length : Int) + (xs.length : Int) ≤ 35184372088832 := by omega
    subst hve
    clear hl hl' hx fz
    go_enter Tryz.func138, Tryz.ntmps138
    go_wp2_with fail
    go_quiet (fail)
    go_wp2_with (at_builtin; go_must (refine wpList_append_row _ rfl _ _ _ rfl base 5 (.int .u8 0) 1 Tryz.underlying23 info_u8 rfl rfl (Own.upd hown ((Upd.refl [] _).drewN _) (by simp)) rfl (Row.drewN hx2 _) (byt_oneCell xs) (by have := HL.out; have := HX.out; simp; omega) (by have := HL.out; have := HX.out; simp; omega) (by simp; omega) ?_; intro v3 w3 hap; have hb3 := (hb.2.1.drewN _).upd hap.2.1 hpn; have e3 := hb3.cell 1; simp [bcs] at e3; have h3 := hb3.frozen 1; obtain ⟨A3, c3', hv3⟩ := Own.formN (n := bs.length + xs.length) hap.1 (by simp); subst hv3))
    go_end0
    have hap2 := hap.2
    refine ⟨rfl, .slice A3 (bs.length + xs.length) c3', Bld.stored (bs := bs ++ xs) hb3 hbp (by rw [List.map_append]; exact hap.1), ?_, ?_⟩
    · exact ((((Upd.refl _ w).drewN _).trans hap2.1 (fun x hx => .inl (List.mem_cons_of_mem _ hx))).setCell (by simp) _)
    · rcases hap2.2 with h | h
      · exact .inl h
      · exact .inr ⟨_, h, Nat.le_refl _⟩

/-- bytes in a new block of their own -/
theorem byt_lit (w : World) (e : TypeId) (xs : List UInt8) (hl : xs.length ≤ 1099511627776) : Byt (w.alloc (.cells (xs.map bv).toArray e)) (w.heap.size + 1) (.slice (some ⟨w.heap.size, 0, none⟩) xs.length xs.length) xs :=
  ⟨some ⟨w.heap.size, 0, none⟩, xs.length, by simp, by simp, by unfold maxLen; omega, fun e => (by cases e), fun _ => ⟨w.heap.size, 0, rfl, by omega, fun j u hj => by
    rw [(Blk.new w e _).cell]
    simpa using hj⟩⟩

theorem BS.upd (h : BS w base p v off pl ic st) (hu : Upd S w w') (hp : p ∉ S) (hs : ∀ g, v.ownBlock = some g → g ∉ S) : BS w' base p v off pl ic st := by
  cases st with
  | none =>
    obtain ⟨h1, cs, t, x, h2, h3⟩ := h
    exact ⟨h1, cs, t, x, h2.upd hu hp, h3⟩
  | some bs => exact ⟨h.1, h.2.1.upd hu hp, h.2.2.upd hu hs⟩
theorem BS.lt (h : BS w base p v off pl ic st) : p < w.heap.size := by
  cases st with
  | none =>
    obtain ⟨h1, cs, t, x, h2, h3⟩ := h
    exact h2.lt
  | some bs => exact h.2.1.lt
theorem BS.ownLt (h : BS w base p v off pl ic st) (hs : st ≠ none) : ∀ k, v.ownBlock = some k → k < w.heap.size ∧ base ≤ k ∧ k ≠ p := by
  cases st with
  | none => exact absurd rfl hs
  | some bs =>
    intro k hk
    have := h.2.2.ge hk
    exact ⟨this.2, this.1, h.2.2.ne h.2.1 (by decide) k hk⟩
/-- what a method leaves, from a world before new blocks were laid -/
theorem BSP.before {w0 : World} (hu : Upd [] w0 w) {e : Ending} (h : BSP w base p v off pl ic st e w') : BSP w0 base p v off pl ic st e w' := by
  obtain ⟨he, v', h1, h2, h3⟩ := h
  exact ⟨he, v', h1, (hu.mono (by simp)).two h2, h3.imp id fun ⟨g, h1, h2⟩ => ⟨g, h1, Nat.le_trans hu.size h2⟩⟩
/-- two methods, one behind the other -/
theorem BSP.after {w1 w2 : World} {v1 : Value} {e : Ending} (hu : Upd (p :: v.ownBlock.toList) w w1) (hv : v1.ownBlock = v.ownBlock ∨ ∃ g, v1.ownBlock = some g ∧ w.heap.size ≤ g)
    (h : BSP w1 base p v1 off pl ic st e w2) : BSP w base p v off pl ic st e w2 := by
  obtain ⟨he, v', h1, h2, h3⟩ := h
  have hsz := hu.size
  refine ⟨he, v', h1, hu.trans h2 ?_, ?_⟩
  · intro k hk
    rcases List.mem_cons.1 hk with rfl | hk
    · simp
    · rcases hv with hv | ⟨g, hg, hge⟩
      · rw [hv] at hk; left; exact List.mem_cons_of_mem _ hk
      · rw [hg] at hk; right; simp at hk; omega
  · rcases h3 with h3 | ⟨g, hg, hge⟩
    · rw [h3]; exact hv
    · exact .inr ⟨g, hg, by omega⟩

/-- 'add' of bytes in a new block -/
theorem add_lit_any (hb : BS w base p v off pl ic st) (hl : olen st ≤ 17592186044416) (xs : List UInt8) (hx : xs.length ≤ 1024) (e : TypeId) :
    Calls Tryz.prog 138 #[.pointer (some ⟨p, 0, none⟩), .slice (some ⟨w.heap.size, 0, none⟩) xs.length xs.length] (w.alloc (.cells (xs.map bv).toArray e)) (BSP w base p v off pl ic (app st (some xs))) := by
  have hu : Upd [] w (w.alloc (.cells (xs.map bv).toArray e)) := (Upd.refl _ _).alloc _
  by_cases hs : st = none
  · have hsv : BS (w.alloc (.cells (xs.map bv).toArray e)) base p (.slice none 0 0) off pl ic st := by subst hs; exact BS.upd (v := .slice none 0 0) hb hu (by simp) (by simp)
    refine (add_any hsv ⟨_, byt_lit w e xs (by omega), .inr ?_⟩ hl (by omega)).mono ?_
    · intro k hk
      have := hb.lt
      injection hk with hk
      exact ⟨by show k ≠ p; have : w.heap.size = k := hk; omega, by simp [Value.ownBlock]⟩
    · intro e2 w2 hp
      subst hs
      obtain ⟨he, v', h1, h2, h3⟩ := hp
      exact ⟨he, v, h1, (hu.mono (by simp)).trans h2 (by simp [Value.ownBlock]), .inl rfl⟩
  · refine (add_any (hb.upd hu (by simp) (by simp)) ⟨_, byt_lit w e xs (by omega), .inr ?_⟩ hl (by omega)).mono fun e2 w2 hp => hp.before hu
    intro k hk
    have h1 := hb.lt
    injection hk with hk
    have hk : w.heap.size = k := hk
    exact ⟨by omega, fun h2 => by have := (hb.ownLt hs k h2).1; omega⟩

theorem bv_of {m : Nat} {z : Int} (h : z = ((m % 256 : Nat) : Int)) : bv (UInt8.ofNat m) = .int .u8 z := by
  subst h
  show Value.int .u8 (((UInt8.ofNat m).toNat : Nat) : Int) = _
  rw [UInt8.toNat_ofNat']

theorem AddUint8_any (hb : BS w base p v off pl ic st) (hl : olen st ≤ 17592186044416) (n : Nat) (hn : n < 256) :
    Calls Tryz.prog 87 #[.pointer (some ⟨p, 0, none⟩), .int .u8 (n : Int)] w (BSP w base p v off pl ic (app st (some [UInt8.ofNat n]))) := by
  have h := add_lit_any hb hl [UInt8.ofNat n] (by simp) 5
  have e : bv (UInt8.ofNat n) = .int .u8 (n : Int) := bv_of (by omega)
  simp only [List.map_cons, List.map_nil, List.length_cons, List.length_nil, Nat.zero_add, e] at h
  have H := hid h
  clear h
  go_enter Tryz.func87, Tryz.ntmps87
  go_wp2_with fail
  refine H.out.mono ?_
  intro e1 w1 hp
  have he := hp.1
  subst he
  go_wp2
  go_end0
  exact hp
theorem AddUint16_any (hb : BS w base p v off pl ic st) (hl : olen st ≤ 17592186044416) (n : Nat) (hn : n < 65536) :
    Calls Tryz.prog 83 #[.pointer (some ⟨p, 0, none⟩), .int .u16 (n : Int)] w (BSP w base p v off pl ic (app st (some (be 2 n)))) := by
  have h := add_lit_any hb hl (be 2 n) (by simp [be_len]) 5
  rw [be_len] at h
  have e1 : bv (UInt8.ofNat (n / 256 ^ 1)) = .int .u8 ((n : Int) / 256) := bv_of (by omega)
  have e0 : bv (UInt8.ofNat (n / 256 ^ 0)) = .int .u8 ((n : Int) % 256) := bv_of (by omega)
  simp only [be, List.map_cons, List.map_nil, e1, e0] at h
  have H := hid h
  clear h e0 e1
  go_enter Tryz.func83, Tryz.ntmps83
  go_wp2_with fail
  refine H.out.mono ?_
  intro e1 w1 hp
  have he := hp.1
  subst he
  go_wp2
  go_end0
  exact hp
theorem AddBytes_any (hb : BS w base p v off pl ic st) (hc : Src w base p v content xs) (hl : olen st ≤ 17592186044416) (hx : xs.length ≤ 17592186044416) :
    Calls Tryz.prog 89 #[.pointer (some ⟨p, 0, none⟩), content] w (BSP w base p v off pl ic (app st (some xs))) := by
  have H := hid (add_any hb hc hl hx)
  go_enter Tryz.func89, Tryz.ntmps89
  go_wp2_with fail
  refine H.out.mono ?_
  intro e1 w1 hp
  have he := hp.1
  subst he
  go_wp2
  go_end0
  exact hp
end
end Go.Proofs.YtaajmfgplhfncaaGreat

/- Contract of cryptobyte's Builder: flushChild. -/
namespace Go.Proofs.YtaajmfgplhfncaaGreat
open Go.RowKit
set_option maxRecDepth 100000

section
variable {w w' : World} {base p q off pl : Nat} {v v2 content ic ic2 : Value} {xs bs : List UInt8} {st : Option (List UInt8)} {S : List Nat}

theorem eql_child_nil (w : World) : (binOp .eql 136 (.pointer none) (.pointer none)).run Tryz.prog w = .ok (.bool true) w := by kernel_rfl

set_option maxHeartbeats 2000000 in
theorem flush_nil {t : World} (c3 : t.cell? ⟨q, 3, none⟩ = some (.pointer none)) :
    Calls Tryz.prog 144 #[.pointer (some ⟨q, 0, none⟩)] t fun e w' => e = .returned (.tuple #[]) ∧ t = w' := by
  go_enter Tryz.func144, Tryz.ntmps144
  go_wp2
  exact bodyPost_ret (results_none rfl _ _ _) rfl ⟨rfl, rfl⟩

/-- the row while the length is being written: gk bytes are still to come -/
def rowAt (bs xs : List UInt8) (n gk : Nat) : List UInt8 := bs ++ List.replicate gk 0 ++ be (n - gk) xs.length ++ xs
theorem rowAt_len (bs xs : List UInt8) (n gk : Nat) (h : gk ≤ n) : (rowAt bs xs n gk).length = bs.length + n + xs.length := by
  simp [rowAt, be_len]; omega
theorem rowAt_set (bs xs : List UInt8) (n j : Nat) (h : j + 1 ≤ n) : (rowAt bs xs n (j + 1)).set (bs.length + j) (UInt8.ofNat (xs.length / 256 ^ (n - (j + 1)))) = rowAt bs xs n j := by
  have e : n - j = (n - (j + 1)) + 1 := by omega
  unfold rowAt
  rw [e, be, List.replicate_succ']
  simp only [List.append_assoc]
  rw [List.set_append_right _ _ (by omega), show bs.length + j - bs.length = j by omega, List.set_append_right _ _ (by simp)]
  simp
theorem rowAt_zero (bs xs : List UInt8) (n : Nat) : rowAt bs xs n 0 = bs ++ be n xs.length ++ xs := by simp [rowAt]
theorem rowAt_full (bs xs : List UInt8) (n : Nat) : rowAt bs xs n n = bs ++ List.replicate n 0 ++ xs := by simp [rowAt, be]

/-- the cells of a builder with a child -/
theorem bcs_cells {t : World} {v child ic : Value} {off pl : Nat} (h : Blk t p 139 (bcs v child off pl ic)) :
    t.cell? ⟨p, 0, none⟩ = some .nilIface ∧ t.cell? ⟨p, 1, none⟩ = some v ∧ t.cell? ⟨p, 2, none⟩ = some (.bool false) ∧ t.cell? ⟨p, 3, none⟩ = some child ∧
    t.cell? ⟨p, 4, none⟩ = some (.int .i64 (off : Int)) ∧ t.cell? ⟨p, 5, none⟩ = some (.int .i64 (pl : Int)) ∧ t.cell? ⟨p, 6, none⟩ = some (.bool false) ∧ t.cell? ⟨p, 7, none⟩ = some ic := by
  refine ⟨?_, ?_, ?_, ?_, ?_, ?_, ?_, ?_⟩
  all_goals (rw [h.cell]; rfl)

theorem Own.some_ {t : World} {e : TypeId} {u : Value} {ys : List Value} (h : Own t base e u ys) (hp : 0 < ys.length) : ∃ g c, u = .slice (some ⟨g, 0, none⟩) ys.length c := by
  rcases h.2 with ⟨_, h0⟩ | ⟨g, cap, cur, hv, _⟩
  · omega
  · exact ⟨g, cap, hv⟩

def FRel (w1 : World) (base q : Nat) (v2 : Value) (n : Nat) (ic2 : Value) (bs xs : List UInt8) (gk : Nat) (l i : Value) (wr : World) : Prop :=
  ∃ m : Nat, gk ≤ n ∧ i = .int .i64 ((gk : Int) - 1) ∧ l = .int .i64 (m : Int) ∧ m = xs.length / 256 ^ (n - gk) ∧ Bld wr base q v2 bs.length n ic2 (rowAt bs xs n gk) ∧ Upd v2.ownBlock.toList w1 wr

theorem frel_step {w1 wr : World} {n j m g c : Nat} {l i : Value} {z : Int} (hj : j + 1 ≤ n) (hl : l = .int .i64 ((m / 256 : Nat) : Int)) (hi : i = .int .i64 ((j : Int) - 1)) (hm : m = xs.length / 256 ^ (n - (j + 1))) (hz : z = ((m % 256 : Nat) : Int))
    (hq : Bld wr base q v2 bs.length n ic2 (rowAt bs xs n (j + 1))) (hv : v2 = .slice (some ⟨g, 0, none⟩) (bs.length + n + xs.length) c) (hu : Upd v2.ownBlock.toList w1 wr) :
    FRel w1 base q v2 n ic2 bs xs j l i ((wr.setCell ⟨g, bs.length + j, none⟩ (.int .u8 z)).drew) := by
  have hlen : ((rowAt bs xs n (j + 1)).map bv).length = bs.length + n + xs.length := by rw [List.length_map, rowAt_len _ _ _ _ hj]
  have hlen2 : ((rowAt bs xs n j).map bv).length = bs.length + n + xs.length := by rw [List.length_map, rowAt_len _ _ _ _ (by omega)]
  have hown := hq.2.2
  unfold Own at hown
  rw [hlen, hv] at hown
  have hst := (hown.stored (bs.length + j) (.int .u8 z)).1
  have hg : g ∈ v2.ownBlock.toList := by rw [hv]; simp [Value.ownBlock]
  have hqg : q ≠ g := fun e => hq.2.2.ne hq.2.1 (by decide) g (Option.mem_toList.1 hg) e.symm
  refine ⟨m / 256, by omega, hi, hl, ?_, ⟨hq.1, ?_, ?_⟩, ?_⟩
  · rw [hm, Nat.div_div_eq_div_mul, ← Nat.pow_succ]
    congr 2
    omega
  · exact (hq.2.1.far (p := ⟨g, bs.length + j, none⟩) hqg _).drew
  · show World.ownsRow _ base 5 1 v2 ((rowAt bs xs n j).map bv).length ((rowAt bs xs n j).map bv)
    rw [hlen2, hv]
    have e : ((rowAt bs xs n (j + 1)).map bv).set (bs.length + j) (.int .u8 z) = (rowAt bs xs n j).map bv := by
      rw [← rowAt_set bs xs n j hj, List.map_set, ← hm]
      congr 1
      exact (bv_of hz).symm
    rw [e] at hst
    exact hst.kept (row := none) (World.grownBy.mk rfl rfl rfl (Nat.le_refl _) (fun _ _ _ => rfl)) (by simp [Value.ownBlock])
  · exact (hu.setCell (.inl hg) _).drew

theorem errors_New_any {t : World} (sv : ByteArray) :
    Calls Tryz.prog 142 #[.string sv] t fun e w' => e = .returned (.iface 158 (.pointer (some ⟨t.heap.size, 0, none⟩))) ∧ Upd [] t w' := by
  go_enter Tryz.func142, Tryz.ntmps142
  go_wp2
  go_ret
  exact ⟨rfl, (Upd.refl _ _).alloc _⟩

/-- the state behind a vector: its length's bytes and its content, or none where it is too long -/
def lpOut (n : Nat) (out : Option (List UInt8)) : Option (List UInt8) := match out with
  | some xs => if xs.length < 256 ^ n then some (be n xs.length ++ xs) else none
  | none => none

/-- what flushChild leaves of a parent -/
def FlP (w : World) (base p q : Nat) (v2 : Value) (off pl : Nat) (ic : Value) (st : Option (List UInt8)) (e : Ending) (w' : World) : Prop :=
  e = .returned (.tuple #[]) ∧ BS w' base p v2 off pl ic st ∧ Upd (p :: q :: v2.ownBlock.toList) w w'

theorem flush_end {w1 wr : World} {n nq : Nat} {u : Value} (hfit : xs.length < 256 ^ n) (hpr : Blk wr p 139 (bcs v (.pointer none) off pl ic)) (hbp : base ≤ p) (hq : Bld wr base q v2 bs.length n ic2 (rowAt bs xs n 0)) (hu1 : Upd [p] w w1) (hur : Upd v2.ownBlock.toList w1 wr)
    (hv : u = v2) : FlP w base p q v2 off pl ic (app (some bs) (lpOut n (some xs))) (.returned (.tuple #[])) ((wr.drewN nq).setCell ⟨p, 1, none⟩ u) := by
  subst hv
  refine ⟨rfl, ?_, ?_⟩
  · have h := Bld.stored (bs := rowAt bs xs n 0) (hpr.drewN nq) hbp (v' := u) (Own.upd hq.2.2 ((Upd.refl [] _).drewN nq) (by simp))
    rw [rowAt_zero] at h
    simp only [lpOut, if_pos hfit, app]
    rw [← List.append_assoc]
    exact h
  · refine (((hu1.mono (by simp)).trans hur (fun x hx => ?_)).drewN nq).setCell (by simp) _
    exact .inl (List.mem_cons_of_mem _ (List.mem_cons_of_mem _ hx))

theorem flush_long {w1 wr w2 : World} {n k : Nat} {t : TypeId} (hfit : ¬ xs.length < 256 ^ n) (hpr : Blk w2 p 139 (bcs v (.pointer none) off pl ic)) (hbp : base ≤ p) (hu1 : Upd [p] w w1) (hur : Upd v2.ownBlock.toList w1 wr) (hu2 : Upd [] wr w2) :
    FlP w base p q v2 off pl ic (app (some bs) (lpOut n (some xs))) (.returned (.tuple #[])) (w2.setCell ⟨p, 0, none⟩ (.iface t (.pointer (some ⟨k, 0, none⟩)))) := by
  refine ⟨rfl, ?_, ?_⟩
  · simp only [lpOut, if_neg hfit, app]
    refine ⟨hbp, _, t, .pointer (some ⟨k, 0, none⟩), hpr.set_ 0 _, ?_, ?_, ?_⟩
    · rfl
    · rfl
    · rfl
  · refine (((hu1.mono (by simp)).trans hur (fun x hx => ?_)).trans hu2 (by simp)).setCell (by simp) _
    exact .inl (List.mem_cons_of_mem _ (List.mem_cons_of_mem _ hx))

set_option maxHeartbeats 8000000 in
theorem flush_ok (hp : Blk w p 139 (bcs v (.pointer (some ⟨q, 0, none⟩)) off pl ic)) {n : Nat} (hq : Bld w base q v2 bs.length n ic2 (bs ++ List.replicate n 0 ++ xs)) (hpq : p ≠ q) (hbp : base ≤ p) (hn : 1 ≤ n) (hn3 : n ≤ 3)
    (hl : bs.length ≤ 17592186044416) (hx : xs.length ≤ 17592186044416) :
    Calls Tryz.prog 144 #[.pointer (some ⟨p, 0, none⟩)] w (FlP w base p q v2 off pl ic (app (some bs) (lpOut n (some xs)))) := by
  have q1 := neq_err_nil
  have q2 := neq_err_some
  obtain ⟨A, c, hve, c0, c1, c2, c3, c4, c5, c6, c7, fz, hlc, hcm⟩ := hq.open_
  obtain ⟨d0, d1, d2, d3, d4, d5, d6, d7⟩ := bcs_cells hp
  have g3 := hp.frozen 3
  have hpl := hp.lt
  have hql := hq.2.1.lt
  have hu1 : Upd [p] w (w.setCell ⟨p, 3, none⟩ (.pointer none)) := (Upd.refl _ _).setCell (by simp) _
  have hq1 : Bld (w.setCell ⟨p, 3, none⟩ (.pointer none)) base q v2 bs.length n ic2 (bs ++ List.replicate n 0 ++ xs) := BS.upd (st := some _) hq hu1 (by simpa using Ne.symm hpq) (fun g hg hm => by
    simp at hm
    exact hq.2.2.ne hp (by decide) g hg hm)
  have hp1 : Blk (w.setCell ⟨p, 3, none⟩ (.pointer none)) p 139 (bcs v (.pointer none) off pl ic) := by
    have := hp.set_ 3 (.pointer none)
    simpa [bcs] using this
  obtain ⟨w1, hw1⟩ : ∃ w1, w.setCell ⟨p, 3, none⟩ (.pointer none) = w1 := ⟨_, rfl⟩
  have HW := hid hw1
  rw [hw1] at hu1 hq1 hp1
  clear hw1
  obtain ⟨A', c', hve', e0, e1, e2, e3, e4, e5, e6, e7, fz', hlc', hcm'⟩ := hq1.open_
  rw [← rowAt_full] at hq1
  have hlen : (bs ++ List.replicate n 0 ++ xs).length = bs.length + n + xs.length := by simp; omega
  rw [hlen] at e1 hlc' hve' c1 hlc hve
  obtain ⟨k0, k1, k2, k3, k4, k5, k6, k7⟩ := bcs_cells hp1
  have hh : Hid (e0 = e0) := rfl
  clear hlc hcm c1 c4 c5 c6 c7 fz hlen hh
  go_enter Tryz.func144, Tryz.ntmps144
  go_wp2_with fail
  refine (flush_nil c3).mono ?_
  rintro e w0 ⟨rfl, rfl⟩
  go_wp2_with fail
  rw [HW.out]
  go_quiet (fail)
  rw [show ((bs.length : Int) + (n : Int) + (xs.length : Int) - (n : Int) - (bs.length : Int)) = (xs.length : Int) by omega]
  go_wp2_with fail
  go_loopg [8, 9] n (fun gk l i wr => FRel w1 base q v2 n ic2 bs xs gk l i wr)
  case atStart =>
    refine ⟨xs.length, Nat.le_refl _, rfl, rfl, ?_, BS.upd (S := []) (st := some _) hq1 ((Upd.refl _ _).drewN _) (by simp) (by simp), (Upd.refl _ _).drewN _⟩
    rw [Nat.sub_self, Nat.pow_zero, Nat.div_one]
  case round =>
    obtain ⟨m, hgk, rfl, rfl, hm, hqr, hur⟩ := hrel
    have hmx : m ≤ xs.length := by rw [hm]; exact Nat.div_le_self _ _
    have HM := hid hm
    clear hm
    obtain ⟨Ar, cr, hvr, r0, r1, r2, r3, r4, r5, r6, r7, rz, hlr, hcr⟩ := hqr.open_
    rw [rowAt_len bs xs n gk hgk] at hvr r1 hlr
    obtain ⟨g, cg, hvg⟩ := Own.some_ hqr.2.2 (by rw [List.length_map, rowAt_len _ _ _ _ hgk]; omega)
    rw [List.length_map, rowAt_len bs xs n gk hgk] at hvg
    rw [hvg] at hvr
    injection hvr with hA _ hc
    subst hA hc
    have hown := hqr.2.2
    rw [hvg] at hown
    have hownT : wr.ownsRow base 5 1 (.slice (some ⟨g, 0, none⟩) (bs.length + n + xs.length) cg) (bs.length + n + xs.length) ((rowAt bs xs n gk).map bv) := by
      have h := hown
      unfold Own at h
      rw [show ((rowAt bs xs n gk).map bv).length = bs.length + n + xs.length by rw [List.length_map, rowAt_len _ _ _ _ hgk]] at h
      exact h
    have Hvg := hid hvg
    clear hvg
    have hpv : p ∉ v2.ownBlock.toList := fun hm => hqr.2.2.ne (hp1.upd hur (fun hm' => hq1.2.2.ne hp1 (by decide) _ (Option.mem_toList.1 hm') rfl)) (by decide) _ (Option.mem_toList.1 hm) rfl
    have hpr := hp1.upd hur hpv
    obtain ⟨s0, s1, s2, s3, s4, s5, s6, s7⟩ := bcs_cells hpr
    have z0 := hpr.frozen 0
    have z1 := hpr.frozen 1
    by_cases hk : gk = 0
    · subst hk
      have hz : ¬ ((0 : Int) ≤ ((0 : Nat) : Int) - 1) := by omega
      by_cases hm0 : m = 0
      · have hmt : ((m : Int) != 0) = false := by simp [hm0]
        have HM0 := hid hm0
        clear hm0
        go_wp2_with fail
        go_quiet (fail)
        go_wp2
        go_end0
        have hfit : xs.length < 256 ^ n := by
          have h1 := HM.out
          rw [HM0.out] at h1
          exact (Nat.div_eq_zero_iff_lt (Nat.pow_pos (by omega))).1 h1.symm
        exact flush_end hfit hpr hbp hqr hu1 hur Hvg.out.symm
      · have hmt : ((m : Int) != 0) = true := by simp [hm0]
        have HM0 := hid hm0
        clear hm0
        go_wp2_with fail
        refine (errors_New_any _).mono ?_
        rintro e w2 ⟨rfl, hu2⟩
        have hpr2 := hpr.upd hu2 (by simp)
        obtain ⟨s0, s1, s2, s3, s4, s5, s6, s7⟩ := bcs_cells hpr2
        have z0 := hpr2.frozen 0
        go_wp2
        have hfit : ¬ xs.length < 256 ^ n := by
          intro h
          have h1 := HM.out
          exact HM0.out (h1.trans ((Nat.div_eq_zero_iff_lt (Nat.pow_pos (by omega))).2 h))
        exact bodyPost_ret (results_none rfl _ _ _) rfl (flush_long hfit hpr2 hbp hu1 hur hu2)
    · obtain ⟨j, rfl⟩ : ∃ j, gk = j + 1 := ⟨gk - 1, by omega⟩
      have e : (((j + 1 : Nat) : Int) - 1) = (j : Int) := by omega
      rw [e]
      clear e hk
      have hgz := hownT.frozenAt (bs.length + j)
      have hgc := hownT.cellAt (bs.length + j) (by omega)
      obtain ⟨y, hy⟩ : ∃ y, ((rowAt bs xs n (j + 1)).map bv)[bs.length + j]? = some y := ⟨_, List.getElem?_eq_getElem (by rw [List.length_map, rowAt_len _ _ _ _ hgk]; omega)⟩
      rw [hy] at hgc
      clear hy
      go_wp2_with fail
      go_still_tail 12, (by kernel_rfl)
      go_wp2
      go_roundg j
      case measure => omega
      case rel => exact frel_step hgk (by go_num) (by go_num) HM.out (by omega) hqr Hvg.out hur

set_option maxHeartbeats 4000000 in
/-- the child has an error: the parent has it, too -/
theorem flush_err (hp : Blk w p 139 (bcs v (.pointer (some ⟨q, 0, none⟩)) off pl ic)) (hq : BErr w base q) (hpq : p ≠ q) (hbp : base ≤ p) :
    Calls Tryz.prog 144 #[.pointer (some ⟨p, 0, none⟩)] w (FlP w base p q v2 off pl ic none) := by
  have q1 := neq_err_nil
  have q2 := neq_err_some
  obtain ⟨t, x, c0, c3⟩ := hq.open_
  obtain ⟨d0, d1, d2, d3, d4, d5, d6, d7⟩ := bcs_cells hp
  have g3 := hp.frozen 3
  have hf0 := hp.frozen 0
  have hu1 : Upd [p] w (w.setCell ⟨p, 3, none⟩ (.pointer none)) := (Upd.refl _ _).setCell (by simp) _
  have hp1 : Blk (w.setCell ⟨p, 3, none⟩ (.pointer none)) p 139 (bcs v (.pointer none) off pl ic) := by
    have := hp.set_ 3 (.pointer none)
    simpa [bcs] using this
  have e0 : (w.setCell ⟨p, 3, none⟩ (.pointer none)).cell? ⟨q, 0, none⟩ = some (.iface t x) := hu1.cell c0 (by simpa using Ne.symm hpq)
  go_enter Tryz.func144, Tryz.ntmps144
  go_wp2_with fail
  refine (flush_nil c3).mono ?_
  rintro e w0 ⟨rfl, rfl⟩
  go_wp2
  refine bodyPost_ret (results_none rfl _ _ _) rfl ⟨rfl, ⟨hbp, _, t, x, hp1.set_ 0 _, rfl, rfl, rfl⟩, ?_⟩
  exact (hu1.mono (by simp)).setCell (by simp) _
end
end Go.Proofs.YtaajmfgplhfncaaGreat

/- Contracts of cryptobyte's Builder: callContinuation. -/
namespace Go.Proofs.YtaajmfgplhfncaaGreat
open Go.RowKit
set_option maxRecDepth 100000

section
variable {w w' : World} {base p q off pl : Nat} {v v2 content ic ic2 : Value} {xs bs : List UInt8} {st : Option (List UInt8)} {S : List Nat}

set_option maxHeartbeats 2000000 in
theorem callCont_inner {c : Nat} {fid : FuncId} {cap : Array Value} {arg : Value} {R : Ending → World → Prop} (c7 : w.cell? ⟨p, 7, none⟩ = some (.pointer (some ⟨c, 0, none⟩))) (cc : w.cell? ⟨c, 0, none⟩ = some (.bool true))
    (hf : Calls Tryz.prog fid (#[arg] ++ cap) (w.alloc (.cells #[.pointer (some ⟨p, 0, none⟩)] 136)) R) (hR : ∀ e w', R e w' → e = .returned (.tuple #[])) (hen : ∀ (args : Array Value) (w : World), (callFunc fid args).run Tryz.prog w = .ok (.enter fid args) w) :
    Calls Tryz.prog 143 #[.pointer (some ⟨p, 0, none⟩), .func (.func fid) #[] cap, arg] w R := by
  have hpl : p < w.heap.size := World.block_lt_of_cell? w _ c7
  have hcl : c < w.heap.size := World.block_lt_of_cell? w _ cc
  have HF := hid hf
  have HR := hid hR
  clear hf hR
  go_enter_defers Tryz.func143, Tryz.ntmps143
  go_wp2_with fail
  refine HF.out.mono ?_
  intro e w1 hr
  have he := HR.out e w1 hr
  subst he
  go_wp2_with fail
  exact ⟨_, results_none rfl _ _ _, hr⟩

theorem catch_idle {bb c : Nat} {x : Value} (hb : w.cell? ⟨bb, 0, none⟩ = some (.pointer (some ⟨p, 0, none⟩))) (h7 : w.cell? ⟨p, 7, none⟩ = some (.pointer (some ⟨c, 0, none⟩))) (hc : w.cell? ⟨c, 0, none⟩ = some x) (hz : w.frozen? ⟨c, 0, none⟩ = false) :
    CallsD Tryz.prog 145 #[.pointer (some ⟨bb, 0, none⟩)] .returning w fun e u' w' => e = .returned (.tuple #[]) ∧ u' = .returning ∧ w' = w.setCell ⟨c, 0, none⟩ (.bool false) := by
  refine callsD_of_wpS Tryz.func145 rfl fun c₀ cs hu => ?_
  apply wpS_seq
  apply wpS_region
  simp [wpOpsS, go_sem, hb, h7, hc, hz, Tryz.ntmps145, Exit.thenS]
  apply wpS_seq
  apply wpS_region
  simp [wpOpsS, go_sem, recoverD, hu, Exit.thenS]
  apply wpS_seq
  apply wpS_seq
  apply wpS_region
  simp [wpOpsS, go_sem, Exit.thenS]
  refine wpS_cond (t := true) (by simp [Act.eval, Array.replicate]) ?_
  simp only [if_true]
  refine wpS_of_wp (wp_ret ?_)
  simp only [Exit.thenS]
  exact ⟨rfl, .returning, by rw [← hu], _, results_none rfl _ _ _, rfl, rfl, rfl⟩

/-- what the continuation finds where the flag has just been raised -/
def topWorld (w : World) (p c : Nat) : World := (w.setCell ⟨c, 0, none⟩ (.bool true)).alloc (.cells #[.pointer (some ⟨p, 0, none⟩)] 136)

set_option maxHeartbeats 2000000 in
theorem callCont_top {c : Nat} {fid : FuncId} {cap : Array Value} {arg : Value} {R : World → Prop} (c7 : w.cell? ⟨p, 7, none⟩ = some (.pointer (some ⟨c, 0, none⟩))) (cc : w.cell? ⟨c, 0, none⟩ = some (.bool false)) (cz : w.frozen? ⟨c, 0, none⟩ = false)
    (hf : Calls Tryz.prog fid (#[arg] ++ cap) (topWorld w p c) fun e w' => e = .returned (.tuple #[]) ∧ R w')
    (hR : ∀ w', R w' → w'.cell? ⟨w.heap.size, 0, none⟩ = some (.pointer (some ⟨p, 0, none⟩)) ∧ w'.cell? ⟨p, 7, none⟩ = some (.pointer (some ⟨c, 0, none⟩)) ∧ (∃ x, w'.cell? ⟨c, 0, none⟩ = some x) ∧ w'.frozen? ⟨c, 0, none⟩ = false)
    (hen : ∀ (args : Array Value) (w : World), (callFunc fid args).run Tryz.prog w = .ok (.enter fid args) w) :
    Calls Tryz.prog 143 #[.pointer (some ⟨p, 0, none⟩), .func (.func fid) #[] cap, arg] w fun e w' => e = .returned (.tuple #[]) ∧ ∃ w1, R w1 ∧ w' = w1.setCell ⟨c, 0, none⟩ (.bool false) := by
  have hmf : ∀ (fn : Fn) (first cap : Array Value) (w : World), (Instr.makeFunc fn first cap).run Tryz.prog w = .ok (.func fn first cap) w := fun _ _ _ _ => rfl
  have hpl : p < w.heap.size := World.block_lt_of_cell? w _ c7
  have hcl : c < w.heap.size := World.block_lt_of_cell? w _ cc
  have HF := hid hf
  have HR := hid hR
  clear hf hR
  go_enter_defers Tryz.func143, Tryz.ntmps143
  go_wp2_with fail
  refine HF.out.mono ?_
  rintro e w1 ⟨rfl, hr⟩
  obtain ⟨b0, b7, ⟨x, bc⟩, bz⟩ := HR.out w1 hr
  go_wp2_with fail
  refine leaves_cons (f := 145) (args := #[.pointer (some ⟨w.heap.size, 0, none⟩)]) (by simp) (by simp [go_sem]) ?_
  refine (catch_idle b0 b7 bc bz).mono ?_
  rintro e u' w'' ⟨rfl, rfl, rfl⟩
  exact ⟨_, results_none rfl _ _ _, rfl, w1, hr, rfl⟩
end
end Go.Proofs.YtaajmfgplhfncaaGreat

/- Contracts of cryptobyte's Builder: addLengthPrefixed, inside a continuation and at the top. -/
namespace Go.Proofs.YtaajmfgplhfncaaGreat
open Go.RowKit
set_option maxRecDepth 100000

/-- the flag is raised: we are inside a continuation -/
def Inner (w : World) (ic : Value) : Prop := ∃ c, ic = .pointer (some ⟨c, 0, none⟩) ∧ Blk w c 4 #[.bool true]
/-- function fid is entered when it is called -/
def Enters (fid : FuncId) : Prop := ∀ (args : Array Value) (w : World), (callFunc fid args).run Tryz.prog w = .ok (.enter fid args) w
/-- THE CONTINUATION fid, with what it has captured, writes out: in every world that is w but for the blocks of S, to a child made after w -/
def Emits (fid : FuncId) (cap : Array Value) (S : List Nat) (w : World) (out : Option (List UInt8)) (need : Nat) : Prop :=
  ∀ w1, Upd S w w1 → ∀ base q v off pl ic bs, Bld w1 base q v off pl ic bs → Inner w1 ic → w.heap.size ≤ q → (∀ g, v.ownBlock = some g → g ∈ S ∨ w.heap.size ≤ g) → bs.length + need ≤ 17592186044416 →
    Calls Tryz.prog fid (#[.pointer (some ⟨q, 0, none⟩)] ++ cap) w1 (BSP w1 base q v off pl ic (app (some bs) out))

section
variable {w w' : World} {base p q off pl : Nat} {v v2 content ic ic2 : Value} {xs bs : List UInt8} {st out : Option (List UInt8)} {S : List Nat}

theorem Inner.upd (h : Inner w ic) (hu : Upd S w w') (hs : ∀ c, ic = .pointer (some ⟨c, 0, none⟩) → c ∉ S) : Inner w' ic := by
  obtain ⟨c, h1, h2⟩ := h
  exact ⟨c, h1, h2.upd hu (hs c h1)⟩
theorem FlP.ret {e : Ending} (h : FlP w base p q v2 off pl ic st e w') : e = .returned (.tuple #[]) := h.1

/-- flushChild, whatever the child has come to -/
theorem flush_any {n : Nat} (hp : Blk w p 139 (bcs v (.pointer (some ⟨q, 0, none⟩)) off pl ic)) (hq : BS w base q v2 bs.length n ic2 (app (some (bs ++ List.replicate n 0)) out)) (hpq : p ≠ q) (hbp : base ≤ p) (hn : 1 ≤ n) (hn3 : n ≤ 3)
    (hl : bs.length ≤ 17592186044416) (hx : olen out ≤ 17592186044416) :
    Calls Tryz.prog 144 #[.pointer (some ⟨p, 0, none⟩)] w (FlP w base p q v2 off pl ic (app (some bs) (lpOut n out))) := by
  cases out with
  | none => exact flush_err hp hq hpq hbp
  | some xs => exact flush_ok hp hq hpq hbp hn hn3 hl hx

theorem BS.child (h : BS w base p v off pl ic st) : w.cell? ⟨p, 3, none⟩ = some (.pointer none) := by
  cases st with
  | none => exact (BErr.open_ h).choose_spec.choose_spec.2
  | some bs => exact (bcs_cells h.2.1).2.2.2.1

/-- the world behind the child's making -/
def w3of (w2 : World) (p : Nat) (v2 : Value) (lb n : Nat) (ic : Value) : World :=
  ((w2.setCell ⟨p, 3, none⟩ (.pointer (some ⟨w2.heap.size, 0, none⟩))).alloc (.cells (bcs v2 (.pointer none) lb n ic) 139)).drew
theorem lp_mid {w2 : World} {c n : Nat} (hb2 : Bld w2 base p v2 off pl (.pointer (some ⟨c, 0, none⟩)) bs) (lb : Nat) {x : Bool} (hc : Blk w2 c 4 #[.bool x]) :
    Blk (w3of w2 p v2 lb n (.pointer (some ⟨c, 0, none⟩))) p 139 (bcs v2 (.pointer (some ⟨w2.heap.size, 0, none⟩)) off pl (.pointer (some ⟨c, 0, none⟩))) ∧
    Bld (w3of w2 p v2 lb n (.pointer (some ⟨c, 0, none⟩))) base w2.heap.size v2 lb n (.pointer (some ⟨c, 0, none⟩)) bs ∧
    Blk (w3of w2 p v2 lb n (.pointer (some ⟨c, 0, none⟩))) c 4 #[.bool x] ∧ Upd [p] w2 (w3of w2 p v2 lb n (.pointer (some ⟨c, 0, none⟩))) ∧
    (w3of w2 p v2 lb n (.pointer (some ⟨c, 0, none⟩))).heap.size = w2.heap.size + 1 := by
  have hu1 : Upd [p] w2 (w2.setCell ⟨p, 3, none⟩ (.pointer (some ⟨w2.heap.size, 0, none⟩))) := (Upd.refl _ _).setCell (by simp) _
  have hsz : (w2.setCell ⟨p, 3, none⟩ (.pointer (some ⟨w2.heap.size, 0, none⟩))).heap.size = w2.heap.size := by simp [World.setCell]
  have hpc : c ≠ p := fun e => hc.ne_ hb2.2.1 (by decide) e
  have hpl := hb2.2.1.lt
  have hbp := hb2.1
  refine ⟨?_, ⟨by omega, ?_, ?_⟩, ?_, ?_, ?_⟩
  · have h := (hb2.2.1.set_ 3 (.pointer (some ⟨w2.heap.size, 0, none⟩))).alloc (.cells (bcs v2 (.pointer none) lb n (.pointer (some ⟨c, 0, none⟩))) 139)
    exact h.drew
  · have h := Blk.new (w2.setCell ⟨p, 3, none⟩ (.pointer (some ⟨w2.heap.size, 0, none⟩))) 139 (bcs v2 (.pointer none) lb n (.pointer (some ⟨c, 0, none⟩)))
    rw [hsz] at h
    exact h.drew
  · refine Own.upd (hb2.2.2.upd hu1 ?_) (((Upd.refl [] _).alloc _).drew) (by simp)
    intro g hg hm
    simp at hm
    exact hb2.2.2.ne hb2.2.1 (by decide) g hg hm
  · exact ((hc.far (p := ⟨p, 3, none⟩) hpc _).alloc _).drew
  · exact (hu1.alloc _).drew
  · show ((w2.setCell ⟨p, 3, none⟩ (.pointer (some ⟨w2.heap.size, 0, none⟩))).alloc _).heap.size = _
    simp [World.setCell]

/-- the frames of addLengthPrefixed, put together -/
theorem lp_end {w2 w3 w4 w5 : World} {v4 : Value} {q : Nat} (hu2 : Upd (p :: v.ownBlock.toList) w w2) (hv2 : v2.ownBlock = v.ownBlock ∨ ∃ g, v2.ownBlock = some g ∧ w.heap.size ≤ g)
    (hu3 : Upd [p] w2 w3) (hu4 : Upd (q :: v2.ownBlock.toList) w3 w4) (hv4 : v4.ownBlock = v2.ownBlock ∨ ∃ g, v4.ownBlock = some g ∧ w3.heap.size ≤ g) (hq : w2.heap.size ≤ q)
    (hfl : FlP w4 base p q v4 off pl ic st (.returned (.tuple #[])) w5) : BSP w base p v off pl ic st (.returned (.tuple #[])) w5 := by
  have s2 := hu2.size
  have s3 := hu3.size
  have hin2 : ∀ k ∈ v2.ownBlock.toList, k ∈ p :: v.ownBlock.toList ∨ w.heap.size ≤ k := by
    intro k hk
    rcases hv2 with h | ⟨g, hg, hge⟩
    · rw [h] at hk; exact .inl (List.mem_cons_of_mem _ hk)
    · rw [hg] at hk; simp at hk; right; omega
  have hin4 : ∀ k ∈ v4.ownBlock.toList, k ∈ p :: v.ownBlock.toList ∨ w.heap.size ≤ k := by
    intro k hk
    rcases hv4 with h | ⟨g, hg, hge⟩
    · rw [h] at hk; exact hin2 k hk
    · rw [hg] at hk; simp at hk; right; omega
  refine ⟨rfl, v4, hfl.2.1, ?_, ?_⟩
  · refine ((hu2.trans hu3 (by simp)).trans hu4 ?_).trans hfl.2.2 ?_
    · intro k hk
      rcases List.mem_cons.1 hk with rfl | hk
      · right; omega
      · exact hin2 k hk
    · intro k hk
      rcases List.mem_cons.1 hk with rfl | hk
      · left; simp
      · rcases List.mem_cons.1 hk with rfl | hk
        · right; omega
        · exact hin4 k hk
  · rcases hv4 with h | ⟨g, hg, hge⟩
    · rw [h]
      exact hv2
    · exact .inr ⟨g, hg, by omega⟩

theorem zeros_byt (n : Nat) : (madeCells #[.int .u8 0] n) = ((List.replicate n (0 : UInt8)).map bv).toArray := by
  apply Array.ext'
  rw [toList_madeCells_one, List.map_replicate]
  rfl

set_option maxHeartbeats 8000000 in
theorem addLP_inner {fid : FuncId} {cap : Array Value} {need n : Nat} (hb : BS w base p v off pl ic st) (hi : Inner w ic) (hf : st ≠ none → Emits fid cap (p :: v.ownBlock.toList) w out need) (hen : Enters fid) (hn : 1 ≤ n) (hn3 : n ≤ 3)
    (hl : olen st + need + 4 ≤ 17592186044416) (hx : olen out ≤ 17592186044416) :
    Calls Tryz.prog 139 #[.pointer (some ⟨p, 0, none⟩), .int .i64 n, .bool false, .func (.func fid) #[] cap] w (BSP w base p v off pl ic (app st (lpOut n out))) := by
  have q1 := neq_err_nil
  have q2 := neq_err_some
  cases st with
  | none =>
    obtain ⟨t, x, c0, -⟩ := BErr.open_ hb
    go_enter Tryz.func139, Tryz.ntmps139
    go_wp2
    exact bodyPost_ret (results_none rfl _ _ _) rfl ⟨rfl, v, hb, Upd.refl _ _, .inl rfl⟩
  | some bs =>
    have hb : Bld w base p v off pl ic bs := hb
    have hf := hf (by simp)
    have hl : bs.length + need + 4 ≤ 17592186044416 := hl
    obtain ⟨c, rfl, hci⟩ := hi
    obtain ⟨A, cv, hve, c0, c1, c2, c3, c4, c5, c6, c7, fz, hlc, hcm⟩ := hb.open_
    have hbp := hb.1
    have hpl := hb.2.1.lt
    have hcl := hci.lt
    have hpc : p ≠ c := hb.2.1.ne_ hci (by decide)
    have hmk : (Instr.makeSlice 23 (.int .i64 (n : Int)) (.int .i64 (n : Int))).run Tryz.prog w =
        .ok (.slice (some ⟨w.heap.size, 0, none⟩) n n) (w.alloc (.cells ((List.replicate n (0 : UInt8)).map bv).toArray 5)) := by
      obtain ⟨i0, hi, hz0, hz1, hz2⟩ := info_parts info_u8
      have h := run_make (P := Tryz.prog) w 23 5 i0 (.int .u8 0) Tryz.underlying23 hi hz0 .i64 .i64 (n : Int) (n : Int) (by omega) (Int.le_refl _) (by rw [hz2]; omega) (by omega)
      rw [Int.toNat_natCast] at h
      rw [← zeros_byt n]
      simpa [hz1, Value.cells] using h
    have hadd := add_lit_any (st := some bs) hb (by show bs.length ≤ _; omega) (List.replicate n 0) (by simp; omega) 5
    have ez : ((List.replicate n (0 : UInt8)).map bv).toArray = Array.replicate n (bv 0) := by simp
    rw [List.length_replicate, ez] at hadd
    rw [ez] at hmk
    clear ez
    have HADD := hid hadd
    have HF := hid hf
    have HEN := hid hen
    have HL := hid hl
    have HX := hid hx
    have HVE := hid hve
    clear hadd hf hen hl hx hve
    go_enter Tryz.func139, Tryz.ntmps139
    go_wp2_with fail
    refine HADD.out.mono ?_
    rintro e w2 ⟨rfl, v2, hb2, hu2, hv2⟩
    have hb2 : Bld w2 base p v2 off pl (.pointer (some ⟨c, 0, none⟩)) (bs ++ List.replicate n 0) := hb2
    obtain ⟨A2, cv2, hve2, d0, d1, d2, d3, d4, d5, d6, d7, dz, hlc2, hcm2⟩ := hb2.open_
    have dz3 := dz 3
    have hlen2 : (bs ++ List.replicate n (0 : UInt8)).length = bs.length + n := by simp
    rw [hlen2] at d1 hve2 hlc2
    have hci2 : Blk w2 c 4 #[.bool true] := hci.upd hu2 (by
      intro hm
      rcases List.mem_cons.1 hm with h | h
      · exact hpc h.symm
      · exact hb.2.2.ne hci (by decide) _ (Option.mem_toList.1 h) rfl)
    have hpl2 := hb2.2.1.lt
    have HVE2 := hid hve2
    clear hve2 hlen2 dz hlc2 hcm2 hlc hcm fz
    go_wp2_with fail
    go_region
    go_wp2_with fail
    obtain ⟨hp3, hq3, hc3, hu3, hsz3⟩ := lp_mid (n := n) hb2 bs.length hci2
    obtain ⟨w3, hw3⟩ : ∃ w3, w3of w2 p v2 bs.length n (.pointer (some ⟨c, 0, none⟩)) = w3 := ⟨_, rfl⟩
    have hw3' : ((w2.setCell ⟨p, 3, none⟩ (.pointer (some ⟨w2.heap.size, 0, none⟩))).alloc (.cells #[.nilIface, .slice A2 (bs.length + n) cv2, .bool false, .pointer none, .int .i64 (bs.length : Int), .int .i64 (n : Int), .bool false, .pointer (some ⟨c, 0, none⟩)] 139)).drew = w3 := by
      rw [← hw3, HVE2.out]; rfl
    rw [hw3']
    rw [hw3] at hp3 hq3 hc3 hu3 hsz3
    have hw3l : w2.heap.size < w3.heap.size := by omega
    clear hw3 hw3' hsz3
    have hub : Upd [] w3 (w3.alloc (.cells #[.pointer (some ⟨p, 0, none⟩)] 136)) := (Upd.refl _ _).alloc _
    have hin : Upd (p :: v.ownBlock.toList) w (w3.alloc (.cells #[.pointer (some ⟨p, 0, none⟩)] 136)) := (hu2.trans hu3 (by simp)).trans hub (by simp)
    have hcall := HF.out _ hin base w2.heap.size v2 bs.length n (.pointer (some ⟨c, 0, none⟩)) (bs ++ List.replicate n 0) (BS.upd (st := some _) hq3 hub (by simp) (by simp)) ⟨c, rfl, hc3.upd hub (by simp)⟩
      hu2.size (fun g hg => by
        rcases hv2 with h | ⟨g', hg', hge⟩
        · rw [h] at hg; exact .inl (List.mem_cons_of_mem _ (Option.mem_toList.2 hg))
        · rw [hg'] at hg; injection hg with hg; right; omega) (by have := HL.out; simp; omega)
    refine (callCont_inner (c := c) (by rw [hp3.cell]; rfl) (by rw [hc3.cell]; rfl) hcall (fun _ _ h => h.1) HEN.out).mono ?_
    rintro e w4 ⟨rfl, v4, hq4, hu4, hv4⟩
    have hu4' : Upd (w2.heap.size :: v2.ownBlock.toList) w3 w4 := (hub.mono (by simp)).trans hu4 (fun x hx => .inl hx)
    have hv4' : v4.ownBlock = v2.ownBlock ∨ ∃ g, v4.ownBlock = some g ∧ w3.heap.size ≤ g := hv4.imp id fun ⟨g, h1, h2⟩ => ⟨g, h1, Nat.le_trans hub.size h2⟩
    have hp4 := hp3.upd hu4' (by
      intro hm
      rcases List.mem_cons.1 hm with h | h
      · omega
      · exact hb2.2.2.ne hb2.2.1 (by decide) _ (Option.mem_toList.1 h) rfl)
    go_wp2_with fail
    refine (flush_any hp4 hq4 (by omega) hbp hn hn3 (by have := HL.out; omega) HX.out).mono ?_
    intro e w5 hfl
    have he := hfl.1
    subst he
    have k3 := hfl.2.1.child
    go_wp2
    go_end0
    exact lp_end hu2 hv2 hu3 hu4' hv4' (Nat.le_refl _) hfl
end
end Go.Proofs.YtaajmfgplhfncaaGreat

/- Contract of cryptobyte's Builder: addLengthPrefixed at the top, where no continuation runs. -/
namespace Go.Proofs.YtaajmfgplhfncaaGreat
open Go.RowKit
set_option maxRecDepth 100000

/-- the flag of a Builder at the top: not yet made, or down -/
def TopIc (w : World) (base : Nat) (ic : Value) : Prop := ic = .pointer none ∨ ∃ c, ic = .pointer (some ⟨c, 0, none⟩) ∧ base ≤ c ∧ Blk w c 4 #[.bool false]
/-- the Builder at block p, made behind world w0: what it has come to; only blocks made since w0 have turned -/
def TopS (w0 w : World) (p : Nat) (st : Option (List UInt8)) : Prop :=
  ∃ v ic, BS w w0.heap.size p v 0 0 ic st ∧ TopIc w w0.heap.size ic ∧ Upd [] w0 w ∧ (∀ g, v.ownBlock = some g → w0.heap.size ≤ g ∧ g ≠ p ∧ ∀ c, ic = .pointer (some ⟨c, 0, none⟩) → g ≠ c)
/-- what a method leaves -/
def TopP (w0 : World) (p : Nat) (st : Option (List UInt8)) (e : Ending) (w' : World) : Prop := e = .returned (.tuple #[]) ∧ TopS w0 w' p st

section
variable {w w0 w' : World} {base p q off pl : Nat} {v v2 content ic ic2 : Value} {xs bs : List UInt8} {st out : Option (List UInt8)} {S : List Nat}

theorem TopIc.upd (h : TopIc w base ic) (hu : Upd S w w') (hs : ∀ c, ic = .pointer (some ⟨c, 0, none⟩) → c ∉ S) : TopIc w' base ic := by
  rcases h with h | ⟨c, rfl, h1, h2⟩
  · exact .inl h
  · exact .inr ⟨c, rfl, h1, h2.upd hu (hs c rfl)⟩
theorem BS.ge (h : BS w base p v off pl ic st) : base ≤ p := by
  cases st with
  | none => exact h.1
  | some bs => exact h.1
theorem BS.isBlk (h : BS w base p v off pl ic st) : ∃ cs, Blk w p 139 cs := by
  cases st with
  | none => obtain ⟨_, cs, t, x, h1, _⟩ := h; exact ⟨cs, h1⟩
  | some bs => exact ⟨_, h.2.1⟩
theorem TopS.nec (hb : BS w base p v off pl ic st) (hi : TopIc w base ic) : ∀ c, ic = .pointer (some ⟨c, 0, none⟩) → p ≠ c := by
  intro c hc
  rcases hi with h | ⟨c', h, _, hbl⟩
  · rw [h] at hc; cases hc
  · rw [h] at hc
    injection hc with hc
    injection hc with hc
    injection hc with hc
    subst hc
    obtain ⟨cs, h1⟩ := hb.isBlk
    exact h1.ne_ hbl (by decide)
/-- a plain method of a Builder at the top -/
theorem TopS.step (hi : TopIc w w0.heap.size ic) (hb : BS w w0.heap.size p v 0 0 ic st) (hu : Upd [] w0 w) (ho : ∀ g, v.ownBlock = some g → w0.heap.size ≤ g ∧ g ≠ p ∧ ∀ c, ic = .pointer (some ⟨c, 0, none⟩) → g ≠ c)
    {st' : Option (List UInt8)} {e : Ending} (h : BSP w w0.heap.size p v 0 0 ic st' e w') : TopP w0 p st' e w' := by
  obtain ⟨he, v', h1, h2, h3⟩ := h
  have hn := TopS.nec hb hi
  have hcl : ∀ c, ic = .pointer (some ⟨c, 0, none⟩) → c < w.heap.size := by
    intro c hc
    rcases hi with h | ⟨c', h, _, hbl⟩
    · rw [h] at hc; cases hc
    · rw [h] at hc
      injection hc with hc
      injection hc with hc
      injection hc with hc
      subst hc
      exact hbl.lt
  have hpl := hb.lt
  have hp := hb.ge
  refine ⟨he, v', ic, h1, hi.upd h2 ?_, hu.trans h2 ?_, ?_⟩
  · intro c hc hm
    rcases List.mem_cons.1 hm with h | hm
    · exact hn c hc h.symm
    · exact (ho c (Option.mem_toList.1 hm)).2.2 c hc rfl
  · intro x hx
    right
    rcases List.mem_cons.1 hx with h | hx
    · omega
    · exact (ho x (Option.mem_toList.1 hx)).1
  · intro g hg
    rcases h3 with h | ⟨g', hg', hge⟩
    · rw [h] at hg; exact ho g hg
    · rw [hg'] at hg
      injection hg with hg
      subst hg
      have := hu.size
      exact ⟨by omega, by omega, fun c hc => by have := hcl c hc; omega⟩

/-- a Builder that has just been made -/
theorem TopS.new (w0 : World) : TopS w0 (w0.alloc (.cells (bcs (.slice none 0 0) (.pointer none) 0 0 (.pointer none)) 139)) w0.heap.size (some []) :=
  ⟨.slice none 0 0, .pointer none, ⟨Nat.le_refl _, Blk.new _ _ _, Own.nil_ _ _ _⟩, .inl rfl, (Upd.refl _ _).alloc _, fun g hg => by simp [Value.ownBlock] at hg⟩

theorem AddUint8_top (h : TopS w0 w p st) (hl : olen st ≤ 17592186044416) (n : Nat) (hn : n < 256) :
    Calls Tryz.prog 87 #[.pointer (some ⟨p, 0, none⟩), .int .u8 (n : Int)] w (TopP w0 p (app st (some [UInt8.ofNat n]))) := by
  obtain ⟨v, ic, hb, hi, hu, ho⟩ := h
  exact (AddUint8_any hb hl n hn).mono fun _ _ hp => TopS.step hi hb hu ho hp
theorem AddUint16_top (h : TopS w0 w p st) (hl : olen st ≤ 17592186044416) (n : Nat) (hn : n < 65536) :
    Calls Tryz.prog 83 #[.pointer (some ⟨p, 0, none⟩), .int .u16 (n : Int)] w (TopP w0 p (app st (some (be 2 n)))) := by
  obtain ⟨v, ic, hb, hi, hu, ho⟩ := h
  exact (AddUint16_any hb hl n hn).mono fun _ _ hp => TopS.step hi hb hu ho hp

/-- the world in which a continuation at the top begins -/
theorem top_mid {w3 : World} {c n lb : Nat} {zs : List UInt8} (hp3 : Blk w3 p 139 (bcs v2 (.pointer (some ⟨q, 0, none⟩)) off pl (.pointer (some ⟨c, 0, none⟩)))) (hq3 : Bld w3 base q v2 lb n (.pointer (some ⟨c, 0, none⟩)) zs) (hc3 : Blk w3 c 4 #[.bool false]) :
    Blk (topWorld w3 p c) p 139 (bcs v2 (.pointer (some ⟨q, 0, none⟩)) off pl (.pointer (some ⟨c, 0, none⟩))) ∧ Bld (topWorld w3 p c) base q v2 lb n (.pointer (some ⟨c, 0, none⟩)) zs ∧ Blk (topWorld w3 p c) c 4 #[.bool true] ∧
    Blk (topWorld w3 p c) w3.heap.size 136 #[.pointer (some ⟨p, 0, none⟩)] ∧ Upd [c] w3 (topWorld w3 p c) ∧ (topWorld w3 p c).heap.size = w3.heap.size + 1 := by
  have hu1 : Upd [c] w3 (w3.setCell ⟨c, 0, none⟩ (.bool true)) := (Upd.refl _ _).setCell (by simp) _
  have hsz : (w3.setCell ⟨c, 0, none⟩ (.bool true)).heap.size = w3.heap.size := by simp [World.setCell]
  have hpc : p ≠ c := hp3.ne_ hc3 (by decide)
  have hqc : q ≠ c := hq3.2.1.ne_ hc3 (by decide)
  refine ⟨(hp3.far (p := ⟨c, 0, none⟩) hpc _).alloc _, ?_, ?_, ?_, hu1.alloc _, ?_⟩
  · refine BS.upd (S := []) (st := some zs) ?_ ((Upd.refl _ _).alloc _) (by simp) (by simp)
    refine BS.upd (st := some zs) hq3 hu1 (by simpa using hqc) ?_
    intro g hg hm
    simp at hm
    exact hq3.2.2.ne hc3 (by decide) g hg hm
  · exact (hc3.set_ 0 (.bool true)).alloc _
  · have h := Blk.new (w3.setCell ⟨c, 0, none⟩ (.bool true)) 136 #[.pointer (some ⟨p, 0, none⟩)]
    rw [hsz] at h
    exact h
  · show ((w3.setCell ⟨c, 0, none⟩ (.bool true)).alloc _).heap.size = _
    simp [World.setCell]

/-- what has been come to behind the continuation -/
def TopR (T : World) (base q : Nat) (v2 : Value) (lb n c : Nat) (st : Option (List UInt8)) (w' : World) : Prop :=
  ∃ v4, BS w' base q v4 lb n (.pointer (some ⟨c, 0, none⟩)) st ∧ Upd (q :: v2.ownBlock.toList) T w' ∧ (v4.ownBlock = v2.ownBlock ∨ ∃ g, v4.ownBlock = some g ∧ T.heap.size ≤ g)

theorem top_cells {T w3 : World} {c lb n : Nat} (_hT : T.heap.size = w3.heap.size + 1) (hp : Blk T p 139 (bcs v2 (.pointer (some ⟨q, 0, none⟩)) off pl (.pointer (some ⟨c, 0, none⟩)))) (hc : Blk T c 4 #[.bool true])
    (hbb : Blk T w3.heap.size 136 #[.pointer (some ⟨p, 0, none⟩)]) (hpq : p ≠ q) (hqc : q ≠ c) (hq3 : q < w3.heap.size) (hv2 : ∀ g, v2.ownBlock = some g → g < w3.heap.size ∧ g ≠ p ∧ g ≠ c) (h : TopR T base q v2 lb n c st w') :
    w'.cell? ⟨w3.heap.size, 0, none⟩ = some (.pointer (some ⟨p, 0, none⟩)) ∧ w'.cell? ⟨p, 7, none⟩ = some (.pointer (some ⟨c, 0, none⟩)) ∧ (∃ x, w'.cell? ⟨c, 0, none⟩ = some x) ∧ w'.frozen? ⟨c, 0, none⟩ = false := by
  obtain ⟨v4, h1, hu, h3⟩ := h
  have k1 := hbb.upd hu (by
    intro hm
    rcases List.mem_cons.1 hm with h | h
    · omega
    · have := (hv2 _ (Option.mem_toList.1 h)).1; omega)
  have k2 := hp.upd hu (by
    intro hm
    rcases List.mem_cons.1 hm with h | h
    · exact hpq h
    · exact (hv2 _ (Option.mem_toList.1 h)).2.1 rfl)
  have k3 := hc.upd hu (by
    intro hm
    rcases List.mem_cons.1 hm with h | h
    · exact hqc h.symm
    · exact (hv2 _ (Option.mem_toList.1 h)).2.2 rfl)
  exact ⟨by rw [k1.cell]; rfl, by rw [k2.cell]; rfl, ⟨_, by rw [k3.cell]; rfl⟩, k3.frozen 0⟩

/-- behind the deferred call: the parent, its child, the flag -/
theorem top_down {T w4 : World} {c lb n : Nat} (hu0 : Upd [] w0 T) (hp0 : w0.heap.size ≤ p) (hq0 : w0.heap.size ≤ q) (hc0 : w0.heap.size ≤ c)
    (hp : Blk T p 139 (bcs v2 (.pointer (some ⟨q, 0, none⟩)) off pl (.pointer (some ⟨c, 0, none⟩)))) (hc : Blk T c 4 #[.bool true])
    (hpq : p ≠ q) (hqc : q ≠ c) (hpc : p ≠ c) (hv2 : ∀ g, v2.ownBlock = some g → w0.heap.size ≤ g ∧ g ≠ p ∧ g ≠ c) (h : TopR T w0.heap.size q v2 lb n c st w4) :
    ∃ v4, Blk (w4.setCell ⟨c, 0, none⟩ (.bool false)) p 139 (bcs v2 (.pointer (some ⟨q, 0, none⟩)) off pl (.pointer (some ⟨c, 0, none⟩))) ∧ BS (w4.setCell ⟨c, 0, none⟩ (.bool false)) w0.heap.size q v4 lb n (.pointer (some ⟨c, 0, none⟩)) st ∧
      Blk (w4.setCell ⟨c, 0, none⟩ (.bool false)) c 4 #[.bool false] ∧ Upd [] w0 (w4.setCell ⟨c, 0, none⟩ (.bool false)) ∧ (∀ g, v4.ownBlock = some g → w0.heap.size ≤ g ∧ g ≠ p ∧ g ≠ c) ∧ (∀ k, k < T.heap.size → k ≠ q → v2.ownBlock ≠ some k → k ≠ c → v4.ownBlock ≠ some k ∧ (w4.setCell ⟨c, 0, none⟩ (.bool false)).heap[k]? = T.heap[k]?) := by
  obtain ⟨v4, h1, hu, h3⟩ := h
  have hpl := hp.lt
  have hcl := hc.lt
  have hs0 := hu0.size
  have k2 := hp.upd hu (by
    intro hm
    rcases List.mem_cons.1 hm with h | h
    · exact hpq h
    · exact (hv2 _ (Option.mem_toList.1 h)).2.1 rfl)
  have k3 := hc.upd hu (by
    intro hm
    rcases List.mem_cons.1 hm with h | h
    · exact hqc h.symm
    · exact (hv2 _ (Option.mem_toList.1 h)).2.2 rfl)
  have hv4 : ∀ g, v4.ownBlock = some g → w0.heap.size ≤ g ∧ g ≠ p ∧ g ≠ c := by
    intro g hg
    rcases h3 with h | ⟨g', hg', hge⟩
    · rw [h] at hg; exact hv2 g hg
    · rw [hg'] at hg
      injection hg with hg
      subst hg
      exact ⟨by omega, by omega, by omega⟩
  refine ⟨v4, k2.far (p := ⟨c, 0, none⟩) hpc _, h1.upd ((Upd.refl [c] _).setCell (by simp) _) (by simpa using hqc) ?_, k3.set_ 0 (.bool false), (hu0.trans hu ?_).setCell (.inr hc0) _, hv4, fun k k1 k2 k3 k4 => ⟨fun h => ?_, ?_⟩⟩
  · intro g hg hm
    simp at hm
    exact (hv4 g hg).2.2 hm
  · intro x hx
    right
    rcases List.mem_cons.1 hx with h | hx
    · omega
    · exact (hv2 x (Option.mem_toList.1 hx)).1
  · rcases h3 with h5 | ⟨g', hg', hge⟩
    · rw [h5] at h; exact k3 h
    · rw [hg'] at h; injection h with h; omega
  · refine (Below.heap_setCell w4 ⟨c, 0, none⟩ _ k (fun e => k4 e)).trans (hu.block k k1 (fun hm => ?_))
    rcases List.mem_cons.1 hm with h | h
    · exact k2 h
    · exact k3 (Option.mem_toList.1 h)

/-- blocks that a method at the top leaves as they are -/
def TopK (w : World) (p : Nat) (v ic : Value) (w' : World) : Prop := ∀ k, k < w.heap.size → k ≠ p → v.ownBlock ≠ some k → ic ≠ .pointer (some ⟨k, 0, none⟩) → w'.heap[k]? = w.heap[k]?
theorem top_fin {w4 w5 : World} {v4 : Value} {c : Nat} (hp0 : w0.heap.size ≤ p) (hq0 : w0.heap.size ≤ q) (hc0 : w0.heap.size ≤ c) (hpc : p ≠ c) (hqc : q ≠ c) (hc : Blk w4 c 4 #[.bool false]) (hu : Upd [] w0 w4)
    (hv4 : ∀ g, v4.ownBlock = some g → w0.heap.size ≤ g ∧ g ≠ p ∧ g ≠ c) (hfl : FlP w4 w0.heap.size p q v4 0 0 (.pointer (some ⟨c, 0, none⟩)) st (.returned (.tuple #[])) w5) : TopP w0 p st (.returned (.tuple #[])) w5 := by
  refine ⟨rfl, v4, .pointer (some ⟨c, 0, none⟩), hfl.2.1, .inr ⟨c, rfl, hc0, hc.upd hfl.2.2 ?_⟩, hu.trans hfl.2.2 ?_, ?_⟩
  · intro hm
    rcases List.mem_cons.1 hm with h | hm
    · exact hpc h.symm
    · rcases List.mem_cons.1 hm with h | hm
      · exact hqc h.symm
      · exact (hv4 c (Option.mem_toList.1 hm)).2.2 rfl
  · intro x hx
    right
    rcases List.mem_cons.1 hx with h | hx
    · omega
    · rcases List.mem_cons.1 hx with h | hx
      · omega
      · exact (hv4 x (Option.mem_toList.1 hx)).1
  · intro g hg
    refine ⟨(hv4 g hg).1, (hv4 g hg).2.1, fun c' hc' => ?_⟩
    injection hc' with hc'
    injection hc' with hc'
    injection hc' with hc'
    subst hc'
    exact (hv4 g hg).2.2

set_option maxHeartbeats 8000000 in
theorem addLP_top_ptr {fid : FuncId} {cap : Array Value} {need n : Nat} {c : Nat} (hb : Bld w w0.heap.size p v 0 0 (.pointer (some ⟨c, 0, none⟩)) bs) (hci : Blk w c 4 #[.bool false]) (hc0 : w0.heap.size ≤ c) (hu0 : Upd [] w0 w) (hf : Emits fid cap [] w0 out need) (hen : Enters fid) (hn : 1 ≤ n) (hn3 : n ≤ 3)
    (hl : bs.length + need + 4 ≤ 17592186044416) (hx : olen out ≤ 17592186044416) :
    Calls Tryz.prog 139 #[.pointer (some ⟨p, 0, none⟩), .int .i64 n, .bool false, .func (.func fid) #[] cap] w (fun e w' => TopP w0 p (app (some bs) (lpOut n out)) e w' ∧ TopK w p v (.pointer (some ⟨c, 0, none⟩)) w') := by
  have q1 := neq_err_nil
  have q2 := neq_err_some
  obtain ⟨A, cv, hve, c0, c1, c2, c3, c4, c5, c6, c7, fz, hlc, hcm⟩ := hb.open_
  have hbp := hb.1
  have hpc : p ≠ c := hb.2.1.ne_ hci (by decide)
  have hpl := hb.2.1.lt
  have hmk : (Instr.makeSlice 23 (.int .i64 (n : Int)) (.int .i64 (n : Int))).run Tryz.prog w =
      .ok (.slice (some ⟨w.heap.size, 0, none⟩) n n) (w.alloc (.cells ((List.replicate n (0 : UInt8)).map bv).toArray 5)) := by
    obtain ⟨i0, hi, hz0, hz1, hz2⟩ := info_parts info_u8
    have h := run_make (P := Tryz.prog) w 23 5 i0 (.int .u8 0) Tryz.underlying23 hi hz0 .i64 .i64 (n : Int) (n : Int) (by omega) (Int.le_refl _) (by rw [hz2]; omega) (by omega)
    rw [Int.toNat_natCast] at h
    rw [← zeros_byt n]
    simpa [hz1, Value.cells] using h
  have hadd := add_lit_any (st := some bs) hb (by show bs.length ≤ _; omega) (List.replicate n 0) (by simp; omega) 5
  have ez : ((List.replicate n (0 : UInt8)).map bv).toArray = Array.replicate n (bv 0) := by simp
  rw [List.length_replicate, ez] at hadd
  rw [ez] at hmk
  clear ez
  have HADD := hid hadd
  have HF := hid hf
  have HEN := hid hen
  have HL := hid hl
  have HX := hid hx
  have HVE := hid hve
  clear hadd hf hen hl hx hve
  go_enter Tryz.func139, Tryz.ntmps139
  go_wp2_with fail
  refine HADD.out.mono ?_
  rintro e w2 ⟨rfl, v2, hb2, hu2, hv2⟩
  have hb2 : Bld w2 w0.heap.size p v2 0 0 (.pointer (some ⟨c, 0, none⟩)) (bs ++ List.replicate n 0) := hb2
  obtain ⟨A2, cv2, hve2, d0, d1, d2, d3, d4, d5, d6, d7, dz, hlc2, hcm2⟩ := hb2.open_
  have dz3 := dz 3
  have hlen2 : (bs ++ List.replicate n (0 : UInt8)).length = bs.length + n := by simp
  rw [hlen2] at d1 hve2 hlc2
  have hpl2 := hb2.2.1.lt
  have HVE2 := hid hve2
  clear hlen2 hlc2 hcm2 hlc hcm fz
  have hci2 : Blk w2 c 4 #[.bool false] := hci.upd hu2 (by
    intro hm
    rcases List.mem_cons.1 hm with h | h
    · exact hpc h.symm
    · exact hb.2.2.ne hci (by decide) _ (Option.mem_toList.1 h) rfl)
  clear dz hve2
  have hu02 : Upd [] w0 w2 := hu0.trans hu2 (fun x hx => by
    rcases List.mem_cons.1 hx with h | hx
    · right; omega
    · right; exact (hb.2.2.ge (Option.mem_toList.1 hx)).1)
  go_wp2_with fail
  have hvg2 : ∀ g, v2.ownBlock = some g → w0.heap.size ≤ g ∧ g ≠ p ∧ g ≠ c := fun g hg => ⟨(hb2.2.2.ge hg).1, hb2.2.2.ne hb2.2.1 (by decide) g hg, hb2.2.2.ne hci2 (by decide) g hg⟩
  have hvl2 : ∀ g, v2.ownBlock = some g → g < w2.heap.size := fun g hg => (hb2.2.2.ge hg).2
  have Hvg2 := hid hvg2
  have Hvl2 := hid hvl2
  clear hvg2 hvl2
  go_region
  go_wp2_with fail
  obtain ⟨hp3, hq3, hc3, hu3, hsz3⟩ := lp_mid (n := n) hb2 bs.length hci2
  obtain ⟨w3, hw3⟩ : ∃ w3, w3of w2 p v2 bs.length n (.pointer (some ⟨c, 0, none⟩)) = w3 := ⟨_, rfl⟩
  have hw3' : ((w2.setCell ⟨p, 3, none⟩ (.pointer (some ⟨w2.heap.size, 0, none⟩))).alloc (.cells #[.nilIface, .slice A2 (bs.length + n) cv2, .bool false, .pointer none, .int .i64 (bs.length : Int), .int .i64 (n : Int), .bool false, .pointer (some ⟨c, 0, none⟩)] 139)).drew = w3 := by
    rw [← hw3, HVE2.out]; rfl
  rw [hw3']
  rw [hw3] at hp3 hq3 hc3 hu3 hsz3
  clear hw3 hw3'
  obtain ⟨hpT, hqT, hcT, hbT, huT, hszT⟩ := top_mid hp3 hq3 hc3
  obtain ⟨T, hT⟩ : ∃ T, topWorld w3 p c = T := ⟨_, rfl⟩
  rw [hT] at hpT hqT hcT hbT huT hszT
  have hu0T : Upd [] w0 T := (hu02.trans hu3 (by simp; omega)).trans huT (by simp; omega)
  have hcall := HF.out T hu0T w0.heap.size w2.heap.size v2 bs.length n (.pointer (some ⟨c, 0, none⟩)) (bs ++ List.replicate n 0) hqT ⟨c, rfl, hcT⟩ hu02.size (fun g hg => .inr (Hvg2.out g hg).1) (by have := HL.out; simp; omega)
  rw [← hT] at hcall
  have hpq : p ≠ w2.heap.size := by omega
  have hcl := hci2.lt
  have hqc : w2.heap.size ≠ c := by omega
  refine (callCont_top (c := c) (R := TopR (topWorld w3 p c) w0.heap.size w2.heap.size v2 bs.length n c (app (some (bs ++ List.replicate n 0)) out)) (by rw [hp3.cell]; rfl) (by rw [hc3.cell]; rfl) (hc3.frozen 0)
    (hcall.mono fun e w' h => ⟨h.1, h.2⟩) (fun w' h => by rw [hT] at h; exact top_cells hszT hpT hcT hbT hpq hqc (by omega) (fun g hg => ⟨by have := Hvl2.out g hg; omega, (Hvg2.out g hg).2⟩) h) HEN.out).mono ?_
  rintro e w4' ⟨rfl, w4, hR, rfl⟩
  rw [hT] at hR
  obtain ⟨v4, hp4, hq4, hc4, hu4, hv4, hk4⟩ := top_down hu0T hbp hu02.size hc0 hpT hcT hpq hqc hpc Hvg2.out hR
  have HK4 := hid hk4
  clear hk4
  go_wp2_with fail
  refine (flush_any hp4 hq4 hpq hbp hn hn3 (by have := HL.out; omega) HX.out).mono ?_
  intro e w5 hfl
  have he := hfl.1
  subst he
  have k3 := hfl.2.1.child
  go_wp2
  go_end0
  refine ⟨top_fin hbp hu02.size hc0 hpc hqc hc4 hu4 hv4 hfl, fun k k1 k2 k3 k4 => ?_⟩
  have hkc : k ≠ c := fun e => k4 (by rw [e])
  have hz2 := hu2.size
  have hz3 := hu3.size
  have hzT := huT.size
  have h2 : v2.ownBlock ≠ some k := by
    rcases hv2 with h | ⟨g', hg', hge⟩
    · rw [h]; exact k3
    · rw [hg']; intro h; injection h with h; omega
  obtain ⟨h4, h5⟩ := HK4.out k (by omega) (by omega) h2 hkc
  have e1 := hu2.block k k1 (fun hm => by
    rcases List.mem_cons.1 hm with h | h
    · exact k2 h
    · exact k3 (Option.mem_toList.1 h))
  have e2 := hu3.block k (by omega) (by simpa using k2)
  have e3 := huT.block k (by omega) (by simpa using hkc)
  have e5 := hfl.2.2.block k (by have := hc4.lt; simp [World.setCell]; have := hR; obtain ⟨_, _, hu, _⟩ := hR; have := hu.size; omega) (fun hm => by
    rcases List.mem_cons.1 hm with h | hm
    · exact k2 h
    · rcases List.mem_cons.1 hm with h | hm
      · omega
      · exact h4 (Option.mem_toList.1 hm))
  exact e5.trans (h5.trans (e3.trans (e2.trans e1)))

set_option maxHeartbeats 8000000 in
theorem addLP_top_nil {fid : FuncId} {cap : Array Value} {need n : Nat} (hb : Bld w w0.heap.size p v 0 0 (.pointer none) bs) (hu0 : Upd [] w0 w) (hf : Emits fid cap [] w0 out need) (hen : Enters fid) (hn : 1 ≤ n) (hn3 : n ≤ 3)
    (hl : bs.length + need + 4 ≤ 17592186044416) (hx : olen out ≤ 17592186044416) :
    Calls Tryz.prog 139 #[.pointer (some ⟨p, 0, none⟩), .int .i64 n, .bool false, .func (.func fid) #[] cap] w (fun e w' => TopP w0 p (app (some bs) (lpOut n out)) e w' ∧ TopK w p v (.pointer none) w') := by
  have q1 := neq_err_nil
  have q2 := neq_err_some
  obtain ⟨A, cv, hve, c0, c1, c2, c3, c4, c5, c6, c7, fz, hlc, hcm⟩ := hb.open_
  have hbp := hb.1
  have hpl := hb.2.1.lt
  have hmk : (Instr.makeSlice 23 (.int .i64 (n : Int)) (.int .i64 (n : Int))).run Tryz.prog w =
      .ok (.slice (some ⟨w.heap.size, 0, none⟩) n n) (w.alloc (.cells ((List.replicate n (0 : UInt8)).map bv).toArray 5)) := by
    obtain ⟨i0, hi, hz0, hz1, hz2⟩ := info_parts info_u8
    have h := run_make (P := Tryz.prog) w 23 5 i0 (.int .u8 0) Tryz.underlying23 hi hz0 .i64 .i64 (n : Int) (n : Int) (by omega) (Int.le_refl _) (by rw [hz2]; omega) (by omega)
    rw [Int.toNat_natCast] at h
    rw [← zeros_byt n]
    simpa [hz1, Value.cells] using h
  have hadd := add_lit_any (st := some bs) hb (by show bs.length ≤ _; omega) (List.replicate n 0) (by simp; omega) 5
  have ez : ((List.replicate n (0 : UInt8)).map bv).toArray = Array.replicate n (bv 0) := by simp
  rw [List.length_replicate, ez] at hadd
  rw [ez] at hmk
  clear ez
  have HADD := hid hadd
  have HF := hid hf
  have HEN := hid hen
  have HL := hid hl
  have HX := hid hx
  have HVE := hid hve
  clear hadd hf hen hl hx hve
  go_enter Tryz.func139, Tryz.ntmps139
  go_wp2_with fail
  refine HADD.out.mono ?_
  rintro e w2 ⟨rfl, v2, hb2, hu2, hv2⟩
  have hb2 : Bld w2 w0.heap.size p v2 0 0 (.pointer none) (bs ++ List.replicate n 0) := hb2
  obtain ⟨A2, cv2, hve2, d0, d1, d2, d3, d4, d5, d6, d7, dz, hlc2, hcm2⟩ := hb2.open_
  have dz3 := dz 3
  have hlen2 : (bs ++ List.replicate n (0 : UInt8)).length = bs.length + n := by simp
  rw [hlen2] at d1 hve2 hlc2
  have hpl2 := hb2.2.1.lt
  have HVE2 := hid hve2
  clear hlen2 hlc2 hcm2 hlc hcm fz
  have dz7 := dz 7
  clear dz hve2
  have hu20 : Upd [p] w2 ((w2.setCell ⟨p, 7, none⟩ (.pointer (some ⟨w2.heap.size, 0, none⟩))).alloc (.cells #[.bool false] 4)) := ((Upd.refl _ _).setCell (by simp) _).alloc _
  have hsz0 : (w2.setCell ⟨p, 7, none⟩ (.pointer (some ⟨w2.heap.size, 0, none⟩))).heap.size = w2.heap.size := by simp [World.setCell]
  have hci2 : Blk ((w2.setCell ⟨p, 7, none⟩ (.pointer (some ⟨w2.heap.size, 0, none⟩))).alloc (.cells #[.bool false] 4)) w2.heap.size 4 #[.bool false] := by
    have h := Blk.new (w2.setCell ⟨p, 7, none⟩ (.pointer (some ⟨w2.heap.size, 0, none⟩))) 4 #[.bool false]
    rw [hsz0] at h
    exact h
  have hb20 : Bld ((w2.setCell ⟨p, 7, none⟩ (.pointer (some ⟨w2.heap.size, 0, none⟩))).alloc (.cells #[.bool false] 4)) w0.heap.size p v2 0 0 (.pointer (some ⟨w2.heap.size, 0, none⟩)) (bs ++ List.replicate n 0) :=
    ⟨hbp, ((hb2.2.1.set_ 7 (.pointer (some ⟨w2.heap.size, 0, none⟩))).alloc _), hb2.2.2.upd hu20 (fun g hg hm => by
      simp at hm
      exact hb2.2.2.ne hb2.2.1 (by decide) g hg hm)⟩
  have hu02 : Upd [] w0 ((w2.setCell ⟨p, 7, none⟩ (.pointer (some ⟨w2.heap.size, 0, none⟩))).alloc (.cells #[.bool false] 4)) := (hu0.trans hu2 (fun x hx => by
    rcases List.mem_cons.1 hx with h | hx
    · right; omega
    · right; exact (hb.2.2.ge (Option.mem_toList.1 hx)).1)).trans hu20 (by simp; omega)
  have hs02 := hu0.size
  have hs22 := hu2.size
  have hc0 : w0.heap.size ≤ w2.heap.size := by omega
  go_wp2_with fail
  obtain ⟨c, hcc⟩ : ∃ c, w2.heap.size = c := ⟨_, rfl⟩
  obtain ⟨w2x, hw2x⟩ : ∃ w2x, (w2.setCell ⟨p, 7, none⟩ (.pointer (some ⟨w2.heap.size, 0, none⟩))).alloc (.cells #[.bool false] 4) = w2x := ⟨_, rfl⟩
  rw [hw2x] at hu20 hci2 hb20 hu02 ⊢
  clear hw2x d0 d1 d2 d3 d4 d5 d6 d7 dz3 dz7 hsz0 hb2 hpl2
  rw [hcc] at hci2 hb20 hc0 ⊢
  have hb2 := hb20
  obtain ⟨d0, d1, d2, d3, d4, d5, d6, d7⟩ := bcs_cells hb2.2.1
  rw [HVE2.out] at d1
  have dz3 := hb2.2.1.frozen 3
  have hpl2 := hb2.2.1.lt
  have hpc : p ≠ c := hb2.2.1.ne_ hci2 (by decide)
  have HCC := hid hcc
  clear hcc hb20
  have hvg2 : ∀ g, v2.ownBlock = some g → w0.heap.size ≤ g ∧ g ≠ p ∧ g ≠ c := fun g hg => ⟨(hb2.2.2.ge hg).1, hb2.2.2.ne hb2.2.1 (by decide) g hg, hb2.2.2.ne hci2 (by decide) g hg⟩
  have hvl2 : ∀ g, v2.ownBlock = some g → g < w2x.heap.size := fun g hg => (hb2.2.2.ge hg).2
  have Hvg2 := hid hvg2
  have Hvl2 := hid hvl2
  clear hvg2 hvl2
  go_region
  go_wp2_with fail
  obtain ⟨hp3, hq3, hc3, hu3, hsz3⟩ := lp_mid (n := n) hb2 bs.length hci2
  obtain ⟨w3, hw3⟩ : ∃ w3, w3of w2x p v2 bs.length n (.pointer (some ⟨c, 0, none⟩)) = w3 := ⟨_, rfl⟩
  have hw3' : ((w2x.setCell ⟨p, 3, none⟩ (.pointer (some ⟨w2x.heap.size, 0, none⟩))).alloc (.cells #[.nilIface, .slice A2 (bs.length + n) cv2, .bool false, .pointer none, .int .i64 (bs.length : Int), .int .i64 (n : Int), .bool false, .pointer (some ⟨c, 0, none⟩)] 139)).drew = w3 := by
    rw [← hw3, HVE2.out]; rfl
  rw [hw3']
  rw [hw3] at hp3 hq3 hc3 hu3 hsz3
  clear hw3 hw3'
  obtain ⟨hpT, hqT, hcT, hbT, huT, hszT⟩ := top_mid hp3 hq3 hc3
  obtain ⟨T, hT⟩ : ∃ T, topWorld w3 p c = T := ⟨_, rfl⟩
  rw [hT] at hpT hqT hcT hbT huT hszT
  have hu0T : Upd [] w0 T := (hu02.trans hu3 (by simp; omega)).trans huT (by simp; omega)
  have hcall := HF.out T hu0T w0.heap.size w2x.heap.size v2 bs.length n (.pointer (some ⟨c, 0, none⟩)) (bs ++ List.replicate n 0) hqT ⟨c, rfl, hcT⟩ hu02.size (fun g hg => .inr (Hvg2.out g hg).1) (by have := HL.out; simp; omega)
  rw [← hT] at hcall
  have hpq : p ≠ w2x.heap.size := by omega
  have hcl := hci2.lt
  have hqc : w2x.heap.size ≠ c := by omega
  refine (callCont_top (c := c) (R := TopR (topWorld w3 p c) w0.heap.size w2x.heap.size v2 bs.length n c (app (some (bs ++ List.replicate n 0)) out)) (by rw [hp3.cell]; rfl) (by rw [hc3.cell]; rfl) (hc3.frozen 0)
    (hcall.mono fun e w' h => ⟨h.1, h.2⟩) (fun w' h => by rw [hT] at h; exact top_cells hszT hpT hcT hbT hpq hqc (by omega) (fun g hg => ⟨by have := Hvl2.out g hg; omega, (Hvg2.out g hg).2⟩) h) HEN.out).mono ?_
  rintro e w4' ⟨rfl, w4, hR, rfl⟩
  rw [hT] at hR
  obtain ⟨v4, hp4, hq4, hc4, hu4, hv4, hk4⟩ := top_down hu0T hbp hu02.size hc0 hpT hcT hpq hqc hpc Hvg2.out hR
  have HK4 := hid hk4
  clear hk4
  go_wp2_with fail
  refine (flush_any hp4 hq4 hpq hbp hn hn3 (by have := HL.out; omega) HX.out).mono ?_
  intro e w5 hfl
  have he := hfl.1
  subst he
  have k3 := hfl.2.1.child
  go_wp2
  go_end0
  refine ⟨top_fin hbp hu02.size hc0 hpc hqc hc4 hu4 hv4 hfl, fun k k1 k2 k3 _ => ?_⟩
  have hz2 := hu2.size
  have hz20 := hu20.size
  have hz3 := hu3.size
  have hzT := huT.size
  have hzc := HCC.out
  have hkc : k ≠ c := by omega
  have h2 : v2.ownBlock ≠ some k := by
    rcases hv2 with h | ⟨g', hg', hge⟩
    · rw [h]; exact k3
    · rw [hg']; intro h; injection h with h; omega
  obtain ⟨h4, h5⟩ := HK4.out k (by omega) (by omega) h2 hkc
  have e1 := hu2.block k k1 (fun hm => by
    rcases List.mem_cons.1 hm with h | h
    · exact k2 h
    · exact k3 (Option.mem_toList.1 h))
  have e20 := hu20.block k (by omega) (by simpa using k2)
  have e2 := hu3.block k (by omega) (by simpa using k2)
  have e3 := huT.block k (by omega) (by simpa using hkc)
  have e5 := hfl.2.2.block k (by have := hc4.lt; simp [World.setCell]; obtain ⟨_, _, hu, _⟩ := hR; have := hu.size; omega) (fun hm => by
    rcases List.mem_cons.1 hm with h | hm
    · exact k2 h
    · rcases List.mem_cons.1 hm with h | hm
      · omega
      · exact h4 (Option.mem_toList.1 hm))
  exact e5.trans (h5.trans (e3.trans (e2.trans (e20.trans e1))))

/-- a vector written by a continuation, at the top -/
theorem addLP_top {fid : FuncId} {cap : Array Value} {need n : Nat} (h : TopS w0 w p st) (hf : Emits fid cap [] w0 out need) (hen : Enters fid) (hn : 1 ≤ n) (hn3 : n ≤ 3) (hl : olen st + need + 4 ≤ 17592186044416) (hx : olen out ≤ 17592186044416) :
    Calls Tryz.prog 139 #[.pointer (some ⟨p, 0, none⟩), .int .i64 n, .bool false, .func (.func fid) #[] cap] w (TopP w0 p (app st (lpOut n out))) := by
  obtain ⟨v, ic, hb, hi, hu, ho⟩ := h
  cases st with
  | none =>
    have q1 := neq_err_nil
    have q2 := neq_err_some
    obtain ⟨t, x, c0, -⟩ := BErr.open_ hb
    go_enter Tryz.func139, Tryz.ntmps139
    go_wp2
    exact bodyPost_ret (results_none rfl _ _ _) rfl ⟨rfl, v, ic, hb, hi, hu, ho⟩
  | some bs =>
    rcases hi with rfl | ⟨c, rfl, hc0, hci⟩
    · exact (addLP_top_nil hb hu hf hen hn hn3 hl hx).mono fun _ _ h => h.1
    · exact (addLP_top_ptr hb hci hc0 hu hf hen hn hn3 hl hx).mono fun _ _ h => h.1
/-- and another block, of a type of its own, stays -/
theorem addLP_topK {fid : FuncId} {cap : Array Value} {need n g : Nat} {T : TypeId} {c1 : Array Value} (h : TopS w0 w p st) (hg : Blk w g T c1) (hT : 5 ≠ T ∧ 139 ≠ T ∧ 4 ≠ T) (hf : Emits fid cap [] w0 out need) (hen : Enters fid) (hn : 1 ≤ n) (hn3 : n ≤ 3) (hl : olen st + need + 4 ≤ 17592186044416) (hx : olen out ≤ 17592186044416) :
    Calls Tryz.prog 139 #[.pointer (some ⟨p, 0, none⟩), .int .i64 n, .bool false, .func (.func fid) #[] cap] w (fun e w' => TopP w0 p (app st (lpOut n out)) e w' ∧ Blk w' g T c1) := by
  obtain ⟨v, ic, hb, hi, hu, ho⟩ := h
  have hpg : g ≠ p := by
    obtain ⟨cs, hpb⟩ := hb.isBlk
    exact fun e => hpb.ne_ hg hT.2.1 e.symm
  cases st with
  | none =>
    have q1 := neq_err_nil
    have q2 := neq_err_some
    obtain ⟨t, x, c0, -⟩ := BErr.open_ hb
    go_enter Tryz.func139, Tryz.ntmps139
    go_wp2
    exact bodyPost_ret (results_none rfl _ _ _) rfl ⟨⟨rfl, v, ic, hb, hi, hu, ho⟩, hg⟩
  | some bs =>
    have hvg : v.ownBlock ≠ some g := fun e => (Own.ne (hb : Bld w w0.heap.size p v 0 0 ic bs).2.2 hg hT.1 g e) rfl
    rcases hi with rfl | ⟨c, rfl, hc0, hci⟩
    · exact (addLP_top_nil hb hu hf hen hn hn3 hl hx).mono fun _ _ h => ⟨h.1, (h.2 g hg.lt hpg hvg (by simp)).trans hg⟩
    · refine (addLP_top_ptr hb hci hc0 hu hf hen hn hn3 hl hx).mono fun _ _ h => ⟨h.1, (h.2 g hg.lt hpg hvg ?_).trans hg⟩
      intro e
      injection e with e
      injection e with e
      injection e with e
      exact hci.ne_ hg hT.2.2 e
end
end Go.Proofs.YtaajmfgplhfncaaGreat

/- Contracts of cryptobyte's Builder: the length-prefixed methods, Bytes. -/
namespace Go.Proofs.YtaajmfgplhfncaaGreat
open Go.RowKit
set_option maxRecDepth 100000

section
variable {w w0 w' : World} {base p q off pl : Nat} {v v2 content ic ic2 : Value} {xs bs : List UInt8} {st out : Option (List UInt8)} {S : List Nat}

theorem AddLP8_inner {fid : FuncId} {cap : Array Value} {need : Nat} (hb : BS w base p v off pl ic st) (hi : Inner w ic) (hf : st ≠ none → Emits fid cap (p :: v.ownBlock.toList) w out need) (hen : Enters fid)
    (hl : olen st + need + 4 ≤ 17592186044416) (hx : olen out ≤ 17592186044416) :
    Calls Tryz.prog 91 #[.pointer (some ⟨p, 0, none⟩), .func (.func fid) #[] cap] w (BSP w base p v off pl ic (app st (lpOut 1 out))) := by
  have H := hid (addLP_inner hb hi hf hen (n := 1) (by omega) (by omega) hl hx)
  go_enter Tryz.func91, Tryz.ntmps91
  go_wp2_with fail
  refine H.out.mono ?_
  intro e w1 hp
  have he := hp.1
  subst he
  go_wp2
  go_end0
  exact hp
theorem AddLP8_top {fid : FuncId} {cap : Array Value} {need : Nat} (h : TopS w0 w p st) (hf : Emits fid cap [] w0 out need) (hen : Enters fid) (hl : olen st + need + 4 ≤ 17592186044416) (hx : olen out ≤ 17592186044416) :
    Calls Tryz.prog 91 #[.pointer (some ⟨p, 0, none⟩), .func (.func fid) #[] cap] w (TopP w0 p (app st (lpOut 1 out))) := by
  have H := hid (addLP_top h hf hen (n := 1) (by omega) (by omega) hl hx)
  go_enter Tryz.func91, Tryz.ntmps91
  go_wp2_with fail
  refine H.out.mono ?_
  intro e w1 hp
  have he := hp.1
  subst he
  go_wp2
  go_end0
  exact hp

theorem AddLP16_inner {fid : FuncId} {cap : Array Value} {need : Nat} (hb : BS w base p v off pl ic st) (hi : Inner w ic) (hf : st ≠ none → Emits fid cap (p :: v.ownBlock.toList) w out need) (hen : Enters fid)
    (hl : olen st + need + 4 ≤ 17592186044416) (hx : olen out ≤ 17592186044416) :
    Calls Tryz.prog 84 #[.pointer (some ⟨p, 0, none⟩), .func (.func fid) #[] cap] w (BSP w base p v off pl ic (app st (lpOut 2 out))) := by
  have H := hid (addLP_inner hb hi hf hen (n := 2) (by omega) (by omega) hl hx)
  go_enter Tryz.func84, Tryz.ntmps84
  go_wp2_with fail
  refine H.out.mono ?_
  intro e w1 hp
  have he := hp.1
  subst he
  go_wp2
  go_end0
  exact hp
theorem AddLP16_top {fid : FuncId} {cap : Array Value} {need : Nat} (h : TopS w0 w p st) (hf : Emits fid cap [] w0 out need) (hen : Enters fid) (hl : olen st + need + 4 ≤ 17592186044416) (hx : olen out ≤ 17592186044416) :
    Calls Tryz.prog 84 #[.pointer (some ⟨p, 0, none⟩), .func (.func fid) #[] cap] w (TopP w0 p (app st (lpOut 2 out))) := by
  have H := hid (addLP_top h hf hen (n := 2) (by omega) (by omega) hl hx)
  go_enter Tryz.func84, Tryz.ntmps84
  go_wp2_with fail
  refine H.out.mono ?_
  intro e w1 hp
  have he := hp.1
  subst he
  go_wp2
  go_end0
  exact hp

theorem AddLP24_inner {fid : FuncId} {cap : Array Value} {need : Nat} (hb : BS w base p v off pl ic st) (hi : Inner w ic) (hf : st ≠ none → Emits fid cap (p :: v.ownBlock.toList) w out need) (hen : Enters fid)
    (hl : olen st + need + 4 ≤ 17592186044416) (hx : olen out ≤ 17592186044416) :
    Calls Tryz.prog 127 #[.pointer (some ⟨p, 0, none⟩), .func (.func fid) #[] cap] w (BSP w base p v off pl ic (app st (lpOut 3 out))) := by
  have H := hid (addLP_inner hb hi hf hen (n := 3) (by omega) (by omega) hl hx)
  go_enter Tryz.func127, Tryz.ntmps127
  go_wp2_with fail
  refine H.out.mono ?_
  intro e w1 hp
  have he := hp.1
  subst he
  go_wp2
  go_end0
  exact hp
theorem AddLP24_top {fid : FuncId} {cap : Array Value} {need : Nat} (h : TopS w0 w p st) (hf : Emits fid cap [] w0 out need) (hen : Enters fid) (hl : olen st + need + 4 ≤ 17592186044416) (hx : olen out ≤ 17592186044416) :
    Calls Tryz.prog 127 #[.pointer (some ⟨p, 0, none⟩), .func (.func fid) #[] cap] w (TopP w0 p (app st (lpOut 3 out))) := by
  have H := hid (addLP_top h hf hen (n := 3) (by omega) (by omega) hl hx)
  go_enter Tryz.func127, Tryz.ntmps127
  go_wp2_with fail
  refine H.out.mono ?_
  intro e w1 hp
  have he := hp.1
  subst he
  go_wp2
  go_end0
  exact hp

/-- what Bytes hands back: the bytes, or an error -/
def BytesP (w0 : World) (st : Option (List UInt8)) (e : Ending) (w' : World) : Prop :=
  Upd [] w0 w' ∧ match st with
  | some bs => ∃ u, e = .returned (.tuple #[u, .nilIface]) ∧ Byt w' w'.heap.size u bs ∧ NewFrom w0.heap.size u ∧ isSlice u
  | none => ∃ t x, e = .returned (.tuple #[.slice none 0 0, .iface t x])

theorem Bytes_top (h : TopS w0 w p st) (hl : olen st ≤ 140737488355328) :
    Calls Tryz.prog 126 #[.pointer (some ⟨p, 0, none⟩)] w (BytesP w0 st) := by
  have q1 := neq_err_nil
  have q2 := neq_err_some
  obtain ⟨v, ic, hb, hi, hu, ho⟩ := h
  cases st with
  | none =>
    obtain ⟨t, x, c0, -⟩ := BErr.open_ hb
    go_enter Tryz.func126, Tryz.ntmps126
    go_wp2_with fail
    go_quiet (fail)
    go_wp2
    go_ret2
    exact ⟨hu.drewN _, t, x, rfl⟩
  | some bs =>
    have hb : Bld w w0.heap.size p v 0 0 ic bs := hb
    obtain ⟨A, c, hve, c0, c1, c2, c3, c4, c5, c6, c7, fz, hlc, hcm⟩ := hb.open_
    have hrow := hb.2.2.row
    rw [hve] at hrow
    have Hve := hid hve
    clear hve hl fz
    go_enter Tryz.func126, Tryz.ntmps126
    go_wp2_with fail
    go_quiet (fail)
    go_wp2
    go_ret2
    have hrow' : Byt w w.heap.size (.slice A bs.length c) bs := hrow
    refine ⟨hu.drewN _, .slice A bs.length c, rfl, Row.drewN hrow' _, fun k hk => ?_, ⟨_, _, _, rfl⟩⟩
    rw [← Hve.out] at hk
    exact (ho k hk).1
end
end Go.Proofs.YtaajmfgplhfncaaGreat

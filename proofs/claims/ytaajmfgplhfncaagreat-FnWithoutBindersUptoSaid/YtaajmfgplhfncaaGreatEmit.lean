/- Texts joined: KeyUpdate, Alive, KeyUpdateR, Emit, Emit2, Em, EmS, U32. -/
import Derived.Test.YtaajmfgplhfncaaGreatBuild
import Derived.Lib.ConvBytes
import Derived.Deep.DeepCutAuto
import Derived.StillTailTactics

/- The KeyUpdate message: made by the package, and by the reference. -/
namespace Go.Proofs.YtaajmfgplhfncaaGreat
open Go.RowKit
set_option maxRecDepth 100000

section
variable {w w0 w' : World} {base p q off pl : Nat} {v v2 content ic ic2 : Value} {xs bs : List UInt8} {st out : Option (List UInt8)} {S : List Nat}

theorem enters137 : Enters 137 := by intro args w; kernel_rfl

/-- the body of a KeyUpdate -/
def kuB (b : Bool) : List UInt8 := [if b then 1 else 0]
theorem emits_keyUpdate {m k : Nat} {b : Bool} (hm : Blk w m 135 #[.bool b]) (hk : Blk w k 133 #[.pointer (some ⟨m, 0, none⟩)]) (hmS : m ∉ S) (hkS : k ∉ S) :
    Emits 137 #[.pointer (some ⟨k, 0, none⟩)] S w (some (kuB b)) 1 := by
  intro w1 hu base q v off pl ic bs hb hi hq hv hl
  have hm1 := hm.upd hu hmS
  have hk1 := hk.upd hu hkS
  have c0 := hm1.cell 0
  have d0 := hk1.cell 0
  simp at c0 d0
  cases b
  · have H := hid (AddUint8_any (st := some bs) hb (by show bs.length ≤ _; omega) 0 (by omega))
    go_enter Tryz.func137, Tryz.ntmps137
    go_wp2_with fail
    refine H.out.mono ?_
    intro e w2 hp
    have he := hp.1
    subst he
    go_wp2
    go_end0
    exact hp
  · have H := hid (AddUint8_any (st := some bs) hb (by show bs.length ≤ _; omega) 1 (by omega))
    go_enter Tryz.func137, Tryz.ntmps137
    go_wp2_with fail
    refine H.out.mono ?_
    intro e w2 hp
    have he := hp.1
    subst he
    go_wp2
    go_end0
    exact hp

/-- a KeyUpdate as bytes -/
def kuBytes (b : Bool) : List UInt8 := [24, 0, 0, 1, if b then 1 else 0]
theorem kuBytes_eq (b : Bool) : app (app (some []) (some [UInt8.ofNat 24])) (lpOut 3 (some (kuB b))) = some (kuBytes b) := by
  cases b <;> rfl

theorem marshal_keyUpdate {m : Nat} {b : Bool} (hm : Blk w m 135 #[.bool b]) :
    Calls Tryz.prog 82 #[.pointer (some ⟨m, 0, none⟩)] w (BytesP w (some (kuBytes b))) := by
  obtain ⟨w0, hw0⟩ : ∃ w0, w.alloc (.cells #[.pointer (some ⟨m, 0, none⟩)] 133) = w0 := ⟨_, rfl⟩
  have hk0 : Blk w0 w.heap.size 133 #[.pointer (some ⟨m, 0, none⟩)] := by rw [← hw0]; exact Blk.new _ _ _
  have hm0 : Blk w0 m 135 #[.bool b] := by rw [← hw0]; exact hm.alloc _
  have hu0 : Upd [] w w0 := by rw [← hw0]; exact (Upd.refl _ _).alloc _
  have hs0 : w0.heap.size = w.heap.size + 1 := by rw [← hw0]; simp
  have hE := emits_keyUpdate (S := []) hm0 hk0 (by simp) (by simp)
  have hmf : ∀ (fn : Fn) (first cap : Array Value) (w : World), (Instr.makeFunc fn first cap).run Tryz.prog w = .ok (.func fn first cap) w := fun _ _ _ _ => rfl
  have h1 := AddUint8_top (TopS.new w0) (by show 0 ≤ _; omega) 24 (by omega)
  rw [hs0, ← hw0] at h1
  have H1 := hid h1
  have HW := hid hw0
  have Hs := hid hs0
  clear h1 hw0 hs0
  go_enter Tryz.func82, Tryz.ntmps82
  go_wp2_with fail
  refine H1.out.mono ?_
  intro e w2 hp
  rw [HW.out] at hp
  obtain ⟨he, h2⟩ := hp
  subst he
  have H2 := hid (AddLP24_top h2 hE enters137 (by show 1 + 1 + 4 ≤ _; omega) (by show 1 ≤ _; omega))
  go_wp2_with fail
  refine (H2.out).mono ?_
  intro e w3 hp
  obtain ⟨he, h3⟩ := hp
  subst he
  have H3 := hid (Bytes_top h3 (by rw [kuBytes_eq]; show 5 ≤ _; omega))
  go_wp2_with fail
  refine (H3.out).mono ?_
  intro e w4 hp
  rw [kuBytes_eq] at hp
  obtain ⟨hu, u, he, hb, hn, hsl⟩ := hp
  subst he
  go_wp2
  go_ret2
  exact ⟨hu0.trans hu (by simp), u, rfl, hb, fun k hk => Nat.le_trans hu0.size (hn k hk), hsl⟩
end
end Go.Proofs.YtaajmfgplhfncaaGreat

/- MarshalKeyUpdate and the law's 'alive'. -/
namespace Go.Proofs.YtaajmfgplhfncaaGreat
open Go.RowKit
set_option maxRecDepth 100000

section
variable {w w0 w' : World} {v v2 content : Value} {xs bs : List UInt8} {st : Option (List UInt8)} {S : List Nat} {e : Ending}

theorem eql_err_nil (w : World) : (binOp .eql 69 .nilIface .nilIface).run Tryz.prog w = .ok (.bool true) w := by kernel_rfl
theorem eql_err_some (w : World) (t : TypeId) (x : Value) : (binOp .eql 69 (.iface t x) .nilIface).run Tryz.prog w = .ok (.bool false) w := by kernel_rfl

/-- what impl's makers hand back: the bytes and true, or nothing and false -/
def MadeP (w0 : World) (st : Option (List UInt8)) (e : Ending) (w' : World) : Prop :=
  Upd [] w0 w' ∧ match st with
  | some bs => ∃ u, e = .returned (.tuple #[u, .bool true]) ∧ Byt w' w'.heap.size u bs ∧ NewFrom w0.heap.size u ∧ isSlice u
  | none => e = .returned (.tuple #[.slice none 0 0, .bool false])

theorem BytesP.pair (h : BytesP w0 st e w') : ∃ A n c x, e = .returned (.tuple #[.slice A n c, x]) := by
  obtain ⟨hu, h⟩ := h
  cases st with
  | some bs => obtain ⟨u, he, -, -, A, n, c, rfl⟩ := h; exact ⟨A, n, c, _, he⟩
  | none => obtain ⟨t, x, he⟩ := h; exact ⟨none, 0, 0, _, he⟩
theorem BytesP.up (h : BytesP w0 st e w') (hu : Upd [] w w0) : BytesP w st e w' := by
  obtain ⟨h1, h⟩ := h
  refine ⟨hu.trans h1 (by simp), ?_⟩
  cases st with
  | some bs => obtain ⟨u, he, hb, hn, hs⟩ := h; exact ⟨u, he, hb, fun k hk => Nat.le_trans hu.size (hn k hk), hs⟩
  | none => exact h
theorem BytesP.two (h : BytesP w0 st e w') : ∃ A n c, (e = .returned (.tuple #[.slice A n c, .nilIface]) ∧ ∀ n', MadeP w0 st (.returned (.tuple #[.slice A n c, .bool true])) (w'.drewN n')) ∨
    ∃ t x, e = .returned (.tuple #[.slice A n c, .iface t x]) ∧ ∀ n', MadeP w0 st (.returned (.tuple #[.slice A n c, .bool false])) (w'.drewN n') := by
  obtain ⟨h1, h⟩ := h
  cases st with
  | some bs =>
    obtain ⟨u, he, hb, hn, A, n, c, rfl⟩ := h
    exact ⟨A, n, c, .inl ⟨he, fun n' => ⟨h1.drewN _, _, rfl, Row.drewN hb _, hn, ⟨A, n, c, rfl⟩⟩⟩⟩
  | none =>
    obtain ⟨t, x, he⟩ := h
    exact ⟨none, 0, 0, .inr ⟨t, x, he, fun n => ⟨h1.drewN _, rfl⟩⟩⟩

theorem tls_MarshalKeyUpdate (b : Bool) : Calls Tryz.prog 64 #[.bool b] w (BytesP w (some (kuBytes b))) := by
  have hm0 := Blk.new w 135 #[.bool b]
  have H1 := hid (marshal_keyUpdate hm0)
  have hu0 : Upd [] w _ := (Upd.refl [] w).alloc (.cells #[.bool b] 135)
  go_enter Tryz.func64, Tryz.ntmps64
  go_wp2_with fail
  refine (H1.out).mono ?_
  intro e w1 hp
  obtain ⟨A, n, c, x, rfl⟩ := hp.pair
  go_wp2
  go_ret2
  exact hp.up hu0

theorem impl_MarshalKeyUpdate (b : Bool) : Calls Tryz.prog 55 #[.bool b] w (MadeP w (some (kuBytes b))) := by
  have H1 := hid (tls_MarshalKeyUpdate (w := w) b)
  go_enter Tryz.func55, Tryz.ntmps55
  go_wp2_with fail
  refine (H1.out).mono ?_
  intro e w1 hp
  have q1 := eql_err_nil
  have q2 := eql_err_some
  obtain ⟨A, n, c, ⟨rfl, hr⟩ | ⟨t, x, rfl, hr⟩⟩ := hp.two
  all_goals
    have HR := hid hr
    clear hr
    go_wp2_with fail
    go_quiet (fail)
    go_wp2
    go_ret2
    exact HR.out _

/-- a KeyUpdate by the reference -/
theorem kuBytes_spec (b : Bool) : (messageW 24 (numberW 1 (if b then 1 else 0))) = ⟨kuBytes b, false⟩ := by cases b <;> rfl

def UpdP (w : World) (bs : List UInt8) (e : Ending) (w' : World) : Prop := ∃ v, e = .returned v ∧ Byt w' w'.heap.size v bs ∧ Upd [] w w'
theorem WriteUpdate_any (b : Bool) : Calls Tryz.prog 56 #[.bool b] w (UpdP w (kuBytes b)) := by
  have key : ∀ b : Bool, ∀ n : Nat, n = (if b then 1 else 0) → ∀ {e : Ending} {w1 : World}, WValP w (numberW 1 n) e w1 → ∃ A m c, e = .returned (.agg #[.slice A m c, .bool false]) ∧ Byt w1 w1.heap.size (.slice A m c) (be 1 n) ∧ Upd [] w w1 := by
    rintro b n hn e w1 ⟨v, rfl, hb, -, ⟨A, m, c, rfl⟩, hu⟩
    exact ⟨A, m, c, rfl, hb, hu⟩
  cases b
  · have H1 := hid (number_any (w := w) 1 0 (by omega))
    go_enter Tryz.func56, Tryz.ntmps56
    go_wp2_with fail
    refine (H1.out).mono ?_
    intro e w1 hp
    obtain ⟨A, m, c, rfl, hb, hu⟩ := key false 0 rfl hp
    have H2 := hid (message_any 24 false hb (by simp [be_len]))
    go_wp2_with fail
    refine (H2.out).mono ?_
    intro e w2 hp
    obtain ⟨v, rfl, hb, -, ⟨A, m, c, rfl⟩, hu2⟩ := hp
    go_wp2
    go_ret
    exact ⟨_, rfl, hb, hu.trans hu2 (by simp)⟩
  · have H1 := hid (number_any (w := w) 1 1 (by omega))
    go_enter Tryz.func56, Tryz.ntmps56
    go_wp2_with fail
    refine (H1.out).mono ?_
    intro e w1 hp
    obtain ⟨A, m, c, rfl, hb, hu⟩ := key true 1 rfl hp
    have H2 := hid (message_any 24 false hb (by simp [be_len]))
    go_wp2_with fail
    refine (H2.out).mono ?_
    intro e w2 hp
    obtain ⟨v, rfl, hb, -, ⟨A, m, c, rfl⟩, hu2⟩ := hp
    go_wp2
    go_ret
    exact ⟨_, rfl, hb, hu.trans hu2 (by simp)⟩

/-- 'alive' answers true -/
def AliveP (w : World) (e : Ending) (w' : World) : Prop := e = .returned (.bool true) ∧ Upd [] w w'
theorem alive_any : Calls Tryz.prog 14 #[] w (AliveP w) := by
  have H1 := hid (impl_MarshalKeyUpdate (w := w) true)
  go_enter Tryz.func14, Tryz.ntmps14
  go_wp2_with fail
  refine (H1.out).mono ?_
  intro e w1 hp
  obtain ⟨hu, u, rfl, hb, -, A, n, c, rfl⟩ := hp
  have H2 := hid (WriteUpdate_any (w := w1) true)
  go_wp2_with fail
  refine (H2.out).mono ?_
  intro e w2 hp
  obtain ⟨v, rfl, hb2, hu2⟩ := hp
  have H3 := hid (Same_any (Row.upd hb hu2 (by simp)) hb2)
  go_wp2_with fail
  refine (H3.out).mono ?_
  rintro e w3 ⟨rfl, rfl⟩
  go_wp2
  go_ret
  exact ⟨by rfl, hu.trans hu2 (by simp)⟩
end
end Go.Proofs.YtaajmfgplhfncaaGreat

/- The KeyUpdate message: read by the package, and by the reference. -/
namespace Go.Proofs.YtaajmfgplhfncaaGreat
open Go.RowKit
set_option maxRecDepth 100000

section
variable {w w0 w' : World} {v v2 content : Value} {xs bs data : List UInt8} {st : Option (List UInt8)} {S : List Nat} {e : Ending} {m B : Nat}

/-- the world in which a String variable has been made of some bytes -/
def SvW (w : World) (v : Value) : World := w.alloc (.cells #[v] 116)
theorem SvW_eq (w : World) (v : Value) : w.alloc (.cells #[v] 116) = SvW w v := rfl
theorem SvW_size (w : World) (v : Value) : (SvW w v).heap.size = w.heap.size + 1 := by simp [SvW]
theorem SvW_upd (w : World) (v : Value) : Upd [] w (SvW w v) := (Upd.refl _ _).alloc _
theorem SvW_sv (h : Byt w B v bs) : Sv (SvW w v) w.heap.size w.heap.size bs False :=
  ⟨Nat.le_refl _, v, Blk.new _ _ _, (Row.shrink h).alloc _, fun x => x.elim⟩

end
end Go.Proofs.YtaajmfgplhfncaaGreat

/- Helpers of the messages that the Builder makes, and of those that a String reads. -/
namespace Go.Proofs.YtaajmfgplhfncaaGreat
open Go.RowKit
set_option maxRecDepth 100000

section
variable {w w0 w' : World} {base p q off pl : Nat} {v v2 content ic ic2 : Value} {xs bs data : List UInt8} {st out : Option (List UInt8)} {S : List Nat} {m B : Nat} {e : Ending}

theorem src_of (hc : Byt w B content xs) (hq : B ≤ q) (hg : ∀ g, v.ownBlock = some g → B ≤ g) : Src w base q v content xs := by
  obtain ⟨A, c, e, h1, h2, h3, h4⟩ := hc
  by_cases hx : xs = []
  · subst hx
    exact ⟨0, ⟨A, c, e, h1, h2, h3, fun h => absurd rfl h⟩, .inl (Nat.zero_le _)⟩
  · refine ⟨B, ⟨A, c, e, h1, h2, h3, h4⟩, .inr ?_⟩
    obtain ⟨b, o, rfl, hb, -⟩ := h4 (by simpa using hx)
    intro k hk
    rw [e] at hk
    have hkb : k = b := by
      unfold Value.ownBlock at hk
      simp at hk
      exact hk.symm
    subst hkb
    refine ⟨by omega, fun h => ?_⟩
    have := hg k h
    omega
theorem olen_lp (n : Nat) (hn : n ≤ 4) (out : Option (List UInt8)) : olen (lpOut n out) ≤ olen out + 4 := by
  cases out with
  | none => simp [lpOut, olen]
  | some xs =>
    unfold lpOut
    by_cases h : xs.length < 256 ^ n
    · simp only [if_pos h, olen, List.length_append, be_len]
      omega
    · simp only [if_neg h, olen]
      omega

/-- what 'unmarshal' of a message with one field of bytes leaves -/
def UnmP (w : World) (m : Nat) (T : TypeId) (o : Option (List UInt8)) (e : Ending) (w' : World) : Prop :=
  e = .returned (.bool o.isSome) ∧ Upd [m] w w' ∧ ∃ u, isSlice u ∧ Blk w' m T #[u] ∧ ∀ x, o = some x → Byt w' w'.heap.size u x
/-- what impl's readers hand back: bytes, and whether they were read -/
def UnP (w : World) (o : Option (List UInt8)) (e : Ending) (w' : World) : Prop :=
  ∃ u, isSlice u ∧ e = .returned (.tuple #[u, .bool o.isSome]) ∧ Upd [] w w' ∧ ∀ x, o = some x → Byt w' w'.heap.size u x
theorem sv_start (h : Byt w B v data) (hB : B ≤ w.heap.size) : Sv (SvW w v) B w.heap.size data False :=
  ⟨hB, v, Blk.new _ _ _, h.alloc _, fun x => x.elim⟩
end
end Go.Proofs.YtaajmfgplhfncaaGreat

/- Helpers for continuations that call several methods. -/
namespace Go.Proofs.YtaajmfgplhfncaaGreat
open Go.RowKit
set_option maxRecDepth 100000

section
variable {w w0 w1 w2 w' : World} {base p q off pl n : Nat} {v v2 content ic ic2 : Value} {xs bs data : List UInt8} {st out : Option (List UInt8)} {S : List Nat} {m B : Nat} {e : Ending}

theorem Bld.icne (hb : Bld w base q v off pl ic bs) (hi : Inner w ic) : ∀ c, ic = .pointer (some ⟨c, 0, none⟩) → c ∉ q :: v.ownBlock.toList := by
  intro c hc hm
  obtain ⟨c', hc', hbl⟩ := hi
  rw [hc'] at hc
  injection hc with hc
  injection hc with hc
  injection hc with hc
  subst hc
  rcases List.mem_cons.1 hm with h | h
  · exact hb.2.1.ne_ hbl (by decide) h.symm
  · exact hb.2.2.ne hbl (by decide) c' (Option.mem_toList.1 h) rfl
theorem own_far (hv : ∀ g, v.ownBlock = some g → g ∈ S ∨ n ≤ g) (hq : n ≤ q) (hm : m < n) (hS : m ∉ S) : m ∉ q :: v.ownBlock.toList := by
  intro h
  rcases List.mem_cons.1 h with h | h
  · omega
  · rcases hv m (Option.mem_toList.1 h) with h | h
    · exact hS h
    · omega
theorem own_ge (hv : ∀ g, v.ownBlock = some g → g ∈ S ∨ n ≤ g) (hq : n ≤ q) (hB : ∀ x ∈ S, B ≤ x) (hBn : B ≤ n) : ∀ x ∈ q :: v.ownBlock.toList, B ≤ x := by
  intro x h
  rcases List.mem_cons.1 h with h | h
  · omega
  · rcases hv x (Option.mem_toList.1 h) with h | h
    · exact hB x h
    · omega
theorem own_next (hv : ∀ g, v.ownBlock = some g → g ∈ S ∨ n ≤ g) (h2 : v2.ownBlock = v.ownBlock ∨ ∃ g, v2.ownBlock = some g ∧ w1.heap.size ≤ g) (hn : n ≤ w1.heap.size) : ∀ g, v2.ownBlock = some g → g ∈ S ∨ n ≤ g := by
  intro g hg
  rcases h2 with h | ⟨g', hg', hge⟩
  · rw [h] at hg; exact hv g hg
  · rw [hg'] at hg
    injection hg with hg
    right
    omega
end
end Go.Proofs.YtaajmfgplhfncaaGreat

/- Continuations, step by step: what holds of the memory that they read is one word F, which changes of new blocks do not touch. -/
namespace Go.Proofs.YtaajmfgplhfncaaGreat
open Go.RowKit
set_option maxRecDepth 100000

/-- F speaks of blocks below B alone -/
def Stable (B : Nat) (F : World → Prop) : Prop := ∀ w w' : World, Below B w w' → F w → F w'
theorem Stable.and {B : Nat} {F G : World → Prop} (h : Stable B F) (k : Stable B G) : Stable B fun w => F w ∧ G w := fun w w' hb hf => ⟨h w w' hb hf.1, k w w' hb hf.2⟩
theorem Stable.more {B B' : Nat} {F : World → Prop} (h : Stable B F) (hB : B ≤ B') : Stable B' F := fun w w' hb hf => h w w' ⟨hb.os, hb.tape, hb.output, hb.size, fun k hk => hb.block k (by omega)⟩ hf

/-- the continuation fid, with what it has captured, writes out wherever F holds -/
def EmitsF (fid : FuncId) (cap : Array Value) (B : Nat) (F : World → Prop) (out : Option (List UInt8)) (need : Nat) : Prop :=
  olen out ≤ need ∧ Enters fid ∧ ∀ w S, F w → B ≤ w.heap.size → (∀ x ∈ S, B ≤ x) → Emits fid cap S w out need

/-- inside a continuation: what the child has come to -/
structure Em (w1 : World) (q : Nat) (v : Value) (base off pl : Nat) (ic : Value) (B : Nat) (F : World → Prop) (st : Option (List UInt8)) (R : Nat) (w2 : World) : Prop where
  main : ∃ v2, BS w2 base q v2 off pl ic st ∧ Upd (q :: v.ownBlock.toList) w1 w2 ∧ (v2.ownBlock = v.ownBlock ∨ ∃ g, v2.ownBlock = some g ∧ w1.heap.size ≤ g)
  inner : Inner w1 ic
  icne : ∀ c, ic = .pointer (some ⟨c, 0, none⟩) → c ∉ q :: v.ownBlock.toList
  stab : Stable B F
  F : F w2
  B1 : B ≤ w1.heap.size
  hq : B ≤ q
  hv : ∀ g, v.ownBlock = some g → B ≤ g
  room : olen st + R ≤ 17592186044416
/-- what a step leaves -/
def EmP (w1 : World) (q : Nat) (v : Value) (base off pl : Nat) (ic : Value) (B : Nat) (F : World → Prop) (st : Option (List UInt8)) (R : Nat) (e : Ending) (w2 : World) : Prop :=
  e = .returned (.tuple #[]) ∧ Em w1 q v base off pl ic B F st R w2

section
variable {w w0 w1 w2 w' : World} {base q off pl : Nat} {v content ic : Value} {xs bs : List UInt8} {st out : Option (List UInt8)} {S : List Nat} {B R R' need : Nat} {F : World → Prop} {e : Ending} {fid : FuncId} {cap : Array Value}

theorem below_of_upd {a b : World} (h : Upd S a b) (hB : B ≤ a.heap.size) (hs : ∀ x ∈ S, B ≤ x) : Below B a b := h.below hB hs
theorem Em.ge (h : Em w1 q v base off pl ic B F st R w2) : ∀ x ∈ q :: v.ownBlock.toList, B ≤ x := by
  intro x hx
  rcases List.mem_cons.1 hx with hx | hx
  · rw [hx]; exact h.hq
  · exact h.hv x (Option.mem_toList.1 hx)
theorem Em.below (h : Em w1 q v base off pl ic B F st R w2) : Below B w1 w2 := by
  obtain ⟨v2, _, hu, _⟩ := h.main
  exact hu.below h.B1 h.ge
theorem Em.size (h : Em w1 q v base off pl ic B F st R w2) : w1.heap.size ≤ w2.heap.size := h.below.size
/-- a method of the child -/
theorem Em.step (h : Em w1 q v base off pl ic B F st R w2) {v2 : Value} {st' : Option (List UInt8)} (hu : Upd (q :: v.ownBlock.toList) w1 w2) (hv2 : v2.ownBlock = v.ownBlock ∨ ∃ g, v2.ownBlock = some g ∧ w1.heap.size ≤ g)
    (hp : BSP w2 base q v2 off pl ic st' e w') (hr : olen st' + R' ≤ 17592186044416) : EmP w1 q v base off pl ic B F st' R' e w' := by
  have hp1 := BSP.after hu hv2 hp
  obtain ⟨he, v3, hb3, hu3, hv3⟩ := hp1
  refine ⟨he, ⟨v3, hb3, hu3, hv3⟩, h.inner, h.icne, h.stab, ?_, h.B1, h.hq, h.hv, hr⟩
  obtain ⟨_, v4, _, hu4, _⟩ := hp
  refine h.stab _ _ (hu4.below (Nat.le_trans h.B1 hu.size) ?_) h.F
  intro x hx
  rcases List.mem_cons.1 hx with hx | hx
  · rw [hx]; exact h.hq
  · rcases hv2 with h2 | ⟨g, h2, hg⟩
    · rw [h2] at hx; exact h.hv x (Option.mem_toList.1 hx)
    · rw [h2] at hx
      have : x = g := by simpa using hx
      have := h.B1
      omega
/-- the world turns elsewhere: new blocks, draws -/
theorem Em.new (h : Em w1 q v base off pl ic B F st R w2) (hu : Upd [] w2 w') : Em w1 q v base off pl ic B F st R w' := by
  obtain ⟨v2, hb, hu2, hv2⟩ := h.main
  exact ⟨⟨v2, hb.upd hu (by simp) (by simp), hu2.trans hu (by simp), hv2⟩, h.inner, h.icne, h.stab, h.stab _ _ (hu.below (Nat.le_trans h.B1 hu2.size) (by simp)) h.F, h.B1, h.hq, h.hv, h.room⟩
/-- another word of what is read -/
theorem Em.word {F' : World → Prop} {B' : Nat} (h : Em w1 q v base off pl ic B F st R w2) (hs : Stable B' F') (hF : F' w2) (hB : B' ≤ w1.heap.size) (hq : B' ≤ q) (hv : ∀ g, v.ownBlock = some g → B' ≤ g) : Em w1 q v base off pl ic B' F' st R w2 :=
  ⟨h.main, h.inner, h.icne, hs, hF, hB, hq, hv, h.room⟩
theorem Em.cast {st' : Option (List UInt8)} (h : Em w1 q v base off pl ic B F st R w2) (hs : st = st') : Em w1 q v base off pl ic B F st' R w2 := hs ▸ h
theorem Em.less (h : Em w1 q v base off pl ic B F st R w2) (hr : R' ≤ R) : Em w1 q v base off pl ic B F st R' w2 :=
  ⟨h.main, h.inner, h.icne, h.stab, h.F, h.B1, h.hq, h.hv, by have := h.room; omega⟩

theorem EmitsF.mk (hst : Stable B F) (ho : olen out ≤ need) (hen : Enters fid)
    (h : ∀ (w1 : World) (q : Nat) (v : Value) (base off pl : Nat) (ic : Value) (bs : List UInt8), Em w1 q v base off pl ic B F (some bs) need w1 →
      Calls Tryz.prog fid (#[.pointer (some ⟨q, 0, none⟩)] ++ cap) w1 (EmP w1 q v base off pl ic B F (app (some bs) out) 0)) : EmitsF fid cap B F out need := by
  refine ⟨ho, hen, fun w S hF hBw hS w1 hu base q v off pl ic bs hb hi hq hv hl => ?_⟩
  refine (h w1 q v base off pl ic bs ⟨⟨v, hb, Upd.refl _ _, .inl rfl⟩, hi, hb.icne hi, hst, hst _ _ (hu.below hBw hS) hF, Nat.le_trans hBw hu.size, Nat.le_trans hBw hq, fun g hg => ?_, hl⟩).mono ?_
  · rcases hv g hg with h1 | h1
    · exact hS g h1
    · omega
  · rintro e w2 ⟨he, hm⟩
    exact ⟨he, hm.main⟩
theorem EmitsF.more {B' : Nat} {F' : World → Prop} (h : EmitsF fid cap B F out need) (hB : B ≤ B') (hF : ∀ w, F' w → F w) : EmitsF fid cap B' F' out need :=
  ⟨h.1, h.2.1, fun w S hf hb hS => h.2.2 w S (hF w hf) (by omega) fun x hx => Nat.le_trans hB (hS x hx)⟩

theorem Em.u8 (h : Em w1 q v base off pl ic B F st R w2) (n : Nat) (hn : n < 256) (hR : R' + 1 ≤ R) :
    Calls Tryz.prog 87 #[.pointer (some ⟨q, 0, none⟩), .int .u8 (n : Int)] w2 (EmP w1 q v base off pl ic B F (app st (some [UInt8.ofNat n])) R') := by
  obtain ⟨v2, hb, hu, hv2⟩ := h.main
  have hr := h.room
  have ho := olen_app st (some [UInt8.ofNat n])
  have h1 : olen (some [UInt8.ofNat n]) = 1 := rfl
  exact (AddUint8_any hb (by omega) n hn).mono fun e w' hp => h.step hu hv2 hp (by omega)
theorem Em.u16 (h : Em w1 q v base off pl ic B F st R w2) (n : Nat) (hn : n < 65536) (hR : R' + 2 ≤ R) :
    Calls Tryz.prog 83 #[.pointer (some ⟨q, 0, none⟩), .int .u16 (n : Int)] w2 (EmP w1 q v base off pl ic B F (app st (some (be 2 n))) R') := by
  obtain ⟨v2, hb, hu, hv2⟩ := h.main
  have hr := h.room
  have ho := olen_app st (some (be 2 n))
  have h1 : olen (some (be 2 n)) = 2 := be_len 2 n
  exact (AddUint16_any hb (by omega) n hn).mono fun e w' hp => h.step hu hv2 hp (by omega)
theorem Em.bytes (h : Em w1 q v base off pl ic B F st R w2) (hc : Byt w2 B content xs) (hR : R' + xs.length ≤ R) :
    Calls Tryz.prog 89 #[.pointer (some ⟨q, 0, none⟩), content] w2 (EmP w1 q v base off pl ic B F (app st (some xs)) R') := by
  obtain ⟨v2, hb, hu, hv2⟩ := h.main
  have hr := h.room
  have ho := olen_app st (some xs)
  have h1 : olen (some xs) = xs.length := rfl
  refine (AddBytes_any hb (src_of hc h.hq ?_) (by omega) (by omega)).mono fun e w' hp => h.step hu hv2 hp (by omega)
  intro g hg
  rcases hv2 with h2 | ⟨g', h2, hg'⟩
  · rw [h2] at hg; exact h.hv g hg
  · rw [h2] at hg
    injection hg with hg
    have := h.B1
    omega
/-- of new memory -/
theorem Em.bytesNew (h : Em w1 q v base off pl ic B F st R w2) {C : Nat} (hc : Byt w2 C content xs) (hR : R' + xs.length ≤ R)
    (hne : ∀ v2 : Value, BS w2 base q v2 off pl ic st → ∀ k, content.ownBlock = some k → k ≠ q ∧ v2.ownBlock ≠ some k) :
    Calls Tryz.prog 89 #[.pointer (some ⟨q, 0, none⟩), content] w2 (EmP w1 q v base off pl ic B F (app st (some xs)) R') := by
  obtain ⟨v2, hb, hu, hv2⟩ := h.main
  have hr := h.room
  have ho := olen_app st (some xs)
  have h1 : olen (some xs) = xs.length := rfl
  exact (AddBytes_any hb ⟨C, hc, .inr (hne v2 hb)⟩ (by omega) (by omega)).mono fun e w' hp => h.step hu hv2 hp (by omega)
/-- a nested vector -/
theorem Em.emits (h : Em w1 q v base off pl ic B F st R w2) (hE : EmitsF fid cap B F out need) {v2 : Value} (hu : Upd (q :: v.ownBlock.toList) w1 w2) (hv2 : v2.ownBlock = v.ownBlock ∨ ∃ g, v2.ownBlock = some g ∧ w1.heap.size ≤ g) :
    Emits fid cap (q :: v2.ownBlock.toList) w2 out need := by
  refine hE.2.2 w2 _ h.F (Nat.le_trans h.B1 hu.size) fun x hx => ?_
  rcases List.mem_cons.1 hx with hx | hx
  · rw [hx]; exact h.hq
  · rcases hv2 with h2 | ⟨g, h2, hg⟩
    · rw [h2] at hx; exact h.hv x (Option.mem_toList.1 hx)
    · rw [h2] at hx
      have : x = g := by simpa using hx
      have := h.B1
      omega
theorem Em.inner2 (h : Em w1 q v base off pl ic B F st R w2) : Inner w2 ic := by
  obtain ⟨v2, hb, hu, hv2⟩ := h.main
  exact h.inner.upd hu h.icne
theorem Em.lp8 (h : Em w1 q v base off pl ic B F st R w2) (hE : EmitsF fid cap B F out need) (hR : R' + need + 4 ≤ R) :
    Calls Tryz.prog 91 #[.pointer (some ⟨q, 0, none⟩), .func (.func fid) #[] cap] w2 (EmP w1 q v base off pl ic B F (app st (lpOut 1 out)) R') := by
  obtain ⟨v2, hb, hu, hv2⟩ := h.main
  have hr := h.room
  have ho := olen_app st (lpOut 1 out)
  have h1 := olen_lp 1 (by omega) out
  have h2 := hE.1
  exact (AddLP8_inner hb h.inner2 (fun _ => h.emits hE hu hv2) hE.2.1 (by omega) (by omega)).mono fun e w' hp => h.step hu hv2 hp (by omega)
theorem Em.lp16 (h : Em w1 q v base off pl ic B F st R w2) (hE : EmitsF fid cap B F out need) (hR : R' + need + 4 ≤ R) :
    Calls Tryz.prog 84 #[.pointer (some ⟨q, 0, none⟩), .func (.func fid) #[] cap] w2 (EmP w1 q v base off pl ic B F (app st (lpOut 2 out)) R') := by
  obtain ⟨v2, hb, hu, hv2⟩ := h.main
  have hr := h.room
  have ho := olen_app st (lpOut 2 out)
  have h1 := olen_lp 2 (by omega) out
  have h2 := hE.1
  exact (AddLP16_inner hb h.inner2 (fun _ => h.emits hE hu hv2) hE.2.1 (by omega) (by omega)).mono fun e w' hp => h.step hu hv2 hp (by omega)
theorem Em.lp24 (h : Em w1 q v base off pl ic B F st R w2) (hE : EmitsF fid cap B F out need) (hR : R' + need + 4 ≤ R) :
    Calls Tryz.prog 127 #[.pointer (some ⟨q, 0, none⟩), .func (.func fid) #[] cap] w2 (EmP w1 q v base off pl ic B F (app st (lpOut 3 out)) R') := by
  obtain ⟨v2, hb, hu, hv2⟩ := h.main
  have hr := h.room
  have ho := olen_app st (lpOut 3 out)
  have h1 := olen_lp 3 (by omega) out
  have h2 := hE.1
  exact (AddLP24_inner hb h.inner2 (fun _ => h.emits hE hu hv2) hE.2.1 (by omega) (by omega)).mono fun e w' hp => h.step hu hv2 hp (by omega)
theorem AddLP24_topF {p : Nat} (h : TopS w0 w p st) (hE : EmitsF fid cap B F out need) (hF : F w0) (hB : B ≤ w0.heap.size) (hR : olen st + need + 4 ≤ 17592186044416) :
    Calls Tryz.prog 127 #[.pointer (some ⟨p, 0, none⟩), .func (.func fid) #[] cap] w (TopP w0 p (app st (lpOut 3 out))) :=
  AddLP24_top h (hE.2.2 w0 [] hF hB (by simp)) hE.2.1 hR (by have := hE.1; omega)
theorem AddLP16_topF {p : Nat} (h : TopS w0 w p st) (hE : EmitsF fid cap B F out need) (hF : F w0) (hB : B ≤ w0.heap.size) (hR : olen st + need + 4 ≤ 17592186044416) :
    Calls Tryz.prog 84 #[.pointer (some ⟨p, 0, none⟩), .func (.func fid) #[] cap] w (TopP w0 p (app st (lpOut 2 out))) :=
  AddLP16_top h (hE.2.2 w0 [] hF hB (by simp)) hE.2.1 hR (by have := hE.1; omega)
end
end Go.Proofs.YtaajmfgplhfncaaGreat

/- Continuations: strings as bytes; parts that are there or not. -/
namespace Go.Proofs.YtaajmfgplhfncaaGreat
open Go.RowKit
set_option maxRecDepth 100000

/-- a part that is there or not -/
def condOut (b : Bool) (o : Option (List UInt8)) : Option (List UInt8) := if b then o else some []
/-- an extension -/
def extOut (k : Nat) (o : Option (List UInt8)) : Option (List UInt8) := app (some (be 2 k)) (lpOut 2 o)
theorem condOut_true (o : Option (List UInt8)) : condOut true o = o := rfl
theorem condOut_false (o : Option (List UInt8)) : condOut false o = some [] := rfl
theorem bcase (b : Bool) : b = true ∨ b = false := by cases b <;> simp
theorem lpOut_empty : lpOut 2 (some []) = some (be 2 0) := rfl
theorem olen_cond (b : Bool) (o : Option (List UInt8)) : olen (condOut b o) ≤ olen o := by cases b <;> simp [condOut, olen]
theorem olen_ext (k : Nat) (o : Option (List UInt8)) : olen (extOut k o) ≤ olen o + 6 := by
  have h1 := olen_app (some (be 2 k)) (lpOut 2 o)
  have h2 := olen_lp 2 (by omega) o
  have h3 : olen (some (be 2 k)) = 2 := be_len 2 _
  unfold extOut
  omega

section
variable {w w0 w1 w2 w3 w' : World} {base q off pl : Nat} {v content ic : Value} {xs bs : List UInt8} {st out : Option (List UInt8)} {S : List Nat} {B R R' need : Nat} {F : World → Prop} {e : Ending} {fid : FuncId} {cap : Array Value}
theorem MadeP.up {w0 : World} {st : Option (List UInt8)} (h : MadeP w0 st e w') (hu : Upd [] w w0) : MadeP w st e w' := by
  obtain ⟨hu', hm⟩ := h
  refine ⟨hu.trans hu' (by simp), ?_⟩
  cases st with
  | none => exact hm
  | some bs =>
    obtain ⟨u, he, hy, hn, hs⟩ := hm
    exact ⟨u, he, hy, fun k hk => Nat.le_trans hu.size (hn k hk), hs⟩
theorem conv_string (w : World) (src dst : TypeId) (hs : Tryz.prog.underlying src = some .string) (hd : Tryz.prog.underlying dst = some (.slice 5)) (xs : List UInt8) (hx : xs.length ≤ 9223372036854775807) :
    ∃ wN A c, (convert src dst (.string ⟨xs.toArray⟩)).run Tryz.prog w = .ok (.slice A xs.length c) wN ∧ Byt wN wN.heap.size (.slice A xs.length c) xs ∧ Upd [] w wN ∧ ∀ k, (Value.slice A xs.length c).ownBlock = some k → w.heap.size ≤ k ∧ k < wN.heap.size := by
  have hsz : (⟨xs.toArray⟩ : ByteArray).size = xs.length := by simp [ByteArray.size]
  refine ⟨Lib.bytesWorld w 5 ⟨xs.toArray⟩, some ⟨w.heap.size, 0, none⟩, grownCap w xs.length 0 5, ?_, ?_, ?_, ?_⟩
  · have := Lib.run_convert_string_bytes (P := Tryz.prog) w src dst 5 ⟨xs.toArray⟩ hs hd Tryz.underlying5
    rwa [hsz] at this
  · refine ⟨some ⟨w.heap.size, 0, none⟩, grownCap w xs.length 0 5, by simp, by simpa using grownCap_ge w xs.length 0 5, grownCap_le_maxLen w xs.length 0 5 (by unfold maxLen; omega), (by intro h; cases h), fun _ => ⟨w.heap.size, 0, rfl, by rw [Lib.bytesWorld_size]; omega, fun j u hj => ?_⟩⟩
    rw [List.getElem?_map] at hj
    obtain ⟨x, hx, rfl⟩ := Option.map_eq_some_iff.1 hj
    obtain ⟨hjl, hx⟩ := List.getElem?_eq_some_iff.1 hx
    rw [Nat.zero_add, Lib.bytesWorld_cell _ _ _ _ (by rw [hsz]; exact hjl)]
    simp [List.getD, hjl, hx]
  · exact ⟨rfl, rfl, rfl, by rw [Lib.bytesWorld_size]; omega, fun k hk _ => Lib.bytesWorld_at_old w _ _ k hk⟩
  · intro k hk
    have : w.heap.size = k := by simpa [Value.ownBlock] using hk
    rw [Lib.bytesWorld_size]
    omega
theorem own_none (w : World) (base : Nat) (e : TypeId) (hb : base ≤ w.heap.size) : Own (w.alloc (.cells #[] e)) base e (.slice (some ⟨w.heap.size, 0, none⟩) 0 0) [] :=
  ⟨rfl, .inr ⟨w.heap.size, 0, #[], rfl, hb, heap_alloc_new w _, Nat.le_refl _, Nat.zero_le _, rfl, rfl⟩⟩
/-- '[]byte(s)' in a walk -/
theorem wpList_conv_string {ops : Array Oper} {rest : List Oper} {o : Oper} {a : Act} {Q : Exit → Act → World → Prop} (src dst : TypeId) (x : Operand) (ho : o.op = .convert src dst x) (hs : Tryz.prog.underlying src = some .string) (hd : Tryz.prog.underlying dst = some (.slice 5))
    (hx : a.eval x = .string ⟨xs.toArray⟩) (hw : Region.wanted o (yielded ops a.tmps) = true) (hl : xs.length ≤ 9223372036854775807)
    (hK : ∀ wN A c, Byt wN wN.heap.size (.slice A xs.length c) xs → Upd [] w wN → (∀ k, (Value.slice A xs.length c).ownBlock = some k → w.heap.size ≤ k ∧ k < wN.heap.size) → wpList Tryz.prog ops Q rest (a.put o.dst (.slice A xs.length c)) wN) : wpList Tryz.prog ops Q (o :: rest) a w := by
  obtain ⟨wN, A, c, hrun, h1, h2, h3⟩ := conv_string w src dst hs hd xs hl
  refine BigFrame.wpList_want hw fun K' hK' => ?_
  unfold Oper.wp execOp
  simp only [ho, hx, Sem.run_bind, Sem.run_pure, hrun, Result.andThen_ok]
  exact hK' _ _ (hK wN A c h1 h2 h3)
/-- bytes in memory newer than the child's -/
theorem Em.bytesOf (h : Em w1 q v base off pl ic B F st R w2) (hu : Upd [] w2 w3) (hc : Byt w3 w3.heap.size content xs) (hn : ∀ k, content.ownBlock = some k → w2.heap.size ≤ k) (hR : R' + xs.length ≤ R) :
    Calls Tryz.prog 89 #[.pointer (some ⟨q, 0, none⟩), content] w3 (EmP w1 q v base off pl ic B F (app st (some xs)) R') := by
  have h3 := h.new hu
  obtain ⟨v2, hb, hu2, hv2⟩ := h.main
  have hb3 : BS w3 base q v2 off pl ic st := hb.upd hu (by simp) (by simp)
  have hr := h.room
  have ho := olen_app st (some xs)
  have h1 : olen (some xs) = xs.length := rfl
  have hq : q < w2.heap.size := by obtain ⟨cs, hbl⟩ := hb.isBlk; exact hbl.lt
  cases st with
  | some bs =>
    refine (AddBytes_any hb3 ⟨_, hc, .inr fun k hk => ⟨?_, fun he => ?_⟩⟩ (by omega) (by omega)).mono fun e w' hp => h3.step (hu2.trans hu (by simp)) hv2 hp (by omega)
    · have := hn k hk; omega
    · have := hn k hk
      have := (Own.ge (hb : Bld w2 base q v2 off pl ic bs).2.2 he).2
      omega
  | none =>
    have hA := AddBytes_any (base := base) (p := q) (v := .slice none 0 0) (off := off) (pl := pl) (ic := ic) (st := none) hb3 ⟨_, hc, .inr fun k hk => ⟨by have := hn k hk; omega, by simp [Value.ownBlock]⟩⟩ (by simp [olen]) (by omega)
    refine hA.mono fun e w' hp => ?_
    obtain ⟨he, v', hb', hu', -⟩ := hp
    have hp : BSP w3 base q v2 off pl ic none e w' := ⟨he, v2, hb', hu'.mono (by simp [Value.ownBlock]), .inl rfl⟩
    exact h3.step (hu2.trans hu (by simp)) hv2 hp (by simp [app, olen] at *; omega)
end
end Go.Proofs.YtaajmfgplhfncaaGreat

/- Numbers of 32 bits: read from a String, added to a Builder. -/
namespace Go.Proofs.YtaajmfgplhfncaaGreat
open Go.RowKit
set_option maxRecDepth 100000

/-- a number of 32 bits as a value -/
abbrev uv (u : UInt32) : Value := .int .u32 (u.toNat : Int)
theorem or32 (a u : Nat) (k : Nat) (ha : a * 2 ^ k + 2 ^ k ≤ 4294967296) (hu : u < 2 ^ k) : bits .or .u32 ((a * 2 ^ k : Nat) : Int) (u : Int) = ((a * 2 ^ k + u : Nat) : Int) := by
  have h1 : a * 2 ^ k < 4294967296 := by have := Nat.two_pow_pos k; omega
  have h2 : u < 4294967296 := by omega
  have hn := Nat.or_lt_two_pow (n := 32) (x := a * 2 ^ k) (y := u) (by omega) (by omega)
  have e1 : (BitVec.ofInt 32 ((a * 2 ^ k : Nat) : Int)).toNat = a * 2 ^ k := by
    rw [BitVec.ofInt_natCast, BitVec.toNat_ofNat]
    exact Nat.mod_eq_of_lt (by omega)
  have e2 : (BitVec.ofInt 32 (u : Int)).toNat = u := by
    rw [BitVec.ofInt_natCast, BitVec.toNat_ofNat]
    exact Nat.mod_eq_of_lt (by omega)
  show IntKind.u32.wrap ((BitVec.ofInt 32 ((a * 2 ^ k : Nat) : Int) ||| BitVec.ofInt 32 (u : Int)).toNat : Int) = _
  rw [BitVec.toNat_or, e1, e2]
  have := Nat.shiftLeft_add_eq_or_of_lt (i := k) (b := u) hu a
  rw [Nat.shiftLeft_eq] at this
  rw [← this]
  simp only [IntKind.wrap, IntKind.signed, IntKind.bits]
  have h3 : a * 2 ^ k + u < 4294967296 := by omega
  have : ((a * 2 ^ k + u : Nat) : Int) % 2 ^ 32 = ((a * 2 ^ k + u : Nat) : Int) := by omega
  simpa using this
theorem be4_u32 (x y z t : UInt8) : bits .or .u32 (bits .or .u32 (bits .or .u32 ((x.toNat : Int) * 16777216) ((y.toNat : Int) * 65536)) ((z.toNat : Int) * 256)) (t.toNat : Int) = (((UInt32.ofNat (beNat [x, y, z, t])).toNat : Nat) : Int) := by
  have hx := x.toNat_lt
  have hy := y.toNat_lt
  have hz := z.toNat_lt
  have ht := t.toNat_lt
  have e1 : (x.toNat : Int) * 16777216 = ((x.toNat * 2 ^ 24 : Nat) : Int) := by omega
  have e2 : (y.toNat : Int) * 65536 = ((y.toNat * 65536 : Nat) : Int) := by omega
  have e3 : (z.toNat : Int) * 256 = ((z.toNat * 256 : Nat) : Int) := by omega
  rw [e1, e2, e3, or32 _ _ 24 (by omega) (by omega)]
  have e4 : ((x.toNat * 2 ^ 24 + y.toNat * 65536 : Nat) : Int) = (((x.toNat * 256 + y.toNat) * 2 ^ 16 : Nat) : Int) := by omega
  rw [e4, or32 _ _ 16 (by omega) (by omega)]
  have hA : ∀ A Z : Nat, A * 2 ^ 16 + Z * 256 = (A * 256 + Z) * 2 ^ 8 := by intro A Z; omega
  rw [hA, or32 _ _ 8 (by omega) (by omega)]
  have e6 : beNat [x, y, z, t] = ((x.toNat * 256 + y.toNat) * 256 + z.toNat) * 256 + t.toNat := by simp only [beNat, List.foldl_cons, List.foldl_nil]; omega
  have e7 : ((x.toNat * 256 + y.toNat) * 256 + z.toNat) * 256 + t.toNat < 4294967296 := by omega
  rw [e6, UInt32.toNat_ofNat_of_lt' (by simpa [UInt32.size] using e7)]

section
variable {w w' w1 w2 : World} {base q p off pl N b : Nat} {v content ic : Value} {xs bs : List UInt8} {st out : Option (List UInt8)} {S : List Nat} {B R R' : Nat} {F : World → Prop} {e : Ending} {nn : Prop}

set_option maxHeartbeats 2000000 in
theorem ReadUint32_ok {ob k : Nat} {T : TypeId} {cs : Array Value} {x y z t : UInt8} (h : Sv w N b (x :: y :: z :: t :: bs) nn) (ho : Blk w ob T cs) (hk : k < cs.size) (hne : ob ≠ b) (hN : N ≤ ob) :
    Calls Tryz.prog 79 #[.pointer (some ⟨b, 0, none⟩), .pointer (some ⟨ob, k, none⟩)] w (OkOut w N b bs ob T cs k (uv (UInt32.ofNat (beNat [x, y, z, t])))) := by
  have q : ∀ (w : World) (a : Option Addr) (n c n' c' : Nat), (binOp .eql 23 (.slice a n c) (.slice none n' c')).run Tryz.prog w = .ok (.bool a.isNone) w := fun w a n c n' c' => Lib.run_eql_slice_nil w _ _ a n c n' c' Tryz.underlying23
  go_enter Tryz.func79, Tryz.ntmps79
  go_wp2_with fail
  refine (read_ok h 4 (by simp) (.inl (by omega))).mono ?_
  rintro e w1 ⟨u, rfl, ⟨a, n, c, rfl⟩, hy, hu, hs⟩
  have hn1 := Byt.len hy
  simp at hn1
  subst hn1
  obtain ⟨b', o, e, hb', hj, hcell⟩ := Byt.at_ hy (k := 0) (by omega)
  obtain ⟨b1, o1, e1, _, _, hcell1⟩ := Byt.at_ hy (k := 1) (by omega)
  obtain ⟨b2, o2, e2, _, _, hcell2⟩ := Byt.at_ hy (k := 2) (by omega)
  obtain ⟨b3, o3, e3, _, _, hcell3⟩ := Byt.at_ hy (k := 3) (by omega)
  rw [e] at e1 e2 e3
  injection e with e
  subst e
  cases e1
  cases e2
  cases e3
  have ho1 := ho.upd hu (by simpa using hne)
  obtain ⟨zz, hz1⟩ : ∃ z, cs[k]? = some z := ⟨_, Array.getElem?_eq_getElem hk⟩
  have d0 := (ho1.cell k).trans hz1
  have d1 := ho1.frozen k
  simp at hcell hcell1 hcell2 hcell3
  have hx := x.toNat_lt
  have hy' := y.toNat_lt
  have hz' := z.toNat_lt
  have ht' := t.toNat_lt
  go_wp2
  go_still_tail 23, (by kernel_rfl)
  go_wp2
  go_ret
  rw [be4_u32 x y z t]
  exact okOut_store hu hs ‹Blk w ob T cs› hne hN ⟨1, rfl⟩
theorem ReadUint32_bad {ob k : Nat} (h : Sv w N b bs nn) (hl : bs.length < 4) :
    Calls Tryz.prog 79 #[.pointer (some ⟨b, 0, none⟩), .pointer (some ⟨ob, k, none⟩)] w (NoP w b) := by
  have q : ∀ (w : World) (a : Option Addr) (n c n' c' : Nat), (binOp .eql 23 (.slice a n c) (.slice none n' c')).run Tryz.prog w = .ok (.bool a.isNone) w := fun w a n c n' c' => Lib.run_eql_slice_nil w _ _ a n c n' c' Tryz.underlying23
  go_enter Tryz.func79, Tryz.ntmps79
  go_wp2_with fail
  refine (read_bad h 4 hl).mono ?_
  rintro e w1 ⟨rfl, rfl⟩
  go_wp2
  go_ret
  exact ⟨rfl, Upd.refl _ _⟩
theorem AddUint32_any (hb : BS w base p v off pl ic st) (hl : olen st ≤ 17592186044416) (n : Nat) (hn : n < 4294967296) :
    Calls Tryz.prog 123 #[.pointer (some ⟨p, 0, none⟩), .int .u32 (n : Int)] w (BSP w base p v off pl ic (app st (some (be 4 n)))) := by
  have h := add_lit_any hb hl (be 4 n) (by simp [be_len]) 5
  rw [be_len] at h
  have e3 : bv (UInt8.ofNat (n / 256 ^ 3)) = .int .u8 ((n : Int) / 16777216) := bv_of (by omega)
  have e2 : bv (UInt8.ofNat (n / 256 ^ 2)) = .int .u8 ((n : Int) / 65536 % 256) := bv_of (by omega)
  have e1 : bv (UInt8.ofNat (n / 256 ^ 1)) = .int .u8 ((n : Int) / 256 % 256) := bv_of (by omega)
  have e0 : bv (UInt8.ofNat (n / 256 ^ 0)) = .int .u8 ((n : Int) % 256) := bv_of (by omega)
  simp only [be, List.map_cons, List.map_nil, e3, e2, e1, e0] at h
  have H := hid h
  clear h e0 e1 e2 e3
  go_enter Tryz.func123, Tryz.ntmps123
  go_wp2_with fail
  refine H.out.mono ?_
  intro e1 w1 hp
  have he := hp.1
  subst he
  go_wp2
  go_end0
  exact hp
theorem Em.u32 (h : Em w1 q v base off pl ic B F st R w2) (n : Nat) (hn : n < 4294967296) (hR : R' + 4 ≤ R) :
    Calls Tryz.prog 123 #[.pointer (some ⟨q, 0, none⟩), .int .u32 (n : Int)] w2 (EmP w1 q v base off pl ic B F (app st (some (be 4 n))) R') := by
  obtain ⟨v2, hb, hu, hv2⟩ := h.main
  have hr := h.room
  have ho := olen_app st (some (be 4 n))
  have h1 : olen (some (be 4 n)) = 4 := be_len 4 n
  exact (AddUint32_any hb (by omega) n hn).mono fun e w' hp => h.step hu hv2 hp (by omega)
end
end Go.Proofs.YtaajmfgplhfncaaGreat

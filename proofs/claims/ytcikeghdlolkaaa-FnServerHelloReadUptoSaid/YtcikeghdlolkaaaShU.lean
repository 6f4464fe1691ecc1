/- ServerHello: read by the package (printed by gen_shu.py). -/
import Derived.Test.YtcikeghdlolkaaaUGen
import Derived.Test.YtcikeghdlolkaaaRdB
import Derived.Test.YtcikeghdlolkaaaShPlain
import Derived.Test.YtcikeghdlolkaaaGen
import Derived.Deep.LoopGhost
namespace Go.Proofs.Ytcikeghdlolkaaa
open Go.RowKit Go.Maps
set_option maxRecDepth 100000

theorem shareP_two (a b : UInt8) (t : List UInt8) : shareP (a :: b :: t) = (vecP (lp 2 t)).map fun x => (UInt16.ofNat (a.toNat * 256 + b.toNat), x) := rfl
/-- what the message's cells hold -/
def shF (v0 : Value) (M : Sh) (he : Bool) : List Fld := [.val v0, .val (wv M.vers), .byt M.random, .byt M.sid, .val (wv M.suite), .val (bv M.comp), .val (.bool M.ocsp), .val (.bool M.ticket), .val (.bool M.rns), .byt M.rn, .val (.bool M.ems), .val (strv M.alpn), .vec M.scts, .val (wv M.sv),
  .val (wv M.sg), .byt M.sd, .val (.bool M.sip), .val (wv M.si), .byt M.pts, .cpy he M.ech, .val (.bool M.ack), .byt M.cookie, .val (wv M.selg)]
/-- what 'unmarshal' leaves -/
def ShUP (w : World) (B m : Nat) (o : Option Sh) (e : Ending) (w' : World) : Prop :=
  e = .returned (.bool o.isSome) ∧ Upd [m] w w' ∧ ∀ x, o = some x → ∃ v0 he cs lo hi, w.heap.size ≤ lo ∧ m < lo ∧ MSt w' B lo hi m 121 cs (shF v0 x he)
/-- the loop over extensions -/
def ShRel (w : World) (B m sx mb : Nat) (v0 : Value) (x0 : List UInt8) (M0 : Sh) (gk : Nat) (wr : World) : Prop :=
  ∃ (d : List UInt8) (M : Sh) (ks : List UInt16) (n : Nat) (he : Bool) (cs : Array Value), gk = d.length ∧ n + d.length ≤ x0.length ∧ M.scts.length + d.length ≤ x0.length ∧ USt w B m sx mb wr.heap.size 121 cs (shF v0 M he) d n ks wr ∧
    blockE (once shStep) x0 (M0, []) = blockE (once shStep) d (M, ks)
section
variable {w w' : World} {B m : Nat} {v : Value} {data : List UInt8}
set_option maxHeartbeats 16000000 in
theorem unmarshal_Sh (hm : Blk w m 121 #[.slice none 0 0, .int .u16 0, .slice none 0 0, .slice none 0 0, .int .u16 0, .int .u8 0, .bool false, .bool false, .bool false, .slice none 0 0, .bool false, strv [], .slice none 0 0, .int .u16 0, .int .u16 0, .slice none 0 0, .bool false, .int .u16 0, .slice none 0 0, .slice none 0 0, .bool false, .slice none 0 0, .int .u16 0]) (hv : Byt w B v data) (hB : B ≤ m) :
    Calls Try.prog 72 #[.pointer (some ⟨m, 0, none⟩), v] w (ShUP w B m (shRead data)) := by
  obtain ⟨A, c, rfl, hv, hl, hc⟩ := Byt.form hv rfl
  have hml := hm.lt
  obtain ⟨s, hs⟩ : ∃ s, w.heap.size = s := ⟨_, rfl⟩
  have hms : m < s := by omega
  have hBs : B ≤ s := by omega
  have hno : ∀ w2 : World, Upd [m] w w2 → shRead data = none → ShUP w B m (shRead data) (.returned (.bool false)) w2 := by
    intro w2 hu hk
    rw [hk]
    exact ⟨rfl, hu, fun x h => (by cases h)⟩
  have HNO := hid hno
  have HS := hid hs
  have hwl : w.heap.size = s := hs
  have HWL := hid hwl
  have hmm := @run_makeMap Try.prog
  have HC0 := hid (show (Try.prog.info? 121).map (·.size) = some (#[.slice A data.length c, .int .u16 0, .slice none 0 0, .slice none 0 0, .int .u16 0, .int .u8 0, .bool false, .bool false, .bool false, .slice none 0 0, .bool false, strv [], .slice none 0 0, .int .u16 0, .int .u16 0, .slice none 0 0, .bool false, .int .u16 0, .slice none 0 0, .slice none 0 0, .bool false, .slice none 0 0, .int .u16 0] : Array Value).size by kernel_rfl)
  have HC1 := hid (show (#[.slice A data.length c, .int .u16 0, .slice none 0 0, .slice none 0 0, .int .u16 0, .int .u8 0, .bool false, .bool false, .bool false, .slice none 0 0, .bool false, strv [], .slice none 0 0, .int .u16 0, .int .u16 0, .slice none 0 0, .bool false, .int .u16 0, .slice none 0 0, .slice none 0 0, .bool false, .slice none 0 0, .int .u16 0] : Array Value).all (·.oneCell') = true by simp [Value.oneCell'])
  clear hno hs hwl
  go_enter Try.func72, Try.ntmps72
  go_wp2_with (refine wpList_store_any hm HC0.out HC1.out rfl rfl _ _ rfl rfl rfl ?_; intro wS hmS huS hsS)
  -- the String
  replace hsS : wS.heap.size = s := hsS.trans HWL.out
  obtain ⟨w0, hw0⟩ : ∃ w0, wS.alloc (.cells #[.slice A data.length c] 137) = w0 := ⟨_, rfl⟩
  have huS0 : Upd [] wS w0 := by rw [← hw0]; exact (Upd.refl _ _).alloc _
  have hx0 : Blk w0 s 137 #[.slice A data.length c] := by rw [← hw0, ← hsS]; exact Blk.new _ _ _
  have hm0 := hmS.upd huS0 (by simp)
  have hu0 : Upd [m] w w0 := huS.trans huS0 (by simp)
  have hs0 : Sv w0 B s data False := ⟨by omega, _, hx0, Row.upd hv hu0 (by simpa using hB), fun x => x.elim⟩
  rw [hw0, HWL.out]
  have hwl := HWL.out
  have up2 : ∀ (a b : World) (S' : List Nat), Upd [m] w a → Upd S' a b → (∀ x ∈ S', x = m ∨ s ≤ x) → Upd [m] w b := fun _ _ _ h k hh => h.trans k fun x hx => (hh x hx).imp (by simp) (by have := HS.out; omega)
  have UP := hid up2
  have hsz0 : s + 1 ≤ w0.heap.size := hx0.lt
  have hsle : w.heap.size ≤ s := by omega
  clear up2 hw0 huS0 huS hmS hsS hx0 hwl HC0 HC1
  by_cases h4 : data.length < 4
  · have Hk := hid (show shRead data = none by unfold shRead; rw [if_pos h4])
    have H := hid (Skip_bad hs0 4 h4)
    clear h4
    refine H.out.mono ?_
    rintro e w2 ⟨rfl, hu2⟩
    go_wp2
    go_ret
    exact HNO.out _ (UP.out _ _ _ hu0 hu2 (by simp)) Hk.out
  have Hk : Hid (shRead data = shBody (data.drop 4)) := hid (by unfold shRead; rw [if_neg h4])
  have H := hid (Skip_ok hs0 4 (by omega) (by omega))
  generalize data.drop 4 = d0 at H Hk
  clear h4 hs0
  refine H.out.mono ?_
  rintro e w1 ⟨rfl, hu1, hs1⟩
  have hU1 := UP.out _ _ _ hu0 hu1 (by simp)
  have hm1 := hm0.upd hu1 (by simp; omega)
  have hsz1 : s + 1 ≤ w1.heap.size := by have := hu1.size; omega
  clear hm0 hu0 hu1 H
  -- the version
  by_cases hl2 : d0.length < 2
  · have hx1 : Hid (shRead data = none) := hid (Hk.out.trans (by
      match d0, hl2 with
      | [], _ => rfl
      | [_], _ => rfl
      | _ :: _ :: _, h => simp at h; omega))
    have H := hid (ReadUint16_bad (ob := m) (k := 1) hs1 hl2)
    clear hl2
    go_wp2_with fail
    refine H.out.mono ?_
    rintro e w2 ⟨rfl, hu2⟩
    go_wp2
    go_ret
    exact HNO.out _ (UP.out _ _ _ hU1 hu2 (by simp)) hx1.out
  obtain ⟨x1, x2, d1, rfl⟩ : ∃ x y t, d0 = x :: y :: t := by
    match d0, hl2 with
    | [], h => simp at h
    | [_], h => simp at h
    | x :: y :: t, _ => exact ⟨x, y, t, rfl⟩
  clear hl2
  have H := hid (ReadUint16_ok (k := 1) hs1 hm1 (by simp) (by omega) (by omega))
  generalize hvers : UInt16.ofNat (x1.toNat * 256 + x2.toNat) = vers at H
  replace Hk : Hid (shRead data = if d1.length < 32 then none else shSid vers (d1.take 32) (lp 1 (d1.drop 32))) := hid (by rw [Hk.out, ← hvers]; rfl)
  clear hvers
  go_wp2_with fail
  refine H.out.mono ?_
  rintro e w2 ⟨rfl, hu2, hs2, hm2⟩
  have hm2 : Blk w2 m 121 #[.slice A data.length c, wv vers, .slice none 0 0, .slice none 0 0, .int .u16 0, .int .u8 0, .bool false, .bool false, .bool false, .slice none 0 0, .bool false, strv [], .slice none 0 0, .int .u16 0, .int .u16 0, .slice none 0 0, .bool false, .int .u16 0, .slice none 0 0, .slice none 0 0, .bool false, .slice none 0 0, .int .u16 0] := hm2
  have hU2 := UP.out _ _ _ hU1 hu2 (by simp)
  have hsz2 : s + 1 ≤ w2.heap.size := Nat.le_trans hsz1 hu2.size
  clear hs1 hm1 hU1 hu2 H hsz1
  -- the random
  by_cases h32 : d1.length < 32
  · have hx1 : Hid (shRead data = none) := hid (by rw [Hk.out, if_pos h32])
    have H := hid (ReadBytes_bad (ob := m) (k := 2) hs2 32 h32)
    clear h32
    go_wp2_with fail
    refine H.out.mono ?_
    rintro e w3 ⟨rfl, hu3⟩
    go_wp2
    go_ret
    exact HNO.out _ (UP.out _ _ _ hU2 hu3 (by simp)) hx1.out
  have H := hid (ReadBytes_ok hs2 32 (by omega) (.inl (by omega)) (k := 2) hm2 (by simp) (by omega) (by omega))
  replace Hk : Hid (shRead data = shSid vers (d1.take 32) (lp 1 (d1.drop 32))) := hid (by rw [Hk.out, if_neg h32])
  generalize d1.drop 32 = d2 at H Hk
  generalize d1.take 32 = random at H Hk
  clear h32
  go_wp2_with fail
  refine H.out.mono ?_
  rintro e w3 ⟨v2, rfl, hu3, hs3, hm3, hy2, -⟩
  have hm3 : Blk w3 m 121 #[.slice A data.length c, wv vers, v2, .slice none 0 0, .int .u16 0, .int .u8 0, .bool false, .bool false, .bool false, .slice none 0 0, .bool false, strv [], .slice none 0 0, .int .u16 0, .int .u16 0, .slice none 0 0, .bool false, .int .u16 0, .slice none 0 0, .slice none 0 0, .bool false, .slice none 0 0, .int .u16 0] := hm3
  have hU3 := UP.out _ _ _ hU2 hu3 (by simp)
  have hsz3 : s + 1 ≤ w3.heap.size := Nat.le_trans hsz2 hu3.size
  clear hs2 hm2 hU2 hu3 H hsz2
  -- the session
  have H := hid (tlsLP8_any hs3 (k := 3) hm3 (by simp) (by omega) (by omega))
  go_wp2_with fail
  refine H.out.mono ?_
  intro e w4 hp
  rcases hr : lp 1 d2 with _ | ⟨sid, d3⟩
  · obtain ⟨rfl, hu4⟩ := hp.no hr
    replace Hk : Hid (shRead data = none) := hid (by rw [Hk.out, hr]; rfl)
    clear hr
    go_wp2
    go_ret
    exact HNO.out _ (UP.out _ _ _ hU3 hu4 (by simp)) Hk.out
  obtain ⟨v3, rfl, hu4, hs4, hm4, hy3, -⟩ := hp.yes hr
  have hm4 : Blk w4 m 121 #[.slice A data.length c, wv vers, v2, v3, .int .u16 0, .int .u8 0, .bool false, .bool false, .bool false, .slice none 0 0, .bool false, strv [], .slice none 0 0, .int .u16 0, .int .u16 0, .slice none 0 0, .bool false, .int .u16 0, .slice none 0 0, .slice none 0 0, .bool false, .slice none 0 0, .int .u16 0] := hm4
  have hU4 := UP.out _ _ _ hU3 hu4 (by simp)
  have hsz4 : s + 1 ≤ w4.heap.size := Nat.le_trans hsz3 hu4.size
  have hy24 := Row.upd hy2 hu4 (by simp; omega)
  replace Hk : Hid (shRead data = shTail vers random sid d3) := hid (by rw [Hk.out, hr]; rfl)
  clear hs3 hm3 hU3 hu4 H hsz3 hr hp hy2
  -- the cipher suite
  by_cases hl2 : d3.length < 2
  · have hx1 : Hid (shRead data = none) := hid (Hk.out.trans (by
      match d3, hl2 with
      | [], _ => rfl
      | [_], _ => rfl
      | _ :: _ :: _, h => simp at h; omega))
    have H := hid (ReadUint16_bad (ob := m) (k := 4) hs4 hl2)
    clear hl2
    go_wp2_with fail
    refine H.out.mono ?_
    rintro e w5 ⟨rfl, hu5⟩
    go_wp2
    go_ret
    exact HNO.out _ (UP.out _ _ _ hU4 hu5 (by simp)) hx1.out
  obtain ⟨y1, y2, d4, rfl⟩ : ∃ x y t, d3 = x :: y :: t := by
    match d3, hl2 with
    | [], h => simp at h
    | [_], h => simp at h
    | x :: y :: t, _ => exact ⟨x, y, t, rfl⟩
  clear hl2
  have H := hid (ReadUint16_ok (k := 4) hs4 hm4 (by simp) (by omega) (by omega))
  go_wp2_with fail
  refine H.out.mono ?_
  rintro e w5 ⟨rfl, hu5, hs5, hm5⟩
  have hm5 : Blk w5 m 121 #[.slice A data.length c, wv vers, v2, v3, wv (UInt16.ofNat (y1.toNat * 256 + y2.toNat)), .int .u8 0, .bool false, .bool false, .bool false, .slice none 0 0, .bool false, strv [], .slice none 0 0, .int .u16 0, .int .u16 0, .slice none 0 0, .bool false, .int .u16 0, .slice none 0 0, .slice none 0 0, .bool false, .slice none 0 0, .int .u16 0] := hm5
  have hU5 := UP.out _ _ _ hU4 hu5 (by simp)
  have hsz5 : s + 1 ≤ w5.heap.size := Nat.le_trans hsz4 hu5.size
  have hy25 := Row.upd hy24 hu5 (by simp; omega)
  have hy35 := Row.upd hy3 hu5 (by simp; omega)
  clear hs4 hm4 hU4 hu5 H hsz4 hy24 hy3
  -- the compression method
  rcases d4 with _ | ⟨comp, d5⟩
  · have hx1 : Hid (shRead data = none) := hid (Hk.out.trans rfl)
    have H := hid (ReadUint8_bad (ob := m) (k := 5) hs5)
    go_wp2_with fail
    refine H.out.mono ?_
    rintro e w6 ⟨rfl, hu6⟩
    go_wp2
    go_ret
    exact HNO.out _ (UP.out _ _ _ hU5 hu6 (by simp)) hx1.out
  have H := hid (ReadUint8_ok (k := 5) hs5 hm5 (by simp) (by omega) (by omega))
  generalize hsu : UInt16.ofNat (y1.toNat * 256 + y2.toNat) = suite at H
  replace Hk : Hid (shRead data = if d5 = [] then some (shHead vers random sid suite comp) else lastO shStep (shHead vers random sid suite comp) d5) := hid (by rw [Hk.out, ← hsu]; rfl)
  clear hsu
  go_wp2_with fail
  refine H.out.mono ?_
  rintro e w6 ⟨rfl, hu6, hs6, hm6⟩
  have hm6 : Blk w6 m 121 #[.slice A data.length c, wv vers, v2, v3, wv suite, bv comp, .bool false, .bool false, .bool false, .slice none 0 0, .bool false, strv [], .slice none 0 0, .int .u16 0, .int .u16 0, .slice none 0 0, .bool false, .int .u16 0, .slice none 0 0, .slice none 0 0, .bool false, .slice none 0 0, .int .u16 0] := hm6
  have hU6 := UP.out _ _ _ hU5 hu6 (by simp)
  have hsz6 : s + 1 ≤ w6.heap.size := Nat.le_trans hsz5 hu6.size
  have hy26 := Row.upd hy25 hu6 (by simp; omega)
  have hy36 := Row.upd hy35 hu6 (by simp; omega)
  clear hs5 hm5 hU5 hu6 H hsz5 hy25 hy35
  have hst : ∀ (w7 : World) (S : List Nat) (lo hi : Nat), Upd S w6 w7 → (∀ k ∈ S, s ≤ k) → MSt w7 B lo hi m 121 #[.slice A data.length c, wv vers, v2, v3, wv suite, bv comp, .bool false, .bool false, .bool false, .slice none 0 0, .bool false, strv [], .slice none 0 0, .int .u16 0, .int .u16 0, .slice none 0 0, .bool false, .int .u16 0, .slice none 0 0, .slice none 0 0, .bool false, .slice none 0 0, .int .u16 0] (shF (.slice A data.length c) (shHead vers random sid suite comp) false) := by
    intro w7 S lo hi hu hS
    refine MSt.start (vs := [.slice A data.length c, wv vers, v2, v3, wv suite, bv comp, .bool false, .bool false, .bool false, .slice none 0 0, .bool false, strv [], .slice none 0 0, .int .u16 0, .int .u16 0, .slice none 0 0, .bool false, .int .u16 0, .slice none 0 0, .slice none 0 0, .bool false, .slice none 0 0, .int .u16 0]) (hm6.upd hu (fun hk => by have := hS m hk; omega)) ?_
    have n0 : ∀ f : Fld, f.isOwn = false → (f.isOwn = true → (Value.bool false).ownBlock = none) := fun f h e => by rw [h] at e; cases e
    exact ⟨⟨rfl, fun e => (by cases e)⟩, ⟨rfl, fun e => (by cases e)⟩, ⟨Row.upd hy26 hu (fun k hk => by have := hS k hk; omega), fun e => (by cases e)⟩, ⟨Row.upd hy36 hu (fun k hk => by have := hS k hk; omega), fun e => (by cases e)⟩, ⟨rfl, fun e => (by cases e)⟩, ⟨rfl, fun e => (by cases e)⟩, ⟨rfl, fun e => (by cases e)⟩, ⟨rfl, fun e => (by cases e)⟩, ⟨rfl, fun e => (by cases e)⟩,
      ⟨Row.nil_ _ _, fun e => (by cases e)⟩, ⟨rfl, fun e => (by cases e)⟩, ⟨rfl, fun e => (by cases e)⟩, ⟨⟨[], Own.nil_ _ _ _, trivial⟩, fun _ => rfl⟩, ⟨rfl, fun e => (by cases e)⟩, ⟨rfl, fun e => (by cases e)⟩, ⟨Row.nil_ _ _, fun e => (by cases e)⟩, ⟨rfl, fun e => (by cases e)⟩, ⟨rfl, fun e => (by cases e)⟩,
      ⟨Row.nil_ _ _, fun e => (by cases e)⟩, ⟨.inr ⟨rfl, rfl, rfl⟩, fun _ => rfl⟩, ⟨rfl, fun e => (by cases e)⟩, ⟨Row.nil_ _ _, fun e => (by cases e)⟩, ⟨rfl, fun e => (by cases e)⟩, trivial⟩
  have HST0 := hid hst
  clear hst
  obtain ⟨A6, c6, e6, -, hy6, -⟩ := hs6.open_
  have H6 := hid (Empty_any hy6)
  clear hy6
  go_wp2_with fail
  refine H6.out.mono ?_
  rintro e w7 ⟨rfl, rfl⟩
  by_cases hd5 : d5 = []
  · replace Hk : Hid (shRead data = some (shHead vers random sid suite comp)) := hid (by rw [Hk.out, if_pos hd5])
    subst hd5
    go_wp2
    go_ret
    rw [Hk.out]
    refine ⟨rfl, hU6, fun x hx => ?_⟩
    cases hx
    exact ⟨_, _, _, s, s, hsle, by omega, HST0.out _ [] s s (Upd.refl _ _) (by simp)⟩
  replace Hk : Hid (shRead data = lastO shStep (shHead vers random sid suite comp) d5) := hid (by rw [Hk.out, if_neg hd5])
  rw [decide_eq_false hd5]
  clear hd5 H6 e6
  -- the extensions
  obtain ⟨w7, hw7⟩ : ∃ w7, w6.alloc (.cells #[.slice none 0 0] 137) = w7 := ⟨_, rfl⟩
  obtain ⟨sx, hsx⟩ : ∃ sx, w6.heap.size = sx := ⟨_, rfl⟩
  have hu7 : Upd [] w6 w7 := by rw [← hw7]; exact (Upd.refl _ _).alloc _
  have hx7 : Blk w7 sx 137 #[.slice none 0 0] := by rw [← hw7, ← hsx]; exact Blk.new _ _ _
  have hs7 := hs6.upd hu7 (by simp) (by simp)
  have hssx : s < sx := by omega
  have HW7 := hid hw7
  have HSX := hid hsx
  clear hw7 hsx hs6 hm6 hy26 hy36
  have H := hid (ReadLP16_any hs7 (k := 0) hx7 (by simp) (by omega) (by omega))
  go_wp2_with fail
  rw [HW7.out, HSX.out]
  refine H.out.mono ?_
  intro e w8 hp
  rcases hr : lp 2 d5 with _ | ⟨x0, d6⟩
  · obtain ⟨rfl, hu8⟩ := hp.no hr
    replace Hk : Hid (shRead data = none) := hid (by rw [Hk.out]; exact lastO_none hr)
    clear hr
    go_wp2
    go_ret
    exact HNO.out _ (UP.out _ _ _ (hU6.trans hu7 (by simp)) hu8 (by simp)) Hk.out
  obtain ⟨u, rfl, hu8, hs8, hx8, hyx, hnn⟩ := hp.yes hr
  have hU8 := UP.out _ _ _ (hU6.trans hu7 (by simp)) hu8 (by simp; omega)
  have hsx8 : Sv w8 B sx x0 True := ⟨by omega, u, hx8, hyx, fun _ => hnn⟩
  have hx0l : x0.length < 65536 := (lp_len hr).1
  have hC8 : Upd [s, sx] w6 w8 := (hu7.mono (by simp)).trans hu8 (by simp)
  obtain ⟨A6, c6, e6, -, hy6, -⟩ := hs8.open_
  have H6 := hid (Empty_any hy6)
  go_wp2_with fail
  refine H6.out.mono ?_
  rintro e w9 ⟨rfl, rfl⟩
  rcases d6 with _ | ⟨z5, t5⟩
  rotate_left
  · have Hk2 : Hid (shRead data = none) := hid (by rw [Hk.out]; exact lastO_more hr)
    clear hr
    go_wp2
    go_ret
    exact HNO.out _ hU8 Hk2.out
  replace Hk : Hid (shRead data = (blockE (once shStep) x0 (shHead vers random sid suite comp, [])).map Prod.fst) := hid (by rw [Hk.out]; exact lastO_some hr)
  clear hr hp hs7 hU6 hu7 hu8 hx8 hyx hnn H6 e6 hy6 hs8 H HW7 HSX hx7
  obtain ⟨wM, hwM⟩ : ∃ wM, w8.alloc (.map #[] 0) = wM := ⟨_, rfl⟩
  obtain ⟨mb, hmb⟩ : ∃ mb, w8.heap.size = mb := ⟨_, rfl⟩
  have hseen : Seen wM mb 0 [] := by rw [← hwM, ← hmb]; exact Seen.made w8
  have huM : Upd [] w8 wM := by rw [← hwM]; exact (Upd.refl _ _).alloc _
  have hsM := hsx8.upd huM (by simp) (by simp)
  have hUM := hU8.trans huM (by simp)
  have hsxm : sx < mb := by have : sx < w8.heap.size := (by obtain ⟨-, pv, hpb, -⟩ := hsx8; exact hpb.lt); omega
  have hmbM : wM.heap.size = mb + 1 := by rw [← hwM, ← hmb]; simp
  have HST1 := hid (HST0.out wM [s, sx] (mb + 1) wM.heap.size (hC8.trans huM (by simp)) (by simp; omega))
  obtain ⟨M0, hM0⟩ : ∃ M0, shHead vers random sid suite comp = M0 := ⟨_, rfl⟩
  have hscts : M0.scts.length = 0 := by rw [← hM0]; rfl
  have hMS : MSt wM B (mb + 1) wM.heap.size m 121 #[.slice A data.length c, wv vers, v2, v3, wv suite, bv comp, .bool false, .bool false, .bool false, .slice none 0 0, .bool false, strv [], .slice none 0 0, .int .u16 0, .int .u16 0, .slice none 0 0, .bool false, .int .u16 0, .slice none 0 0, .slice none 0 0, .bool false, .slice none 0 0, .int .u16 0] (shF (.slice A data.length c) M0 false) := by
    rw [← hM0]
    exact HST1.out
  rw [hM0] at Hk
  generalize (#[.slice A data.length c, wv vers, v2, v3, wv suite, bv comp, .bool false, .bool false, .bool false, .slice none 0 0, .bool false, strv [], .slice none 0 0, .int .u16 0, .int .u16 0, .slice none 0 0, .bool false, .int .u16 0, .slice none 0 0, .slice none 0 0, .bool false, .slice none 0 0, .int .u16 0] : Array Value) = cs0 at hMS
  have U0 : USt w B m sx mb wM.heap.size 121 cs0 (shF (.slice A data.length c) M0 false) x0 0 [] wM := ⟨hsM, hMS, hseen, hUM, by omega, by omega, hsxm, by omega, Nat.le_refl _, by omega⟩
  have HWM := hid hwM
  have HMB := hid hmb
  clear hwM hmb huM hsx8 hU8 hM0 HST0 HST1 hMS hUM hsM hseen hmbM hsz6 hC8
  go_wp2_with fail
  rw [HWM.out, HMB.out]
  go_loopg [8] x0.length (fun gk _ wr => ShRel w B m sx mb (.slice A data.length c) x0 M0 gk wr)
  case atStart => exact ⟨x0, M0, [], 0, false, cs0, rfl, by omega, by omega, U0, rfl⟩
  case round =>
    obtain ⟨d, M, ks, n, he, cs, rfl, hnl, hsl, U, hE⟩ := hrel
    have HE := hid hE
    obtain ⟨A7, c7, e7, -, hy7, -⟩ := U.sv.open_
    have H7 := hid (Empty_any hy7)
    clear hE hy7 U0 HWM HMB
    go_wp2_with fail
    refine H7.out.mono ?_
    rintro e w8 ⟨rfl, rfl⟩
    have hms := U.lt
    by_cases h0 : d = []
    · subst h0
      go_wp2
      go_ret
      rw [Hk.out, HE.out, blockE_nil]
      refine ⟨rfl, U.up, fun x hx => ?_⟩
      cases hx
      exact ⟨_, _, _, _, _, by omega, by omega, U.ms⟩
    obtain ⟨wA, hwA⟩ : ∃ wA, (wr.alloc (.cells #[.int .u16 0] 22)).alloc (.cells #[.slice none 0 0] 137) = wA := ⟨_, rfl⟩
    obtain ⟨g, hg⟩ : ∃ g, wr.heap.size = g := ⟨_, rfl⟩
    have huA : Upd [] wr wA := by rw [← hwA]; exact ((Upd.refl _ _).alloc _).alloc _
    have hbk : Blk wA g 22 #[.int .u16 0] := by rw [← hwA, ← hg]; exact (Blk.new _ _ _).alloc _
    have hbd : Blk wA (g + 1) 137 #[.slice none 0 0] := by
      rw [← hwA, ← hg]
      have := Blk.new (wr.alloc (.cells #[.int .u16 0] 22)) 137 #[.slice none 0 0]
      rwa [show (wr.alloc (.cells #[.int .u16 0] 22)).heap.size = wr.heap.size + 1 by simp] at this
    rw [hg] at U hms
    replace U := U.upd huA (by simp)
    have HWA := hid hwA
    have hbl : blockE (once shStep) x0 (M0, []) = none → shRead data = none := fun h => by rw [Hk.out, h]; rfl
    have HBL := hid hbl
    clear hwA huA hbl H7
    by_cases hsh : d.length < 2
    · have hx1 : Hid (shRead data = none) := hid (HBL.out (by rw [HE.out]; exact blockE_none (ext1_short hsh) h0 _))
      have H := hid (ReadUint16_bad (ob := g) (k := 0) U.sv hsh)
      go_wp2_with fail
      rw [HWA.out]
      refine H.out.mono ?_
      rintro e w9 ⟨rfl, hu9⟩
      go_wp2
      go_ret
      exact HNO.out _ (UP.out _ _ _ U.up hu9 (by simp; omega)) hx1.out
    obtain ⟨x, y, t, rfl⟩ : ∃ x y t, d = x :: y :: t := by
      match d, hsh with
      | [], h => simp at h
      | [_], h => simp at h
      | x :: y :: t, _ => exact ⟨x, y, t, rfl⟩
    clear hsh h0
    have H := hid (ReadUint16_ok (k := 0) U.sv hbk (by simp) (by omega) (by omega))
    have he1 := ext1_two x y t
    generalize UInt16.ofNat (x.toNat * 256 + y.toNat) = k at H he1
    have He1 := hid he1
    clear he1
    go_wp2_with fail
    rw [HWA.out]
    refine H.out.mono ?_
    rintro e w9 ⟨rfl, hu9, hs9, hb9⟩
    have hb9 : Blk w9 g 22 #[wv k] := hb9
    have hd9 := hbd.upd hu9 (by simp; omega)
    replace U := U.next hu9 (by simp) hs9
    clear hbk hbd hu9 H hs9
    have H := hid (ReadLP16_any U.sv (k := 0) hd9 (by simp) (by omega) (by omega))
    go_wp2_with fail
    refine H.out.mono ?_
    intro e w10 hp
    rcases hr : lp 2 t with _ | ⟨ed, rest⟩
    · obtain ⟨rfl, hu10⟩ := hp.no hr
      have hx1 : Hid (shRead data = none) := hid (HBL.out (by rw [HE.out]; exact blockE_none (by rw [He1.out, hr]; rfl) (by simp) _))
      clear hr
      go_wp2
      go_ret
      exact HNO.out _ (UP.out _ _ _ U.up hu10 (by simp; omega)) hx1.out
    obtain ⟨u, rfl, hu10, hs10, hd10, hyd, hnn⟩ := hp.yes hr
    have hE1 : ext1 (x :: y :: t) = some ((k, ed), rest) := by rw [He1.out, hr]; rfl
    have HE1 := hid hE1
    have hlen : 4 + ed.length + rest.length = (x :: y :: t).length := (ext1_len hE1).1
    have hedl : ed.length < 65536 := (ext1_len hE1).2
    have hb10 := hb9.upd hu10 (by simp; omega)
    replace U := U.next hu10 (by simp) hs10
    have hsd : Sv w10 B (g + 1) ed True := ⟨by omega, u, hd10, hyd, fun _ => hnn⟩
    have hg10 : g + 1 < w10.heap.size := hd10.lt
    have k0 := hb10.cell 0
    simp at k0
    clear hd9 hb9 hu10 H hp hd10 hyd hnn hE1 hr hs10
    by_cases hks : k ∈ ks
    · have hr1 : ks.contains k = true := by simpa using hks
      have hx1 : Hid (shRead data = none) := hid (HBL.out (by rw [HE.out]; exact blockE_stop HE1.out (by unfold once; rw [if_pos hks])))
      clear hks
      go_wp2_with (at_lookup; refine wpList_seen rfl _ _ rfl rfl U.se k rfl hr1 ?_)
      go_ret
      exact HNO.out _ U.up hx1.out
    have hr1 : ks.contains k = false := by simpa using hks
    have hon : ∀ x, shStep M (k, ed) = some x → once shStep (M, ks) (k, ed) = some (x, k :: ks) := fun x hx => by unfold once; rw [if_neg hks]; simp only; rw [hx]; rfl
    have hof : shStep M (k, ed) = none → once shStep (M, ks) (k, ed) = none := fun hx => by unfold once; rw [if_neg hks]; simp only; rw [hx]; rfl
    have HNX : ∀ x, shStep M (k, ed) = some x → Hid (blockE (once shStep) x0 (M0, []) = blockE (once shStep) rest (x, k :: ks)) := fun x hx => hid (by rw [HE.out]; exact blockE_go HE1.out (hon x hx))
    have HST : shStep M (k, ed) = none → Hid (shRead data = none) := fun hx => hid (HBL.out (by rw [HE.out]; exact blockE_stop HE1.out (hof hx)))
    have HNX := hid HNX
    have HST := hid HST
    clear hks hon hof
    have hnb : n < 9223372036854775807 := by omega
    have hrl : rest.length < (x :: y :: t).length := by omega
    have hnl2 : n + 1 + rest.length ≤ x0.length := by omega
    have hsl2 : M.scts.length + 4 + ed.length + rest.length ≤ x0.length := by omega
    clear hnl hsl hlen
    go_upto_region 19 with (first
      | (at_lookup; refine wpList_seen rfl _ _ rfl rfl U.se k rfl hr1 ?_)
      | (at_mapUpdate; refine wpList_see rfl _ _ _ rfl rfl U.se hnb k rfl rfl ?_; intro w11 hse11 hu11; have U11 := U.see hu11 hse11; have hb11 := hb10.upd hu11 (by simp; omega); have hsd11 := hsd.upd hu11 (by simp; omega) (by simp; omega)))
    replace k0 := hb11.cell 0
    simp at k0
    have hg11 : g + 1 < w11.heap.size := by have := hu11.size; omega
    clear U hse11 hu11 hsd hb10 hg10 hr1
    have U := U11
    have hsd := hsd11
    clear U11 hsd11
    have d5 := u16_eq k 5
    rw [show ((5 : UInt16).toNat : Int) = 5 from rfl] at d5
    have d35 := u16_eq k 35
    rw [show ((35 : UInt16).toNat : Int) = 35 from rfl] at d35
    have d65281 := u16_eq k 65281
    rw [show ((65281 : UInt16).toNat : Int) = 65281 from rfl] at d65281
    have d23 := u16_eq k 23
    rw [show ((23 : UInt16).toNat : Int) = 23 from rfl] at d23
    have d16 := u16_eq k 16
    rw [show ((16 : UInt16).toNat : Int) = 16 from rfl] at d16
    have d18 := u16_eq k 18
    rw [show ((18 : UInt16).toNat : Int) = 18 from rfl] at d18
    have d43 := u16_eq k 43
    rw [show ((43 : UInt16).toNat : Int) = 43 from rfl] at d43
    have d44 := u16_eq k 44
    rw [show ((44 : UInt16).toNat : Int) = 44 from rfl] at d44
    have d51 := u16_eq k 51
    rw [show ((51 : UInt16).toNat : Int) = 51 from rfl] at d51
    have d41 := u16_eq k 41
    rw [show ((41 : UInt16).toNat : Int) = 41 from rfl] at d41
    have d11 := u16_eq k 11
    rw [show ((11 : UInt16).toNat : Int) = 11 from rfl] at d11
    have d65037 := u16_eq k 65037
    rw [show ((65037 : UInt16).toNat : Int) = 65037 from rfl] at d65037
    have d0 := u16_eq k 0
    rw [show ((0 : UInt16).toNat : Int) = 0 from rfl] at d0
    by_cases hk5 : k = 5
    · as_aux_lemma =>
      rw [decide_eq_true hk5] at d5
      have HE2 := hid (show shStep M (k, ed) = (if ed = [] then some { M with ocsp := true } else none) by rw [hk5]; rfl)
      clear hk5
      obtain ⟨vc6, hcv6, -⟩ := U.ms.get (i := 6) rfl
      have cc6 := U.ms.cell hcv6
      have ff6 := U.ms.blk.frozen 6
      have huS6 : Upd [m] w11 (w11.setCell ⟨m, 6, none⟩ (.bool true)) := (Upd.refl _ _).setCell (by simp) _
      have U2 := U.putV (f := .val (.bool true)) huS6 (by simp) (U.ms.blk.set_ 6 (.bool true)) rfl rfl
      have hsd2 := hsd.upd huS6 (by simp; omega) (by simp; omega)
      clear hcv6
      obtain ⟨A8, c8, e8, e8f, hy8, -⟩ := hsd2.open_
      have HEm := hid (Empty_any hy8)
      clear hy8 e8f
      go_wp2_with fail
      refine HEm.out.mono ?_
      rintro e w12 ⟨rfl, rfl⟩
      by_cases he0 : ed = []
      · have HN := HNX.out { M with ocsp := true } (by rw [HE2.out, if_pos he0])
        have UF := U2.cast (show _ = shF (.slice A data.length c) { M with ocsp := true } he from rfl)
        go_wp2
        go_roundg rest.length
        case measure => omega
        case rel => exact ⟨rest, { M with ocsp := true }, k :: ks, n + 1, he, _, rfl, hnl2, by show M.scts.length + _ ≤ _; omega, UF.full, HN.out⟩
      · have hx1 := HST.out (by rw [HE2.out, if_neg he0])
        go_wp2
        go_ret
        exact HNO.out _ U2.up hx1.out
    rw [decide_eq_false hk5] at d5
    by_cases hk35 : k = 35
    · as_aux_lemma =>
      rw [decide_eq_true hk35] at d35
      have HE2 := hid (show shStep M (k, ed) = (if ed = [] then some { M with ticket := true } else none) by rw [hk35]; rfl)
      clear hk35
      obtain ⟨vc7, hcv7, -⟩ := U.ms.get (i := 7) rfl
      have cc7 := U.ms.cell hcv7
      have ff7 := U.ms.blk.frozen 7
      have huS7 : Upd [m] w11 (w11.setCell ⟨m, 7, none⟩ (.bool true)) := (Upd.refl _ _).setCell (by simp) _
      have U2 := U.putV (f := .val (.bool true)) huS7 (by simp) (U.ms.blk.set_ 7 (.bool true)) rfl rfl
      have hsd2 := hsd.upd huS7 (by simp; omega) (by simp; omega)
      clear hcv7
      obtain ⟨A8, c8, e8, e8f, hy8, -⟩ := hsd2.open_
      have HEm := hid (Empty_any hy8)
      clear hy8 e8f
      go_wp2_with fail
      refine HEm.out.mono ?_
      rintro e w12 ⟨rfl, rfl⟩
      by_cases he0 : ed = []
      · have HN := HNX.out { M with ticket := true } (by rw [HE2.out, if_pos he0])
        have UF := U2.cast (show _ = shF (.slice A data.length c) { M with ticket := true } he from rfl)
        go_wp2
        go_roundg rest.length
        case measure => omega
        case rel => exact ⟨rest, { M with ticket := true }, k :: ks, n + 1, he, _, rfl, hnl2, by show M.scts.length + _ ≤ _; omega, UF.full, HN.out⟩
      · have hx1 := HST.out (by rw [HE2.out, if_neg he0])
        go_wp2
        go_ret
        exact HNO.out _ U2.up hx1.out
    rw [decide_eq_false hk35] at d35
    by_cases hk65281 : k = 65281
    · as_aux_lemma =>
      rw [decide_eq_true hk65281] at d65281
      have HE2 := hid (show shStep M (k, ed) = (vecP (lp 1 ed)).map fun x => { M with rns := true, rn := x } by rw [hk65281]; rfl)
      clear hk65281
      have H := hid (tlsLP8_any hsd (k := 9) U.ms.blk (by rw [U.ms.len]; exact (by decide : 9 < 23)) (by omega) (by omega))
      go_wp2_with fail
      refine H.out.mono ?_
      intro e w13 hp
      rcases hr2 : lp 1 ed with _ | ⟨x1, r1⟩
      · obtain ⟨rfl, hu13⟩ := hp.no hr2
        have hx1 := HST.out (by rw [HE2.out, hr2]; rfl)
        clear hr2
        replace U := U.upd hu13 (by simp)
        go_wp2
        go_ret
        exact HNO.out _ U.up hx1.out
      obtain ⟨u1, rfl, hu13, hsd2, hm13, hy13, -⟩ := hp.yes hr2
      have U2 := U.putV (f := .byt x1) hu13 (by simp) hm13 hy13 rfl
      have HR2 := hid hr2
      obtain ⟨A9, c9, rfl, hy13, -, -⟩ := Byt.form hy13 rfl
      clear hr2 hp hm13 H hsd
      obtain ⟨vc8, hcv8, -⟩ := U2.ms.get (i := 8) rfl
      have cc8 := U2.ms.cell hcv8
      have ff8 := U2.ms.blk.frozen 8
      have huS8 : Upd [m] w13 (w13.setCell ⟨m, 8, none⟩ (.bool true)) := (Upd.refl _ _).setCell (by simp) _
      have U3 := U2.putV (f := .val (.bool true)) huS8 (by simp) (U2.ms.blk.set_ 8 (.bool true)) rfl rfl
      have hsd3 := hsd2.upd huS8 (by simp; omega) (by simp; omega)
      clear hcv8
      obtain ⟨A8, c8, e8, e8f, hy8, -⟩ := hsd3.open_
      have HEm := hid (Empty_any hy8)
      clear hy8 e8f
      clear U U2 hu13 hy13
      go_wp2_with fail
      refine HEm.out.mono ?_
      rintro e w14 ⟨rfl, rfl⟩
      by_cases he0 : r1 = []
      · have HN := HNX.out { M with rns := true, rn := x1 } (by rw [HE2.out, HR2.out, he0]; rfl)
        have UF := U3.cast (show _ = shF (.slice A data.length c) { M with rns := true, rn := x1 } he from rfl)
        go_wp2
        go_roundg rest.length
        case measure => omega
        case rel => exact ⟨rest, { M with rns := true, rn := x1 }, k :: ks, n + 1, he, _, rfl, hnl2, by show M.scts.length + _ ≤ _; omega, UF.full, HN.out⟩
      · have hx1 := HST.out (by
          rw [HE2.out, HR2.out]
          cases r1 with
          | nil => exact absurd rfl he0
          | cons y t => rfl)
        go_wp2
        go_ret
        exact HNO.out _ U3.up hx1.out
    rw [decide_eq_false hk65281] at d65281
    by_cases hk23 : k = 23
    · as_aux_lemma =>
      rw [decide_eq_true hk23] at d23
      have HE2 := hid (show shStep M (k, ed) = (if ed = [] then some { M with ems := true } else none) by rw [hk23]; rfl)
      clear hk23
      obtain ⟨vc10, hcv10, -⟩ := U.ms.get (i := 10) rfl
      have cc10 := U.ms.cell hcv10
      have ff10 := U.ms.blk.frozen 10
      have huS10 : Upd [m] w11 (w11.setCell ⟨m, 10, none⟩ (.bool true)) := (Upd.refl _ _).setCell (by simp) _
      have U2 := U.putV (f := .val (.bool true)) huS10 (by simp) (U.ms.blk.set_ 10 (.bool true)) rfl rfl
      have hsd2 := hsd.upd huS10 (by simp; omega) (by simp; omega)
      clear hcv10
      obtain ⟨A8, c8, e8, e8f, hy8, -⟩ := hsd2.open_
      have HEm := hid (Empty_any hy8)
      clear hy8 e8f
      go_wp2_with fail
      refine HEm.out.mono ?_
      rintro e w12 ⟨rfl, rfl⟩
      by_cases he0 : ed = []
      · have HN := HNX.out { M with ems := true } (by rw [HE2.out, if_pos he0])
        have UF := U2.cast (show _ = shF (.slice A data.length c) { M with ems := true } he from rfl)
        go_wp2
        go_roundg rest.length
        case measure => omega
        case rel => exact ⟨rest, { M with ems := true }, k :: ks, n + 1, he, _, rfl, hnl2, by show M.scts.length + _ ≤ _; omega, UF.full, HN.out⟩
      · have hx1 := HST.out (by rw [HE2.out, if_neg he0])
        go_wp2
        go_ret
        exact HNO.out _ U2.up hx1.out
    rw [decide_eq_false hk23] at d23
    by_cases hk16 : k = 16
    · as_aux_lemma =>
      rw [decide_eq_true hk16] at d16
      have HE2 := hid (show shStep M (k, ed) = (eeAlpn ed).map fun x => { M with alpn := x } by rw [hk16]; rfl)
      clear hk16
      obtain ⟨w12, hw12⟩ : ∃ w12, w11.alloc (.cells #[.slice none 0 0] 137) = w12 := ⟨_, rfl⟩
      obtain ⟨p, hp0⟩ : ∃ p, w11.heap.size = p := ⟨_, rfl⟩
      have hu12 : Upd [] w11 w12 := by rw [← hw12]; exact (Upd.refl _ _).alloc _
      have hbp : Blk w12 p 137 #[.slice none 0 0] := by rw [← hw12, ← hp0]; exact Blk.new _ _ _
      have hgp : g + 1 < p := by omega
      have hsd12 := hsd.upd hu12 (by simp) (by simp)
      replace U := U.upd hu12 (by simp)
      have HW12 := hid hw12
      have HP0 := hid hp0
      clear hw12 hp0 hsd hu12
      have H := hid (ReadLP16_any hsd12 (k := 0) hbp (by simp) (by omega) (by omega))
      go_wp2_with fail
      rw [HW12.out, HP0.out]
      refine H.out.mono ?_
      intro e w13 hp
      rcases hr2 : lp 2 ed with _ | ⟨x1, r1⟩
      · obtain ⟨rfl, hu13⟩ := hp.no hr2
        have hx1 := HST.out (by rw [HE2.out]; unfold eeAlpn; rw [hr2]; rfl)
        clear hr2
        replace U := U.upd hu13 (by simp)
        go_wp2
        go_ret
        exact HNO.out _ U.up hx1.out
      obtain ⟨u1, rfl, hu13, hsd13, hbp13, hyp, hnp⟩ := hp.yes hr2
      have hsp13 : Sv w13 B p x1 True := ⟨by omega, u1, hbp13, hyp, fun _ => hnp⟩
      replace U := U.upd hu13 (by simp; omega)
      have hw13 : p < w13.heap.size := hbp13.lt
      have HA := hid (show eeAlpn ed = eeOuter (some (x1, r1)) by unfold eeAlpn; rw [hr2])
      clear hr2 hp hsd12 hbp hu13 hyp hnp hbp13 H HW12 HP0
      have hstop : eeInner (lp 1 x1) = none → Hid (shRead data = none) := fun h => HST.out (by
        rw [HE2.out, HA.out]
        cases r1 with
        | nil => show Option.map _ (eeInner (lp 1 x1)) = none; rw [h]; rfl
        | cons y t => rfl)
      have HSTOP := hid hstop
      clear hstop
      obtain ⟨A9, c9, e9, -, hy9, -⟩ := hsp13.open_
      have HE3 := hid (Empty_any hy9)
      clear hy9
      go_wp2_with fail
      refine HE3.out.mono ?_
      rintro e w14 ⟨rfl, rfl⟩
      by_cases hx0 : x1 = []
      · have hx1 := HSTOP.out (by rw [hx0]; rfl)
        subst hx0
        go_wp2
        go_ret
        exact HNO.out _ U.up hx1.out
      obtain ⟨w14, hw14⟩ : ∃ w14, w13.alloc (.cells #[.slice none 0 0] 137) = w14 := ⟨_, rfl⟩
      obtain ⟨q, hq0⟩ : ∃ q, w13.heap.size = q := ⟨_, rfl⟩
      have hu14 : Upd [] w13 w14 := by rw [← hw14]; exact (Upd.refl _ _).alloc _
      have hbq : Blk w14 q 137 #[.slice none 0 0] := by rw [← hw14, ← hq0]; exact Blk.new _ _ _
      have hsd14 := hsd13.upd hu14 (by simp) (by simp)
      have hsp14 := hsp13.upd hu14 (by simp) (by simp)
      replace U := U.upd hu14 (by simp)
      have HW14 := hid hw14
      have HQ0 := hid hq0
      have hpq : p < q := by omega
      clear hw14 hq0 hsd13 hsp13 hu14 e9 HE3 hw13
      have H := hid (ReadLP8_any hsp14 (k := 0) hbq (by simp) (by omega) (by omega))
      go_wp2_with fail
      rw [HW14.out, HQ0.out]
      refine H.out.mono ?_
      intro e w15 hp
      rcases hr3 : lp 1 x1 with _ | ⟨pr, r2⟩
      · obtain ⟨rfl, hu15⟩ := hp.no hr3
        have hx1 := HSTOP.out (by rw [hr3]; rfl)
        clear hr3
        replace U := U.upd hu15 (by simp; omega)
        go_wp2
        go_ret
        exact HNO.out _ U.up hx1.out
      obtain ⟨u2, rfl, hu15, hsp15, hbq15, hyq, hnq⟩ := hp.yes hr3
      have hsq15 : Sv w15 B q pr True := ⟨by omega, u2, hbq15, hyq, fun _ => hnq⟩
      have hsd15 := hsd14.upd hu15 (by simp; omega) (by simp; omega)
      replace U := U.upd hu15 (by simp; omega)
      have HIN := hid (show eeInner (lp 1 x1) = eeInner (some (pr, r2)) by rw [hr3])
      clear hr3 hp hsd14 hsp14 hbq hu15 hyq hnq hbq15 HW14 HQ0 H
      obtain ⟨A9, c9, e9, -, hy9, -⟩ := hsq15.open_
      obtain ⟨A10, c10, e10, -, hy10, -⟩ := hsp15.open_
      have HE3 := hid (Empty_any hy9)
      have HE4 := hid (Empty_any hy10)
      have hcv := conv_bytes 137 Try.underlying137 hy9
      clear hy9 hy10
      go_wp2_with fail
      refine HE3.out.mono ?_
      rintro e w16 ⟨rfl, rfl⟩
      by_cases hp0 : pr = []
      · have hx1 := HSTOP.out (by rw [HIN.out, hp0]; exact eeInner_nil _)
        subst hp0
        go_wp2
        go_ret
        exact HNO.out _ U.up hx1.out
      go_wp2_with fail
      refine HE4.out.mono ?_
      rintro e w16 ⟨rfl, rfl⟩
      by_cases hr0 : r2 = []
      case neg =>
        have hx1 := HSTOP.out (by
          rw [HIN.out]
          cases r2 with
          | nil => exact absurd rfl hr0
          | cons y t => exact eeInner_more _ _ _)
        go_wp2
        go_ret
        exact HNO.out _ U.up hx1.out
      have HIN2 : Hid (eeInner (lp 1 x1) = some pr) := hid (by
        rw [HIN.out, hr0]
        cases pr with
        | nil => exact absurd rfl hp0
        | cons y t => rfl)
      clear HIN
      obtain ⟨vc11, hcv11, -⟩ := U.ms.get (i := 11) rfl
      have cc11 := U.ms.cell hcv11
      have ff11 := U.ms.blk.frozen 11
      have huS11 : Upd [m] w15 (w15.setCell ⟨m, 11, none⟩ (strv pr)) := (Upd.refl _ _).setCell (by simp) _
      have U2 := U.putV (f := .val (strv pr)) huS11 (by simp) (U.ms.blk.set_ 11 (strv pr)) rfl rfl
      have hsd2 := hsd15.upd huS11 (by simp; omega) (by simp; omega)
      clear hcv11
      obtain ⟨A8, c8, e8, e8f, hy8, -⟩ := hsd2.open_
      have HEm := hid (Empty_any hy8)
      clear hy8 e8f
      clear U
      go_wp2_with fail
      refine HEm.out.mono ?_
      rintro e w17 ⟨rfl, rfl⟩
      by_cases he0 : r1 = []
      · have HN := HNX.out { M with alpn := pr } (by
          rw [HE2.out, HA.out, he0]
          show Option.map _ (eeInner (lp 1 x1)) = _
          rw [HIN2.out]
          rfl)
        have UF := U2.cast (show _ = shF (.slice A data.length c) { M with alpn := pr } he from rfl)
        go_wp2
        go_roundg rest.length
        case measure => omega
        case rel => exact ⟨rest, { M with alpn := pr }, k :: ks, n + 1, he, _, rfl, hnl2, by show M.scts.length + _ ≤ _; omega, UF.full, HN.out⟩
      · have hx1 := HST.out (by
          rw [HE2.out, HA.out]
          cases r1 with
          | nil => exact absurd rfl he0
          | cons y t => rfl)
        go_wp2
        go_ret
        exact HNO.out _ U2.up hx1.out
    rw [decide_eq_false hk16] at d16
    by_cases hk18 : k = 18
    · as_aux_lemma =>
      rw [decide_eq_true hk18] at d18
      have HE2 := hid (show shStep M (k, ed) = (listsP 2 2 ed).map fun l => { M with scts := M.scts ++ l } by rw [hk18]; rfl)
      clear hk18
      obtain ⟨wB, hwB⟩ : ∃ wB, w11.alloc (.cells #[.slice none 0 0] 137) = wB := ⟨_, rfl⟩
      obtain ⟨p, hp0⟩ : ∃ p, w11.heap.size = p := ⟨_, rfl⟩
      have huB : Upd [] w11 wB := by rw [← hwB]; exact (Upd.refl _ _).alloc _
      have hbp : Blk wB p 137 #[.slice none 0 0] := by rw [← hwB, ← hp0]; exact Blk.new _ _ _
      have hgp : g + 1 < p := by omega
      have hsdB := hsd.upd huB (by simp) (by simp)
      replace U := U.upd huB (by simp)
      have HWB := hid hwB
      have HP0 := hid hp0
      clear hwB hp0 hsd huB
      have H := hid (ReadLP16_any hsdB (k := 0) hbp (by simp) (by omega) (by omega))
      go_wp2_with fail
      rw [HWB.out, HP0.out]
      refine H.out.mono ?_
      intro e w13 hp
      rcases hr2 : lp 2 ed with _ | ⟨x1, r1⟩
      · obtain ⟨rfl, hu13⟩ := hp.no hr2
        have hx1 := HST.out (by rw [HE2.out]; unfold listsP; rw [hr2]; rfl)
        clear hr2
        replace U := U.upd hu13 (by simp)
        go_wp2
        go_ret
        exact HNO.out _ U.up hx1.out
      obtain ⟨u1, rfl, hu13, hsd13, hbp13, hyp, hnp⟩ := hp.yes hr2
      have hx1l := lp_len hr2
      have hsp13 : Sv w13 B p x1 True := ⟨by omega, u1, hbp13, hyp, fun _ => hnp⟩
      replace U := U.upd hu13 (by simp; omega)
      have hw13 : p < w13.heap.size := hbp13.lt
      have HST2 := hid (show shStep M (k, ed) = (lpsIn 2 (some (x1, r1))).map fun l => { M with scts := M.scts ++ l } by rw [HE2.out]; unfold listsP; rw [hr2])
      clear hr2 hp hu13 hbp13 hyp hnp hsdB hbp H HWB HP0
      obtain ⟨A9, c9, e9, -, hy9, -⟩ := hsp13.open_
      have HE3 := hid (Empty_any hy9)
      clear hy9
      go_wp2_with fail
      refine HE3.out.mono ?_
      rintro e w14 ⟨rfl, rfl⟩
      by_cases hx0 : x1 = []
      · have hx1 := HST.out (by rw [HST2.out, hx0, lpsIn_nil]; rfl)
        subst hx0
        go_wp2
        go_ret
        exact HNO.out _ U.up hx1.out
      rw [decide_eq_false hx0]
      have HX0 := hid hx0
      obtain ⟨v4, hcv4, us0, hown0, hall0⟩ := U.ms.get (i := 12) rfl
      have HCV := hid hcv4
      have hset : cs.setIfInBounds 12 v4 = cs := set_self hcv4
      have AL0 : ALoop 23 B p m 121 (fun z => cs.setIfInBounds 12 z) (mb + 1) w13 v4 x1 v4 us0 w13 := ⟨hsp13, by show Blk w13 m 121 (cs.setIfInBounds 12 v4); rw [hset]; exact U.ms.blk, hown0, nextV.refl _ _, Upd.refl _ _⟩
      have hul0 := hall0.length
      have hv4lt : ∀ g', v4.ownBlock = some g' → mb + 1 ≤ g' ∧ g' < g := fun g' hg' => U.ms.own 12 v4 _ g' hcv4 rfl rfl hg'
      clear hx0 hsp13 e9 HE3 hset hcv4
      go_wp2_with fail
      go_loopg [13] x1.length (fun gk _ wr => LRelA 2 B p m 121 (fun z => cs.setIfInBounds 12 z) (mb + 1) w13 v4 M.scts x1 (us0.length + x1.length) gk wr)
      case atStart => exact ⟨x1, v4, us0, [], rfl, AL0, by rw [List.append_nil]; exact hall0, by cases lps 2 x1 <;> rfl, Nat.le_refl _⟩
      case round =>
        obtain ⟨x2, vv, us, l, rfl, AL, hall, heq, hbnd⟩ := hrel
        obtain ⟨wi, rfl⟩ : ∃ wi : World, wi = wr := ⟨_, rfl⟩
        have HEQ := hid heq
        have HALL := hid hall
        have HUL := hid hall.length
        clear heq hall AL0 hall0 hown0
        obtain ⟨A9, c9, e9, -, hy9, -⟩ := AL.sv.open_
        have HE9 := hid (Empty_any hy9)
        clear hy9
        go_wp2_with fail
        refine HE9.out.mono ?_
        rintro e w14 ⟨rfl, rfl⟩
        have hrow : ∀ j ∈ p :: m :: v4.ownBlock.toList, g ≤ j ∨ j = m ∨ ∃ v f0, cs[12]? = some v ∧ (shF (.slice A data.length c) M he)[12]? = some f0 ∧ f0.isOwn = true ∧ v.ownBlock = some j := by
          intro j hj
          rcases List.mem_cons.1 hj with hj | hj
          · left; omega
          · rcases List.mem_cons.1 hj with hj | hj
            · right; left; exact hj
            · right; right; exact ⟨v4, _, HCV.out, rfl, rfl, Option.mem_toList.1 hj⟩
        have hnx : ∀ g', vv.ownBlock = some g' → (g ≤ g' ∧ g' < wi.heap.size) ∨ ∃ v f0, cs[12]? = some v ∧ (shF (.slice A data.length c) M he)[12]? = some f0 ∧ f0.isOwn = true ∧ v.ownBlock = some g' := by
          intro g' hg'
          rcases AL.nx with hn | ⟨j, hn, hj⟩
          · right; rw [hn] at hg'; exact ⟨v4, _, HCV.out, rfl, rfl, hg'⟩
          · left; exact ⟨by rw [hn] at hg'; injection hg' with hg'; omega, (AL.lt g' hg').2⟩
        have U2 := U.put (i := 12) (f := .vec (M.scts ++ l)) AL.up hrow AL.hm ⟨us, AL.own, HALL.out⟩ (fun _ => hnx) (by have := AL.up.size; omega) (Nat.le_refl _)
        have hsd2 := hsd13.upd AL.up (fun j hj => by rcases hrow j hj with h | h | ⟨v, f0, h1, -, -, h4⟩; omega; omega; (rw [HCV.out] at h1; injection h1 with h1; subst h1; have := hv4lt j h4; omega)) (fun hj => by rcases hrow _ hj with h | h | ⟨v, f0, h1, -, -, h4⟩; (simp at hj; rcases hj with hj | hj | hj; omega; omega; have := hv4lt _ hj; omega); omega; (rw [HCV.out] at h1; injection h1 with h1; subst h1; have := hv4lt _ h4; omega))
        by_cases hx2 : x2 = []
        · have hll : (M.scts ++ l).length ≤ M.scts.length + x1.length := by
            have h1 := HUL.out
            have h2 := hbnd
            omega
          have heq : lps 2 x1 = some l := by rw [HEQ.out, hx2, lps_nil]; simp
          have HEQ2 := hid heq
          obtain ⟨A8, c8, e8, e8f, hy8, -⟩ := hsd2.open_
          have H8 := hid (Empty_any hy8)
          clear hy8 heq AL hsd13 U hrow hnx HE9
          subst hx2
          go_wp2_with fail
          refine H8.out.mono ?_
          rintro e w15 ⟨rfl, rfl⟩
          by_cases he0 : r1 = []
          · have HN := HNX.out { M with scts := M.scts ++ l } (by rw [HST2.out, he0, lpsIn_some 2 HX0.out, HEQ2.out]; rfl)
            have UF := U2.cast (show _ = shF (.slice A data.length c) { M with scts := M.scts ++ l } he from rfl)
            go_wp2
            go_roundg rest.length
            case measure => omega
            case rel => exact ⟨rest, { M with scts := M.scts ++ l }, k :: ks, n + 1, he, _, rfl, hnl2, by show (M.scts ++ l).length + _ ≤ _; omega, UF.full, HN.out⟩
          · have hx1 := HST.out (by
              rw [HST2.out]
              cases r1 with
              | nil => exact absurd rfl he0
              | cons y t => rw [lpsIn_more]; rfl)
            go_wp2
            go_ret
            exact HNO.out _ U2.up hx1.out
        obtain ⟨wq, hwq⟩ : ∃ wq, wi.alloc (.cells #[.slice none 0 0] 23) = wq := ⟨_, rfl⟩
        obtain ⟨q, hq0⟩ : ∃ q, wi.heap.size = q := ⟨_, rfl⟩
        have huq : Upd [] wi wq := by rw [← hwq]; exact (Upd.refl _ _).alloc _
        have hbq : Blk wq q 23 #[.slice none 0 0] := by rw [← hwq, ← hq0]; exact Blk.new _ _ _
        have hpq : p < q := by have := AL.up.size; omega
        have hqw : wi.heap.size ≤ q := by omega
        have hspq := AL.sv.upd huq (by simp) (by simp)
        have hmq := AL.hm.upd huq (by simp)
        have hUP : ∀ w15, Upd [p, q] wq w15 → Upd [m] w w15 := fun w15 hu => UP.out _ _ _ (U2.up.trans huq (by simp)) hu (by simp; omega)
        have HUP := hid hUP
        have HWQ := hid hwq
        have HQ0 := hid hq0
        have stop : Hid (lps 2 x2 = none → shRead data = none) := hid (fun hn => (HST.out (by rw [HST2.out, lpsIn_bad 2 r1 (by rw [HEQ.out, hn]; rfl)]; rfl)).out)
        have HX2 := hid hx2
        clear hwq hq0 HE9 hrow hnx U2 hsd2 hUP
        have H := hid (tlsLP16_any hspq (k := 0) hbq (by simp) (by omega) (by omega))
        go_wp2_with fail
        rw [HWQ.out, HQ0.out]
        refine H.out.mono ?_
        intro e w15 hp
        clear hx2
        rcases hr3 : lp 2 x2 with _ | ⟨ca, x3⟩
        · obtain ⟨rfl, hu15⟩ := hp.no hr3
          have hx1 := hid (stop.out (lps_none HX2.out (fun y x r h => (by rw [hr3] at h; cases h))))
          clear hr3
          go_wp2
          go_ret
          exact HNO.out _ (HUP.out _ (hu15.mono (by simp))) hx1.out
        obtain ⟨u5, rfl, hu15, hs15, hb15, hyu, hnu⟩ := hp.yes hr3
        have hs15 : Sv w15 B p x3 True := hs15
        obtain ⟨A5, c5, rfl, hyu, -, -⟩ := Byt.form hyu rfl
        have hb15 : Blk w15 q 23 #[.slice A5 ca.length c5] := hb15
        have hx2l := lp_len hr3
        by_cases hca : ca = []
        · have hx1 := hid (stop.out (lps_none HX2.out (fun y x r h => (by rw [hr3, hca] at h; cases h))))
          have c1 := hb15.cell 0
          simp at c1
          have hz0 : ca.length = 0 := by rw [hca]; rfl
          rw [hz0] at c1
          clear hr3 hca hz0
          go_wp2
          go_ret
          exact HNO.out _ (HUP.out _ hu15) hx1.out
        have HL2 := hid (lps_step hr3 hca)
        have hz : ((ca.length : Int) == 0) = false := by have := List.length_pos_iff.2 hca; rw [beq_eq_false_iff_ne]; omega
        have hcal : 0 < ca.length := List.length_pos_iff.2 hca
        clear hr3 hca hp
        have hm15 := hmq.upd hu15 (by simp; omega)
        have hu25 : Upd [p] wi w15 := (huq.mono (by simp)).trans hu15 (by simp; omega)
        have hown15 : Own w15 (mb + 1) 23 vv us := AL.own.upd hu25 (fun h hh hk => by
          obtain ⟨_, pv, hpb, _⟩ := AL.sv
          have := AL.own.ne hpb (by decide) h hh
          simp at hk; exact this hk)
        have hsz15 : mb + 1 ≤ w15.heap.size := by have := hu25.size; have := AL.up.size; omega
        have hnm : m ∉ vv.ownBlock.toList := fun hm' => by have := AL.own.ne AL.hm (by decide) m (Option.mem_toList.1 hm'); exact this rfl
        obtain ⟨Av, cv, rfl⟩ := AL.own.formN (n := us.length) rfl
        have hcsz : 12 < cs.size := by rw [U.ms.len]; exact (by decide : 12 < 23)
        have hcell : ∀ (w' : World) (z : Value), Blk w' m 121 (cs.setIfInBounds 12 z) → w'.cell? ⟨m, 12, none⟩ = some z := fun w' z h => (h.cell 12).trans (Array.getElem?_setIfInBounds_self_of_lt hcsz)
        have HCELL := hid hcell
        have c0 := hcell _ _ hm15
        have c0f := hm15.frozen 12
        have c1 := hb15.cell 0
        have a0 := hcell _ _ (hm15.alloc (.cells #[.slice A5 ca.length c5] 23))
        have a0f := (hm15.alloc (.cells #[.slice A5 ca.length c5] 23)).frozen 12
        have a1 := (hb15.alloc (.cells #[.slice A5 ca.length c5] 23)).cell 0
        simp at c1 a1
        have hl2 : us.length + 1 ≤ 65536 := by have := HUL.out; omega
        have HAL := hid AL
        have HYU := hid hyu
        clear AL hspq hmq hbq huq H U hsd13 hyu stop hcell
        go_wp2_with fail
        go_region_law (first | (refine step_append_row (v := .slice Av us.length cv) _ rfl _ _ 24 rfl (mb + 1) 23 (.slice none 0 0) 24 Try.underlying24 info_bytes rfl rfl (hown15.upd (((Upd.refl [] _).alloc _).drew) (by simp)) rfl (Row.drew (Row.one w15 23 (.slice A5 ca.length c5))) (by intro u hu; simp at hu; subst hu; rfl) (by simp; omega) (by simp; omega) (by simp; omega) ?_; intro v3' w3 hap; obtain ⟨A3, c3, hv3⟩ := Own.formN (n := us.length + 1) hap.1 (by simp); subst hv3; have hm3 := ((hm15.alloc (.cells #[.slice A5 ca.length c5] 23)).drew).upd hap.2.1 hnm; have e0 := HCELL.out _ _ hm3; have g0 := hm3.frozen 12))
        all_goals
          go_wp2
          go_roundg x3.length
          case measure => omega
          case rel =>
            have hup : Upd [m] w3 (w3.setCell ⟨m, 12, none⟩ (.slice A3 (us.length + 1) c3)) := (Upd.refl _ _).setCell (by simp) _
            have hmS : Blk (w3.setCell ⟨m, 12, none⟩ (.slice A3 (us.length + 1) c3)) m 121 (cs.setIfInBounds 12 (.slice A3 (us.length + 1) c3)) := by
              have := hm3.set_ 12 (.slice A3 (us.length + 1) c3)
              rwa [Array.setIfInBounds_setIfInBounds] at this
            have hAL := HAL.out.step (by omega) (by omega) (by omega) (by decide) (by decide) hu25 hs15 (((Upd.refl [] _).alloc _).drew) hap hup hmS
            have hB4 : ∀ (u : Value) (l : List UInt8), Byt wi B u l → Byt (w3.setCell ⟨m, 12, none⟩ (.slice A3 (us.length + 1) c3)) B u l := fun u l hb => by
              have h1 := Row.drew (Row.alloc (Row.upd hb hu25 (by simp; omega)) (.cells #[.slice A5 ca.length c5] 23))
              exact Row.upd (Row.upd h1 hap.2.1 (fun k hk => by have := (hown15.ge (Option.mem_toList.1 hk)).1; omega)) hup (by simp; omega)
            have hB5 : Byt (w3.setCell ⟨m, 12, none⟩ (.slice A3 (us.length + 1) c3)) B (.slice A5 ca.length c5) ca := by
              have h1 := Row.drew (Row.alloc HYU.out (.cells #[.slice A5 ca.length c5] 23))
              exact Row.upd (Row.upd h1 hap.2.1 (fun k hk => by have := (hown15.ge (Option.mem_toList.1 hk)).1; omega)) hup (by simp; omega)
            refine ⟨x3, _, us ++ [.slice A5 ca.length c5], l ++ [ca], rfl, hAL, ?_, ?_, ?_⟩
            · rw [← List.append_assoc]; exact All2.snoc (HALL.out.imp hB4) hB5
            · rw [HEQ.out, HL2.out]; cases lps 2 x3 <;> simp
            · simp; omega
    rw [decide_eq_false hk18] at d18
    by_cases hk43 : k = 43
    · as_aux_lemma =>
      rw [decide_eq_true hk43] at d43
      have HE2 := hid (show shStep M (k, ed) = (u16P ed).map fun x => { M with sv := x } by rw [hk43]; rfl)
      clear hk43
      by_cases hl2 : ed.length < 2
      · have hx1 := HST.out (by
          rw [HE2.out]
          match ed, hl2 with
          | [], _ => rfl
          | [_], _ => rfl
          | _ :: _ :: _, h => simp at h; omega)
        have H := hid (ReadUint16_bad (ob := m) (k := 13) hsd hl2)
        clear hl2
        go_wp2_with fail
        refine H.out.mono ?_
        rintro e w13 ⟨rfl, hu13⟩
        replace U := U.upd hu13 (by simp)
        go_wp2
        go_ret
        exact HNO.out _ U.up hx1.out
      obtain ⟨z1, z2, r1, rfl⟩ : ∃ x y t, ed = x :: y :: t := by
        match ed, hl2 with
        | [], h => simp at h
        | [_], h => simp at h
        | x :: y :: t, _ => exact ⟨x, y, t, rfl⟩
      clear hl2
      have H := hid (ReadUint16_ok (k := 13) hsd U.ms.blk (by rw [U.ms.len]; exact (by decide : 13 < 23)) (by omega) (by omega))
      have HU := hid (show u16P (z1 :: z2 :: r1) = if r1 = [] then some (UInt16.ofNat (z1.toNat * 256 + z2.toNat)) else none by cases r1 <;> rfl)
      generalize UInt16.ofNat (z1.toNat * 256 + z2.toNat) = z at H HU
      go_wp2_with fail
      refine H.out.mono ?_
      rintro e w13 ⟨rfl, hu13, hsd2, hm13⟩
      have U2 := U.putV (f := .val (wv z)) hu13 (by simp) hm13 rfl rfl
      clear hm13 H
      obtain ⟨A8, c8, e8, e8f, hy8, -⟩ := hsd2.open_
      have HEm := hid (Empty_any hy8)
      clear hy8 e8f
      clear U hu13
      go_wp2_with fail
      refine HEm.out.mono ?_
      rintro e w14 ⟨rfl, rfl⟩
      by_cases he0 : r1 = []
      · have HN := HNX.out { M with sv := z } (by rw [HE2.out, HU.out, if_pos he0]; rfl)
        have UF := U2.cast (show _ = shF (.slice A data.length c) { M with sv := z } he from rfl)
        go_wp2
        go_roundg rest.length
        case measure => omega
        case rel => exact ⟨rest, { M with sv := z }, k :: ks, n + 1, he, _, rfl, hnl2, by show M.scts.length + _ ≤ _; omega, UF.full, HN.out⟩
      · have hx1 := HST.out (by rw [HE2.out, HU.out, if_neg he0]; rfl)
        go_wp2
        go_ret
        exact HNO.out _ U2.up hx1.out
    rw [decide_eq_false hk43] at d43
    by_cases hk44 : k = 44
    · as_aux_lemma =>
      rw [decide_eq_true hk44] at d44
      have HE2 := hid (show shStep M (k, ed) = (vecP1 (lp 2 ed)).map fun x => { M with cookie := x } by rw [hk44]; rfl)
      clear hk44
      have H := hid (tlsLP16_any hsd (k := 21) U.ms.blk (by rw [U.ms.len]; exact (by decide : 21 < 23)) (by omega) (by omega))
      go_wp2_with fail
      refine H.out.mono ?_
      intro e w13 hp
      rcases hr2 : lp 2 ed with _ | ⟨x1, r1⟩
      · obtain ⟨rfl, hu13⟩ := hp.no hr2
        have hx1 := HST.out (by rw [HE2.out, hr2]; rfl)
        clear hr2
        replace U := U.upd hu13 (by simp)
        go_wp2
        go_ret
        exact HNO.out _ U.up hx1.out
      obtain ⟨u1, rfl, hu13, hsd2, hm13, hy13, -⟩ := hp.yes hr2
      have U2 := U.putV (f := .byt x1) hu13 (by simp) hm13 hy13 rfl
      have HR2 := hid hr2
      obtain ⟨A9, c9, rfl, hy13, -, -⟩ := Byt.form hy13 rfl
      clear hr2 hp hm13 H hsd
      have cc := U2.ms.cell (Array.getElem?_setIfInBounds_self_of_lt (by rw [U.ms.len]; exact (by decide : 21 < 23)))
      by_cases hx0 : x1 = []
      · have hx1 := HST.out (by rw [HE2.out, HR2.out, hx0]; cases r1 <;> rfl)
        have hz : ((x1.length : Int) == 0) = true := by rw [hx0]; rfl
        clear hx0
        go_wp2
        go_ret
        exact HNO.out _ U2.up hx1.out
      have hz : ((x1.length : Int) == 0) = false := by have := List.length_pos_iff.2 hx0; rw [beq_eq_false_iff_ne]; omega
      have HX0 := hid hx0
      clear hx0
      obtain ⟨A8, c8, e8, e8f, hy8, -⟩ := hsd2.open_
      have HEm := hid (Empty_any hy8)
      clear hy8 e8f
      clear U hu13 hy13
      go_wp2_with fail
      refine HEm.out.mono ?_
      rintro e w14 ⟨rfl, rfl⟩
      by_cases he0 : r1 = []
      · have HN := HNX.out { M with cookie := x1 } (by
          rw [HE2.out, HR2.out, he0]
          have hx0 := HX0.out
          cases x1 with
          | nil => exact absurd rfl hx0
          | cons y t => rfl)
        have UF := U2.cast (show _ = shF (.slice A data.length c) { M with cookie := x1 } he from rfl)
        go_wp2
        go_roundg rest.length
        case measure => omega
        case rel => exact ⟨rest, { M with cookie := x1 }, k :: ks, n + 1, he, _, rfl, hnl2, by show M.scts.length + _ ≤ _; omega, UF.full, HN.out⟩
      · have hx1 := HST.out (by
          rw [HE2.out, HR2.out]
          cases r1 with
          | nil => exact absurd rfl he0
          | cons y t => cases x1 <;> rfl)
        go_wp2
        go_ret
        exact HNO.out _ U2.up hx1.out
    rw [decide_eq_false hk44] at d44
    by_cases hk51 : k = 51
    · as_aux_lemma =>
      rw [decide_eq_true hk51] at d51
      have HE2 := hid (show shStep M (k, ed) = (if ed.length = 2 then (u16P ed).map fun x => { M with selg := x } else (shareP ed).map fun x => { M with sg := x.1, sd := x.2 }) by rw [hk51]; rfl)
      clear hk51
      obtain ⟨A8, c8, e8, e8f, -, -, -⟩ := hsd.open_
      by_cases hl2 : ed.length = 2
      · have hz2 : ((ed.length : Int) == 2) = true := by rw [beq_iff_eq]; omega
        obtain ⟨z1, z2, rfl⟩ : ∃ x y, ed = [x, y] := by
          match ed, hl2 with
          | [x, y], _ => exact ⟨x, y, rfl⟩
        clear hl2
        have H := hid (ReadUint16_ok (k := 22) hsd U.ms.blk (by rw [U.ms.len]; exact (by decide : 22 < 23)) (by omega) (by omega))
        have HU := hid (show (if [z1, z2].length = 2 then (u16P [z1, z2]).map fun x => { M with selg := x } else (shareP [z1, z2]).map fun x => { M with sg := x.1, sd := x.2 }) = some { M with selg := UInt16.ofNat (z1.toNat * 256 + z2.toNat) } by rfl)
        generalize UInt16.ofNat (z1.toNat * 256 + z2.toNat) = z at H HU
        go_wp2_with fail
        refine H.out.mono ?_
        rintro e w13 ⟨rfl, hu13, hsd2, hm13⟩
        have U2 := U.putV (f := .val (wv z)) hu13 (by simp) hm13 rfl rfl
        clear hm13 H
        obtain ⟨A9, c9, e9, e9f, hy9, -⟩ := hsd2.open_
        have HEm := hid (Empty_any hy9)
        clear hy9 e9f U hu13
        go_wp2_with fail
        refine HEm.out.mono ?_
        rintro e w14 ⟨rfl, rfl⟩
        have HN := HNX.out { M with selg := z } (by rw [HE2.out, HU.out])
        have UF := U2.cast (show _ = shF (.slice A data.length c) { M with selg := z } he from rfl)
        go_wp2
        go_roundg rest.length
        case measure => omega
        case rel => exact ⟨rest, { M with selg := z }, k :: ks, n + 1, he, _, rfl, hnl2, by show M.scts.length + _ ≤ _; omega, UF.full, HN.out⟩
      have hz2 : ((ed.length : Int) == 2) = false := by rw [beq_eq_false_iff_ne]; omega
      replace HE2 : Hid (shStep M (k, ed) = (shareP ed).map fun x => { M with sg := x.1, sd := x.2 }) := hid (by rw [HE2.out, if_neg hl2])
      clear hl2
      go_upto_region 57 with fail
      clear hz2
      by_cases hl2 : ed.length < 2
      · have hx1 := HST.out (by
          rw [HE2.out]
          match ed, hl2 with
          | [], _ => rfl
          | [_], _ => rfl
          | _ :: _ :: _, h => simp at h; omega)
        have H := hid (ReadUint16_bad (ob := m) (k := 14) hsd hl2)
        clear hl2
        go_wp2_with fail
        refine H.out.mono ?_
        rintro e w13 ⟨rfl, hu13⟩
        replace U := U.upd hu13 (by simp)
        go_wp2
        go_ret
        exact HNO.out _ U.up hx1.out
      obtain ⟨z1, z2, r0, rfl⟩ : ∃ x y t, ed = x :: y :: t := by
        match ed, hl2 with
        | [], h => simp at h
        | [_], h => simp at h
        | x :: y :: t, _ => exact ⟨x, y, t, rfl⟩
      clear hl2
      have H := hid (ReadUint16_ok (k := 14) hsd U.ms.blk (by rw [U.ms.len]; exact (by decide : 14 < 23)) (by omega) (by omega))
      replace HE2 : Hid (shStep M (k, z1 :: z2 :: r0) = ((vecP (lp 2 r0)).map fun x => (UInt16.ofNat (z1.toNat * 256 + z2.toNat), x)).map fun x => { M with sg := x.1, sd := x.2 }) := hid (by rw [HE2.out, shareP_two])
      generalize UInt16.ofNat (z1.toNat * 256 + z2.toNat) = z at H HE2
      go_wp2_with fail
      refine H.out.mono ?_
      rintro e w12 ⟨rfl, hu12, hsd12, hm12⟩
      replace U := U.putV (f := .val (wv z)) hu12 (by simp) hm12 rfl rfl
      clear hm12 H hsd hu12 e8 e8f
      have H := hid (tlsLP16_any hsd12 (k := 15) U.ms.blk (by rw [U.ms.len, List.length_set]; exact (by decide : 15 < 23)) (by omega) (by omega))
      go_wp2_with fail
      refine H.out.mono ?_
      intro e w13 hp
      rcases hr2 : lp 2 r0 with _ | ⟨x1, r1⟩
      · obtain ⟨rfl, hu13⟩ := hp.no hr2
        have hx1 := HST.out (by rw [HE2.out, hr2]; rfl)
        clear hr2
        replace U := U.upd hu13 (by simp)
        go_wp2
        go_ret
        exact HNO.out _ U.up hx1.out
      obtain ⟨u1, rfl, hu13, hsd2, hm13, hy13, -⟩ := hp.yes hr2
      have U2 := U.putV (f := .byt x1) hu13 (by simp) hm13 hy13 rfl
      have HR2 := hid hr2
      obtain ⟨A9, c9, e9, e9f, hy9, -⟩ := hsd2.open_
      have HEm := hid (Empty_any hy9)
      clear hr2 hp hm13 H U hu13 hy9 e9f hsd12
      go_wp2_with fail
      refine HEm.out.mono ?_
      rintro e w14 ⟨rfl, rfl⟩
      by_cases he0 : r1 = []
      · have HN := HNX.out { M with sg := z, sd := x1 } (by rw [HE2.out, HR2.out, he0]; rfl)
        have UF := U2.cast (show _ = shF (.slice A data.length c) { M with sg := z, sd := x1 } he from rfl)
        go_wp2
        go_roundg rest.length
        case measure => omega
        case rel => exact ⟨rest, { M with sg := z, sd := x1 }, k :: ks, n + 1, he, _, rfl, hnl2, by show M.scts.length + _ ≤ _; omega, UF.full, HN.out⟩
      · have hx1 := HST.out (by
          rw [HE2.out, HR2.out]
          cases r1 with
          | nil => exact absurd rfl he0
          | cons y t => rfl)
        go_wp2
        go_ret
        exact HNO.out _ U2.up hx1.out
    rw [decide_eq_false hk51] at d51
    by_cases hk41 : k = 41
    · as_aux_lemma =>
      rw [decide_eq_true hk41] at d41
      have HE2 := hid (show shStep M (k, ed) = (u16P ed).map fun x => { M with sip := true, si := x } by rw [hk41]; rfl)
      clear hk41
      obtain ⟨vc16, hcv16, -⟩ := U.ms.get (i := 16) rfl
      have cc16 := U.ms.cell hcv16
      have ff16 := U.ms.blk.frozen 16
      have huS16 : Upd [m] w11 (w11.setCell ⟨m, 16, none⟩ (.bool true)) := (Upd.refl _ _).setCell (by simp) _
      have UX := U.putV (f := .val (.bool true)) huS16 (by simp) (U.ms.blk.set_ 16 (.bool true)) rfl rfl
      have hsdX := hsd.upd huS16 (by simp; omega) (by simp; omega)
      clear hcv16
      clear U hsd
      have U := UX
      have hsd := hsdX
      clear UX hsdX
      obtain ⟨wX, hwX⟩ : ∃ wX, w11.setCell ⟨m, 16, none⟩ (.bool true) = wX := ⟨_, rfl⟩
      rw [hwX] at U hsd
      have HWX := hid hwX
      clear hwX huS16
      by_cases hl2 : ed.length < 2
      · have hx1 := HST.out (by
          rw [HE2.out]
          match ed, hl2 with
          | [], _ => rfl
          | [_], _ => rfl
          | _ :: _ :: _, h => simp at h; omega)
        have H := hid (ReadUint16_bad (ob := m) (k := 17) hsd hl2)
        clear hl2
        go_wp2_with fail
        rw [HWX.out]
        refine H.out.mono ?_
        rintro e w13 ⟨rfl, hu13⟩
        replace U := U.upd hu13 (by simp)
        go_wp2
        go_ret
        exact HNO.out _ U.up hx1.out
      obtain ⟨z1, z2, r1, rfl⟩ : ∃ x y t, ed = x :: y :: t := by
        match ed, hl2 with
        | [], h => simp at h
        | [_], h => simp at h
        | x :: y :: t, _ => exact ⟨x, y, t, rfl⟩
      clear hl2
      have H := hid (ReadUint16_ok (k := 17) hsd U.ms.blk (by rw [U.ms.len]; exact (by decide : 17 < 23)) (by omega) (by omega))
      have HU := hid (show u16P (z1 :: z2 :: r1) = if r1 = [] then some (UInt16.ofNat (z1.toNat * 256 + z2.toNat)) else none by cases r1 <;> rfl)
      generalize UInt16.ofNat (z1.toNat * 256 + z2.toNat) = z at H HU
      go_wp2_with fail
      rw [HWX.out]
      refine H.out.mono ?_
      rintro e w13 ⟨rfl, hu13, hsd2, hm13⟩
      have U2 := U.putV (f := .val (wv z)) hu13 (by simp) hm13 rfl rfl
      clear hm13 H
      obtain ⟨A8, c8, e8, e8f, hy8, -⟩ := hsd2.open_
      have HEm := hid (Empty_any hy8)
      clear hy8 e8f
      clear U hu13
      go_wp2_with fail
      refine HEm.out.mono ?_
      rintro e w14 ⟨rfl, rfl⟩
      by_cases he0 : r1 = []
      · have HN := HNX.out { M with sip := true, si := z } (by rw [HE2.out, HU.out, if_pos he0]; rfl)
        have UF := U2.cast (show _ = shF (.slice A data.length c) { M with sip := true, si := z } he from rfl)
        go_wp2
        go_roundg rest.length
        case measure => omega
        case rel => exact ⟨rest, { M with sip := true, si := z }, k :: ks, n + 1, he, _, rfl, hnl2, by show M.scts.length + _ ≤ _; omega, UF.full, HN.out⟩
      · have hx1 := HST.out (by rw [HE2.out, HU.out, if_neg he0]; rfl)
        go_wp2
        go_ret
        exact HNO.out _ U2.up hx1.out
    rw [decide_eq_false hk41] at d41
    by_cases hk11 : k = 11
    · as_aux_lemma =>
      rw [decide_eq_true hk11] at d11
      have HE2 := hid (show shStep M (k, ed) = (vecP1 (lp 1 ed)).map fun x => { M with pts := x } by rw [hk11]; rfl)
      clear hk11
      have H := hid (tlsLP8_any hsd (k := 18) U.ms.blk (by rw [U.ms.len]; exact (by decide : 18 < 23)) (by omega) (by omega))
      go_wp2_with fail
      refine H.out.mono ?_
      intro e w13 hp
      rcases hr2 : lp 1 ed with _ | ⟨x1, r1⟩
      · obtain ⟨rfl, hu13⟩ := hp.no hr2
        have hx1 := HST.out (by rw [HE2.out, hr2]; rfl)
        clear hr2
        replace U := U.upd hu13 (by simp)
        go_wp2
        go_ret
        exact HNO.out _ U.up hx1.out
      obtain ⟨u1, rfl, hu13, hsd2, hm13, hy13, -⟩ := hp.yes hr2
      have U2 := U.putV (f := .byt x1) hu13 (by simp) hm13 hy13 rfl
      have HR2 := hid hr2
      obtain ⟨A9, c9, rfl, hy13, -, -⟩ := Byt.form hy13 rfl
      clear hr2 hp hm13 H hsd
      have cc := U2.ms.cell (Array.getElem?_setIfInBounds_self_of_lt (by rw [U.ms.len]; exact (by decide : 18 < 23)))
      by_cases hx0 : x1 = []
      · have hx1 := HST.out (by rw [HE2.out, HR2.out, hx0]; cases r1 <;> rfl)
        have hz : ((x1.length : Int) == 0) = true := by rw [hx0]; rfl
        clear hx0
        go_wp2
        go_ret
        exact HNO.out _ U2.up hx1.out
      have hz : ((x1.length : Int) == 0) = false := by have := List.length_pos_iff.2 hx0; rw [beq_eq_false_iff_ne]; omega
      have HX0 := hid hx0
      clear hx0
      obtain ⟨A8, c8, e8, e8f, hy8, -⟩ := hsd2.open_
      have HEm := hid (Empty_any hy8)
      clear hy8 e8f
      clear U hu13 hy13
      go_wp2_with fail
      refine HEm.out.mono ?_
      rintro e w14 ⟨rfl, rfl⟩
      by_cases he0 : r1 = []
      · have HN := HNX.out { M with pts := x1 } (by
          rw [HE2.out, HR2.out, he0]
          have hx0 := HX0.out
          cases x1 with
          | nil => exact absurd rfl hx0
          | cons y t => rfl)
        have UF := U2.cast (show _ = shF (.slice A data.length c) { M with pts := x1 } he from rfl)
        go_wp2
        go_roundg rest.length
        case measure => omega
        case rel => exact ⟨rest, { M with pts := x1 }, k :: ks, n + 1, he, _, rfl, hnl2, by show M.scts.length + _ ≤ _; omega, UF.full, HN.out⟩
      · have hx1 := HST.out (by
          rw [HE2.out, HR2.out]
          cases r1 with
          | nil => exact absurd rfl he0
          | cons y t => cases x1 <;> rfl)
        go_wp2
        go_ret
        exact HNO.out _ U2.up hx1.out
    rw [decide_eq_false hk11] at d11
    by_cases hk65037 : k = 65037
    · as_aux_lemma =>
      rw [decide_eq_true hk65037] at d65037
      have HE2 := hid (show shStep M (k, ed) = some { M with ech := ed } by rw [hk65037]; rfl)
      clear hk65037
      have HN := HNX.out { M with ech := ed } HE2.out
      obtain ⟨A8, c8, e8, e8f, hy8, -⟩ := hsd.open_
      obtain ⟨vc, hcv, -⟩ := U.ms.get (i := 19) rfl
      have hcell : ∀ wN, Upd [] w11 wN → wN.cell? ⟨m, 19, none⟩ = some vc ∧ wN.frozen? ⟨m, 19, none⟩ = false := fun wN hu => ⟨(U.upd hu (by simp)).ms.cell hcv, (U.upd hu (by simp)).ms.blk.frozen 19⟩
      have HCELL := hid hcell
      clear hcell hcv
      go_wp2_with (at_make; refine wpList_newBytes rfl _ _ rfl ed.length rfl rfl (by omega) ?_; intro wN zs hzs hzN huN; obtain ⟨r0, z0⟩ := HCELL.out wN huN)
      obtain ⟨g', hg'⟩ : ∃ g', w11.heap.size = g' := ⟨_, rfl⟩
      have hgg : g + 1 < g' := by omega
      rw [hg'] at hzN ⊢
      have huS : Upd [m] wN (wN.setCell ⟨m, 19, none⟩ (.slice (some ⟨g', 0, none⟩) ed.length ed.length)) := (Upd.refl _ _).setCell (by simp) _
      have hsdS := (hsd.upd huN (by simp) (by simp)).upd huS (by simp; omega) (by simp; omega)
      have hzS := (huS.block g' (Array.getElem?_eq_some_iff.1 hzN).1 (by simp; omega)).trans hzN
      have hUN := U.upd huN (by simp)
      have hmS := hUN.ms.blk.set_ 19 (.slice (some ⟨g', 0, none⟩) ed.length ed.length)
      have hWS : ∃ wS, wN.setCell ⟨m, 19, none⟩ (.slice (some ⟨g', 0, none⟩) ed.length ed.length) = wS := ⟨_, rfl⟩
      obtain ⟨wS, hWS⟩ := hWS
      rw [hWS] at huS hsdS hzS hmS ⊢
      clear hWS r0 z0 hzN huN e8 e8f hy8 U hsd k0 hb11
      refine (CopyBytes_any hsdS hzS hzs (by omega) (by omega)).mono ?_
      rintro e w13 ⟨rfl, hu13, hs13, hh13⟩
      obtain ⟨A9, c9, e9, -, hy9, -⟩ := hs13.open_
      have HE3 := hid (Empty_any hy9)
      have hm13 := hmS.upd hu13 (by simp; omega)
      have hg13 : g' < w13.heap.size := (Array.getElem?_eq_some_iff.1 hh13).1
      have hcp : Cpy w13 (mb + 1) (.slice (some ⟨g', 0, none⟩) ed.length ed.length) ed := ⟨g', ed.length, rfl, by omega, Nat.le_refl _, by unfold maxLen; omega, hh13⟩
      have U2 := hUN.put (i := 19) (f := .cpy true ed) ((huS.mono (S' := [m, g + 1, g']) (by simp)).trans hu13 (by simp)) (by simp; omega) hm13 (.inl ⟨rfl, hcp⟩) (fun _ h hh => .inl (by have h9 : g' = h := (by simpa [Value.ownBlock] using hh); exact ⟨by omega, by omega⟩)) (by have := hUN.lt; have := huS.size; have := hu13.size; omega) (Nat.le_refl _)
      clear hmS hu13 hsdS hzS hh13 hy9 hs13 huS hm13 hUN hcp
      go_wp2_with fail
      refine HE3.out.mono ?_
      rintro e w14 ⟨rfl, rfl⟩
      have UF := U2.cast (show _ = shF (.slice A data.length c) { M with ech := ed } true from rfl)
      go_wp2
      go_roundg rest.length
      case measure => omega
      case rel => exact ⟨rest, { M with ech := ed }, k :: ks, n + 1, true, _, rfl, hnl2, by show M.scts.length + _ ≤ _; omega, UF.full, HN.out⟩
    rw [decide_eq_false hk65037] at d65037
    by_cases hk0 : k = 0
    · as_aux_lemma =>
      rw [decide_eq_true hk0] at d0
      have HE2 := hid (show shStep M (k, ed) = (if ed = [] then some { M with ack := true } else none) by rw [hk0]; rfl)
      clear hk0
      obtain ⟨A7, c7', e7', e7f, -, -, -⟩ := hsd.open_
      by_cases he0 : ed = []
      · have HN := HNX.out { M with ack := true } (by rw [HE2.out, if_pos he0])
        subst he0
        obtain ⟨vc20, hcv20, -⟩ := U.ms.get (i := 20) rfl
        have cc20 := U.ms.cell hcv20
        have ff20 := U.ms.blk.frozen 20
        have huS20 : Upd [m] w11 (w11.setCell ⟨m, 20, none⟩ (.bool true)) := (Upd.refl _ _).setCell (by simp) _
        have U2 := U.putV (f := .val (.bool true)) huS20 (by simp) (U.ms.blk.set_ 20 (.bool true)) rfl rfl
        have hsd2 := hsd.upd huS20 (by simp; omega) (by simp; omega)
        clear hcv20
        obtain ⟨A8, c8, e8, e8f, hy8, -⟩ := hsd2.open_
        have HEm := hid (Empty_any hy8)
        clear hy8 e8f
        go_wp2_with fail
        refine HEm.out.mono ?_
        rintro e w12 ⟨rfl, rfl⟩
        have UF := U2.cast (show _ = shF (.slice A data.length c) { M with ack := true } he from rfl)
        go_wp2
        go_roundg rest.length
        case measure => omega
        case rel => exact ⟨rest, { M with ack := true }, k :: ks, n + 1, he, _, rfl, hnl2, by show M.scts.length + _ ≤ _; omega, UF.full, HN.out⟩
      · have hx1 := HST.out (by rw [HE2.out, if_neg he0])
        have hne : ((ed.length : Int) != 0) = true := by
          rw [bne_iff_ne]
          intro h
          exact he0 (List.eq_nil_of_length_eq_zero (by omega))
        clear he0
        go_wp2
        go_ret
        exact HNO.out _ U.up hx1.out
    rw [decide_eq_false hk0] at d0
    have HN := HNX.out M (by unfold shStep; simp only; rw [if_neg hk5, if_neg hk35, if_neg hk65281, if_neg hk23, if_neg hk16, if_neg hk18, if_neg hk43, if_neg hk44, if_neg hk51, if_neg hk41, if_neg hk11, if_neg hk65037, if_neg hk0])
    clear hk5 hk35 hk65281 hk23 hk16 hk18 hk43 hk44 hk51 hk41 hk11 hk65037 hk0
    have UF := U.cast (show _ = shF (.slice A data.length c) M he from rfl)
    go_wp2
    go_roundg rest.length
    case measure => omega
    case rel => exact ⟨rest, M, k :: ks, n + 1, he, _, rfl, hnl2, by show M.scts.length + _ ≤ _; omega, UF.full, HN.out⟩
end
end Go.Proofs.Ytcikeghdlolkaaa

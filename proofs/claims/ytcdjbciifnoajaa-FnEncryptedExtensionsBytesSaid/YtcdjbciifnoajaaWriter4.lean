/- Contracts of the reference's writers that hand back a writer, and of message. -/
import Derived.Test.YtcdjbciifnoajaaWriter3
namespace Go.Proofs.Ytcdjbciifnoajaa
open Go.RowKit
set_option maxRecDepth 20000

theorem Row.shrink {w : World} {B : Nat} {v : Value} {xs : List Value} (h : Row w B v xs) : Row w w.heap.size v xs := by
  obtain ⟨A, c, rfl, h1, h2, h3, h4⟩ := h
  refine ⟨A, c, rfl, h1, h2, h3, fun hn => ?_⟩
  obtain ⟨b, o, rfl, hb, hc⟩ := h4 hn
  obtain ⟨x, t, rfl⟩ : ∃ x t, xs = x :: t := by cases xs with | nil => exact absurd rfl hn | cons x t => exact ⟨x, t, rfl⟩
  exact ⟨b, o, rfl, World.block_lt_of_cell? w _ (hc 0 x rfl), hc⟩

/-- the value is a new slice, or nil -/
def NewFrom (n : Nat) (v : Value) : Prop := ∀ k, v.ownBlock = some k → n ≤ k

/-- a writer handed back by value, its bytes in new memory -/
def WValP (w : World) (x : Wr) (e : Ending) (w' : World) : Prop :=
  ∃ v, e = .returned (.agg #[v, .bool x.bad]) ∧ Byt w' w'.heap.size v x.b ∧ NewFrom w.heap.size v ∧ isSlice v ∧ Upd [] w w'

/-- a message handed back: its bytes in new memory, and whether nothing in it was too long -/
def MsgP (w : World) (x : Wr) (e : Ending) (w' : World) : Prop :=
  ∃ v, e = .returned (.tuple #[v, .bool (!x.bad)]) ∧ Byt w' w'.heap.size v x.b ∧ NewFrom w.heap.size v ∧ isSlice v ∧ Upd [] w w'

section
variable {w w' : World} {v content : Value} {s : Wr} {xs : List UInt8}

/-- a writer that the call itself has made, at its end -/
theorem WrtP.ends {base p : Nat} {w0 : World} {v0 : Value} (hp : w.heap.size ≤ p) (h0 : v0.ownBlock = none) (hu : Upd [] w w0) {e : Ending} {w2 : World} (h : WrtP w0 base p v0 s e w2) :
    ∃ v', Blk w2 p 57 #[v', .bool s.bad] ∧ Byt w2 w2.heap.size v' s.b ∧ isSlice v' ∧ NewFrom w.heap.size v' ∧ Upd [] w w2 ∧ Wrt w2 base p v' s := by
  obtain ⟨he, v', h1, h2, h3⟩ := h
  refine ⟨v', h1.2.1, h1.2.2.row, ?_, ?_, ?_, h1⟩
  · obtain ⟨A, c, e, _⟩ := h1.2.2.form
    exact ⟨A, _, c, e⟩
  · intro k hk
    rcases h3 with h3 | ⟨g, hg, hge⟩
    · rw [h3, h0] at hk; cases hk
    · rw [hg] at hk
      injection hk with hk
      have := hu.size
      omega
  · refine hu.trans h2 ?_
    intro k hk
    rw [h0] at hk
    simp at hk
    omega

/-- two methods of the writer, one behind the other -/
theorem WrtP.after {base p : Nat} {w1 w2 : World} {v v1 : Value} {e : Ending} (hu : Upd (p :: v.ownBlock.toList) w w1) (hv : v1.ownBlock = v.ownBlock ∨ ∃ g, v1.ownBlock = some g ∧ w.heap.size ≤ g)
    (h : WrtP w1 base p v1 s e w2) : WrtP w base p v s e w2 := by
  obtain ⟨he, v', h1, h2, h3⟩ := h
  have hsz := hu.size
  refine ⟨he, v', h1, hu.trans h2 ?_, ?_⟩
  · intro k hk
    rcases List.mem_cons.1 hk with rfl | hk
    · simp
    · rcases hv with hv | ⟨g, hg, hge⟩
      · rw [hv] at hk; left; exact List.mem_cons_of_mem _ hk
      · rw [hg] at hk; right; simp at hk; omega
  · rcases h3 with h3 | ⟨g, hg, hge⟩
    · rw [h3]; exact hv
    · exact .inr ⟨g, hg, by omega⟩

theorem wrt_new (w : World) : Wrt (w.alloc (.cells #[.slice none 0 0, .bool false] 57)) w.heap.size w.heap.size (.slice none 0 0) Wr.nil :=
  ⟨Nat.le_refl _, Blk.new _ _ _, Own.nil_ _ _ _⟩

set_option maxHeartbeats 1000000 in
theorem message_any (kind : Nat) (xb : Bool) {B : Nat} (hc : Byt w B content xs) (hx : xs.length ≤ 1099511627776) :
    Calls Try.prog 35 #[.int .i64 kind, .agg #[content, .bool xb]] w (MsgP w (messageW kind ⟨xs, xb⟩)) := by
  obtain ⟨Ax, cx, rfl, hc, -⟩ := Byt.form hc rfl
  have hc' := Row.shrink hc
  have HX := hid hx
  clear hx
  obtain ⟨w0, hw0⟩ : ∃ w0, w0 = w.alloc (.cells #[.slice Ax xs.length cx, .bool xb] 57) := ⟨_, rfl⟩
  have hw := wrt_new w0
  have hsz : w0.heap.size = w.heap.size + 1 := by rw [hw0]; simp
  have hu0 : Upd [] w w0 := by rw [hw0]; exact (Upd.refl _ _).alloc _
  have hb0 : Blk w0 w.heap.size 57 #[.slice Ax xs.length cx, .bool xb] := by rw [hw0]; exact Blk.new _ _ _
  have hc0 : Byt w0 w.heap.size (.slice Ax xs.length cx) xs := by rw [hw0]; exact Row.alloc hc' _
  have HW0 := hid hw0
  rw [hsz] at hw
  have hu1 := hu0.alloc (.cells #[.slice none 0 0, .bool false] 57)
  have hb1 := hb0.alloc (.cells #[.slice none 0 0, .bool false] 57)
  have hc1 := Row.alloc hc0 (.cells #[.slice none 0 0, .bool false] 57)
  have hn := wnum_any hw 1 kind (by omega) (by simp [Wr.nil])
  rw [HW0.out] at hn
  have HN := hid hn
  clear hn
  go_enter Try.func35, Try.ntmps35
  go_wp2_with fail
  refine HN.out.mono ?_
  rintro e w2 ⟨rfl, v2, hw2, hu2, hv2⟩
  rw [← HW0.out] at hu2 hv2
  have hb2 := hb1.upd hu2 (by simp [Value.ownBlock])
  have d0 := hb2.cell 0
  have d1 := hb2.cell 1
  simp at d0 d1
  have hc2 : Byt w2 w.heap.size (.slice Ax xs.length cx) xs := Row.upd hc1 hu2 (by simp [Value.ownBlock])
  obtain ⟨Av, cv, hv2e, -, -⟩ := hw2.2.2.form
  go_wp2_with fail
  refine (winner_any3 hw2 ⟨_, hc2, .inl (by omega)⟩ xb (by simp [Wr.num, Wr.nil, be_len]) HX.out).mono ?_
  intro e w3 hp3
  have he := hp3.1
  subst he
  have hp3' := WrtP.after hu2 hv2 hp3
  obtain ⟨v4, hb4, hy4, hs4, hn4, hu4, -⟩ := hp3'.ends (w := w) (by omega) rfl hu1
  obtain ⟨A4, n4, c4, rfl⟩ := hs4
  have e0 := hb4.cell 0
  have e1 := hb4.cell 1
  simp at e0 e1
  go_wp2
  go_quiet (fail)
  go_wp2
  go_ret2
  exact ⟨.slice A4 n4 c4, rfl, Row.drewN hy4 _, hn4, ⟨_, _, _, rfl⟩, hu4.drewN _⟩

theorem plain_any {B : Nat} (hc : Byt w B content xs) :
    Calls Try.prog 58 #[content] w fun e w' => e = .returned (.agg #[content, .bool false]) ∧ Upd [] w w' := by
  obtain ⟨Ax, cx, rfl, hc, -⟩ := Byt.form hc rfl
  go_enter Try.func58, Try.ntmps58
  go_wp2
  exact bodyPost_ret (v := .agg #[.slice Ax xs.length cx, .bool false]) (by simp [results, Try.results58, go_sem]) rfl ⟨rfl, (Upd.refl _ _).alloc _⟩

/-- a writer handed back through a result's cells -/
theorem wval_end {r0 base p : Nat} {x : Wr} {w2 : World} {v4 u0 u1 : Value} (hr0 : w.heap.size ≤ r0) (hb2 : Blk w2 r0 57 #[u0, u1]) (h : Wrt w2 base p v4 x) (hn : NewFrom w.heap.size v4) (hu : Upd [] w w2) :
    Blk ((w2.setCell ⟨r0, 0, none⟩ v4).setCell ⟨r0, 1, none⟩ (.bool x.bad)) r0 57 #[v4, .bool x.bad] ∧
    WValP w x (.returned (.agg #[v4, .bool x.bad])) ((w2.setCell ⟨r0, 0, none⟩ v4).setCell ⟨r0, 1, none⟩ (.bool x.bad)) := by
  have hu1 : Upd [r0] w2 ((w2.setCell ⟨r0, 0, none⟩ v4).setCell ⟨r0, 1, none⟩ (.bool x.bad)) := ((Upd.refl _ _).setCell (by simp) _).setCell (by simp) _
  have ho := h.2.2.upd hu1 (fun g hg hm => by
    simp at hm
    exact h.2.2.ne hb2 (by decide) g hg hm)
  obtain ⟨A, c, e, _⟩ := h.2.2.form
  refine ⟨?_, v4, rfl, ho.row, hn, ⟨A, _, c, e⟩, hu.trans hu1 (by simp; omega)⟩
  have := (hb2.set_ 0 v4).set_ 1 (.bool x.bad)
  simpa using this
def numberW (size n : Nat) : Wr := Wr.nil.num size n
set_option maxHeartbeats 1000000 in
theorem number_any (size n : Nat) (hs : size ≤ 4) :
    Calls Try.prog 40 #[.int .i64 size, .int .i64 n] w (WValP w (numberW size n)) := by
  obtain ⟨w0, hw0⟩ : ∃ w0, w0 = w.alloc (.cells #[.slice none 0 0, .bool false] 57) := ⟨_, rfl⟩
  have hw := wrt_new w0
  have hsz : w0.heap.size = w.heap.size + 1 := by rw [hw0]; simp
  have hu0 : Upd [] w w0 := by rw [hw0]; exact (Upd.refl _ _).alloc _
  have hb0 : Blk w0 w.heap.size 57 #[.slice none 0 0, .bool false] := by rw [hw0]; exact Blk.new _ _ _
  have HW0 := hid hw0
  rw [hsz] at hw
  have hu1 := hu0.alloc (.cells #[.slice none 0 0, .bool false] 57)
  have hb1 := hb0.alloc (.cells #[.slice none 0 0, .bool false] 57)
  have hn := wnum_any hw size n hs (by simp [Wr.nil])
  rw [HW0.out] at hn
  have HN := hid hn
  clear hn
  go_enter Try.func40, Try.ntmps40
  go_wp2_with fail
  refine HN.out.mono ?_
  intro e w2 hp2
  have he := hp2.1
  subst he
  rw [← HW0.out] at hp2
  have hb2 : Blk w2 w.heap.size 57 #[.slice none 0 0, .bool false] := by
    obtain ⟨_, _, _, hu2, _⟩ := hp2
    exact hb1.upd hu2 (by simp [Value.ownBlock])
  obtain ⟨v4, hb4, hy4, hs4, hn4, hu4, hw4⟩ := hp2.ends (w := w) (by omega) rfl hu1
  obtain ⟨A4, n4, c4, rfl⟩ := hs4
  have d0 := hb2.cell 0
  have d1 := hb2.cell 1
  have g0 := hb2.frozen 0
  have g1 := hb2.frozen 1
  have e0 := hb4.cell 0
  have e1 := hb4.cell 1
  simp at e0 e1 d0 d1
  go_wp2
  obtain ⟨hb5, hend⟩ := wval_end (Nat.le_refl _) hb2 hw4 hn4 hu4
  have k0 := hb5.cell 0
  have k1 := hb5.cell 1
  simp only [List.getElem?_toArray, List.getElem?_cons_zero, List.getElem?_cons_succ] at k0 k1
  exact bodyPost_ret (v := .agg #[.slice A4 n4 c4, .bool (Wr.nil.num size n).bad]) (by simp [results, Try.results40, go_sem, k0, k1]) rfl hend
end
end Go.Proofs.Ytcdjbciifnoajaa

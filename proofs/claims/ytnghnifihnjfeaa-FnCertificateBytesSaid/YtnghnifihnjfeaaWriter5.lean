/- Contracts of the reference's functions that make a writer and hand it back. -/
import Derived.Test.YtnghnifihnjfeaaWriter4
namespace Go.Proofs.Ytnghnifihnjfeaa
open Go.RowKit
set_option maxRecDepth 20000

section
variable {w w' : World} {v content : Value} {s : Wr} {xs : List UInt8}

/-- the world in which the result's cells and the writer have been made -/
def W1 (w : World) : World := (w.alloc (.cells #[.slice none 0 0, .bool false] 76)).alloc (.cells #[.slice none 0 0, .bool false] 76)
theorem W1_eq (w : World) : (w.alloc (.cells #[.slice none 0 0, .bool false] 76)).alloc (.cells #[.slice none 0 0, .bool false] 76) = W1 w := rfl
theorem W1_size (w : World) : (W1 w).heap.size = w.heap.size + 2 := by simp [W1]
theorem W1_upd (w : World) : Upd [] w (W1 w) := ((Upd.refl _ _).alloc _).alloc _
theorem W1_res (w : World) : Blk (W1 w) w.heap.size 76 #[.slice none 0 0, .bool false] := (Blk.new w _ _).alloc _
theorem W1_wrt (w : World) : Wrt (W1 w) (w.heap.size + 1) (w.heap.size + 1) (.slice none 0 0) Wr.nil := by
  have h := wrt_new (w.alloc (.cells #[.slice none 0 0, .bool false] 76))
  rw [show (w.alloc (.cells #[.slice none 0 0, .bool false] 76)).heap.size = w.heap.size + 1 by simp] at h
  exact h
/-- the state of a function that makes a writer: what its writer has written so far -/
def WMid (w : World) (s : Wr) (w' : World) : Prop := WrtP (W1 w) (w.heap.size + 1) (w.heap.size + 1) (.slice none 0 0) s (.returned (.tuple #[])) w'
theorem WMid.start (w : World) : WMid w Wr.nil (W1 w) := ⟨rfl, _, W1_wrt w, Upd.refl _ _, .inl rfl⟩
theorem WMid.open_ (h : WMid w s w') : ∃ v', Wrt w' (w.heap.size + 1) (w.heap.size + 1) v' s ∧ Upd ((w.heap.size + 1) :: (Value.slice none 0 0).ownBlock.toList) (W1 w) w' ∧
    (v'.ownBlock = (Value.slice none 0 0).ownBlock ∨ ∃ g, v'.ownBlock = some g ∧ (W1 w).heap.size ≤ g) := by
  obtain ⟨_, v', h1, h2, h3⟩ := h
  exact ⟨v', h1, h2, h3⟩
theorem WMid.next (_h : WMid w s w') {v' : Value} {s' : Wr} {e : Ending} {w2 : World} (hv : Upd ((w.heap.size + 1) :: (Value.slice none 0 0).ownBlock.toList) (W1 w) w' ∧
    (v'.ownBlock = (Value.slice none 0 0).ownBlock ∨ ∃ g, v'.ownBlock = some g ∧ (W1 w).heap.size ≤ g)) (hp : WrtP w' (w.heap.size + 1) (w.heap.size + 1) v' s' e w2) : e = .returned (.tuple #[]) ∧ WMid w s' w2 := by
  obtain rfl := hp.1
  exact ⟨rfl, WrtP.after hv.1 hv.2 hp⟩
theorem WMid.upd (h : WMid w s w') : Upd [] w w' := by
  obtain ⟨v', h1, h2, h3⟩ := h.open_
  exact (W1_upd w).trans h2 (by simp [Value.ownBlock])
theorem WMid.byt (h : WMid w s w') {B : Nat} (hc : Byt w B content xs) : Byt w' w.heap.size content xs := Row.upd (Row.shrink hc) h.upd (by simp)
theorem WMid.src (h : WMid w s w') {B : Nat} (hc : Byt w B content xs) (v' : Value) : Src w' (w.heap.size + 1) (w.heap.size + 1) v' content xs := ⟨_, h.byt hc, .inl (by omega)⟩
/-- at the end -/
theorem WMid.fin (h : WMid w s w') : ∃ A n c, w'.cell? ⟨w.heap.size + 1, 0, none⟩ = some (.slice A n c) ∧ w'.cell? ⟨w.heap.size + 1, 1, none⟩ = some (.bool s.bad) ∧
    w'.cell? ⟨w.heap.size, 0, none⟩ = some (.slice none 0 0) ∧ w'.cell? ⟨w.heap.size, 1, none⟩ = some (.bool false) ∧ w'.frozen? ⟨w.heap.size, 0, none⟩ = false ∧ w'.frozen? ⟨w.heap.size, 1, none⟩ = false ∧
    ((w'.setCell ⟨w.heap.size, 0, none⟩ (.slice A n c)).setCell ⟨w.heap.size, 1, none⟩ (.bool s.bad)).cell? ⟨w.heap.size, 0, none⟩ = some (.slice A n c) ∧
    ((w'.setCell ⟨w.heap.size, 0, none⟩ (.slice A n c)).setCell ⟨w.heap.size, 1, none⟩ (.bool s.bad)).cell? ⟨w.heap.size, 1, none⟩ = some (.bool s.bad) ∧
    WValP w s (.returned (.agg #[.slice A n c, .bool s.bad])) ((w'.setCell ⟨w.heap.size, 0, none⟩ (.slice A n c)).setCell ⟨w.heap.size, 1, none⟩ (.bool s.bad)) := by
  obtain ⟨v', h1, h2, h3⟩ := h.open_
  have hb : Blk w' w.heap.size 76 #[.slice none 0 0, .bool false] := (W1_res w).upd h2 (by simp [Value.ownBlock])
  have hn : NewFrom w.heap.size v' := by
    intro k hk
    rcases h3 with h3 | ⟨g, hg, hge⟩
    · rw [h3] at hk; cases hk
    · rw [hg] at hk
      injection hk with hk
      have := W1_size w
      omega
  obtain ⟨hb5, hend⟩ := wval_end (Nat.le_refl _) hb h1 hn h.upd
  obtain ⟨A, c, rfl, _⟩ := h1.2.2.form
  refine ⟨A, _, c, ?_, ?_, ?_, ?_, hb.frozen 0, hb.frozen 1, ?_, ?_, hend⟩
  · rw [h1.2.1.cell]; rfl
  · rw [h1.2.1.cell]; rfl
  · rw [hb.cell]; rfl
  · rw [hb.cell]; rfl
  · rw [hb5.cell]; rfl
  · rw [hb5.cell]; rfl

def stapleW (xs : List UInt8) : Wr := (Wr.nil.num 1 1).vec 3 xs
set_option maxHeartbeats 1000000 in
theorem staple_any {B : Nat} (hc : Byt w B content xs) (hx : xs.length ≤ 1099511627776) :
    Calls Try.prog 62 #[content] w (WValP w (stapleW xs)) := by
  have hm0 := WMid.start w
  obtain ⟨v0, k0, hv0⟩ := hm0.open_
  have HN := hid (wnum_any k0 1 1 (by omega) (by simp [Wr.nil]))
  have HX := hid hx
  clear hx
  go_enter Try.func62, Try.ntmps62
  go_wp2_with fail
  rw [W1_eq]
  refine HN.out.mono ?_
  intro e w2 hp2
  obtain ⟨rfl, hm2⟩ := hm0.next hv0 hp2
  go_wp2_with fail
  obtain ⟨v2, k2, hv2⟩ := hm2.open_
  refine (wvec_any3 k2 (hm2.src hc v2) (by simp [Wr.num, Wr.nil, be_len]) HX.out).mono ?_
  intro e w3 hp3
  obtain ⟨rfl, hm3⟩ := hm2.next hv2 hp3
  obtain ⟨A, n, c, c0, c1, d0, d1, g0, g1, e0, e1, hend⟩ := hm3.fin
  go_wp2
  exact bodyPost_ret (v := .agg #[.slice A n c, .bool _]) (by simp [results, Try.results62, go_sem, e0, e1]) rfl hend

def wordsB (ns : List UInt16) : List UInt8 := ns.flatMap fun n => be 2 n.toNat
def wordsW (ns : List UInt16) : Wr := ⟨wordsB ns, false⟩
theorem wordsB_len (ns : List UInt16) : (wordsB ns).length = 2 * ns.length := by
  induction ns with
  | nil => rfl
  | cons n ns ih =>
    have : wordsB (n :: ns) = be 2 n.toNat ++ wordsB ns := rfl
    rw [this, List.length_append, be_len, ih, List.length_cons]; omega
theorem wordsB_snoc (ns : List UInt16) (n : UInt16) : wordsB (ns ++ [n]) = wordsB ns ++ be 2 n.toNat := by simp [wordsB]

set_option maxHeartbeats 1000000 in
theorem words_any_w {ns : List UInt16} {B : Nat} (hc : Row w B content (ns.map wv)) (hx : ns.length ≤ 1099511627776) :
    Calls Try.prog 95 #[content] w (WValP w (wordsW ns)) := by
  have hm0 := WMid.start w
  have HX := hid hx
  obtain ⟨A, c, rfl, hcr, hlc, hm⟩ := Row.formN (n := ns.length) (Row.shrink hc) (by simp)
  clear hx hc
  go_enter Try.func95, Try.ntmps95
  go_wp2_with fail
  rw [W1_eq]
  go_loopg [5, 8] ns.length (fun gk _ i wr => ∃ j : Nat, j + gk = ns.length ∧ i = .int .i64 j ∧ WMid w (wordsW (ns.take j)) wr)
  case atStart => exact ⟨0, by omega, rfl, by simpa [wordsW, wordsB, Wr.nil] using hm0⟩
  case round =>
    obtain ⟨j, hj0, rfl, hmr⟩ := hrel
    have hj : j ≤ ns.length := by omega
    have HJ := hid hj0
    clear hj0
    by_cases hlt : j < ns.length
    · have hcw := Row.upd hcr hmr.upd (by simp)
      obtain ⟨b, o, rfl, hb, hj', hcell⟩ := hcw.at_ hlt
      rw [List.getElem_map] at hcell
      obtain ⟨vr, kr, hvr⟩ := hmr.open_
      have hlen : (wordsW (ns.take j)).b.length ≤ 17592186044416 := by
        have h1 := HX.out
        show (wordsB _).length ≤ _
        rw [wordsB_len, List.length_take]; omega
      have HN := hid (wnum_any kr 2 (ns[j]).toNat (by omega) hlen)
      have HS := hid (show (wordsW (ns.take j)).num 2 (ns[j]).toNat = wordsW (ns.take (j + 1)) by
        rw [List.take_succ_eq_append_getElem hlt, wordsW, wordsW, wordsB_snoc]; rfl)
      have hu := (ns[j]).toNat_lt
      clear hlen
      go_wp2_with fail
      refine HN.out.mono ?_
      intro e w2 hp2
      rw [HS.out] at hp2
      obtain ⟨rfl, hm2⟩ := hmr.next hvr hp2
      go_wp2
      have hj0 := HJ.out
      go_roundg (ns.length - (j + 1))
      case measure => omega
      case rel => exact ⟨j + 1, by omega, by go_num, hm2⟩
    · obtain rfl : j = ns.length := by omega
      rw [List.take_length] at hmr
      obtain ⟨A4, n4, c4, c0, c1, d0, d1, g0, g1, e0, e1, hend⟩ := hmr.fin
      go_wp2
      exact bodyPost_ret (v := .agg #[.slice A4 n4 c4, .bool _]) (by simp [results, Try.results95, go_sem, e0, e1]) rfl hend
end
end Go.Proofs.Ytnghnifihnjfeaa

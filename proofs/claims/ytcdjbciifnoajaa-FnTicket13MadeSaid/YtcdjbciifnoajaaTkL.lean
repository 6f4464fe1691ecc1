/- NewSessionTicket of TLS 1.3: arguments opened; a message as an argument; the reference's message in plain form. (A claim has at most 60 files: texts joined.) -/
import Derived.Test.YtcdjbciifnoajaaLift
import Derived.Test.YtcdjbciifnoajaaSame
import Derived.Test.YtcdjbciifnoajaaU32
import Derived.Lib.SmallJoins
import Derived.Test.YtcdjbciifnoajaaTkMade
import Derived.Test.YtcdjbciifnoajaaTkW
import Derived.Test.YtcdjbciifnoajaaTkM
namespace Go.Proofs.Ytcdjbciifnoajaa
open Go.Joins Go.ChangeShapes Go.WideShapes Go.RowKit Go.Deep
set_option maxRecDepth 100000

section
variable {H : Type} {enc : TypeId × Value → H} {P : Program} {w : World} {base : Nat} {spare : Nat → Bool} {held : Bool}
theorem open_agg5 {r : Reach} {b0 : Nat} {t : TypeId} {f0 f1 f2 f3 f4 : Field} {v : Value} {d : DataW H} {p : List MemPlace} (hs : P.underlying t = some (.struct #[f0, f1, f2, f3, f4])) (hone : oneCellFields P #[f0, f1, f2, f3, f4] = true) (hC : P.cellsOf t = 5)
    (hv : Value.okWide P w r b0 t v) (h : DataW.Trod enc P w base spare held t v d p) :
    ∃ (v0 v1 v2 v3 v4 : Value) (y0 y1 y2 y3 y4 : DataW H × List MemPlace) (n : Nat), v = .agg #[v0, v1, v2, v3, v4] ∧
      DataW.trod enc P w base spare held n f0.type [v0] = some y0 ∧ DataW.trod enc P w base spare held n f1.type [v1] = some y1 ∧ DataW.trod enc P w base spare held n f2.type [v2] = some y2 ∧ DataW.trod enc P w base spare held n f3.type [v3] = some y3 ∧ DataW.trod enc P w base spare held n f4.type [v4] = some y4 := by
  obtain ⟨cs, rfl, hsz⟩ := okWide_struct hs hv
  obtain ⟨l⟩ := cs
  match l, hsz.trans hC with
  | [c0, c1, c2, c3, c4], _ =>
    obtain ⟨fuel, hf⟩ := h
    obtain ⟨xs, n, _, hx, _, hlen, hg⟩ := DataW.trod_struct hs hf
    obtain ⟨o0, k0⟩ := hone_of hone 0 f0 rfl
    obtain ⟨o1, k1⟩ := hone_of hone 1 f1 rfl
    obtain ⟨o2, k2⟩ := hone_of hone 2 f2 rfl
    obtain ⟨o3, k3⟩ := hone_of hone 3 f3 rfl
    obtain ⟨o4, k4⟩ := hone_of hone 4 f4 rfl
    match xs, hlen with
    | [y0, y1, y2, y3, y4], _ =>
      exact ⟨c0, c1, c2, c3, c4, y0, y1, y2, y3, y4, n, rfl, by simpa [Value.cells, o0, k0] using hg 0 f0 rfl, by simpa [Value.cells, o1, k1] using hg 1 f1 rfl, by simpa [Value.cells, o2, k2] using hg 2 f2 rfl, by simpa [Value.cells, o3, k3] using hg 3 f3 rfl, by simpa [Value.cells, o4, k4] using hg 4 f4 rfl⟩
end

section
variable {H : Type} {enc : TypeId × Value → H} {W : World} {sp : Nat → Bool} {hd : Bool}
/-- a cell of type []byte -/
theorem bytes_trod {n base : Nat} {v : Value} {x : DataW H × List MemPlace} (hf : DataW.trod enc Try.prog W base (fun _ => true) hd n 23 [v] = some x) : ∃ bs, Byt W W.heap.size v bs := by
  rcases open_ints Try.underlying23 Try.underlying5 (by kernel_rfl) hf with ⟨hcs, -⟩ | ⟨a, len, cap, zs, hcs, -, hle, hmax, hall, -, hcell, hwf⟩
  · injection hcs with hcs _
    subst hcs
    exact ⟨[], Row.nil_ _ _⟩
  · injection hcs with hcs _
    subst hcs
    simp only [if_true] at hall
    have hlen : (((zs.take len).map fun n => UInt8.ofNat n.toNat).map bv).length = len := by simp; omega
    refine ⟨(zs.take len).map fun n => UInt8.ofNat n.toNat, some a, cap, by rw [hlen], by rw [hlen]; exact hle, hmax, (by intro e; cases e), ?_⟩
    intro hne
    have hp : 0 < zs.length := by
      rw [hall]
      have : len ≠ 0 := by
        intro e0
        apply hne
        exact List.length_eq_zero_iff.1 (hlen.trans e0)
      omega
    obtain ⟨b, off, rfl, hc⟩ := ints_at hcell hp
    refine ⟨b, off, rfl, World.block_lt_of_cell? W ⟨b, off + 0, none⟩ (hc 0 hp), ?_⟩
    intro j u hj
    have hjl : j < len := by
      have := (List.getElem?_eq_some_iff.1 hj).1
      rwa [hlen] at this
    rw [hc j (by omega), ← hj]
    have hz : zs[j]? = some (zs.getD j 0) := by simp [List.getD, List.getElem?_eq_getElem (show j < zs.length by omega)]
    have hb := bounds_u8 (hwf (zs.getD j 0) (List.mem_of_getElem? hz))
    rw [List.getElem?_map, List.getElem?_map, List.getElem?_take, if_pos hjl, hz]
    simp only [Option.map_some]
    congr 2
    show zs.getD j 0 = _
    rw [UInt8.toNat_ofNat']
    have : (zs.getD j 0).toNat % 2 ^ 8 = (zs.getD j 0).toNat := Nat.mod_eq_of_lt (by omega)
    rw [this]
    omega
theorem u32_trod {n base : Nat} {v : Value} {x : DataW H × List MemPlace} (hf : DataW.trod enc Try.prog W base sp hd n 22 [v] = some x) : ∃ m : UInt32, v = uv m := by
  obtain ⟨n', h, hx, hw⟩ := DataW.trod_int Try.underlying22 hf
  injection h with h _
  have hb := bounds_u32 hw
  refine ⟨UInt32.ofNat n'.toNat, ?_⟩
  rw [h]
  show _ = Value.int .u32 ((UInt32.ofNat n'.toNat).toNat : Int)
  rw [UInt32.toNat_ofNat']
  have : n'.toNat % 2 ^ 32 = n'.toNat := Nat.mod_eq_of_lt (by omega)
  rw [this]
  congr 1
  omega
theorem all2_of {α β : Type} {p : α → β → Prop} : ∀ (l : List α), (∀ a ∈ l, ∃ b, p a b) → ∃ m, All2 p l m
  | [], _ => ⟨[], trivial⟩
  | a :: l, h => by
    obtain ⟨b, hb⟩ := h a (by simp)
    obtain ⟨m, hm⟩ := all2_of l (fun x hx => h x (by simp [hx]))
    exact ⟨b :: m, hb, hm⟩
/-- a cell of type [][]byte -/
theorem lists_trod {n base : Nat} {v : Value} {x : DataW H × List MemPlace} (hf : DataW.trod enc Try.prog W base (fun _ => true) hd n 26 [v] = some x) : ∃ ls, Lst W W.heap.size v ls := by
  rcases DataW.trod_slice Try.underlying26 hf with ⟨hcs, -⟩ | ⟨a, len, cap, elems, rest, m, -, hcs, -, -, hle, hmax, hlen, hel, -, -⟩
  · injection hcs with hcs _
    subst hcs
    exact ⟨[], [], Row.nil_ _ _, trivial⟩
  · injection hcs with hcs _
    subst hcs
    have each : ∀ i, i < len → ∃ u bs, W.cell? (a.add i) = some u ∧ Byt W W.heap.size u bs := by
      intro i hi
      have h := hel i hi
      have hc : Try.prog.cellsOf 23 = 1 := by kernel_rfl
      rw [hc, Nat.mul_one] at h
      have hy : elems[i]? = some (elems[i]'(by omega)) := List.getElem?_eq_getElem (by omega)
      rw [hy, Option.bind_eq_some_iff] at h
      obtain ⟨cs, h1, h2⟩ := h
      have hl1 := (World.cells?_some h1).2.1
      match cs, hl1 with
      | [u], _ =>
        obtain ⟨bs, hb⟩ := bytes_trod h2
        exact ⟨u, bs, cell_of_cells?_one h1, hb⟩
    let us : List Value := (List.range len).map fun i => (W.cell? (a.add i)).getD undef
    have hus : us.length = len := by simp [us]
    have hget : ∀ i, i < len → us[i]? = W.cell? (a.add i) := by
      intro i hi
      obtain ⟨u, bs, h1, -⟩ := each i hi
      simp [us, hi, h1]
    obtain ⟨ls, hls⟩ := all2_of (p := fun u l => Byt W W.heap.size u l) us (by
      intro u hu
      obtain ⟨i, hi⟩ := List.getElem?_of_mem hu
      have hil : i < len := by have := (List.getElem?_eq_some_iff.1 hi).1; rwa [hus] at this
      obtain ⟨u', bs, h1, h2⟩ := each i hil
      rw [hget i hil, h1] at hi
      cases hi
      exact ⟨bs, h2⟩)
    refine ⟨ls, us, ⟨some a, cap, by rw [hus], by rw [hus]; exact hle, hmax, (by intro e; cases e), ?_⟩, hls⟩
    intro hne
    have hp : 0 < len := by
      have : us.length ≠ 0 := fun e => hne (List.length_eq_zero_iff.1 e)
      omega
    obtain ⟨b, off, spot⟩ := a
    obtain ⟨u0, -, h0, -⟩ := each 0 hp
    have hspot : spot = none := by simpa [Addr.add] using World.cell?_spot h0
    subst hspot
    refine ⟨b, off, rfl, World.block_lt_of_cell? W ⟨b, off + 0, none⟩ (by rw [← Go.WideShapes.add_plain]; exact h0), ?_⟩
    intro j u hj
    have hjl : j < len := by have := (List.getElem?_eq_some_iff.1 hj).1; rwa [hus] at this
    rw [← Go.WideShapes.add_plain, ← hget j hjl]
    exact hj
/-- an argument of type [][]byte, opened -/
theorem open_lists {v : Value} {d : DataW H} {p : List MemPlace} {base : Nat}
    (hv : Value.okWide Try.prog W .any base 26 v) (h : DataW.Trod enc Try.prog W 0 (fun _ => true) true 26 v d p) : ∃ ls, Lst W W.heap.size v ls := by
  obtain ⟨a0, len0, cap0, rfl⟩ := okWide_slice Try.underlying26 hv
  obtain ⟨fuel, hf⟩ := h
  exact lists_trod (n := fuel) (by simpa [Value.cells] using hf)
end
end Go.Proofs.Ytcdjbciifnoajaa
namespace Go.Proofs.Ytcdjbciifnoajaa
open Go.Joins Go.ChangeShapes Go.WideShapes Go.RowKit Go.Deep
set_option maxRecDepth 100000

theorem open_tk {H : Type} {enc : TypeId × Value → H} {W : World} {v : Value} {d : DataW H} {p : List MemPlace} {base : Nat}
    (hv : Value.okWide Try.prog W .any base 25 v) (h : DataW.Trod enc Try.prog W 0 (fun _ => true) true 25 v d p) : ∃ t, TkV W W.heap.size v t := by
  obtain ⟨v0, v1, v2, v3, v4, y0, y1, y2, y3, y4, n, rfl, h0, h1, h2, h3, h4⟩ := open_agg5 Try.underlying25 (by kernel_rfl) (by kernel_rfl) hv h
  obtain ⟨a0, rfl⟩ := u32_trod h0
  obtain ⟨a1, rfl⟩ := u32_trod h1
  obtain ⟨b2, hb2⟩ := bytes_trod h2
  obtain ⟨b3, hb3⟩ := bytes_trod h3
  obtain ⟨a4, rfl⟩ := u32_trod h4
  obtain ⟨A2, c2, rfl, hb2, -, -⟩ := Byt.form hb2 rfl
  obtain ⟨A3, c3, rfl, hb3, -, -⟩ := Byt.form hb3 rfl
  exact ⟨⟨a0, a1, b2, b3, a4⟩, A2, c2, A3, c3, rfl, hb2, hb3⟩

theorem tkExts_eq (t : Tk) : tkExts t = tkE t := by
  unfold tkExts tkE
  by_cases h : 0 < t.early.toNat
  · have e : ((t.early.toNat : Int) != 0) = true := by simp only [bne_iff_ne, ne_eq]; omega
    rw [if_pos h, e, LW.add_true]
    simp [LW.nil, numberW, Wr.num, Wr.nil]
  · have e : ((t.early.toNat : Int) != 0) = false := by simp only [bne_eq_false_iff_eq]; omega
    rw [if_neg h, e, LW.add_false]
    rfl
theorem messageW_eq (kind : Nat) (x : Wr) : messageW kind x = ⟨msgB kind x.b, x.bad || decide (16777216 ≤ x.b.length)⟩ := by
  simp [messageW, Wr.inner, Wr.vec, Wr.num, Wr.nil, msgB]
theorem tkW_b (t : Tk) (L : List Ex) : (tkW t L).b = tkMsg t L := by
  unfold tkW
  rw [messageW_eq]
  show msgB 4 ((tkHeadW t).b ++ (exsW L).b) = msgB 4 (tkBodyB t L)
  rw [tkHeadW_b, exsW_eq]
  congr 1
  simp [tkBodyB, blkB]
theorem tkW_bad (t : Tk) (L : List Ex) : (tkW t L).bad = decide (¬ (t.nonce.length < 256 ∧ t.label.length < 65536 ∧ (exsB L).length < 65536)) := by
  unfold tkW
  rw [messageW_eq]
  show ((tkHeadW t).bad || (exsW L).bad || decide (16777216 ≤ ((tkHeadW t).b ++ (exsW L).b).length)) = _
  rw [exsW_short, List.length_append, tkHeadW_len, exsW_eq]
  have e : (tkHeadW t).bad = (decide (256 ≤ t.nonce.length) || decide (65536 ≤ t.label.length)) := by simp [tkHeadW, Wr.vec, Wr.num, Wr.nil]
  rw [e]
  simp only [List.length_append, be_len]
  by_cases h1 : t.nonce.length < 256 <;> by_cases h2 : t.label.length < 65536 <;> by_cases h3 : (exsB L).length < 65536
  all_goals simp [h1, h2, h3]
  all_goals omega
section
variable {w w' : World} {B C N : Nat} {v content : Value} {xs data : List UInt8} {e : Ending} {t : Tk} {L : List Ex}
/-- the message of a value, boxed -/
theorem TkB.box {t : Tk} {A1 A2 : Option Addr} {c1 c2 : Nat} (h1 : Byt w B (.slice A1 t.nonce.length c1) t.nonce) (h2 : Byt w B (.slice A2 t.label.length c2) t.label) (T : TypeId) :
    Blk (w.alloc (.cells #[uv t.life, uv t.age, .slice A1 t.nonce.length c1, .slice A2 t.label.length c2, uv t.early] T)) w.heap.size T #[uv t.life, uv t.age, .slice A1 t.nonce.length c1, .slice A2 t.label.length c2, uv t.early] ∧
    Byt (w.alloc (.cells #[uv t.life, uv t.age, .slice A1 t.nonce.length c1, .slice A2 t.label.length c2, uv t.early] T)) B (.slice A1 t.nonce.length c1) t.nonce ∧
    Byt (w.alloc (.cells #[uv t.life, uv t.age, .slice A1 t.nonce.length c1, .slice A2 t.label.length c2, uv t.early] T)) B (.slice A2 t.label.length c2) t.label ∧
    Upd [] w (w.alloc (.cells #[uv t.life, uv t.age, .slice A1 t.nonce.length c1, .slice A2 t.label.length c2, uv t.early] T)) :=
  ⟨Blk.new _ _ _, Row.alloc h1 _, Row.alloc h2 _, (Upd.refl _ _).alloc _⟩
/-- what 'WriteTicket13' hands back -/
def WrT (w : World) (bs : List UInt8) (q : Bool) (e : Ending) (w' : World) : Prop :=
  ∃ A n c, e = .returned (.tuple #[.slice A n c, .bool q]) ∧ Byt w' w'.heap.size (.slice A n c) bs ∧ Upd [] w w'
theorem WriteTicket13_t (hv : TkV w B v t) (hc : Exr w C N content L) (hx1 : t.nonce.length ≤ 2147483647) (hx2 : t.label.length ≤ 2147483647) (hx : (exsB L).length ≤ 1000000000000) {q : Bool} (hq : (!(tkW t L).bad) = q) :
    Calls Try.prog 17 #[v, content] w (WrT w (tkMsg t L) q) := by
  refine (WriteTicket13_any hv hc hx1 hx2 hx).mono ?_
  rintro e w' ⟨v, rfl, hy, -, ⟨A, n, c, rfl⟩, hu⟩
  rw [tkW_b] at hy
  exact ⟨A, n, c, by rw [hq], hy, hu⟩
end
end Go.Proofs.Ytcdjbciifnoajaa

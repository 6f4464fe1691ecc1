/- What the bound on the arguments' bulk gives: how long the lists are that they hold. -/
import Derived.Test.YtaajmfgplhfncaaGreatLift
import Derived.Test.YtaajmfgplhfncaaGreatSpecW
namespace Go.Proofs.YtaajmfgplhfncaaGreat
open Go.Joins Go.ChangeShapes Go.WideShapes Go.RowKit Go.Deep
set_option maxRecDepth 100000

theorem uptoSmall_le {H : Type} {ds : List (DataW H)} (h : Rows.uptoSmall H ds = true) : Rows.uptoBulkAll ds ≤ 1048576 := of_decide_eq_true h
theorem bulk_one {H : Type} (d : DataW H) : 1 ≤ Rows.uptoBulk d := by
  cases d with
  | lit l => cases l <;> simp [Rows.uptoBulk]
  | nil => simp [Rows.uptoBulk]
  | ptr d => simp [Rows.uptoBulk]
  | slice elems spare => simp [Rows.uptoBulk]
  | agg parts => simp [Rows.uptoBulk]
  | iface t d => simp [Rows.uptoBulk]
  | map entries => simp [Rows.uptoBulk]
  | held h => simp [Rows.uptoBulk]
theorem bulk_part {H : Type} {d : DataW H} : ∀ {l : List (DataW H)}, d ∈ l → Rows.uptoBulk d ≤ Rows.uptoBulkAll l
  | [], h => by cases h
  | x :: r, h => by
    simp only [Rows.uptoBulkAll]
    rcases List.mem_cons.1 h with h | h
    · rw [h]; omega
    · have := bulk_part h; omega
theorem bulk_length {H : Type} : ∀ (l : List (DataW H)), l.length ≤ Rows.uptoBulkAll l
  | [] => by simp [Rows.uptoBulkAll]
  | x :: r => by
    have := bulk_one x
    have := bulk_length r
    simp only [Rows.uptoBulkAll, List.length_cons]
    omega
/-- how much a list of byte strings holds -/
def lstSz (ls : List (List UInt8)) : Nat := (ls.map fun l => l.length + 1).sum
theorem lstSz_cons (l : List UInt8) (ls : List (List UInt8)) : lstSz (l :: ls) = l.length + 1 + lstSz ls := by simp [lstSz]
theorem lstSz_le {H : Type} : ∀ (ls : List (List UInt8)) (ds : List (DataW H)), ls.length = ds.length → (∀ (i : Nat) (x : List UInt8) (d : DataW H), ls[i]? = some x → ds[i]? = some d → x.length + 1 ≤ Rows.uptoBulk d) → lstSz ls ≤ Rows.uptoBulkAll ds
  | [], ds, _, _ => by simp [lstSz]
  | x :: ls, [], h, _ => by simp at h
  | x :: ls, d :: ds, h, hg => by
    rw [lstSz_cons]
    simp only [Rows.uptoBulkAll]
    have h0 := hg 0 x d rfl rfl
    have h1 := lstSz_le ls ds (by simpa using h) (fun i y e hy he => hg (i + 1) y e (by simpa using hy) (by simpa using he))
    omega
theorem vecsB_lst (n : Nat) (ls : List (List UInt8)) : (vecsB n ls).length ≤ (n + 1) * lstSz ls := by
  induction ls with
  | nil => simp [vecsB]
  | cons x ls ih =>
    have e : vecsB n (x :: ls) = be n x.length ++ x ++ vecsB n ls := by simp [vecsB]
    rw [e, lstSz_cons, List.length_append, List.length_append, be_len]
    have : (n + 1) * (x.length + 1 + lstSz ls) = n * x.length + x.length + n + 1 + (n + 1) * lstSz ls := by simp only [Nat.mul_add, Nat.add_mul]; omega
    rw [this]
    have : 0 ≤ n * x.length := Nat.zero_le _
    omega
section
variable {H : Type} {enc : TypeId × Value → H} {W : World} {sp : Nat → Bool} {hd : Bool}
/-- a slice's bulk -/
theorem row_bulk {t e : TypeId} {n base B : Nat} {v : Value} {xs : List Value} {x : DataW H × List MemPlace} (ht : Tryz.prog.underlying t = some (.slice e)) (hf : DataW.trod enc Tryz.prog W base sp hd n t [v] = some x) (hv : Row W B v xs) : xs.length + 1 ≤ Rows.uptoBulk x.1 := by
  obtain ⟨A, c, rfl, -⟩ := hv
  rcases DataW.trod_slice ht hf with ⟨hcs, hx⟩ | ⟨a, len, cap, elems, rest, m, -, hcs, hx, -, -, -, hlen, -⟩
  · injection hcs with hcs _
    injection hcs with _ h0 _
    rw [hx, h0]
    simp [Rows.uptoBulk]
  · injection hcs with hcs _
    injection hcs with _ h0 _
    rw [hx, h0]
    simp only [Rows.uptoBulk]
    have := bulk_length (elems.map (·.1))
    rw [List.length_map] at this
    omega
theorem bytes_bulk {n base : Nat} {v : Value} {x : DataW H × List MemPlace} (hf : DataW.trod enc Tryz.prog W base (fun _ => true) hd n 23 [v] = some x) : ∃ bs, Byt W W.heap.size v bs ∧ bs.length + 1 ≤ Rows.uptoBulk x.1 := by
  obtain ⟨bs, hb⟩ := bytes_trod hf
  have := row_bulk Tryz.underlying23 hf hb
  rw [List.length_map] at this
  exact ⟨bs, hb, this⟩
theorem byt_same {w : World} {B C : Nat} {v : Value} {xs ys : List UInt8} (h : Byt w B v xs) (k : Byt w C v ys) : xs.length = ys.length := by
  obtain ⟨A, c, e, -⟩ := Byt.form h rfl
  obtain ⟨A', c', e', -⟩ := Byt.form k rfl
  rw [e] at e'
  injection e' with _ h _
theorem lists_bulk {n base : Nat} {v : Value} {x : DataW H × List MemPlace} (hf : DataW.trod enc Tryz.prog W base (fun _ => true) hd n 26 [v] = some x) : ∃ ls, Lst W W.heap.size v ls ∧ lstSz ls + 1 ≤ Rows.uptoBulk x.1 := by
  obtain ⟨ls, hl⟩ := lists_trod hf
  refine ⟨ls, hl, ?_⟩
  obtain ⟨vs, h1, h2⟩ := hl
  have hll := h2.length
  have h1' := h1
  obtain ⟨A, c, rfl, -, -, -, hrow⟩ := h1
  rcases DataW.trod_slice Tryz.underlying26 hf with ⟨hcs, hx⟩ | ⟨a, len, cap, elems, rest, m, -, hcs, hx, -, -, -, hlen, hel, -, -⟩
  · injection hcs with hcs _
    injection hcs with _ h0 _
    have : ls = [] := List.eq_nil_of_length_eq_zero (by omega)
    rw [hx, this]
    simp [Rows.uptoBulk, lstSz]
  · injection hcs with hcs _
    injection hcs with hA h0 _
    rw [hx]
    simp only [Rows.uptoBulk]
    have key : lstSz ls ≤ Rows.uptoBulkAll (elems.map (·.1)) := by
      refine lstSz_le ls _ (by rw [List.length_map]; omega) ?_
      intro i y d hy hd
      have hil : i < ls.length := (List.getElem?_eq_some_iff.1 hy).1
      have hiv : i < vs.length := by omega
      have hgy : ls[i] = y := by rw [List.getElem?_eq_getElem hil] at hy; exact Option.some.inj hy
      have hby := h2.get i hiv hil
      rw [hgy] at hby
      obtain ⟨b, o, hAe, -, hcell⟩ := hrow (by intro e; rw [e] at hiv; simp at hiv)
      have hci := hcell i _ (List.getElem?_eq_getElem hiv)
      have hie : i < elems.length := by omega
      have h := hel i (by omega)
      have hc : Tryz.prog.cellsOf 23 = 1 := by kernel_rfl
      rw [hc, Nat.mul_one, List.getElem?_eq_getElem hie, Option.bind_eq_some_iff] at h
      obtain ⟨cs, k1, k2⟩ := h
      rw [hAe] at hA
      injection hA with hA
      rw [← hA, add_lit] at k1
      have hl1 := (World.cells?_some k1).2.1
      match cs, hl1 with
      | [u], _ =>
        have hu := cell_of_cells?_one k1
        rw [hci] at hu
        injection hu with hu
        rw [← hu] at k2
        obtain ⟨bs, hb, hbb⟩ := bytes_bulk k2
        have := byt_same hby hb
        have hdd : d = elems[i].1 := by
          rw [List.getElem?_map, List.getElem?_eq_getElem hie] at hd
          exact (Option.some.inj hd).symm
        rw [hdd]
        omega
    omega
end
/-- a struct opened, its cells' bulk below its own -/
theorem open_aggB {H : Type} {enc : TypeId × Value → H} {P : Program} {w : World} {base : Nat} {spare : Nat → Bool} {held : Bool} {r : Reach} {b0 : Nat} {t : TypeId} {fs : Array Field} {v : Value} {d : DataW H} {p : List MemPlace}
    (hs : P.underlying t = some (.struct fs)) (hone : oneCellFields P fs = true) (hC : P.cellsOf t = fs.size) (hv : Value.okWide P w r b0 t v) (h : DataW.Trod enc P w base spare held t v d p) :
    ∃ (l : List Value) (n : Nat), v = .agg ⟨l⟩ ∧ l.length = fs.size ∧ ∀ (i : Nat) (f : Field), fs[i]? = some f → ∃ u y, l[i]? = some u ∧ DataW.trod enc P w base spare held n f.type [u] = some y ∧ Rows.uptoBulk y.1 ≤ Rows.uptoBulk d := by
  obtain ⟨cs, rfl, hsz⟩ := okWide_struct hs hv
  obtain ⟨l⟩ := cs
  have hsz : l.length = fs.size := by rw [← hC]; exact hsz
  obtain ⟨fuel, hf⟩ := h
  obtain ⟨xs, n, _, hx, _, hlen, hg⟩ := DataW.trod_struct hs hf
  refine ⟨l, n, rfl, hsz, fun i f hi => ?_⟩
  obtain ⟨o, k⟩ := hone_of hone i f hi
  have hil : i < fs.size := (Array.getElem?_eq_some_iff.1 hi).1
  have := hg i f hi
  simp only [Value.cells, o, k] at this
  have e : (l.drop i).take 1 = [l[i]'(by omega)] := by
    rw [List.drop_eq_getElem_cons (by omega)]; rfl
  rw [e, List.getElem?_eq_getElem (by omega)] at this
  refine ⟨_, _, List.getElem?_eq_getElem (by omega), this, ?_⟩
  have hd : d = .agg (xs.map (·.1)) := congrArg (·.1) hx
  rw [hd]
  simp only [Rows.uptoBulk]
  have := bulk_part (d := (xs[i]'(by omega)).1) (l := xs.map (·.1)) (List.mem_map_of_mem (List.getElem_mem _))
  omega
section
variable {H : Type} {enc : TypeId × Value → H} {W : World} {sp : Nat → Bool} {hd : Bool}
/-- a cell of type []uint16 -/
theorem words_trod {n base : Nat} {v : Value} {x : DataW H × List MemPlace} (hf : DataW.trod enc Tryz.prog W base (fun _ => true) hd n 24 [v] = some x) : ∃ l : List UInt16, Row W W.heap.size v (l.map wv) ∧ l.length + 1 ≤ Rows.uptoBulk x.1 := by
  suffices h : ∃ l : List UInt16, Row W W.heap.size v (l.map wv) by
    obtain ⟨l, hl⟩ := h
    have := row_bulk Tryz.underlying24 hf hl
    rw [List.length_map] at this
    exact ⟨l, hl, this⟩
  rcases open_ints Tryz.underlying24 Tryz.underlying22 (by kernel_rfl) hf with ⟨hcs, -⟩ | ⟨a, len, cap, zs, hcs, -, hle, hmax, hall, -, hcell, hwf⟩
  · injection hcs with hcs _
    subst hcs
    exact ⟨[], Row.nil_ _ _⟩
  · injection hcs with hcs _
    subst hcs
    simp only [if_true] at hall
    have hlen : (((zs.take len).map fun n => UInt16.ofNat n.toNat).map wv).length = len := by simp; omega
    refine ⟨(zs.take len).map fun n => UInt16.ofNat n.toNat, ⟨some a, cap, by rw [hlen], by rw [hlen]; exact hle, hmax, (by intro e; cases e), ?_⟩⟩
    · intro hne
      have hp : 0 < zs.length := by
        rw [hall]
        have : len ≠ 0 := by
          intro e0
          apply hne
          exact List.length_eq_zero_iff.1 (hlen.trans e0)
        omega
      obtain ⟨b, off, rfl, hc⟩ := ints_at hcell hp
      refine ⟨b, off, rfl, World.block_lt_of_cell? W ⟨b, off + 0, none⟩ (hc 0 hp), ?_⟩
      intro j u hj
      have hjl : j < len := by
        have := (List.getElem?_eq_some_iff.1 hj).1
        rwa [hlen] at this
      rw [hc j (by omega), ← hj]
      have hz : zs[j]? = some (zs.getD j 0) := by simp [List.getD, List.getElem?_eq_getElem (show j < zs.length by omega)]
      have hb := bounds_u16 (hwf (zs.getD j 0) (List.mem_of_getElem? hz))
      rw [List.getElem?_map, List.getElem?_map, List.getElem?_take, if_pos hjl, hz]
      simp only [Option.map_some]
      congr 2
      show zs.getD j 0 = _
      rw [UInt16.toNat_ofNat']
      have : (zs.getD j 0).toNat % 2 ^ 16 = (zs.getD j 0).toNat := Nat.mod_eq_of_lt (by omega)
      rw [this]
      omega
end
end Go.Proofs.YtaajmfgplhfncaaGreat

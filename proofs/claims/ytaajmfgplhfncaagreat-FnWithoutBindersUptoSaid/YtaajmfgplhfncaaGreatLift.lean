/- Texts joined: Lift, LiftS. -/
import Derived.Test.YtaajmfgplhfncaaGreatRows
import Derived.Test.YtaajmfgplhfncaaGreatBase
import Derived.ProofKit
import Derived.OpenShut
import Derived.JoinedCond
import Derived.Below
import Derived.ChangeSame
import Derived.Test.YtaajmfgplhfncaaGreatWriter
import Derived.Test.YtaajmfgplhfncaaGreatEmit
import Derived.Lib.SmallJoins

/- From a law's walk to its row: arguments opened, the row's last step. ('post_of_below' is the guide's lemma, extra-small.md 9.) -/
namespace Go.Proofs.YtaajmfgplhfncaaGreat
open Go.ChangeShapes Go.WideShapes Go.ChangeAt Go.RowKit
set_option maxRecDepth 100000

theorem own : ownKnob Tryz.prog.godebug = none := by kernel_rfl
theorem laidOut : laidOutB Tryz.prog = true := by kernel_rfl

section
variable {H : Type} {enc : TypeId × Value → H} {P : Program}
theorem post_of_below {f : Func} {s : ChangeSpec} {apart fresh handsOn again : Bool} {W W' : World} {args : Array Value} {v : Value} {ds gs : List (DataW H)} {before pa pv : List MemPlace}
    (hW : DataW.Whole enc P f.params.toList s.vars apart W args.toList ds gs before)
    (hres : ∀ (b : Nat) (sp : Nat → Bool) (hd : Bool), DataW.TrodAll enc P W' b sp hd f.resultTypes.toList (v.resultList f.resultTypes.size) (s.fn H (ds ++ gs)).results [])
    (hargs : ∀ sp : Nat → Bool, (∀ p ∈ before, sp p.block = true) → DataW.TrodAll enc P W' 0 sp true f.params.toList args.toList (s.fn H (ds ++ gs)).args pa)
    (hvars : ∀ sp : Nat → Bool, (∀ p ∈ before, sp p.block = true) → DataW.TrodVars enc P W' sp s.vars (s.fn H (ds ++ gs)).vars pv)
    (hps : before = pa ++ pv) (hb : Below W.heap.size W W')
    (hok : ∀ (j : Nat) (t : TypeId) (r : Value), f.resultTypes[j]? = some t → (v.resultList f.resultTypes.size)[j]? = some r → Value.okWide P W' .any 0 t r) :
    s.post enc P f apart fresh handsOn again W args v W' := by
  have hlt : ∀ p ∈ before, p.block < W.heap.size := fun p hp => hW.lt p hp
  have hold : ∀ p ∈ before, (fun b => decide (b < W.heap.size)) p.block = true := fun p hp => by simpa using hlt p hp
  refine ⟨ds, gs, before, [], pa, pv, hW, hres _ _ _, hargs _ hold, hvars _ hold, World.keptBut_mono (fun p hp => ⟨hp, ?_⟩) (hb.frame (· ∈ before)), fun _ => ?_⟩
  · rw [hps, List.mem_append] at hp
    exact Or.inr hp
  · obtain ⟨_, _, _, _, _, hz, hn⟩ := hW
    refine ⟨hok, _, _, ([] ++ pa) ++ pv, ⟨[] ++ pa, pv, trodAll_append (hargs _ (fun _ _ => rfl)) (hres _ _ _), hvars _ (fun _ _ => rfl), rfl, ?_, ?_⟩, ?_⟩
    · intro b off hp
      have hin : MemPlace.cell b off ∈ before := by rw [hps]; simpa using hp
      rw [hb.frozen (hlt _ hin)]
      exact hz b off hin
    · intro ha
      have := hn ha
      rw [hps] at this
      simpa using this
    · intro p hp _
      rw [hps]
      simpa using hp

/-- all arguments read behind the call as they did before -/
theorem below_trodAll (hl : laidOutB P = true) {W W' : World} (hb : Below W.heap.size W W') {sp : Nat → Bool} :
    ∀ {ts : List TypeId} {vs : List Value} {ds : List (DataW H)} {p : List MemPlace}, (ts.all fun t => P.readableRec t && decide (t < P.types.size)) = true → (∀ x ∈ p, x.block < W.heap.size) → (∀ x ∈ p, sp x.block = true) →
      DataW.TrodAll enc P W 0 (fun _ => true) true ts vs ds p → DataW.TrodAll enc P W' 0 sp true ts vs ds p
  | [], _, _, _, _, _, _, h => by
    obtain ⟨rfl, rfl, rfl⟩ := trodAll_nil h
    exact trodAll_mk0
  | t :: ts, vs, ds, p, hr, hlt, hsp, h => by
    obtain ⟨v, vs1, d, ds1, a, b, rfl, rfl, rfl, h1, h2⟩ := trodAll_cons h
    simp only [List.all_cons, Bool.and_eq_true, decide_eq_true_eq] at hr
    refine trodAll_cons_mk ?_ (below_trodAll hl hb hr.2 (fun x hx => hlt x (by simp [hx])) (fun x hx => hsp x (by simp [hx])) h2)
    exact WideElems.Trod_stays hl hr.1.1 hr.1.2 h1 (fun x hx => hb.same (hlt x (by simp [hx]))) (fun x hx => hsp x (by simp [hx]))
end

/-- the row's last step of a law that only reads -/
theorem law_post {H : Type} {enc : TypeId × Value → H} {f : Func} {s : ChangeSpec} {W W' : World} {args : Array Value} {ds gs : List (DataW H)} {before : List MemPlace} {e : Ending}
    (hW : DataW.Whole enc Tryz.prog f.params.toList s.vars false W args.toList ds gs before) (hv : s.vars = []) (hs : (s.fn H ds) = { results := [.lit (.bool true)], args := ds })
    (hr : (f.params.toList.all fun t => Tryz.prog.readableRec t && decide (t < Tryz.prog.types.size)) = true) (hres : f.resultTypes = #[4]) (h : LawP W e W') :
    ∃ v, e = .returned v ∧ s.post enc Tryz.prog f false true false false W args v W' := by
  obtain ⟨rfl, hu⟩ := h
  have hb : Below W.heap.size W W' := hu.below (Nat.le_refl _) (by simp)
  have hW' := hW
  obtain ⟨p, q, hA, hV, rfl, hfz, hnd⟩ := hW
  rw [hv] at hV
  obtain ⟨rfl, rfl⟩ := trodVars_none hV
  have hlt := hW'.lt
  have hvars : ∀ sp : Nat → Bool, DataW.TrodVars enc Tryz.prog W' sp s.vars (s.fn H (ds ++ [])).vars [] := by
    intro sp
    rw [List.append_nil, hs, hv]
    exact rfl
  refine ⟨_, rfl, post_of_below (pa := p) (pv := []) hW' (fun _ _ _ => ?_) (fun sp hsp => ?_) (fun sp _ => hvars sp) rfl hb (ok_one hres rfl (okWide_bool_mk Tryz.underlying4 _))⟩
  · rw [List.append_nil, hs, hres]
    exact trodAll_cons_mk (shut_bool Tryz.underlying4 _) trodAll_mk0
  · rw [List.append_nil, hs]
    exact below_trodAll laidOut hb hr (fun x hx => hlt x (by simpa using hx)) (fun x hx => hsp x (by simpa using hx)) hA

/-- an argument of type []byte, opened -/
theorem open_bytes {H : Type} {enc : TypeId × Value → H} {W : World} {v : Value} {d : DataW H} {p : List MemPlace} {base : Nat}
    (hv : Value.okWide Tryz.prog W .any base 23 v) (h : DataW.Trod enc Tryz.prog W 0 (fun _ => true) true 23 v d p) :
    ∃ bs, Byt W W.heap.size v bs := by
  obtain ⟨a0, len0, cap0, rfl⟩ := okWide_slice Tryz.underlying23 hv
  obtain ⟨fuel, hf⟩ := h
  rcases open_ints Tryz.underlying23 Tryz.underlying5 (by kernel_rfl) hf with ⟨hcs, -⟩ | ⟨a, len, cap, zs, hcs, -, hle, hmax, hall, -, hcell, hwf⟩
  · simp [Value.cells] at hcs
    obtain ⟨rfl, rfl, rfl⟩ := hcs
    exact ⟨[], Row.nil_ _ _⟩
  · simp [Value.cells] at hcs
    obtain ⟨rfl, rfl, rfl⟩ := hcs
    simp only [if_true] at hall
    have hlen : (((zs.take len0).map fun n => UInt8.ofNat n.toNat).map bv).length = len0 := by simp; omega
    refine ⟨(zs.take len0).map fun n => UInt8.ofNat n.toNat, some a, cap0, by rw [hlen], by rw [hlen]; exact hle, hmax, (by intro e; cases e), ?_⟩
    intro hne
    have hp : 0 < zs.length := by
      rw [hall]
      have : len0 ≠ 0 := by
        intro e0
        apply hne
        exact List.length_eq_zero_iff.1 (hlen.trans e0)
      omega
    obtain ⟨b, off, rfl, hc⟩ := ints_at hcell hp
    refine ⟨b, off, rfl, World.block_lt_of_cell? W ⟨b, off + 0, none⟩ (hc 0 hp), ?_⟩
    intro j u hj
    have hjl : j < len0 := by
      have := (List.getElem?_eq_some_iff.1 hj).1
      rwa [hlen] at this
    rw [hc j (by omega), ← hj]
    have hz : zs[j]? = some (zs.getD j 0) := by simp [List.getD, List.getElem?_eq_getElem (show j < zs.length by omega)]
    have hb := bounds_u8 (hwf (zs.getD j 0) (List.mem_of_getElem? hz))
    rw [List.getElem?_map, List.getElem?_map, List.getElem?_take, if_pos hjl, hz]
    simp only [Option.map_some]
    congr 2
    show zs.getD j 0 = _
    rw [UInt8.toNat_ofNat']
    have : (zs.getD j 0).toNat % 2 ^ 8 = (zs.getD j 0).toNat := Nat.mod_eq_of_lt (by omega)
    rw [this]
    omega
end Go.Proofs.YtaajmfgplhfncaaGreat

/- Arguments opened: structs, lists of byte strings. -/
namespace Go.Proofs.YtaajmfgplhfncaaGreat
open Go.Joins Go.ChangeShapes Go.WideShapes Go.RowKit Go.Deep
set_option maxRecDepth 100000

section
variable {H : Type} {enc : TypeId × Value → H} {P : Program} {w : World} {base : Nat} {spare : Nat → Bool} {held : Bool}
theorem open_agg5 {r : Reach} {b0 : Nat} {t : TypeId} {f0 f1 f2 f3 f4 : Field} {v : Value} {d : DataW H} {p : List MemPlace} (hs : P.underlying t = some (.struct #[f0, f1, f2, f3, f4])) (hone : oneCellFields P #[f0, f1, f2, f3, f4] = true) (hC : P.cellsOf t = 5)
    (hv : Value.okWide P w r b0 t v) (h : DataW.Trod enc P w base spare held t v d p) :
    ∃ (v0 v1 v2 v3 v4 : Value) (y0 y1 y2 y3 y4 : DataW H × List MemPlace) (n : Nat), v = .agg #[v0, v1, v2, v3, v4] ∧
      DataW.trod enc P w base spare held n f0.type [v0] = some y0 ∧ DataW.trod enc P w base spare held n f1.type [v1] = some y1 ∧ DataW.trod enc P w base spare held n f2.type [v2] = some y2 ∧ DataW.trod enc P w base spare held n f3.type [v3] = some y3 ∧ DataW.trod enc P w base spare held n f4.type [v4] = some y4 := by
  obtain ⟨cs, rfl, hsz⟩ := okWide_struct hs hv
  obtain ⟨l⟩ := cs
  match l, hsz.trans hC with
  | [c0, c1, c2, c3, c4], _ =>
    obtain ⟨fuel, hf⟩ := h
    obtain ⟨xs, n, _, hx, _, hlen, hg⟩ := DataW.trod_struct hs hf
    obtain ⟨o0, k0⟩ := hone_of hone 0 f0 rfl
    obtain ⟨o1, k1⟩ := hone_of hone 1 f1 rfl
    obtain ⟨o2, k2⟩ := hone_of hone 2 f2 rfl
    obtain ⟨o3, k3⟩ := hone_of hone 3 f3 rfl
    obtain ⟨o4, k4⟩ := hone_of hone 4 f4 rfl
    match xs, hlen with
    | [y0, y1, y2, y3, y4], _ =>
      exact ⟨c0, c1, c2, c3, c4, y0, y1, y2, y3, y4, n, rfl, by simpa [Value.cells, o0, k0] using hg 0 f0 rfl, by simpa [Value.cells, o1, k1] using hg 1 f1 rfl, by simpa [Value.cells, o2, k2] using hg 2 f2 rfl, by simpa [Value.cells, o3, k3] using hg 3 f3 rfl, by simpa [Value.cells, o4, k4] using hg 4 f4 rfl⟩
end

section
variable {H : Type} {enc : TypeId × Value → H} {W : World} {sp : Nat → Bool} {hd : Bool}
/-- a cell of type []byte -/
theorem bytes_trod {n base : Nat} {v : Value} {x : DataW H × List MemPlace} (hf : DataW.trod enc Tryz.prog W base (fun _ => true) hd n 23 [v] = some x) : ∃ bs, Byt W W.heap.size v bs := by
  rcases open_ints Tryz.underlying23 Tryz.underlying5 (by kernel_rfl) hf with ⟨hcs, -⟩ | ⟨a, len, cap, zs, hcs, -, hle, hmax, hall, -, hcell, hwf⟩
  · injection hcs with hcs _
    subst hcs
    exact ⟨[], Row.nil_ _ _⟩
  · injection hcs with hcs _
    subst hcs
    simp only [if_true] at hall
    have hlen : (((zs.take len).map fun n => UInt8.ofNat n.toNat).map bv).length = len := by simp; omega
    refine ⟨(zs.take len).map fun n => UInt8.ofNat n.toNat, some a, cap, by rw [hlen], by rw [hlen]; exact hle, hmax, (by intro e; cases e), ?_⟩
    intro hne
    have hp : 0 < zs.length := by
      rw [hall]
      have : len ≠ 0 := by
        intro e0
        apply hne
        exact List.length_eq_zero_iff.1 (hlen.trans e0)
      omega
    obtain ⟨b, off, rfl, hc⟩ := ints_at hcell hp
    refine ⟨b, off, rfl, World.block_lt_of_cell? W ⟨b, off + 0, none⟩ (hc 0 hp), ?_⟩
    intro j u hj
    have hjl : j < len := by
      have := (List.getElem?_eq_some_iff.1 hj).1
      rwa [hlen] at this
    rw [hc j (by omega), ← hj]
    have hz : zs[j]? = some (zs.getD j 0) := by simp [List.getD, List.getElem?_eq_getElem (show j < zs.length by omega)]
    have hb := bounds_u8 (hwf (zs.getD j 0) (List.mem_of_getElem? hz))
    rw [List.getElem?_map, List.getElem?_map, List.getElem?_take, if_pos hjl, hz]
    simp only [Option.map_some]
    congr 2
    show zs.getD j 0 = _
    rw [UInt8.toNat_ofNat']
    have : (zs.getD j 0).toNat % 2 ^ 8 = (zs.getD j 0).toNat := Nat.mod_eq_of_lt (by omega)
    rw [this]
    omega
theorem u32_trod {n base : Nat} {v : Value} {x : DataW H × List MemPlace} (hf : DataW.trod enc Tryz.prog W base sp hd n 97 [v] = some x) : ∃ m : UInt32, v = uv m := by
  obtain ⟨n', h, hx, hw⟩ := DataW.trod_int Tryz.underlying97 hf
  injection h with h _
  have hb := bounds_u32 hw
  refine ⟨UInt32.ofNat n'.toNat, ?_⟩
  rw [h]
  show _ = Value.int .u32 ((UInt32.ofNat n'.toNat).toNat : Int)
  rw [UInt32.toNat_ofNat']
  have : n'.toNat % 2 ^ 32 = n'.toNat := Nat.mod_eq_of_lt (by omega)
  rw [this]
  congr 1
  omega
theorem all2_of {α β : Type} {p : α → β → Prop} : ∀ (l : List α), (∀ a ∈ l, ∃ b, p a b) → ∃ m, All2 p l m
  | [], _ => ⟨[], trivial⟩
  | a :: l, h => by
    obtain ⟨b, hb⟩ := h a (by simp)
    obtain ⟨m, hm⟩ := all2_of l (fun x hx => h x (by simp [hx]))
    exact ⟨b :: m, hb, hm⟩
/-- a cell of type [][]byte -/
theorem lists_trod {n base : Nat} {v : Value} {x : DataW H × List MemPlace} (hf : DataW.trod enc Tryz.prog W base (fun _ => true) hd n 26 [v] = some x) : ∃ ls, Lst W W.heap.size v ls := by
  rcases DataW.trod_slice Tryz.underlying26 hf with ⟨hcs, -⟩ | ⟨a, len, cap, elems, rest, m, -, hcs, -, -, hle, hmax, hlen, hel, -, -⟩
  · injection hcs with hcs _
    subst hcs
    exact ⟨[], [], Row.nil_ _ _, trivial⟩
  · injection hcs with hcs _
    subst hcs
    have each : ∀ i, i < len → ∃ u bs, W.cell? (a.add i) = some u ∧ Byt W W.heap.size u bs := by
      intro i hi
      have h := hel i hi
      have hc : Tryz.prog.cellsOf 23 = 1 := by kernel_rfl
      rw [hc, Nat.mul_one] at h
      have hy : elems[i]? = some (elems[i]'(by omega)) := List.getElem?_eq_getElem (by omega)
      rw [hy, Option.bind_eq_some_iff] at h
      obtain ⟨cs, h1, h2⟩ := h
      have hl1 := (World.cells?_some h1).2.1
      match cs, hl1 with
      | [u], _ =>
        obtain ⟨bs, hb⟩ := bytes_trod h2
        exact ⟨u, bs, cell_of_cells?_one h1, hb⟩
    let us : List Value := (List.range len).map fun i => (W.cell? (a.add i)).getD undef
    have hus : us.length = len := by simp [us]
    have hget : ∀ i, i < len → us[i]? = W.cell? (a.add i) := by
      intro i hi
      obtain ⟨u, bs, h1, -⟩ := each i hi
      simp [us, hi, h1]
    obtain ⟨ls, hls⟩ := all2_of (p := fun u l => Byt W W.heap.size u l) us (by
      intro u hu
      obtain ⟨i, hi⟩ := List.getElem?_of_mem hu
      have hil : i < len := by have := (List.getElem?_eq_some_iff.1 hi).1; rwa [hus] at this
      obtain ⟨u', bs, h1, h2⟩ := each i hil
      rw [hget i hil, h1] at hi
      cases hi
      exact ⟨bs, h2⟩)
    refine ⟨ls, us, ⟨some a, cap, by rw [hus], by rw [hus]; exact hle, hmax, (by intro e; cases e), ?_⟩, hls⟩
    intro hne
    have hp : 0 < len := by
      have : us.length ≠ 0 := fun e => hne (List.length_eq_zero_iff.1 e)
      omega
    obtain ⟨b, off, spot⟩ := a
    obtain ⟨u0, -, h0, -⟩ := each 0 hp
    have hspot : spot = none := by simpa [Addr.add] using World.cell?_spot h0
    subst hspot
    refine ⟨b, off, rfl, World.block_lt_of_cell? W ⟨b, off + 0, none⟩ (by rw [← Go.WideShapes.add_plain]; exact h0), ?_⟩
    intro j u hj
    have hjl : j < len := by have := (List.getElem?_eq_some_iff.1 hj).1; rwa [hus] at this
    rw [← Go.WideShapes.add_plain, ← hget j hjl]
    exact hj
/-- an argument of type [][]byte, opened -/
theorem open_lists {v : Value} {d : DataW H} {p : List MemPlace} {base : Nat}
    (hv : Value.okWide Tryz.prog W .any base 26 v) (h : DataW.Trod enc Tryz.prog W 0 (fun _ => true) true 26 v d p) : ∃ ls, Lst W W.heap.size v ls := by
  obtain ⟨a0, len0, cap0, rfl⟩ := okWide_slice Tryz.underlying26 hv
  obtain ⟨fuel, hf⟩ := h
  exact lists_trod (n := fuel) (by simpa [Value.cells] using hf)
end
section
variable {H : Type} {enc : TypeId × Value → H} {P : Program} {w : World} {base : Nat} {spare : Nat → Bool} {held : Bool}
/-- a cell of type bool; of type string -/
theorem bool_trod {W : World} {n b0 : Nat} {v : Value} {x : DataW H × List MemPlace} {sp : Nat → Bool} {hd : Bool} (hf : DataW.trod enc Tryz.prog W b0 sp hd n 4 [v] = some x) : ∃ b : Bool, v = .bool b := by
  obtain ⟨b, h, -⟩ := DataW.trod_bool Tryz.underlying4 hf
  injection h with h _
  exact ⟨b, h⟩
theorem string_trod {W : World} {n b0 : Nat} {v : Value} {x : DataW H × List MemPlace} {sp : Nat → Bool} {hd : Bool} (hf : DataW.trod enc Tryz.prog W b0 sp hd n 9 [v] = some x) : ∃ xs : List UInt8, v = Value.string ⟨xs.toArray⟩ := by
  obtain ⟨s, h, -⟩ := DataW.trod_string Tryz.underlying9 hf
  injection h with h _
  exact ⟨s.data.toList, by rw [h]⟩
end
theorem open_aggN {H : Type} {enc : TypeId × Value → H} {P : Program} {w : World} {base : Nat} {spare : Nat → Bool} {held : Bool} {r : Reach} {b0 : Nat} {t : TypeId} {fs : Array Field} {v : Value} {d : DataW H} {p : List MemPlace}
    (hs : P.underlying t = some (.struct fs)) (hone : oneCellFields P fs = true) (hC : P.cellsOf t = fs.size) (hv : Value.okWide P w r b0 t v) (h : DataW.Trod enc P w base spare held t v d p) :
    ∃ (l : List Value) (n : Nat), v = .agg ⟨l⟩ ∧ l.length = fs.size ∧ ∀ (i : Nat) (f : Field), fs[i]? = some f → ∃ u y, l[i]? = some u ∧ DataW.trod enc P w base spare held n f.type [u] = some y := by
  obtain ⟨cs, rfl, hsz⟩ := okWide_struct hs hv
  obtain ⟨l⟩ := cs
  have hsz : l.length = fs.size := by rw [← hC]; exact hsz
  obtain ⟨fuel, hf⟩ := h
  obtain ⟨xs, n, _, hx, _, hlen, hg⟩ := DataW.trod_struct hs hf
  refine ⟨l, n, rfl, hsz, fun i f hi => ?_⟩
  obtain ⟨o, k⟩ := hone_of hone i f hi
  have hil : i < fs.size := (Array.getElem?_eq_some_iff.1 hi).1
  have := hg i f hi
  simp only [Value.cells, o, k] at this
  have e : (l.drop i).take 1 = [l[i]'(by omega)] := by
    rw [List.drop_eq_getElem_cons (by omega)]; rfl
  rw [e, List.getElem?_eq_getElem (by omega)] at this
  exact ⟨_, _, List.getElem?_eq_getElem (by omega), this⟩
end Go.Proofs.YtaajmfgplhfncaaGreat

/- From a law's walk to its row: arguments opened, the row's last step. ('post_of_below' is the guide's lemma, extra-small.md 9.) -/
import Derived.Test.YtcdjbciifnoajaaRows
import Derived.Test.YtcdjbciifnoajaaBase
import Derived.ProofKit
import Derived.OpenShut
import Derived.JoinedCond
import Derived.Below
import Derived.ChangeSame
namespace Go.Proofs.Ytcdjbciifnoajaa
open Go.ChangeShapes Go.WideShapes Go.ChangeAt Go.RowKit
set_option maxRecDepth 100000

theorem own : ownKnob Try.prog.godebug = none := by kernel_rfl
theorem laidOut : laidOutB Try.prog = true := by kernel_rfl

section
variable {H : Type} {enc : TypeId × Value → H} {P : Program}
theorem post_of_below {f : Func} {s : ChangeSpec} {apart fresh handsOn again : Bool} {W W' : World} {args : Array Value} {v : Value} {ds gs : List (DataW H)} {before pa pv : List MemPlace}
    (hW : DataW.Whole enc P f.params.toList s.vars apart W args.toList ds gs before)
    (hres : ∀ (b : Nat) (sp : Nat → Bool) (hd : Bool), DataW.TrodAll enc P W' b sp hd f.resultTypes.toList (v.resultList f.resultTypes.size) (s.fn H (ds ++ gs)).results [])
    (hargs : ∀ sp : Nat → Bool, (∀ p ∈ before, sp p.block = true) → DataW.TrodAll enc P W' 0 sp true f.params.toList args.toList (s.fn H (ds ++ gs)).args pa)
    (hvars : ∀ sp : Nat → Bool, (∀ p ∈ before, sp p.block = true) → DataW.TrodVars enc P W' sp s.vars (s.fn H (ds ++ gs)).vars pv)
    (hps : before = pa ++ pv) (hb : Below W.heap.size W W')
    (hok : ∀ (j : Nat) (t : TypeId) (r : Value), f.resultTypes[j]? = some t → (v.resultList f.resultTypes.size)[j]? = some r → Value.okWide P W' .any 0 t r) :
    s.post enc P f apart fresh handsOn again W args v W' := by
  have hlt : ∀ p ∈ before, p.block < W.heap.size := fun p hp => hW.lt p hp
  have hold : ∀ p ∈ before, (fun b => decide (b < W.heap.size)) p.block = true := fun p hp => by simpa using hlt p hp
  refine ⟨ds, gs, before, [], pa, pv, hW, hres _ _ _, hargs _ hold, hvars _ hold, World.keptBut_mono (fun p hp => ⟨hp, ?_⟩) (hb.frame (· ∈ before)), fun _ => ?_⟩
  · rw [hps, List.mem_append] at hp
    exact Or.inr hp
  · obtain ⟨_, _, _, _, _, hz, hn⟩ := hW
    refine ⟨hok, _, _, ([] ++ pa) ++ pv, ⟨[] ++ pa, pv, trodAll_append (hargs _ (fun _ _ => rfl)) (hres _ _ _), hvars _ (fun _ _ => rfl), rfl, ?_, ?_⟩, ?_⟩
    · intro b off hp
      have hin : MemPlace.cell b off ∈ before := by rw [hps]; simpa using hp
      rw [hb.frozen (hlt _ hin)]
      exact hz b off hin
    · intro ha
      have := hn ha
      rw [hps] at this
      simpa using this
    · intro p hp _
      rw [hps]
      simpa using hp

/-- all arguments read behind the call as they did before -/
theorem below_trodAll (hl : laidOutB P = true) {W W' : World} (hb : Below W.heap.size W W') {sp : Nat → Bool} :
    ∀ {ts : List TypeId} {vs : List Value} {ds : List (DataW H)} {p : List MemPlace}, (ts.all fun t => P.readableRec t && decide (t < P.types.size)) = true → (∀ x ∈ p, x.block < W.heap.size) → (∀ x ∈ p, sp x.block = true) →
      DataW.TrodAll enc P W 0 (fun _ => true) true ts vs ds p → DataW.TrodAll enc P W' 0 sp true ts vs ds p
  | [], _, _, _, _, _, _, h => by
    obtain ⟨rfl, rfl, rfl⟩ := trodAll_nil h
    exact trodAll_mk0
  | t :: ts, vs, ds, p, hr, hlt, hsp, h => by
    obtain ⟨v, vs1, d, ds1, a, b, rfl, rfl, rfl, h1, h2⟩ := trodAll_cons h
    simp only [List.all_cons, Bool.and_eq_true, decide_eq_true_eq] at hr
    refine trodAll_cons_mk ?_ (below_trodAll hl hb hr.2 (fun x hx => hlt x (by simp [hx])) (fun x hx => hsp x (by simp [hx])) h2)
    exact WideElems.Trod_stays hl hr.1.1 hr.1.2 h1 (fun x hx => hb.same (hlt x (by simp [hx]))) (fun x hx => hsp x (by simp [hx]))
end

/-- the row's last step of a law that only reads -/
theorem law_post {H : Type} {enc : TypeId × Value → H} {f : Func} {s : ChangeSpec} {W W' : World} {args : Array Value} {ds gs : List (DataW H)} {before : List MemPlace} {e : Ending}
    (hW : DataW.Whole enc Try.prog f.params.toList s.vars false W args.toList ds gs before) (hv : s.vars = []) (hs : (s.fn H ds) = { results := [.lit (.bool true)], args := ds })
    (hr : (f.params.toList.all fun t => Try.prog.readableRec t && decide (t < Try.prog.types.size)) = true) (hres : f.resultTypes = #[4]) (h : LawP W e W') :
    ∃ v, e = .returned v ∧ s.post enc Try.prog f false true false false W args v W' := by
  obtain ⟨rfl, hu⟩ := h
  have hb : Below W.heap.size W W' := hu.below (Nat.le_refl _) (by simp)
  have hW' := hW
  obtain ⟨p, q, hA, hV, rfl, hfz, hnd⟩ := hW
  rw [hv] at hV
  obtain ⟨rfl, rfl⟩ := trodVars_none hV
  have hlt := hW'.lt
  have hvars : ∀ sp : Nat → Bool, DataW.TrodVars enc Try.prog W' sp s.vars (s.fn H (ds ++ [])).vars [] := by
    intro sp
    rw [List.append_nil, hs, hv]
    exact rfl
  refine ⟨_, rfl, post_of_below (pa := p) (pv := []) hW' (fun _ _ _ => ?_) (fun sp hsp => ?_) (fun sp _ => hvars sp) rfl hb (ok_one hres rfl (okWide_bool_mk Try.underlying4 _))⟩
  · rw [List.append_nil, hs, hres]
    exact trodAll_cons_mk (shut_bool Try.underlying4 _) trodAll_mk0
  · rw [List.append_nil, hs]
    exact below_trodAll laidOut hb hr (fun x hx => hlt x (by simpa using hx)) (fun x hx => hsp x (by simpa using hx)) hA

/-- an argument of type []byte, opened -/
theorem open_bytes {H : Type} {enc : TypeId × Value → H} {W : World} {v : Value} {d : DataW H} {p : List MemPlace} {base : Nat}
    (hv : Value.okWide Try.prog W .any base 23 v) (h : DataW.Trod enc Try.prog W 0 (fun _ => true) true 23 v d p) :
    ∃ bs, Byt W W.heap.size v bs := by
  obtain ⟨a0, len0, cap0, rfl⟩ := okWide_slice Try.underlying23 hv
  obtain ⟨fuel, hf⟩ := h
  rcases open_ints Try.underlying23 Try.underlying5 (by kernel_rfl) hf with ⟨hcs, -⟩ | ⟨a, len, cap, zs, hcs, -, hle, hmax, hall, -, hcell, hwf⟩
  · simp [Value.cells] at hcs
    obtain ⟨rfl, rfl, rfl⟩ := hcs
    exact ⟨[], Row.nil_ _ _⟩
  · simp [Value.cells] at hcs
    obtain ⟨rfl, rfl, rfl⟩ := hcs
    simp only [if_true] at hall
    have hlen : (((zs.take len0).map fun n => UInt8.ofNat n.toNat).map bv).length = len0 := by simp; omega
    refine ⟨(zs.take len0).map fun n => UInt8.ofNat n.toNat, some a, cap0, by rw [hlen], by rw [hlen]; exact hle, hmax, (by intro e; cases e), ?_⟩
    intro hne
    have hp : 0 < zs.length := by
      rw [hall]
      have : len0 ≠ 0 := by
        intro e0
        apply hne
        exact List.length_eq_zero_iff.1 (hlen.trans e0)
      omega
    obtain ⟨b, off, rfl, hc⟩ := ints_at hcell hp
    refine ⟨b, off, rfl, World.block_lt_of_cell? W ⟨b, off + 0, none⟩ (hc 0 hp), ?_⟩
    intro j u hj
    have hjl : j < len0 := by
      have := (List.getElem?_eq_some_iff.1 hj).1
      rwa [hlen] at this
    rw [hc j (by omega), ← hj]
    have hz : zs[j]? = some (zs.getD j 0) := by simp [List.getD, List.getElem?_eq_getElem (show j < zs.length by omega)]
    have hb := bounds_u8 (hwf (zs.getD j 0) (List.mem_of_getElem? hz))
    rw [List.getElem?_map, List.getElem?_map, List.getElem?_take, if_pos hjl, hz]
    simp only [Option.map_some]
    congr 2
    show zs.getD j 0 = _
    rw [UInt8.toNat_ofNat']
    have : (zs.getD j 0).toNat % 2 ^ 8 = (zs.getD j 0).toNat := Nat.mod_eq_of_lt (by omega)
    rw [this]
    omega
end Go.Proofs.Ytcdjbciifnoajaa

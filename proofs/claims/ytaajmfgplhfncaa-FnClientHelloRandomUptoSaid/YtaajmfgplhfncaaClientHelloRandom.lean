/- The law ClientHelloRandom, where the argument is of bulk at most 1048576: it answers true; nothing of what was there is changed. -/
import Derived.Test.YtaajmfgplhfncaaChX
import Derived.Test.YtaajmfgplhfncaaEmit
import Derived.Test.YtaajmfgplhfncaaLift
namespace Go.Proofs.Ytaajmfgplhfncaa
open Go.ChangeShapes Go.WideShapes Go.ChangeAt Go.RowKit
set_option maxRecDepth 100000
section
variable {w w' : World} {B : Nat} {v : Value} {t : Ch} {e : Ending}
set_option maxHeartbeats 8000000 in
theorem law_ClientHelloRandom (hv : ChV w B v t) (hZ : ChSz t) : Calls Try.prog 4 #[v] w (LawP w) := by
  obtain ⟨cs1, rfl, -⟩ := ChV.ok.agg hv
  have hb0 := ChV.ok.box hv
  have HSZ := hid (ChV.size hv)
  obtain ⟨w1, hw1⟩ : ∃ w1, w.alloc (.cells cs1 29) = w1 := ⟨_, rfl⟩
  obtain ⟨s, hs⟩ : ∃ s, w.heap.size = s := ⟨_, rfl⟩
  have hu1 : Upd [] w w1 := by rw [← hw1]; exact (Upd.refl _ _).alloc _
  rw [hw1, hs] at hb0
  have HW := hid hw1
  have HS := hid hs
  have HU1 := hid hu1
  have HB0 := hid hb0
  have HZ := hid hZ
  have HF := hid (zzFits_Ch hb0.2 hZ)
  have hmk := run_make32
  clear hw1 hs hu1 hv hZ
  go_enter Try.func4, Try.ntmps4
  go_upto_region 1 with fail
  rw [HW.out, HS.out]
  go_wp2_with (refine wpList_load_vb ChV.ok hb0 _ rfl rfl rfl ?_)
  refine HF.out.mono ?_
  rintro e w2 ⟨b, rfl, hu2, -⟩
  have hU2 : Upd [] w w2 := HU1.out.trans hu2 (by simp)
  cases b
  · clear hb0
    go_wp2
    go_ret
    exact ⟨rfl, hU2⟩
  have hb2 := VB.upd ChV.ok HB0.out hu2
  have HU2 := hid hU2
  clear hb0 hu2 hU2 HF HW HS
  obtain ⟨g, hg⟩ : ∃ g, w2.heap.size = g := ⟨_, rfl⟩
  obtain ⟨wa, hwa⟩ : ∃ x, w2.alloc (.cells #[.int .u16 0, .slice none 0 0, .slice none 0 0, .slice none 0 0, .slice none 0 0, strv [], .bool false, .slice none 0 0, .slice none 0 0, .bool false, .slice none 0 0, .slice none 0 0, .slice none 0 0, .bool false, .slice none 0 0, .bool false, .slice none 0 0, .bool false, .slice none 0 0, .slice none 0 0, .slice none 0 0, .slice none 0 0, .bool false, .slice none 0 0, .slice none 0 0, .slice none 0 0, .slice none 0 0, .bool false, .slice none 0 0, .slice none 0 0, .slice none 0 0] 29) = x := ⟨_, rfl⟩
  have hua : Upd [] w2 wa := by rw [← hwa]; exact (Upd.refl _ _).alloc _
  have hba : Blk wa g 29 #[.int .u16 0, .slice none 0 0, .slice none 0 0, .slice none 0 0, .slice none 0 0, strv [], .bool false, .slice none 0 0, .slice none 0 0, .bool false, .slice none 0 0, .slice none 0 0, .slice none 0 0, .bool false, .slice none 0 0, .bool false, .slice none 0 0, .bool false, .slice none 0 0, .slice none 0 0, .slice none 0 0, .slice none 0 0, .bool false, .slice none 0 0, .slice none 0 0, .slice none 0 0, .slice none 0 0, .bool false, .slice none 0 0, .slice none 0 0, .slice none 0 0] := by rw [← hwa, ← hg]; exact Blk.new _ _ _
  have hsa : wa.heap.size = g + 1 := by rw [← hwa, ← hg]; simp
  have hva := VB.upd ChV.ok hb2 hua
  have hsg : s < g := by rw [← hg]; exact hb2.1.lt
  have HG := hid hg
  have HWA := hid hwa
  have HSA := hid hsa
  have HUA := hid hua
  have HB2 := hid hb2
  clear hg hwa hsa hua
  go_upto_region 4 with (first
    | (rw [HWA.out, HG.out]; refine wpList_store_vb ChV.ok hba (ChV.ok.upd hb2.2 HUA.out (by simp)) (Nat.le_of_eq HG.out) HSZ.out rfl _ _ rfl rfl rfl ?_; intro w3 hb3 hu3 hs3)
    | (refine wpList_load_vb ChV.ok hb2 _ rfl rfl rfl ?_))
  have hsb : Blk w3 s 29 cs1 := hva.1.upd hu3 (by simp; omega)
  have hg2 : w2.heap.size = g := HG.out
  have hu23 : Upd [] w2 w3 := HUA.out.trans hu3 (by simp; omega)
  obtain ⟨p, hp⟩ : ∃ p, w3.heap.size = p := ⟨_, rfl⟩
  have hgp : g < p := by rw [← hp]; exact hb3.1.lt
  obtain ⟨w4, hw4⟩ : ∃ x, w3.alloc (.cells (Array.replicate 32 (.int .u8 0)) 5) = x := ⟨_, rfl⟩
  have hy4 := zeros_new w3
  rw [hw4, hp] at hy4
  have hu34 : Upd [] w3 w4 := by rw [← hw4]; exact (Upd.refl _ _).alloc _
  have hb4 := hb3.1.upd hu34 (by simp)
  have hs4 := hsb.upd hu34 (by simp)
  obtain ⟨w5, hw5⟩ : ∃ x, w4.setCell ⟨g, 1, none⟩ (.slice (some ⟨p, 0, none⟩) 32 32) = x := ⟨_, rfl⟩
  have hu45 : Upd [g] w4 w5 := by rw [← hw5]; exact (Upd.refl _ _).setCell (by simp) _
  have hb5 : Blk w5 g 29 (cs1.setIfInBounds 1 (.slice (some ⟨p, 0, none⟩) 32 32)) := by rw [← hw5]; exact hb4.set_ 1 _
  have hs5 := hs4.upd hu45 (by simp; omega)
  have hy5 : Byt w5 w4.heap.size (.slice (some ⟨p, 0, none⟩) 32 32) (List.replicate 32 0) := Row.apart hy4 hu45 (fun k hk hm => by simp [Value.ownBlock] at hk hm; omega)
  have hu25 : Upd [] w2 w5 := (hu23.trans hu34 (by simp)).trans hu45 (by simp; omega)
  have hv5 : ChV w5 w5.heap.size (.agg cs1) t := ChV.ok.shrink (ChV.ok.upd hb2.2 hu25 (by simp))
  have hr5 : ChV w5 w5.heap.size (.agg (cs1.setIfInBounds 1 (.slice (some ⟨p, 0, none⟩) 32 32))) { t with random := List.replicate 32 0 } := GV.set_ hv5 (f := .byt (List.replicate 32 0)) (Row.shrink hy5) rfl
  obtain ⟨A1, c1, a1, -⟩ := GV.byt hv5 (i := 1) (l := t.random) rfl
  have c4 : w4.cell? ⟨g, 1, none⟩ = some (.slice A1 t.random.length c1) := (hb4.cell 1).trans a1
  have f4 := hb4.frozen 1
  have HW4 := hid hw4
  have HW5 := hid hw5
  have HP := hid hp
  have HS5 := hid (show VB 29 ChV w5 s t cs1 from ⟨hs5, hv5⟩)
  have HR5 := hid (show VB 29 ChV w5 g { t with random := List.replicate 32 0 } _ from ⟨hb5, hr5⟩)
  have HU5 := hid (HU2.out.trans hu25 (by simp))
  have d1 : w5.cell? ⟨s, 1, none⟩ = some (.slice A1 t.random.length c1) := (hs5.cell 1).trans a1
  have HD1 := hid d1
  clear hsb hg2 hu23 hp hw4 hy4 hu34 hb4 hs4 hw5 hu45 hb5 hs5 hy5 hu25 hv5 hr5 a1 hb3 hu3 hs3 hva hba HWA HSA HUA HB2 HG d1 hb2
  go_upto_region 5 with (rw [HW4.out, HP.out])
  rw [HW5.out]
  clear HW4 HW5 HP c4 f4
  have d1 := HD1.out
  rcases bcase ((t.random.length : Int) == 32) with hz | hz
  · go_wp2_with fail
    refine (alive_any (w := w5)).mono ?_
    rintro e w6 ⟨rfl, hu6⟩
    go_wp2
    go_ret
    exact ⟨rfl, HU5.out.trans hu6 (by simp)⟩
  have hne : t.random.length ≠ 32 := fun e => by rw [e] at hz; exact absurd hz (by decide)
  have HNE := hid hne
  clear hne
  have hbr := HR5.out
  have HRT := hid (Right_Ch hbr.2 HZ.out.alpn HZ.out.host)
  go_wp2_with (refine wpList_load_vb ChV.ok hbr _ rfl rfl rfl ?_)
  refine HRT.out.mono ?_
  rintro e w6 ⟨rfl, hu6⟩
  have hu56 := HU5.out.trans hu6 (by simp)
  have HU6 := hid hu56
  have hb6 := VB.upd ChV.ok HS5.out hu6
  have HB6 := hid hb6
  clear d1 hbr hu6 hu56 hb6 HRT
  rcases bcase (chRight { t with random := List.replicate 32 0 }) with hr | hr
  rotate_left
  · rw [hr]
    clear hr hz
    go_wp2_with fail
    refine (alive_any (w := w6)).mono ?_
    rintro e w7 ⟨rfl, hu7⟩
    go_wp2
    go_ret
    exact ⟨rfl, HU6.out.trans hu7 (by simp)⟩
  have hok := chRight_iff hr
  have HA : Hid (ChArg t) := hid ⟨HZ.out, hok.ks, hok.pa, hok.ep⟩
  have hb6 := HB6.out
  have HM := hid (impl_MarshalCh hb6.2 HA.out)
  rw [chMake_random HNE.out] at HM
  rw [hr]
  clear hr hz hok
  go_wp2_with (refine wpList_load_vb ChV.ok hb6 _ rfl rfl rfl ?_)
  refine HM.out.mono ?_
  rintro e w7 ⟨hu7, rfl⟩
  have HU7 := hid (HU6.out.trans hu7 (by simp))
  clear hb6 hu7
  go_wp2_with fail
  refine (alive_any (w := w7)).mono ?_
  rintro e w8 ⟨rfl, hu8⟩
  go_wp2
  go_ret
  exact ⟨rfl, HU7.out.trans hu8 (by simp)⟩
end
set_option maxRecDepth 100000 in
theorem lifted_ClientHelloRandom (os : Os) (started : os.Started) (H : Type) (enc : TypeId × Value → H) (F : Stop.Interp) :
    ReturnsInHanded {} Try.checked os 4 .any ((Rows.OpenSpec.upto Rows.fnClientHelloRandomSpec).pre6 enc Try.prog Try.f4 Rows.fnClientHelloRandomUptoRow.domain false) (((Rows.OpenSpec.upto Rows.fnClientHelloRandomSpec).at F).post enc Try.prog Try.f4 false true false false) := by
  refine returnsInHanded_of_cond (C := Try.checked) (s := Rows.OpenSpec.upto Rows.fnClientHelloRandomSpec) (k := Rows.uptoSmall) rfl own started (by kernel_rfl) Try.func4
    (OpenSpec.witness (enc := enc) (C := Try.checked) (s := Rows.OpenSpec.upto Rows.fnClientHelloRandomSpec) (k := Rows.uptoSmall) rfl false ⟨#[], #[.agg #[.int .u16 0, .slice none 0 0, .slice none 0 0, .slice none 0 0, .slice none 0 0, .string ⟨#[]⟩, .bool false, .slice none 0 0, .slice none 0 0, .bool false, .slice none 0 0, .slice none 0 0, .slice none 0 0, .bool false, .slice none 0 0, .bool false, .slice none 0 0, .bool false, .slice none 0 0, .slice none 0 0, .slice none 0 0, .slice none 0 0, .bool false, .slice none 0 0, .slice none 0 0, .slice none 0 0, .slice none 0 0, .bool false, .slice none 0 0, .slice none 0 0, .slice none 0 0]], []⟩ 8 (by kernel_rfl) (by kernel_rfl) (by kernel_rfl) (x := ([.agg [.lit (.int .u16 0), .nil, .nil, .nil, .nil, .lit (.string []), .lit (.bool false), .nil, .nil, .lit (.bool false), .nil, .nil, .nil, .lit (.bool false), .nil, .lit (.bool false), .nil, .lit (.bool false), .nil, .nil, .nil, .nil, .lit (.bool false), .nil, .nil, .nil, .nil, .lit (.bool false), .nil, .nil, .nil]], [], [])) (by kernel_rfl) rfl (by kernel_rfl)) ?_
  intro W base args ds gs before hval0 hW hcnd hk0 _
  have hval : ∀ (j : Nat) t v, Try.f4.params[j]? = some t → args[j]? = some v → Value.okWide Try.prog W .any base t v := hval0
  have hW' := hW
  obtain ⟨p, q, hA0, hV, rfl, hfz, hnd⟩ := hW
  obtain ⟨rfl, rfl⟩ := trodVars_none hV
  rw [List.append_nil] at hk0
  have hk := uptoSmall_le hk0
  have hA : DataW.TrodAll enc Try.prog W 0 (fun _ => true) true Try.f4.params.toList args.toList ds p := hA0
  rw [Try.params4] at hA hval
  obtain ⟨v0, vs0, d0, ds0, p0, q0, hargs, rfl, rfl, h0, r0⟩ := trodAll_cons hA
  obtain ⟨rfl, rfl, rfl⟩ := trodAll_nil r0
  obtain rfl : args = #[v0] := by cases args; simp_all
  have b0 : Rows.uptoBulk d0 ≤ 1048576 := Nat.le_trans (bulk_part (by simp)) hk
  obtain ⟨m, y0, z0⟩ := open_ch (hval 0 29 _ rfl rfl) h0 b0
  exact (law_ClientHelloRandom y0 z0).mono fun e W' h => law_post hW' rfl rfl (by kernel_rfl) (by kernel_rfl) h
theorem ClientHelloRandom_holds : Rows.FnClientHelloRandomUptoSaid :=
  OpenClaim.holds_of_cond 4 Try.f4 rfl rfl rfl rfl rfl rfl rfl ⟨rfl, rfl, rfl, rfl, rfl⟩ rfl rfl rfl rfl rfl (by kernel_rfl) Try.func4 (by kernel_rfl)
    (of_decide_eq_true (by kernel_rfl)) (by unfold Func.isWrapper; first | (rw [if_pos (by decide +kernel)]; kernel_rfl) | (rw [if_neg (by decide +kernel)]; exact ⟨rfl, rfl⟩))
    (fun os started H enc _ F => lifted_ClientHelloRandom os started H enc F)
end Go.Proofs.Ytaajmfgplhfncaa

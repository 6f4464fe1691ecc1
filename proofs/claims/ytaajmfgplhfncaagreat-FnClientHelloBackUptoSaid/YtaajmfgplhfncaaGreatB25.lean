/- Texts joined: Ret, ChK, Lex, Held, HeldC, ChSm0, HeldE. -/
import Derived.OrdersHeld
import Derived.Deep.MidRow
import Derived.Deep.RegionHeld3
import Derived.StillTailTactics
import Derived.Test.YtaajmfgplhfncaaGreatB10
import Derived.Test.YtaajmfgplhfncaaGreatB07
namespace Go.Proofs.YtaajmfgplhfncaaGreat
open Go.RowKit
set_option maxRecDepth 100000
section
variable {ops : Array Oper} {Q : Exit → Act → World → Prop} {S : World → Prop} {a : Act} {o : Oper} {T : TypeId} {g k i : Nat} {v : Value} {w : World} {cs zs : Array Value} {K : Act → World → Prop}
theorem wpOp_enter (hi0 : ops[i]? = some o) (hw : Region.wanted o (yielded ops a.tmps) = true) (f : FuncId) (args : Array Value) (he : (execOp a.eval o).run Tryz.prog w = .ok (.enter f args) w)
    (h : Calls Tryz.prog f args w fun e w' => match e with | .returned v => K (a.put o.dst v) w' | .panicked c => Q (.panic c) a w' | .outgrown => LetsOut Q) : wpOp Tryz.prog ops Q i K a w := by
  unfold wpOp
  simp only [hi0, hw, if_true]
  refine .inl ?_
  unfold Oper.wp
  rw [he]
  exact h.mono fun e w' h => by cases e <;> exact h
end
end Go.Proofs.YtaajmfgplhfncaaGreat
namespace Go.Proofs.YtaajmfgplhfncaaGreat
open Go.RowKit
set_option maxRecDepth 100000
section
variable {w w' : World} {B C : Nat} {v u : Value} {t : Ch}
set_option maxHeartbeats 8000000 in
theorem sameKeys_eq {E : List UInt16} (hv : ChV w B v { t with exs := E }) (hu : ChV w C u t) (hl : t.pl.length = t.pa.length) (hz : (identsB (chPs t)).length ≤ 1099511627776) : Calls Tryz.prog 42 #[v, u] w (LawP w) := by
  have hfw := run_field_writer
  obtain ⟨cs1, rfl, -⟩ := ChV.ok.agg hv
  obtain ⟨cs2, rfl, -⟩ := ChV.ok.agg hu
  obtain ⟨w1, hw1⟩ : ∃ w1, (w.alloc (.cells cs1 29)).alloc (.cells cs2 29) = w1 := ⟨_, rfl⟩
  obtain ⟨s, hs⟩ : ∃ s, w.heap.size = s := ⟨_, rfl⟩
  have hu1 : Upd [] w w1 := by rw [← hw1]; exact ((Upd.refl _ _).alloc _).alloc _
  have hb1 : Blk w1 s 29 cs1 := by rw [← hw1, ← hs]; exact (Blk.new _ _ _).alloc _
  have hm1 : Blk w1 (s + 1) 29 cs2 := by
    rw [← hw1, ← hs]
    have := Blk.new (w.alloc (.cells cs1 29)) 29 cs2
    rwa [show (w.alloc (.cells cs1 29)).heap.size = w.heap.size + 1 by simp] at this
  obtain ⟨A24, c24, a24, x24⟩ := GV.lst hv (i := 24) (ls := t.pl) rfl
  obtain ⟨A25, c25, a25, x25⟩ := GV.row hv (i := 25) (us := t.pa.map uv) rfl (n := t.pa.length) (by simp)
  obtain ⟨A26, c26, a26, x26⟩ := GV.lst hv (i := 26) (ls := t.pb) rfl
  obtain ⟨Ab24, cb24, b24, y24⟩ := GV.lst hu (i := 24) (ls := t.pl) rfl
  obtain ⟨Ab25, cb25, b25, y25⟩ := GV.row hu (i := 25) (us := t.pa.map uv) rfl (n := t.pa.length) (by simp)
  obtain ⟨Ab26, cb26, b26, y26⟩ := GV.lst hu (i := 26) (ls := t.pb) rfl
  replace x24 := Lst.upd x24.shrink hu1 (by simp)
  replace y24 := Lst.upd y24.shrink hu1 (by simp)
  replace x25 := Row.upd x25.shrink hu1 (by simp)
  replace y25 := Row.upd y25.shrink hu1 (by simp)
  replace x26 := Lst.upd x26.shrink hu1 (by simp)
  replace y26 := Lst.upd y26.shrink hu1 (by simp)
  have e1 : (chPs t).map (·.1) = t.pl := zip_fst hl
  have e2 : ((chPs t).map fun x => uv x.2) = t.pa.map uv := by
    have := congrArg (List.map uv) (zip_snd hl)
    rw [List.map_map] at this
    exact this
  replace x24 : Lst w1 w1.heap.size (.slice A24 t.pl.length c24) ((chPs t).map (·.1)) := by rw [e1]; exact Lst.shrink x24
  replace y24 : Lst w1 w1.heap.size (.slice Ab24 t.pl.length cb24) ((chPs t).map (·.1)) := by rw [e1]; exact Lst.shrink y24
  replace x25 : Row w1 w1.heap.size (.slice A25 t.pa.length c25) ((chPs t).map fun x => uv x.2) := by rw [e2]; exact Row.shrink x25
  replace y25 : Row w1 w1.heap.size (.slice Ab25 t.pa.length cb25) ((chPs t).map fun x => uv x.2) := by rw [e2]; exact Row.shrink y25
  have HW := hid hw1
  have HS0 := hid hs
  clear hw1 hs hl e1 e2 hv hu
  go_enter Tryz.func42, Tryz.ntmps42
  go_upto_region 1 with fail
  rw [HW.out, HS0.out]
  go_wp2_with fail
  refine wp_region_held (S := fun u => u.cell? ⟨s, 24, none⟩ = some (.slice A24 t.pl.length c24) ∧ u.cell? ⟨s, 25, none⟩ = some (.slice A25 t.pa.length c25) ∧ u.cell? ⟨s, 26, none⟩ = some (.slice A26 t.pb.length c26) ∧ u.cell? ⟨s + 1, 24, none⟩ = some (.slice Ab24 t.pl.length cb24) ∧ u.cell? ⟨s + 1, 25, none⟩ = some (.slice Ab25 t.pa.length cb25) ∧ u.cell? ⟨s + 1, 26, none⟩ = some (.slice Ab26 t.pb.length cb26)) (by kernel_rfl) ?_
  change wpAnyH _ _ _ _ _ _ _ _ (World.drew _)
  have hdr : Upd [] w1 (World.drew w1) := (Upd.refl [] w1).drew
  have hU2 := hu1.trans hdr (by simp)
  have hb2 := hb1.upd hdr (by simp)
  have hm2 := hm1.upd hdr (by simp)
  replace x24 := Lst.upd x24 hdr (by simp)
  replace y24 := Lst.upd y24 hdr (by simp)
  replace x25 := Row.upd x25 hdr (by simp)
  replace y25 := Row.upd y25 hdr (by simp)
  replace x26 := Lst.upd x26 hdr (by simp)
  replace y26 := Lst.upd y26 hdr (by simp)
  obtain ⟨w2, hw2⟩ : ∃ x, World.drew w1 = x := ⟨_, rfl⟩
  rw [hw2] at hb2 hm2 hU2 x24 x25 x26 y24 y25 y26 ⊢
  clear hw2 hdr hb1 hm1 hu1
  have HS : w2.cell? ⟨s, 24, none⟩ = some (.slice A24 t.pl.length c24) ∧ w2.cell? ⟨s, 25, none⟩ = some (.slice A25 t.pa.length c25) ∧ w2.cell? ⟨s, 26, none⟩ = some (.slice A26 t.pb.length c26) ∧ w2.cell? ⟨s + 1, 24, none⟩ = some (.slice Ab24 t.pl.length cb24) ∧ w2.cell? ⟨s + 1, 25, none⟩ = some (.slice Ab25 t.pa.length cb25) ∧ w2.cell? ⟨s + 1, 26, none⟩ = some (.slice Ab26 t.pb.length cb26) := ⟨hb2.at_ a24, hb2.at_ a25, hb2.at_ a26, hm2.at_ b24, hm2.at_ b25, hm2.at_ b26⟩
  try simp only [Act.put, List.getElem_toArray, List.getElem_cons_zero, List.getElem_cons_succ, List.setIfInBounds_toArray, List.set_cons_zero, List.set_cons_succ]
  refine wpAnyH_take (i := 0) (v := ?vR0) rfl (by kernel_rfl) (by kernel_rfl) (by kernel_rfl) (fun _ _ _ h => h) (Or.inl ⟨by rfl, ?hR0⟩) HS ?restR0
  case hR0 =>
    rintro u ⟨k1, k2, k3, k4, k5, k6⟩
    go_simp
    try with_reducible rfl
  try simp only [Act.put, List.getElem_toArray, List.getElem_cons_zero, List.getElem_cons_succ, List.setIfInBounds_toArray, List.set_cons_zero, List.set_cons_succ]
  refine wpAnyH_take (i := 1) (v := ?vR1) rfl (by kernel_rfl) (by kernel_rfl) (by kernel_rfl) (fun _ _ _ h => h) (Or.inl ⟨by rfl, ?hR1⟩) HS ?restR1
  case hR1 =>
    rintro u ⟨k1, k2, k3, k4, k5, k6⟩
    go_simp
    try with_reducible rfl
  try simp only [Act.put, List.getElem_toArray, List.getElem_cons_zero, List.getElem_cons_succ, List.setIfInBounds_toArray, List.set_cons_zero, List.set_cons_succ]
  refine wpAnyH_take (i := 2) (v := ?vR2) rfl (by kernel_rfl) (by kernel_rfl) (by kernel_rfl) (fun _ _ _ h => h) (Or.inl ⟨by rfl, ?hR2⟩) HS ?restR2
  case hR2 =>
    rintro u ⟨k1, k2, k3, k4, k5, k6⟩
    go_simp
    try with_reducible rfl
  try simp only [Act.put, List.getElem_toArray, List.getElem_cons_zero, List.getElem_cons_succ, List.setIfInBounds_toArray, List.set_cons_zero, List.set_cons_succ]
  refine wpAnyH_take (i := 3) (v := ?vR3) rfl (by kernel_rfl) (by kernel_rfl) (by kernel_rfl) (fun _ _ _ h => h) (Or.inl ⟨by rfl, ?hR3⟩) HS ?restR3
  case hR3 =>
    rintro u ⟨k1, k2, k3, k4, k5, k6⟩
    go_simp
    try with_reducible rfl
  try simp only [Act.put, List.getElem_toArray, List.getElem_cons_zero, List.getElem_cons_succ, List.setIfInBounds_toArray, List.set_cons_zero, List.set_cons_succ]
  refine wpAnyH_take (i := 6) (v := ?vR6) rfl (by kernel_rfl) (by kernel_rfl) (by kernel_rfl) (fun _ _ _ h => h) (Or.inl ⟨by rfl, ?hR6⟩) HS ?restR6
  case hR6 =>
    rintro u ⟨k1, k2, k3, k4, k5, k6⟩
    go_simp
    try with_reducible rfl
  try simp only [Act.put, List.getElem_toArray, List.getElem_cons_zero, List.getElem_cons_succ, List.setIfInBounds_toArray, List.set_cons_zero, List.set_cons_succ]
  refine wpAnyH_take (i := 7) (v := ?vR7) rfl (by kernel_rfl) (by kernel_rfl) (by kernel_rfl) (fun _ _ _ h => h) (Or.inl ⟨by rfl, ?hR7⟩) HS ?restR7
  case hR7 =>
    rintro u ⟨k1, k2, k3, k4, k5, k6⟩
    go_simp
    try with_reducible rfl
  try simp only [Act.put, List.getElem_toArray, List.getElem_cons_zero, List.getElem_cons_succ, List.setIfInBounds_toArray, List.set_cons_zero, List.set_cons_succ]
  refine wpAnyH_take (i := 8) (v := ?vR8) rfl (by kernel_rfl) (by kernel_rfl) (by kernel_rfl) (fun _ _ _ h => h) (Or.inl ⟨by rfl, ?hR8⟩) HS ?restR8
  case hR8 =>
    rintro u ⟨k1, k2, k3, k4, k5, k6⟩
    go_simp
    try with_reducible rfl
  try simp only [Act.put, List.getElem_toArray, List.getElem_cons_zero, List.getElem_cons_succ, List.setIfInBounds_toArray, List.set_cons_zero, List.set_cons_succ]
  refine wpAnyH_take (i := 9) (v := ?vR9) rfl (by kernel_rfl) (by kernel_rfl) (by kernel_rfl) (fun _ _ _ h => h) (Or.inl ⟨by rfl, ?hR9⟩) HS ?restR9
  case hR9 =>
    rintro u ⟨k1, k2, k3, k4, k5, k6⟩
    go_simp
    try with_reducible rfl
  try simp only [Act.put, List.getElem_toArray, List.getElem_cons_zero, List.getElem_cons_succ, List.setIfInBounds_toArray, List.set_cons_zero, List.set_cons_succ]
  refine wpAnyH_all (rs := [4]) (by kernel_rfl) (by simp) (fun i hi => ?_)
  obtain rfl : i = 4 := by simpa using hi
  clear hi
  refine wpOp_enter rfl rfl 31 #[.slice A24 t.pl.length c24, .slice A25 t.pa.length c25] (by kernel_rfl) ?_
  refine (identities_any_w x24 x25 hz).mono ?_
  rintro e w3 ⟨v3, rfl, hy3, hn3, ⟨A3, n3, c3, rfl⟩, hu3⟩
  have hb3 := hb2.upd hu3 (by simp)
  have hm3 := hm2.upd hu3 (by simp)
  have hU3 := hU2.trans hu3 (by simp)
  replace x24 := Lst.upd x24 hu3 (by simp)
  replace y24 := Lst.upd y24 hu3 (by simp)
  replace x25 := Row.upd x25 hu3 (by simp)
  replace y25 := Row.upd y25 hu3 (by simp)
  replace x26 := Lst.upd x26 hu3 (by simp)
  replace y26 := Lst.upd y26 hu3 (by simp)
  clear HS
  have HS : w3.cell? ⟨s, 24, none⟩ = some (.slice A24 t.pl.length c24) ∧ w3.cell? ⟨s, 25, none⟩ = some (.slice A25 t.pa.length c25) ∧ w3.cell? ⟨s, 26, none⟩ = some (.slice A26 t.pb.length c26) ∧ w3.cell? ⟨s + 1, 24, none⟩ = some (.slice Ab24 t.pl.length cb24) ∧ w3.cell? ⟨s + 1, 25, none⟩ = some (.slice Ab25 t.pa.length cb25) ∧ w3.cell? ⟨s + 1, 26, none⟩ = some (.slice Ab26 t.pb.length cb26) := ⟨hb3.at_ a24, hb3.at_ a25, hb3.at_ a26, hm3.at_ b24, hm3.at_ b25, hm3.at_ b26⟩
  refine ⟨HS, ?_⟩
  try simp only [Act.put, List.getElem_toArray, List.getElem_cons_zero, List.getElem_cons_succ, List.setIfInBounds_toArray, List.set_cons_zero, List.set_cons_succ]
  refine wpAnyH_take (i := 5) (v := ?vR5) rfl (by kernel_rfl) (by kernel_rfl) (by kernel_rfl) (fun _ _ _ h => h) (Or.inl ⟨by rfl, ?hR5⟩) HS ?restR5
  case hR5 =>
    rintro u ⟨k1, k2, k3, k4, k5, k6⟩
    go_simp
    try with_reducible rfl
  try simp only [Act.put, List.getElem_toArray, List.getElem_cons_zero, List.getElem_cons_succ, List.setIfInBounds_toArray, List.set_cons_zero, List.set_cons_succ]
  refine wpAnyH_all (rs := [10]) (by kernel_rfl) (by simp) (fun i hi => ?_)
  obtain rfl : i = 10 := by simpa using hi
  clear hi
  refine wpOp_enter rfl rfl 31 #[.slice Ab24 t.pl.length cb24, .slice Ab25 t.pa.length cb25] (by kernel_rfl) ?_
  refine (identities_any_w y24 y25 hz).mono ?_
  rintro e w4 ⟨v4, rfl, hy4, hn4, ⟨A4, n4, c4, rfl⟩, hu4⟩
  replace hy3 := Row.upd hy3 hu4 (by simp)
  have hb4 := hb3.upd hu4 (by simp)
  have hm4 := hm3.upd hu4 (by simp)
  have hU4 := hU3.trans hu4 (by simp)
  replace x24 := Lst.upd x24 hu4 (by simp)
  replace y24 := Lst.upd y24 hu4 (by simp)
  replace x25 := Row.upd x25 hu4 (by simp)
  replace y25 := Row.upd y25 hu4 (by simp)
  replace x26 := Lst.upd x26 hu4 (by simp)
  replace y26 := Lst.upd y26 hu4 (by simp)
  clear HS
  have HS : w4.cell? ⟨s, 24, none⟩ = some (.slice A24 t.pl.length c24) ∧ w4.cell? ⟨s, 25, none⟩ = some (.slice A25 t.pa.length c25) ∧ w4.cell? ⟨s, 26, none⟩ = some (.slice A26 t.pb.length c26) ∧ w4.cell? ⟨s + 1, 24, none⟩ = some (.slice Ab24 t.pl.length cb24) ∧ w4.cell? ⟨s + 1, 25, none⟩ = some (.slice Ab25 t.pa.length cb25) ∧ w4.cell? ⟨s + 1, 26, none⟩ = some (.slice Ab26 t.pb.length cb26) := ⟨hb4.at_ a24, hb4.at_ a25, hb4.at_ a26, hm4.at_ b24, hm4.at_ b25, hm4.at_ b26⟩
  refine ⟨HS, ?_⟩
  try simp only [Act.put, List.getElem_toArray, List.getElem_cons_zero, List.getElem_cons_succ, List.setIfInBounds_toArray, List.set_cons_zero, List.set_cons_succ]
  refine wpAnyH_take (i := 11) (v := ?vR11) rfl (by kernel_rfl) (by kernel_rfl) (by kernel_rfl) (fun _ _ _ h => h) (Or.inl ⟨by rfl, ?hR11⟩) HS ?restR11
  case hR11 =>
    rintro u ⟨k1, k2, k3, k4, k5, k6⟩
    go_simp
    try with_reducible rfl
  try simp only [Act.put, List.getElem_toArray, List.getElem_cons_zero, List.getElem_cons_succ, List.setIfInBounds_toArray, List.set_cons_zero, List.set_cons_succ]
  refine wpAnyH_all (rs := [12]) (by kernel_rfl) (by simp) (fun i hi => ?_)
  obtain rfl : i = 12 := by simpa using hi
  clear hi
  refine wpOp_enter rfl rfl 39 #[.slice A3 n3 c3, .slice A4 n4 c4] (by kernel_rfl) ?_
  have hsm := same_any hy3 hy4
  rw [beq_self_eq_true] at hsm
  refine hsm.mono ?_
  rintro e w5 ⟨rfl, rfl⟩
  refine ⟨HS, ?_⟩
  try simp only [Act.put, List.getElem_toArray, List.getElem_cons_zero, List.getElem_cons_succ, List.setIfInBounds_toArray, List.set_cons_zero, List.set_cons_succ]
  refine wpAnyH_take (i := 13) (v := ?vR13) rfl (by kernel_rfl) (by kernel_rfl) (by kernel_rfl) (fun _ _ _ h => h) (Or.inl ⟨by rfl, ?hR13⟩) HS ?restR13
  case hR13 =>
    rintro u ⟨k1, k2, k3, k4, k5, k6⟩
    go_simp
    try with_reducible rfl
  try simp only [Act.put, List.getElem_toArray, List.getElem_cons_zero, List.getElem_cons_succ, List.setIfInBounds_toArray, List.set_cons_zero, List.set_cons_succ]
  refine wpAnyH_take (i := 14) (v := ?vR14) rfl (by kernel_rfl) (by kernel_rfl) (by kernel_rfl) (fun _ _ _ h => h) (Or.inl ⟨by rfl, ?hR14⟩) HS ?restR14
  case hR14 =>
    rintro u ⟨k1, k2, k3, k4, k5, k6⟩
    go_simp
    try with_reducible rfl
  try simp only [Act.put, List.getElem_toArray, List.getElem_cons_zero, List.getElem_cons_succ, List.setIfInBounds_toArray, List.set_cons_zero, List.set_cons_succ]
  refine wpAnyH_take (i := 15) (v := ?vR15) rfl (by kernel_rfl) (by kernel_rfl) (by kernel_rfl) (fun _ _ _ h => h) (Or.inl ⟨by rfl, ?hR15⟩) HS ?restR15
  case hR15 =>
    rintro u ⟨k1, k2, k3, k4, k5, k6⟩
    go_simp
    try with_reducible rfl
  try simp only [Act.put, List.getElem_toArray, List.getElem_cons_zero, List.getElem_cons_succ, List.setIfInBounds_toArray, List.set_cons_zero, List.set_cons_succ]
  refine wpAnyH_take (i := 16) (v := ?vR16) rfl (by kernel_rfl) (by kernel_rfl) (by kernel_rfl) (fun _ _ _ h => h) (Or.inl ⟨by rfl, ?hR16⟩) HS ?restR16
  case hR16 =>
    rintro u ⟨k1, k2, k3, k4, k5, k6⟩
    go_simp
    try with_reducible rfl
  try simp only [Act.put, List.getElem_toArray, List.getElem_cons_zero, List.getElem_cons_succ, List.setIfInBounds_toArray, List.set_cons_zero, List.set_cons_succ]
  refine wpAnyH_take (i := 17) (v := ?vR17) rfl (by kernel_rfl) (by kernel_rfl) (by kernel_rfl) (fun _ _ _ h => h) (Or.inl ⟨by rfl, ?hR17⟩) HS ?restR17
  case hR17 =>
    rintro u ⟨k1, k2, k3, k4, k5, k6⟩
    go_simp
    try with_reducible rfl
  try simp only [Act.put, List.getElem_toArray, List.getElem_cons_zero, List.getElem_cons_succ, List.setIfInBounds_toArray, List.set_cons_zero, List.set_cons_succ]
  refine wpAnyH_all (rs := [18]) (by kernel_rfl) (by simp) (fun i hi => ?_)
  obtain rfl : i = 18 := by simpa using hi
  clear hi
  refine wpOp_enter rfl rfl 41 #[.slice A26 t.pb.length c26, .slice Ab26 t.pb.length cb26] (by kernel_rfl) ?_
  have hsl := SameLists_any x26 y26
  rw [beq_self_eq_true] at hsl
  refine hsl.mono ?_
  rintro e w6 ⟨rfl, rfl⟩
  refine ⟨HS, ?_⟩
  try simp only [Act.put, List.getElem_toArray, List.getElem_cons_zero, List.getElem_cons_succ, List.setIfInBounds_toArray, List.set_cons_zero, List.set_cons_succ]
  refine wpAnyH_take (i := 19) (v := ?vR19) rfl (by kernel_rfl) (by kernel_rfl) (by kernel_rfl) (fun _ _ _ h => h) (Or.inl ⟨by rfl, ?hR19⟩) HS ?restR19
  case hR19 =>
    rintro u ⟨k1, k2, k3, k4, k5, k6⟩
    go_simp
    try with_reducible rfl
  try simp only [Act.put, List.getElem_toArray, List.getElem_cons_zero, List.getElem_cons_succ, List.setIfInBounds_toArray, List.set_cons_zero, List.set_cons_succ]
  refine wpAnyH_take (i := 20) (v := ?vR20) rfl (by kernel_rfl) (by kernel_rfl) (by kernel_rfl) (fun _ _ _ h => h) (Or.inl ⟨by rfl, ?hR20⟩) HS ?restR20
  case hR20 =>
    rintro u ⟨k1, k2, k3, k4, k5, k6⟩
    go_simp
    try with_reducible rfl
  try simp only [Act.put, List.getElem_toArray, List.getElem_cons_zero, List.getElem_cons_succ, List.setIfInBounds_toArray, List.set_cons_zero, List.set_cons_succ]
  refine wpAnyH_done (by kernel_rfl) ?_ _
  go_wp2
  go_ret
  exact ⟨rfl, hU4⟩
end
end Go.Proofs.YtaajmfgplhfncaaGreat
namespace Go.Proofs.YtaajmfgplhfncaaGreat
open Go
set_option maxRecDepth 100000
def lexWaits (oj : Oper) (i : Nat) : Bool := oj.after.any fun e => Region.binds .any e && e.on == i
def lexFast (ops : Array Oper) : List Oper → Nat → Bool
  | [], _ => true
  | o :: rest, i => o.after.all (fun e => !Region.binds .any e || decide (e.on < i)) && rest.all (fun oj => lexWaits oj i || o.apart ops oj) && lexFast ops rest (i + 1)
structure LexOk (ops : Array Oper) (s : List Oper) (k : Nat) : Prop where
  after : ∀ i o, s[i]? = some o → ∀ e ∈ o.after, Region.binds .any e = true → e.on < k + i
  pair : ∀ i j oi oj, i < j → s[i]? = some oi → s[j]? = some oj → lexWaits oj (k + i) = true ∨ oi.apart ops oj = true
theorem lexFast_ok (ops : Array Oper) : ∀ (s : List Oper) (k : Nat), lexFast ops s k = true → LexOk ops s k
  | [], k, _ => ⟨fun i o h => by simp at h, fun i j oi oj _ h => by simp at h⟩
  | o :: rest, k, h => by
    simp only [lexFast, Bool.and_eq_true] at h
    obtain ⟨⟨h1, h2⟩, h4⟩ := h
    have ih := lexFast_ok ops rest (k + 1) h4
    refine ⟨?_, ?_⟩
    · intro i o' ho e he hb
      cases i with
      | zero =>
        have : o = o' := by simpa using ho
        subst this
        have := Array.all_eq_true_iff_forall_mem.1 h1 e he
        simpa [hb] using this
      | succ i =>
        have := ih.after i o' (by simpa using ho) e he hb
        omega
    · intro i j oi oj hij hi hj
      cases j with
      | zero => omega
      | succ j =>
        cases i with
        | zero =>
          have e : o = oi := by simpa using hi
          subst e
          have hm : oj ∈ rest := List.mem_of_getElem? (by simpa using hj)
          have := List.all_eq_true.1 h2 oj hm
          simpa using this
        | succ i =>
          have := ih.pair i j oi oj (by omega) (by simpa using hi) (by simpa using hj)
          rwa [show k + (i + 1) = k + 1 + i by omega]
def LexL (n k : Nat) (listed : Array Bool) : Prop := listed.size = n ∧ ∀ j, j < n → listed[j]? = some (decide (j < k))
theorem LexL.start (n : Nat) : LexL n 0 (Array.replicate n false) := ⟨by simp, fun j hj => by simp [hj]⟩
theorem LexL.step {n k : Nat} {listed : Array Bool} (h : LexL n k listed) : LexL n (k + 1) (listed.setIfInBounds k true) := by
  refine ⟨by simp [h.1], fun j hj => ?_⟩
  rw [Array.getElem?_setIfInBounds]
  by_cases e : k = j
  · subst e
    rw [if_pos rfl, if_pos (by rw [h.1]; exact hj)]
    simp
  · rw [if_neg e, h.2 j hj]
    congr 1
    exact decide_eq_decide.2 (by omega)
theorem LexL.get {n k j : Nat} {listed : Array Bool} {b : Bool} (h : LexL n k listed) (hj : j < n) : listed.getD j b = decide (j < k) := by
  rw [Array.getD_eq_getD_getElem?, h.2 j hj]; rfl
theorem filter_one (p : Nat → Bool) : ∀ (m k : Nat), k < m → (∀ j, j < m → p j = decide (j = k)) → (List.range m).filter p = [k]
  | 0, k, h, _ => by omega
  | m + 1, k, h, hp => by
    rw [List.range_succ, List.filter_append]
    by_cases e : k = m
    · subst e
      have h1 : (List.range k).filter p = [] := by
        rw [List.filter_eq_nil_iff]
        intro j hj
        have hj := List.mem_range.1 hj
        rw [hp j (by omega), decide_eq_false (by omega)]
        simp
      rw [h1, List.nil_append, List.filter_cons, if_pos (by rw [hp k h]; simp)]
      rfl
    · rw [filter_one p m k (by omega) (fun j hj => hp j (by omega)), List.filter_cons, if_neg (by rw [hp m (by omega), decide_eq_false (by omega)]; simp)]
      rfl
theorem lex_ready {l : List Oper} (h : LexOk l.toArray l 0) {m k : Nat} {listed : Array Bool} (hm : l.length = m) (hk : k < m) (hL : LexL m k listed) : k ∈ Region.ready .any l.toArray listed := by
  have ho : l[k]? = some l[k] := List.getElem?_eq_getElem (by omega)
  refine mem_ready.2 ⟨by rw [hL.get hk]; simp, l[k], by simp, fun e he hb => ?_⟩
  have h1 := h.after k _ ho e he hb
  rw [hL.get (by omega)]
  simp only [Nat.zero_add] at h1
  exact decide_eq_true h1
theorem lex_seq {l : List Oper} (h : LexOk l.toArray l 0) (n : Nat) (hc : Region.chainB .any l.toArray n = true) : ∀ (g k : Nat) (listed : Array Bool), n ≤ k → k + g = l.length → LexL l.length k listed → Region.seqB .any l.toArray g k listed = true
  | 0, k, listed, hn, hk, hL => by
    simp only [Region.seqB, List.isEmpty_iff]
    unfold Region.ready
    rw [List.filter_eq_nil_iff]
    intro i hi
    have hi := List.mem_range.1 hi
    have hi : i < l.length := by simpa using hi
    rw [hL.get hi, decide_eq_true (by omega)]
    simp
  | g + 1, k, listed, hn, hk, hL => by
    have hr : Region.ready .any l.toArray listed = [k] := by
      unfold Region.ready
      refine filter_one _ _ k (by simp; omega) fun j hj => ?_
      have hj : j < l.length := by simpa using hj
      by_cases e : j = k
      · subst e
        have := (List.mem_filter.1 (lex_ready h rfl (by omega) hL)).2
        rw [this]; simp
      · rw [decide_eq_false e, hL.get hj]
        by_cases hjk : j < k
        · simp [hjk]
        · have h1 := List.all_eq_true.1 hc j (List.mem_range.2 (by simpa using hj))
          rw [Bool.or_eq_true, decide_eq_true_eq] at h1
          rcases h1 with h1 | h1
          · omega
          · obtain ⟨oj, hoj, e1, he, hb, hon⟩ := Region.waitsFor_spec h1
            rw [hoj, Option.map_some, Option.getD_some]
            have hf : (oj.after.all fun e => !Region.binds .any e || listed.getD e.on false) = false := by
              rw [Bool.eq_false_iff]
              intro ha
              have := Array.all_eq_true_iff_forall_mem.1 ha e1 he
              rw [hb, hon, hL.get (by omega), decide_eq_false (by omega)] at this
              simp at this
            rw [hf, Bool.and_false]
    simp only [Region.seqB, hr, Bool.and_eq_true, decide_true, true_and]
    exact lex_seq h n hc g (k + 1) _ (by omega) (by omega) hL.step
end Go.Proofs.YtaajmfgplhfncaaGreat
namespace Go.Proofs.YtaajmfgplhfncaaGreat
set_option maxRecDepth 100000
def heldL (P : Program) (ops : Array Oper) (S : World → Prop) (R : Act → Prop) : List Oper → Act → Prop
  | [], a => R a
  | o :: rest, a => ∃ v, YieldsIf P ops S o v a ∧ heldL P ops S R rest (a.put o.dst v)
theorem wpAnyH_lex {P : Program} {l : List Oper} {Q : Exit → Act → World → Prop} {S : World → Prop} {w : World} {n g : Nat} (h : LexOk l.toArray l 0) (hs : Region.noSelect l.toArray = true) (hn : n ≤ l.length) (hQ : ∀ c (a : Act) (d : Option Tmp) (v : Value) w, Q (.panic c) (a.put d v) w → Q (.panic c) a w) (hS : S w) :
    ∀ (f k : Nat) (listed : Array Bool) (a : Act), k + f = n → LexL l.length k listed → heldL P l.toArray S (fun a' => ∀ listed', LexL l.length n listed' → wpAnyH P .any l.toArray Q S g listed' a' w) ((l.take n).drop k) a → wpAnyH P .any l.toArray Q S (f + g) listed a w
  | 0, k, listed, a, hk, hL, H => by
    have hk : k = n := by omega
    subst hk
    rw [List.drop_of_length_le (by rw [List.length_take]; omega)] at H
    rw [Nat.zero_add]
    exact H listed hL
  | f + 1, k, listed, a, hk, hL, H => by
    have hkl : k < l.length := by omega
    have hkt : k < (l.take n).length := by rw [List.length_take]; omega
    rw [List.drop_eq_getElem_cons hkt] at H
    obtain ⟨v, hy, H⟩ := H
    rw [List.getElem_take] at hy H
    have ho : l[k]? = some l[k] := List.getElem?_eq_getElem hkl
    rw [show f + 1 + g = (f + g) + 1 by omega]
    refine wpAnyH_first (i := k) (oi := l[k]) (v := v) (by simp) (Region.noSelect_spec hs) (fun c a w => hQ c a _ _ w) (f + g) listed a w (fun j oj hj hne hun hno => ?_) (lex_ready h rfl hkl hL) hy hS ?_
    · have hjl : j < l.length := by
        have := (Array.getElem?_eq_some_iff.1 hj).1
        simpa using this
      rw [hL.get hjl] at hun
      have hkj : k < j := by
        have : ¬ j < k := by simpa using hun
        omega
      have hj' : l[j]? = some oj := by simpa using hj
      have hp := h.pair k j _ oj hkj ho hj'
      rw [Nat.zero_add] at hp
      rcases hp with hp | hp
      · exfalso
        obtain ⟨e1, he, hb⟩ := Array.any_eq_true'.1 hp
        rw [Bool.and_eq_true] at hb
        exact hno e1 he hb.1 (by simpa using hb.2)
      · exact hp
    · exact wpAnyH_lex h hs hn hQ hS f (k + 1) _ _ (by omega) hL.step H
theorem wpOp_of_list {P : Program} {ops : Array Oper} {Q : Exit → Act → World → Prop} {K : Act → World → Prop} {a : Act} {w : World} {o : Oper} {i : Nat} (ho : ops[i]? = some o) (H : wpList P ops (Exit.then K Q) [o] a w) : wpOp P ops Q i K a w := by
  unfold wpOp
  rw [ho]
  exact H
theorem wp_region_held2 {P : Program} {id : Nat} {l : List Oper} {Q : Exit → Act → World → Prop} {S : World → Prop} {a : Act} {w : World} (n : Nat) {o1 o2 : Oper} (hm : P.follows .mixedOrders = true) (hs : Region.noSelect l.toArray = true) (hf : lexFast l.toArray l 0 = true) (hc : Region.chainB .any l.toArray n = true)
    (hl : l.length = n + 2) (h1 : l[n]? = some o1) (h2 : l[n + 1]? = some o2) (hQ : ∀ c (a : Act) (d : Option Tmp) (v : Value) w, Q (.panic c) (a.put d v) w → Q (.panic c) a w)
    (hS : S { w with drawn := w.drawn + 1 }) (H : heldL P l.toArray S (fun a' => wpList P l.toArray (Exit.then (fun a1 w1 => S w1 ∧ wpList P l.toArray (Exit.then (fun a2 w2 => S w2 ∧ Q .normal a2 w2) Q) [o2] a1 w1) Q) [o1] a' { w with drawn := w.drawn + 1 }) (l.take n) a) : (Code.region id l.toArray true).wp P Q a w := by
  have h := lexFast_ok _ _ _ hf
  refine wp_region_held (S := S) hm ?_
  have hz : l.toArray.size = n + 2 := by simp [hl]
  rw [hz]
  refine wpAnyH_lex (P := P) (Q := Q) (S := S) (n := n) (g := 2) h hs (by omega) hQ hS n 0 (Array.replicate (n + 2) false) a (by omega) (by rw [← hl]; exact LexL.start _) ?_
  rw [List.drop_zero]
  have mono : ∀ (l2 : List Oper) (a : Act), heldL P l.toArray S (fun a' => wpList P l.toArray (Exit.then (fun a1 w1 => S w1 ∧ wpList P l.toArray (Exit.then (fun a2 w2 => S w2 ∧ Q .normal a2 w2) Q) [o2] a1 w1) Q) [o1] a' { w with drawn := w.drawn + 1 }) l2 a →
      heldL P l.toArray S (fun a' => ∀ listed', LexL l.length n listed' → wpAnyH P .any l.toArray Q S 2 listed' a' { w with drawn := w.drawn + 1 }) l2 a := by
    intro l2
    induction l2 with
    | nil =>
      intro a h3 listed' hL
      have hq := lex_seq h n hc 2 n listed' (Nat.le_refl _) (by omega) hL
      simp only [Region.seqB, Bool.and_eq_true, decide_eq_true_eq, List.isEmpty_iff] at hq
      obtain ⟨r1, r2, r3⟩ := hq
      refine wpAnyH_all r1 (by simp) fun i hi => ?_
      have hi : i = n := by simpa using hi
      subst hi
      refine wpOp_mono (fun a1 w1 hk => ?_) (wpOp_of_list (by simpa using h1) h3)
      refine ⟨hk.1, wpAnyH_all r2 (by simp) fun j hj => ?_⟩
      have hj : j = i + 1 := by simpa using hj
      subst hj
      refine wpOp_mono (fun a2 w2 hk2 => ?_) (wpOp_of_list (by simpa using h2) hk.2)
      exact ⟨hk2.1, wpAnyH_done r3 hk2.2 0⟩
    | cons o rest ih =>
      intro a h3
      obtain ⟨v, h4, h5⟩ := h3
      exact ⟨v, h4, ih _ h5⟩
  exact mono _ a H
end Go.Proofs.YtaajmfgplhfncaaGreat
namespace Go.Proofs.YtaajmfgplhfncaaGreat
set_option maxRecDepth 100000
def loneL (k : Nat) (rest : List Oper) : Bool := rest.all fun oj => oj.after.any fun e => Region.binds .any e && decide (k ≤ e.on)
def noWait (o : Oper) (k : Nat) : Bool := o.after.all fun e => !Region.binds .any e || e.on != k
def swapL (ops : Array Oper) (k : Nat) (o o1 o2 : Oper) (rest : List Oper) : Bool :=
  noWait o1 k && noWait o2 k && o1.apart ops o && o2.apart ops o && rest.all fun oj => oj.after.any fun e => Region.binds .any e && (e.on == k || decide (k + 3 ≤ e.on))
def HC (P : Program) (l : List Oper) (S : World → Prop) (Q : Exit → Act → World → Prop) (k : Nat) (a : Act) (w : World) : Prop :=
  ∀ listed, LexL l.length k listed → wpAnyH P .any l.toArray Q S (l.length - k) listed a w
section
variable {P : Program} {l : List Oper} {S : World → Prop} {Q : Exit → Act → World → Prop} {k : Nat} {a : Act} {w : World} {o o1 o2 : Oper} {v v1 v2 : Value}
theorem lexl_get {n : Nat} {listed : Array Bool} (h : LexL n k listed) (j : Nat) : listed.getD j false = decide (j < k ∧ j < n) := by
  by_cases hj : j < n
  · rw [h.get hj]; exact decide_eq_decide.2 (by omega)
  · rw [Array.getD_eq_getD_getElem?, Array.getElem?_eq_none (by rw [h.1]; omega), decide_eq_false (by omega)]; rfl
theorem HC.done (hk : k = l.length) (h : Q .normal a w) : HC P l S Q k a w := by
  intro listed hL
  subst hk
  refine wpAnyH_done ?_ h _
  unfold Region.ready
  rw [List.filter_eq_nil_iff]
  intro i hi
  have hi := List.mem_range.1 hi
  have hi : i < l.length := by simpa using hi
  rw [hL.get hi, decide_eq_true hi]
  simp
theorem HC.yields (hx : LexOk l.toArray l 0) (hs : Region.noSelect l.toArray = true) (hQ : ∀ c (a : Act) (d : Option Tmp) (v : Value) w, Q (.panic c) (a.put d v) w → Q (.panic c) a w)
    (ho : l[k]? = some o) (hy : YieldsIf P l.toArray S o v a) (hS : S w) (h : HC P l S Q (k + 1) (a.put o.dst v) w) : HC P l S Q k a w := by
  intro listed hL
  have hkl : k < l.length := (List.getElem?_eq_some_iff.1 ho).1
  rw [show l.length - k = (l.length - (k + 1)) + 1 by omega]
  refine wpAnyH_first (i := k) (oi := o) (v := v) (by simpa using ho) (Region.noSelect_spec hs) (fun c a w => hQ c a _ _ w) _ listed a w (fun j oj hj hne hun hno => ?_) (lex_ready hx rfl hkl hL) hy hS (h _ hL.step)
  have hjl : j < l.length := by
    have := (Array.getElem?_eq_some_iff.1 hj).1
    simpa using this
  rw [hL.get hjl] at hun
  have hkj : k < j := by
    have : ¬ j < k := by simpa using hun
    omega
  have hj' : l[j]? = some oj := by simpa using hj
  have hp := hx.pair k j _ oj hkj ho hj'
  rw [Nat.zero_add] at hp
  rcases hp with hp | hp
  · exfalso
    obtain ⟨e1, he, hb⟩ := Array.any_eq_true'.1 hp
    rw [Bool.and_eq_true] at hb
    exact hno e1 he hb.1 (by simpa using hb.2)
  · exact hp
theorem HC.call (hx : LexOk l.toArray l 0) (ho : l[k]? = some o) (hl : loneL k (l.drop (k + 1)) = true) (h : wpOp P l.toArray Q k (fun a' w' => S w' ∧ HC P l S Q (k + 1) a' w') a w) : HC P l S Q k a w := by
  intro listed hL
  have hkl : k < l.length := (List.getElem?_eq_some_iff.1 ho).1
  rw [show l.length - k = (l.length - (k + 1)) + 1 by omega]
  have hr : Region.ready .any l.toArray listed = [k] := by
    unfold Region.ready
    refine filter_one _ _ k (by simpa using hkl) fun j hj => ?_
    have hj : j < l.length := by simpa using hj
    by_cases e : j = k
    · subst e
      have := (List.mem_filter.1 (lex_ready hx rfl hkl hL)).2
      rw [this]; simp
    · rw [decide_eq_false e, hL.get hj]
      by_cases hjk : j < k
      · simp [hjk]
      · have hjm : l[j] ∈ l.drop (k + 1) := by
          rw [List.mem_iff_getElem?]
          exact ⟨j - (k + 1), by rw [List.getElem?_drop, show k + 1 + (j - (k + 1)) = j by omega]; exact List.getElem?_eq_getElem hj⟩
        have h1 := List.all_eq_true.1 hl _ hjm
        obtain ⟨e1, he, hb⟩ := Array.any_eq_true'.1 h1
        rw [Bool.and_eq_true, decide_eq_true_eq] at hb
        have ho2 : l.toArray[j]? = some l[j] := by simp
        rw [ho2, Option.map_some, Option.getD_some]
        have hf : (l[j].after.all fun e => !Region.binds .any e || listed.getD e.on false) = false := by
          rw [Bool.eq_false_iff]
          intro ha
          have := Array.all_eq_true_iff_forall_mem.1 ha e1 he
          rw [hb.1, lexl_get hL, decide_eq_false (by omega)] at this
          simp at this
        rw [hf, Bool.and_false]
  refine wpAnyH_all hr (by simp) fun i hi => ?_
  have hi : i = k := by simpa using hi
  subst hi
  exact wpOp_mono (fun a' w' h' => ⟨h'.1, h'.2 _ hL.step⟩) h
theorem HC.swap (hx : LexOk l.toArray l 0) (hs : Region.noSelect l.toArray = true) (hQ : ∀ c (a : Act) (d : Option Tmp) (v : Value) w, Q (.panic c) (a.put d v) w → Q (.panic c) a w)
    (ho : l[k]? = some o) (ho1 : l[k + 1]? = some o1) (ho2 : l[k + 2]? = some o2) (hl : swapL l.toArray k o o1 o2 (l.drop (k + 3)) = true) (hy1 : YieldsIf P l.toArray S o1 v1 a) (hy2 : YieldsIf P l.toArray S o2 v2 (a.put o1.dst v1)) (hS : S w)
    (h : wpOp P l.toArray Q k (fun a' w' => S w' ∧ HC P l S Q (k + 3) a' w') ((a.put o1.dst v1).put o2.dst v2) w) : HC P l S Q k a w := by
  intro listed hL
  have hk2 : k + 2 < l.length := (List.getElem?_eq_some_iff.1 ho2).1
  simp only [swapL, Bool.and_eq_true] at hl
  obtain ⟨⟨⟨⟨l1, l2⟩, l3⟩, l4⟩, l5⟩ := hl
  have hwt : ∀ {o : Oper}, noWait o k = true → ∀ e ∈ o.after, Region.binds .any e = true → e.on ≠ k := by
    intro o hn e he hb
    have := Array.all_eq_true_iff_forall_mem.1 hn e he
    simpa [hb] using this
  rw [show l.length - k = ((l.length - (k + 3)) + 1 + 1) + 1 by omega]
  have sz := hL.1
  -- the two first
  refine wpAnyH_first (i := k + 1) (oi := o1) (v := v1) (by simpa using ho1) (Region.noSelect_spec hs) (fun c a w => hQ c a _ _ w) _ listed a w (fun j oj hj hne hun hno => ?_) ?_ hy1 hS ?_
  · have hjl : j < l.length := by
      have := (Array.getElem?_eq_some_iff.1 hj).1
      simpa using this
    rw [hL.get hjl] at hun
    have hkj : ¬ j < k := by simpa using hun
    have hj' : l[j]? = some oj := by simpa using hj
    by_cases e : j = k
    · subst e
      rw [ho] at hj'
      injection hj' with hj'
      rw [← hj']; exact l3
    · have hp := hx.pair (k + 1) j _ oj (by omega) ho1 hj'
      rw [Nat.zero_add] at hp
      rcases hp with hp | hp
      · exfalso
        obtain ⟨e1, he, hb⟩ := Array.any_eq_true'.1 hp
        rw [Bool.and_eq_true] at hb
        exact hno e1 he hb.1 (by simpa using hb.2)
      · exact hp
  · refine mem_ready.2 ⟨by rw [hL.get (by omega)]; simp, o1, by simpa using ho1, fun e he hb => ?_⟩
    have h1 := hx.after _ _ ho1 e he hb
    have h2 := hwt l1 e he hb
    rw [lexl_get hL]
    exact decide_eq_true (by omega)
  have g1 : ∀ j b, (listed.setIfInBounds (k + 1) true).getD j b = if j = k + 1 then true else listed.getD j b := by
    intro j b
    rw [Array.getD_eq_getD_getElem?, Array.getD_eq_getD_getElem?, Array.getElem?_setIfInBounds]
    by_cases e : k + 1 = j
    · subst e; rw [if_pos rfl, if_pos rfl, if_pos (by rw [sz]; omega)]; rfl
    · rw [if_neg e, if_neg (Ne.symm e)]
  refine wpAnyH_first (i := k + 2) (oi := o2) (v := v2) (by simpa using ho2) (Region.noSelect_spec hs) (fun c a w => hQ c a _ _ w) _ _ _ w (fun j oj hj hne hun hno => ?_) ?_ hy2 hS ?_
  · have hjl : j < l.length := by
      have := (Array.getElem?_eq_some_iff.1 hj).1
      simpa using this
    rw [g1] at hun
    have hj' : l[j]? = some oj := by simpa using hj
    by_cases e1 : j = k + 1
    · rw [if_pos e1] at hun; cases hun
    rw [if_neg e1, hL.get hjl] at hun
    have hkj : ¬ j < k := by simpa using hun
    by_cases e : j = k
    · subst e
      rw [ho] at hj'
      injection hj' with hj'
      rw [← hj']; exact l4
    · have hp := hx.pair (k + 2) j _ oj (by omega) ho2 hj'
      rw [Nat.zero_add] at hp
      rcases hp with hp | hp
      · exfalso
        obtain ⟨e1, he, hb⟩ := Array.any_eq_true'.1 hp
        rw [Bool.and_eq_true] at hb
        exact hno e1 he hb.1 (by simpa using hb.2)
      · exact hp
  · refine mem_ready.2 ⟨by rw [g1, if_neg (by omega), hL.get (by omega)]; simp, o2, by simpa using ho2, fun e he hb => ?_⟩
    have h1 := hx.after _ _ ho2 e he hb
    have h2 := hwt l2 e he hb
    rw [g1]
    by_cases e1 : e.on = k + 1
    · rw [if_pos e1]
    · rw [if_neg e1, lexl_get hL]
      exact decide_eq_true (by omega)
  have g2 : ∀ j b, ((listed.setIfInBounds (k + 1) true).setIfInBounds (k + 2) true).getD j b = if j = k + 2 then true else (listed.setIfInBounds (k + 1) true).getD j b := by
    intro j b
    rw [Array.getD_eq_getD_getElem?, Array.getD_eq_getD_getElem?, Array.getElem?_setIfInBounds]
    by_cases e : k + 2 = j
    · subst e; rw [if_pos rfl, if_pos rfl, if_pos (by rw [Array.size_setIfInBounds, sz]; omega)]; rfl
    · rw [if_neg e, if_neg (Ne.symm e)]
  have hr : Region.ready .any l.toArray ((listed.setIfInBounds (k + 1) true).setIfInBounds (k + 2) true) = [k] := by
    unfold Region.ready
    refine filter_one _ _ k (by simp; omega) fun j hj => ?_
    have hj : j < l.length := by simpa using hj
    rw [g2, g1]
    by_cases e : j = k
    · subst e
      rw [if_neg (by omega), if_neg (by omega), hL.get hj]
      have hk : l.toArray[j]? = some o := by simpa using ho
      rw [hk, Option.map_some, Option.getD_some]
      have hf : (o.after.all fun e => !Region.binds .any e || ((listed.setIfInBounds (j + 1) true).setIfInBounds (j + 2) true).getD e.on false) = true := by
        rw [Array.all_eq_true_iff_forall_mem]
        intro e he
        cases hb : Region.binds .any e
        · rfl
        · have h1 := hx.after _ _ ho e he hb
          rw [g2, g1, if_neg (by omega), if_neg (by omega), lexl_get hL, decide_eq_true (by omega)]
          rfl
      rw [hf]
      simp
    · rw [decide_eq_false e]
      by_cases e2 : j = k + 2
      · rw [if_pos e2]; rfl
      by_cases e1 : j = k + 1
      · rw [if_neg e2, if_pos e1]; rfl
      rw [if_neg e2, if_neg e1, hL.get hj]
      by_cases hjk : j < k
      · simp [hjk]
      · have hjm : l[j] ∈ l.drop (k + 3) := by
          rw [List.mem_iff_getElem?]
          exact ⟨j - (k + 3), by rw [List.getElem?_drop, show k + 3 + (j - (k + 3)) = j by omega]; exact List.getElem?_eq_getElem hj⟩
        have h1 := List.all_eq_true.1 l5 _ hjm
        obtain ⟨e1, he, hb⟩ := Array.any_eq_true'.1 h1
        rw [Bool.and_eq_true, Bool.or_eq_true, beq_iff_eq, decide_eq_true_eq] at hb
        have ho2 : l.toArray[j]? = some l[j] := by simp
        rw [ho2, Option.map_some, Option.getD_some]
        have hf : (l[j].after.all fun e => !Region.binds .any e || ((listed.setIfInBounds (k + 1) true).setIfInBounds (k + 2) true).getD e.on false) = false := by
          rw [Bool.eq_false_iff]
          intro ha
          have := Array.all_eq_true_iff_forall_mem.1 ha e1 he
          rw [hb.1, g2, g1, if_neg (by omega), if_neg (by omega), lexl_get hL, decide_eq_false (by omega)] at this
          simp at this
        rw [hf, Bool.and_false]
  refine wpAnyH_all hr (by simp) fun i hi => ?_
  have hi : i = k := by simpa using hi
  subst hi
  refine wpOp_mono (fun a' w' h' => ⟨h'.1, h'.2 _ ⟨by simp [sz], fun j hj => ?_⟩⟩) h
  have hg := hL.2 j hj
  rw [Array.getElem?_setIfInBounds, Array.getElem?_setIfInBounds, Array.getElem?_setIfInBounds]
  simp only [Array.size_setIfInBounds, sz]
  by_cases e0 : i = j
  · rw [if_pos e0, if_pos (by omega), decide_eq_true (by omega)]
  rw [if_neg e0]
  by_cases e2 : i + 2 = j
  · rw [if_pos e2, if_pos (by omega), decide_eq_true (by omega)]
  rw [if_neg e2]
  by_cases e1 : i + 1 = j
  · rw [if_pos e1, if_pos (by omega), decide_eq_true (by omega)]
  rw [if_neg e1, hg]
  congr 1
  exact decide_eq_decide.2 (by omega)
theorem wp_region_HC {id : Nat} (hm : P.follows .mixedOrders = true) (h : HC P l S Q 0 a { w with drawn := w.drawn + 1 }) : (Code.region id l.toArray true).wp P Q a w := by
  refine wp_region_held (S := S) hm ?_
  have hz : l.toArray.size = l.length := by simp
  rw [hz]
  exact h _ (LexL.start _)
end
end Go.Proofs.YtaajmfgplhfncaaGreat
namespace Go.Proofs.YtaajmfgplhfncaaGreat
open Go.RowKit
set_option maxRecDepth 100000
def OpIs (l : List Oper) (k : Nat) (op : Op) (d : Nat) (g : Option (Nat × Bool)) : Prop := (l[k]?).map (fun o => (o.op, o.dst, o.guard)) = some (op, some d, g)
def AtS (a : Act) (i : Nat) (v : Value) : Prop := a.tmps[i]? = some v
section
variable {l : List Oper} {k j d i c : Nat} {op : Op} {g : Option (Nat × Bool)} {a : Act} {o : Oper} {v x : Value} {w : World}
theorem OpIs.mk (h : (l[k]?).map (fun o => (o.op, o.dst, o.guard)) = some (op, some d, g)) : OpIs l k op d g := h
theorem AtS.mk (h : a.tmps[i]? = some v) : AtS a i v := h
theorem OpIs.get (h : OpIs l k op d g) : ∃ o, l[k]? = some o ∧ o.op = op ∧ o.dst = some d ∧ o.guard = g := by
  unfold OpIs at h
  cases hk : l[k]? with
  | none => rw [hk] at h; cases h
  | some o =>
    rw [hk] at h
    injection h with h
    injection h with h1 h
    injection h with h2 h3
    exact ⟨o, rfl, h1, h2, h3⟩
theorem AtS.ev (h : AtS a i v) : a.eval (.tmp i) = v := by
  show a.tmps.getD i undef = v
  rw [Array.getD_eq_getD_getElem?, h]; rfl
theorem AtS.lt (h : AtS a i v) : i < a.tmps.size := (Array.getElem?_eq_some_iff.1 h).1
theorem AtS.put (h : AtS a i v) (hd : i ≠ d) : AtS (a.put (some d) x) i v := by
  show (a.tmps.setIfInBounds d x)[i]? = some v
  rw [Array.getElem?_setIfInBounds_ne (Ne.symm hd)]; exact h
theorem AtS.new (h : d < a.tmps.size) : AtS (a.put (some d) x) d x := by
  show (a.tmps.setIfInBounds d x)[d]? = some x
  rw [Array.getElem?_setIfInBounds_self_of_lt h]
theorem put_sz (a : Act) (d : Nat) (x : Value) : (a.put (some d) x).tmps.size = a.tmps.size := by
  show (a.tmps.setIfInBounds d x).size = _
  simp
theorem wanted_at (hg : o.guard = some (j, true)) (hd : (l[j]?).bind (·.dst) = some c) (ha : AtS a c (.bool true)) : Region.wanted o (yielded l.toArray a.tmps) = true := by
  unfold Region.wanted
  rw [hg]
  have e : yielded l.toArray a.tmps j = some true := by
    unfold yielded
    have h1 : (l.toArray[j]?).bind (·.dst) = some c := by simpa using hd
    rw [h1]
    show (match a.tmps[c]? with | some (.bool b) => some b | _ => none) = _
    rw [show a.tmps[c]? = some (.bool true) from ha]
  show (yielded l.toArray a.tmps j == some true) = true
  rw [e]; rfl
theorem wanted_none (hg : o.guard = none) : Region.wanted o (yielded l.toArray a.tmps) = true := by simp [Region.wanted, hg]
end
structure SmF (s c : Nat) (d : List Deferred) (a : Act) : Prop where
  n : a.tmps.size = 199
  p2 : AtS a 2 (.pointer (some ⟨s, 0, none⟩))
  p3 : AtS a 3 (.pointer (some ⟨s + 1, 0, none⟩))
  c : AtS a c (.bool true)
  df : a.defers = d
def SmS (s : Nat) (cs1 cs2 : Array Value) (w : World) : Prop := Blk w s 29 cs1 ∧ Blk w (s + 1) 29 cs2
def PQ : (Act → World → Prop) → Exit → Act → World → Prop := fun K => Exit.then K fun _ _ _ => False
section
variable {o : Oper} {a : Act} {w : World} {v v1 v2 x y : Value} {T R : TypeId} {g f : Nat} {p q : Operand}
theorem x_load (ho : o.op = .load T p) (hp : a.eval p = .pointer (some ⟨g, f, none⟩)) (h : (Instr.loadAt T (.pointer (some ⟨g, f, none⟩))).run Tryz.prog w = .ok v w) : (execOp a.eval o).run Tryz.prog w = .ok (.value v) w := by
  unfold execOp
  simp only [ho, hp, Sem.run_bind, h, Result.andThen_ok, Sem.run_pure]
theorem x_field (ho : o.op = .fieldAddr T p f) (hp : a.eval p = x) (h : (Instr.fieldAt T x f).run Tryz.prog w = .ok v w) : (execOp a.eval o).run Tryz.prog w = .ok (.value v) w := by
  unfold execOp
  simp only [ho, hp, Sem.run_bind, h, Result.andThen_ok, Sem.run_pure]
theorem x_bin (ho : o.op = .binOp .eql T p q R) (hp : a.eval p = x) (hq : a.eval q = y) (h : (do eqGuard .eql T p q x y; binOp .eql T x y).run Tryz.prog w = .ok v w) : (execOp a.eval o).run Tryz.prog w = .ok (.value v) w := by
  unfold execOp
  simp only [ho, hp, hq]
  rw [Sem.run_bind, h]
  rfl
theorem x_pick (ho : o.op = .pick p q (.const (.bool false))) (hp : a.eval p = .bool true) (hq : a.eval q = v) : (execOp a.eval o).run Tryz.prog w = .ok (.value v) w := by
  unfold execOp
  simp only [ho, hp, hq]
  rfl
theorem x_move (ho : o.op = .move p) (hp : a.eval p = v) : (execOp a.eval o).run Tryz.prog w = .ok (.value v) w := by
  unfold execOp
  simp only [ho, hp]
  rfl
theorem x_assign (ho : o.op = .assign p) (hp : a.eval p = v) : (execOp a.eval o).run Tryz.prog w = .ok (.value v) w := by
  unfold execOp
  simp only [ho, hp]
  rfl
theorem x_call2 {fn : FuncId} {ts : Array TypeId} (ho : o.op = .call { callee := .value (.func fn), args := #[p, q], argTypes := ts }) (hp : a.eval p = x) (hq : a.eval q = y) (hm : ∀ u : World, (callFunc fn #[x, y]).run Tryz.prog u = .ok (.enter fn #[x, y]) u) : (execOp a.eval o).run Tryz.prog w = .ok (.enter fn #[x, y]) w := by
  have e : a.eval (.func fn) = .func (.func fn) #[] #[] := rfl
  unfold execOp
  simp only [ho, resolve, List.map_toArray, List.map_cons, List.map_nil, hp, hq, Deferred.ofValue, e, Sem.run_bind, Sem.run_pure, Result.andThen_ok, invoke]
  exact hm w
theorem x_call1 {fn : FuncId} {ts : Array TypeId} (ho : o.op = .call { callee := .value (.func fn), args := #[p], argTypes := ts }) (hp : a.eval p = x) (hm : ∀ u : World, (callFunc fn #[x]).run Tryz.prog u = .ok (.enter fn #[x]) u) : (execOp a.eval o).run Tryz.prog w = .ok (.enter fn #[x]) w := by
  have e : a.eval (.func fn) = .func (.func fn) #[] #[] := rfl
  unfold execOp
  simp only [ho, resolve, List.map_toArray, List.map_cons, List.map_nil, hp, Deferred.ofValue, e, Sem.run_bind, Sem.run_pure, Result.andThen_ok, invoke]
  exact hm w
end
theorem smf0 (w : World) (g : Nat) : (Instr.fieldAt 29 (.pointer (some ⟨g, 0, none⟩)) 0).run Tryz.prog w = .ok (.pointer (some ⟨g, 0, none⟩)) w := by go_simp
theorem smf1 (w : World) (g : Nat) : (Instr.fieldAt 29 (.pointer (some ⟨g, 0, none⟩)) 1).run Tryz.prog w = .ok (.pointer (some ⟨g, 1, none⟩)) w := by go_simp
theorem smf2 (w : World) (g : Nat) : (Instr.fieldAt 29 (.pointer (some ⟨g, 0, none⟩)) 2).run Tryz.prog w = .ok (.pointer (some ⟨g, 2, none⟩)) w := by go_simp
theorem smf3 (w : World) (g : Nat) : (Instr.fieldAt 29 (.pointer (some ⟨g, 0, none⟩)) 3).run Tryz.prog w = .ok (.pointer (some ⟨g, 3, none⟩)) w := by go_simp
theorem smf4 (w : World) (g : Nat) : (Instr.fieldAt 29 (.pointer (some ⟨g, 0, none⟩)) 4).run Tryz.prog w = .ok (.pointer (some ⟨g, 4, none⟩)) w := by go_simp
theorem smf5 (w : World) (g : Nat) : (Instr.fieldAt 29 (.pointer (some ⟨g, 0, none⟩)) 5).run Tryz.prog w = .ok (.pointer (some ⟨g, 5, none⟩)) w := by go_simp
theorem smf6 (w : World) (g : Nat) : (Instr.fieldAt 29 (.pointer (some ⟨g, 0, none⟩)) 6).run Tryz.prog w = .ok (.pointer (some ⟨g, 6, none⟩)) w := by go_simp
theorem smf7 (w : World) (g : Nat) : (Instr.fieldAt 29 (.pointer (some ⟨g, 0, none⟩)) 7).run Tryz.prog w = .ok (.pointer (some ⟨g, 7, none⟩)) w := by go_simp
theorem smf8 (w : World) (g : Nat) : (Instr.fieldAt 29 (.pointer (some ⟨g, 0, none⟩)) 8).run Tryz.prog w = .ok (.pointer (some ⟨g, 8, none⟩)) w := by go_simp
theorem smf9 (w : World) (g : Nat) : (Instr.fieldAt 29 (.pointer (some ⟨g, 0, none⟩)) 9).run Tryz.prog w = .ok (.pointer (some ⟨g, 9, none⟩)) w := by go_simp
theorem smf10 (w : World) (g : Nat) : (Instr.fieldAt 29 (.pointer (some ⟨g, 0, none⟩)) 10).run Tryz.prog w = .ok (.pointer (some ⟨g, 10, none⟩)) w := by go_simp
theorem smf11 (w : World) (g : Nat) : (Instr.fieldAt 29 (.pointer (some ⟨g, 0, none⟩)) 11).run Tryz.prog w = .ok (.pointer (some ⟨g, 11, none⟩)) w := by go_simp
theorem smf12 (w : World) (g : Nat) : (Instr.fieldAt 29 (.pointer (some ⟨g, 0, none⟩)) 12).run Tryz.prog w = .ok (.pointer (some ⟨g, 12, none⟩)) w := by go_simp
theorem smf13 (w : World) (g : Nat) : (Instr.fieldAt 29 (.pointer (some ⟨g, 0, none⟩)) 13).run Tryz.prog w = .ok (.pointer (some ⟨g, 13, none⟩)) w := by go_simp
theorem smf14 (w : World) (g : Nat) : (Instr.fieldAt 29 (.pointer (some ⟨g, 0, none⟩)) 14).run Tryz.prog w = .ok (.pointer (some ⟨g, 14, none⟩)) w := by go_simp
theorem smf15 (w : World) (g : Nat) : (Instr.fieldAt 29 (.pointer (some ⟨g, 0, none⟩)) 15).run Tryz.prog w = .ok (.pointer (some ⟨g, 15, none⟩)) w := by go_simp
theorem smf16 (w : World) (g : Nat) : (Instr.fieldAt 29 (.pointer (some ⟨g, 0, none⟩)) 16).run Tryz.prog w = .ok (.pointer (some ⟨g, 16, none⟩)) w := by go_simp
theorem smf17 (w : World) (g : Nat) : (Instr.fieldAt 29 (.pointer (some ⟨g, 0, none⟩)) 17).run Tryz.prog w = .ok (.pointer (some ⟨g, 17, none⟩)) w := by go_simp
theorem smf18 (w : World) (g : Nat) : (Instr.fieldAt 29 (.pointer (some ⟨g, 0, none⟩)) 18).run Tryz.prog w = .ok (.pointer (some ⟨g, 18, none⟩)) w := by go_simp
theorem smf19 (w : World) (g : Nat) : (Instr.fieldAt 29 (.pointer (some ⟨g, 0, none⟩)) 19).run Tryz.prog w = .ok (.pointer (some ⟨g, 19, none⟩)) w := by go_simp
theorem smf20 (w : World) (g : Nat) : (Instr.fieldAt 29 (.pointer (some ⟨g, 0, none⟩)) 20).run Tryz.prog w = .ok (.pointer (some ⟨g, 20, none⟩)) w := by go_simp
theorem smf21 (w : World) (g : Nat) : (Instr.fieldAt 29 (.pointer (some ⟨g, 0, none⟩)) 21).run Tryz.prog w = .ok (.pointer (some ⟨g, 21, none⟩)) w := by go_simp
theorem smf22 (w : World) (g : Nat) : (Instr.fieldAt 29 (.pointer (some ⟨g, 0, none⟩)) 22).run Tryz.prog w = .ok (.pointer (some ⟨g, 22, none⟩)) w := by go_simp
theorem smf23 (w : World) (g : Nat) : (Instr.fieldAt 29 (.pointer (some ⟨g, 0, none⟩)) 23).run Tryz.prog w = .ok (.pointer (some ⟨g, 23, none⟩)) w := by go_simp
theorem smf27 (w : World) (g : Nat) : (Instr.fieldAt 29 (.pointer (some ⟨g, 0, none⟩)) 27).run Tryz.prog w = .ok (.pointer (some ⟨g, 27, none⟩)) w := by go_simp
theorem smf28 (w : World) (g : Nat) : (Instr.fieldAt 29 (.pointer (some ⟨g, 0, none⟩)) 28).run Tryz.prog w = .ok (.pointer (some ⟨g, 28, none⟩)) w := by go_simp
theorem smf29 (w : World) (g : Nat) : (Instr.fieldAt 29 (.pointer (some ⟨g, 0, none⟩)) 29).run Tryz.prog w = .ok (.pointer (some ⟨g, 29, none⟩)) w := by go_simp
theorem sml_u16 (w : World) (g i : Nat) (v : Value) (h : w.cell? ⟨g, i, none⟩ = some v) : (Instr.loadAt 22 (.pointer (some ⟨g, i, none⟩))).run Tryz.prog w = .ok v w := by go_simp
theorem sml_bytes (w : World) (g i : Nat) (v : Value) (h : w.cell? ⟨g, i, none⟩ = some v) : (Instr.loadAt 23 (.pointer (some ⟨g, i, none⟩))).run Tryz.prog w = .ok v w := by go_simp
theorem sml_words (w : World) (g i : Nat) (v : Value) (h : w.cell? ⟨g, i, none⟩ = some v) : (Instr.loadAt 24 (.pointer (some ⟨g, i, none⟩))).run Tryz.prog w = .ok v w := by go_simp
theorem sml_str (w : World) (g i : Nat) (v : Value) (h : w.cell? ⟨g, i, none⟩ = some v) : (Instr.loadAt 9 (.pointer (some ⟨g, i, none⟩))).run Tryz.prog w = .ok v w := by go_simp
theorem sml_bool (w : World) (g i : Nat) (v : Value) (h : w.cell? ⟨g, i, none⟩ = some v) : (Instr.loadAt 4 (.pointer (some ⟨g, i, none⟩))).run Tryz.prog w = .ok v w := by go_simp
theorem sml_strs (w : World) (g i : Nat) (v : Value) (h : w.cell? ⟨g, i, none⟩ = some v) : (Instr.loadAt 25 (.pointer (some ⟨g, i, none⟩))).run Tryz.prog w = .ok v w := by go_simp
theorem sml_lists (w : World) (g i : Nat) (v : Value) (h : w.cell? ⟨g, i, none⟩ = some v) : (Instr.loadAt 26 (.pointer (some ⟨g, i, none⟩))).run Tryz.prog w = .ok v w := by go_simp
theorem sme_u16 (w : World) (u : UInt16) (p q : Operand) : (do eqGuard .eql 22 p q (wv u) (wv u); binOp .eql 22 (wv u) (wv u)).run Tryz.prog w = .ok (.bool true) w := by go_simp
theorem sme_str (w : World) (u : List UInt8) (p q : Operand) : (do eqGuard .eql 9 p q (strv u) (strv u); binOp .eql 9 (strv u) (strv u)).run Tryz.prog w = .ok (.bool true) w := by go_simp
theorem sme_bool (w : World) (u : Bool) (p q : Operand) : (do eqGuard .eql 4 p q (.bool u) (.bool u); binOp .eql 4 (.bool u) (.bool u)).run Tryz.prog w = .ok (.bool true) w := by cases u <;> go_simp
end Go.Proofs.YtaajmfgplhfncaaGreat
namespace Go.Proofs.YtaajmfgplhfncaaGreat
open Go.RowKit
set_option maxRecDepth 100000
section
variable {P : Program} {ops : Array Oper} {Q : Exit → Act → World → Prop} {md : Region.Mode} {S : World → Prop} {E : Nat → Bool}
def ClosedL (md : Region.Mode) (ops : Array Oper) (listed : Array Bool) : Prop := ∀ (j : Nat) (o : Oper), listed.getD j false = true → ops[j]? = some o → ∀ e ∈ o.after, Region.binds md e = true → listed.getD e.on false = true
def reachB (md : Region.Mode) (ops : Array Oper) : Nat → Nat → Nat → Bool
  | 0, _, _ => false
  | f + 1, j, i => match ops[j]? with
    | none => false
    | some o => o.after.any fun e => Region.binds md e && (e.on == i || reachB md ops f e.on i)
theorem reach_listed {listed : Array Bool} (hc : ClosedL md ops listed) (i : Nat) : ∀ (f j : Nat), reachB md ops f j i = true → (listed.getD j false = true ∨ j ∈ Region.ready md ops listed) → listed.getD i false = true
  | 0, _, h, _ => by simp [reachB] at h
  | f + 1, j, h, hj => by
    unfold reachB at h
    cases ho : ops[j]? with
    | none => rw [ho] at h; simp at h
    | some o =>
      rw [ho] at h
      obtain ⟨e, he, hb⟩ := Array.any_eq_true'.1 h
      rw [Bool.and_eq_true, Bool.or_eq_true, beq_iff_eq] at hb
      have hl : listed.getD e.on false = true := by
        rcases hj with hj | hj
        · exact hc j o hj ho e he hb.1
        · obtain ⟨_, o', ho', hall⟩ := mem_ready.1 hj
          rw [ho] at ho'
          injection ho' with ho'
          subst ho'
          exact hall e he hb.1
      rcases hb.2 with h2 | h2
      · rw [← h2]; exact hl
      · exact reach_listed hc i f e.on h2 (.inl hl)
theorem getD_false_true {listed : Array Bool} {i : Nat} (h1 : listed.getD i true = false) : listed.getD i false = false := by
  rw [Array.getD_eq_getD_getElem?] at h1 ⊢
  cases h : listed[i]? with
  | none => rfl
  | some b => rw [h] at h1; exact h1
theorem ClosedL.step {listed : Array Bool} {j : Nat} (hc : ClosedL md ops listed) (hj : j ∈ Region.ready md ops listed) : ClosedL md ops (listed.setIfInBounds j true) := by
  intro k o hk ho e he hb
  obtain ⟨_, oj, hoj, hall⟩ := mem_ready.1 hj
  by_cases hkj : k = j
  · subst hkj
    rw [hoj] at ho
    injection ho with ho
    subst ho
    exact getD_set_true (hall e he hb)
  · rw [getD_set_ne false (Ne.symm hkj)] at hk
    exact getD_set_true (hc k o hk ho e he hb)
def wpAnyE (P : Program) (md : Region.Mode) (ops : Array Oper) (Q : Exit → Act → World → Prop) (S : World → Prop) (E : Nat → Bool) : Nat → Array Bool → Act → World → Prop
  | 0, listed, a, w => Region.ready md ops listed = [] ∧ Q .normal a w
  | fuel + 1, listed, a, w =>
    (Region.ready md ops listed = [] → Q .normal a w) ∧
    ∀ i ∈ Region.ready md ops listed, wpOp P ops Q i (fun a' w' => (E i = false → S w') ∧ wpAnyE P md ops Q S E fuel (listed.setIfInBounds i true) a' w') a w
theorem wpAny_of_E : ∀ (fuel : Nat) (listed : Array Bool) (a : Act) (w : World), wpAnyE P md ops Q S E fuel listed a w → wpAny P md ops Q fuel listed a w
  | 0, _, _, _, h => h
  | fuel + 1, _, _, _, h => ⟨h.1, fun i hi => wpOp_mono (fun a' w' h' => wpAny_of_E fuel _ a' w' h'.2) (h.2 i hi)⟩
theorem wpAnyE_first {i : Nat} {oi : Oper} {v : Value} (hi : ops[i]? = some oi) (hsel : ∀ (j : Nat) (o : Oper) cs b, ops[j]? = some o → o.op ≠ .select cs b)
    (hQ : ∀ c a w, Q (.panic c) (a.put oi.dst v) w → Q (.panic c) a w)
    (hE : ∀ j, E j = true → ∀ listed, ClosedL md ops listed → j ∈ Region.ready md ops listed → listed.getD i false = true) :
    ∀ (fuel : Nat) (listed : Array Bool) (a : Act) (w : World), ClosedL md ops listed →
      (∀ j oj, ops[j]? = some oj → j ≠ i → listed.getD j true = false → (∀ e ∈ oj.after, Region.binds md e = true → e.on ≠ i) → oi.apart ops oj = true) →
      i ∈ Region.ready md ops listed → YieldsIf P ops S oi v a → S w →
      wpAnyE P md ops Q S E fuel (listed.setIfInBounds i true) (a.put oi.dst v) w → wpAnyE P md ops Q S E (fuel + 1) listed a w := by
  intro fuel
  induction fuel with
  | zero =>
    intro listed a w _ _ hr hy hS H
    refine ⟨fun h => (by rw [h] at hr; cases hr), fun j hj => ?_⟩
    by_cases hji : j = i
    · subst hji; exact hy.wpOp hi hS ⟨fun _ => hS, H⟩
    · have := ready_mono hj hji
      rw [H.1] at this
      cases this
  | succ fuel ih =>
    intro listed a w hcl hfree hr hy hS H
    refine ⟨fun h => (by rw [h] at hr; cases hr), fun j hj => ?_⟩
    by_cases hji : j = i
    · subst hji; exact hy.wpOp hi hS ⟨fun _ => hS, H⟩
    · have h1 := H.2 j (ready_mono hj hji)
      obtain ⟨hjun, oj, hoj, hall⟩ := mem_ready.1 hj
      have hiun := (mem_ready.1 hr).1
      have hnot : ∀ e ∈ oj.after, Region.binds md e = true → e.on ≠ i := fun e he hb heq => by
        have h1 := hall e he hb
        rw [heq, getD_false_true hiun] at h1
        cases h1
      have hEj : E j = false := by
        cases h : E j with
        | false => rfl
        | true =>
          have := hE j h listed hcl hj
          rw [getD_false_true hiun] at this
          cases this
      have h2 := wpOp_putIf hoj (hfree j oj hoj hji hjun hnot) (fun cs b => hsel i oi cs b hi) (fun cs b => hsel j oj cs b hoj) hQ hy h1
      have hfree' : ∀ k ok, ops[k]? = some ok → k ≠ i → (listed.setIfInBounds j true).getD k true = false →
          (∀ e ∈ ok.after, Region.binds md e = true → e.on ≠ i) → oi.apart ops ok = true := fun k ok hk hki hun hno => by
        refine hfree k ok hk hki ?_ hno
        by_cases hjk : j = k
        · subst hjk; exact hjun
        · rw [getD_set_ne true hjk] at hun; exact hun
      refine wpOp_mono (fun a' w' h3 => ⟨h3.2.1, ih (listed.setIfInBounds j true) a' w' (hcl.step hj) hfree' (ready_mono hr (Ne.symm hji)) h3.1 (h3.2.1 hEj) ?_⟩) h2
      rw [Array.setIfInBounds_comm _ _ hji]
      exact h3.2.2
def closedB (md : Region.Mode) (ops : Array Oper) (listed : Array Bool) : Bool := (List.range ops.size).all fun j => !listed.getD j false || match ops[j]? with | none => true | some o => o.after.all fun e => !Region.binds md e || listed.getD e.on false
theorem closedB_ok {listed : Array Bool} (h : closedB md ops listed = true) : ClosedL md ops listed := by
  intro j o hj ho e he hb
  have hlt : j < ops.size := (Array.getElem?_eq_some_iff.1 ho).1
  have h1 := List.all_eq_true.1 h j (List.mem_range.2 hlt)
  rw [ho, hj] at h1
  have h2 : (o.after.all fun e => !Region.binds md e || listed.getD e.on false) = true := by simpa using h1
  have := Array.all_eq_true_iff_forall_mem.1 h2 e he
  simpa [hb] using this
theorem wpAnyE_take {i : Nat} {oi : Oper} {v : Value} {fuel : Nat} {listed : Array Bool} {a : Act} {w : World} (hi : ops[i]? = some oi)
    (hs : Region.noSelect ops = true) (hf : Region.free md ops listed i = true) (hr : (Region.ready md ops listed).contains i = true) (hc : closedB md ops listed = true) (hE : ((List.range ops.size).all fun j => !E j || reachB md ops 20 j i) = true)
    (hQ : ∀ c a w, Q (.panic c) (a.put oi.dst v) w → Q (.panic c) a w) (hy : YieldsIf P ops S oi v a) (hS : S w)
    (h : wpAnyE P md ops Q S E fuel (listed.setIfInBounds i true) (a.put oi.dst v) w) : wpAnyE P md ops Q S E (fuel + 1) listed a w := by
  refine wpAnyE_first hi (Region.noSelect_spec hs) hQ (fun j hj listed' hc' hr' => ?_) fuel listed a w (closedB_ok hc) (Region.free_spec hi hf) (by simpa using hr) hy hS h
  obtain ⟨_, oj, hoj, _⟩ := mem_ready.1 hr'
  have hlt : j < ops.size := (Array.getElem?_eq_some_iff.1 hoj).1
  have h1 := List.all_eq_true.1 hE j (List.mem_range.2 hlt)
  rw [hj] at h1
  exact reach_listed hc' i 20 j (by simpa using h1) (.inr hr')
theorem wpAnyE_all {rs : List Nat} {fuel : Nat} {listed : Array Bool} {a : Act} {w : World} (hr : Region.ready md ops listed = rs) (hne : rs ≠ [])
    (h : ∀ i ∈ rs, wpOp P ops Q i (fun a' w' => (E i = false → S w') ∧ wpAnyE P md ops Q S E fuel (listed.setIfInBounds i true) a' w') a w) : wpAnyE P md ops Q S E (fuel + 1) listed a w :=
  ⟨fun h0 => absurd (hr ▸ h0) hne, hr ▸ h⟩
theorem wpAnyE_one {k fuel : Nat} {listed : Array Bool} {a : Act} {w : World} (hr : Region.ready md ops listed = [k])
    (h : wpOp P ops Q k (fun a' w' => (E k = false → S w') ∧ wpAnyE P md ops Q S E fuel (listed.setIfInBounds k true) a' w') a w) : wpAnyE P md ops Q S E (fuel + 1) listed a w :=
  wpAnyE_all hr (by simp) fun i hi => by
    have : i = k := by simpa using hi
    subst this
    exact h
theorem wpAnyE_done {listed : Array Bool} {a : Act} {w : World} (hr : Region.ready md ops listed = []) (h : Q .normal a w) :
    ∀ fuel, wpAnyE P md ops Q S E fuel listed a w
  | 0 => ⟨hr, h⟩
  | _ + 1 => ⟨fun _ => h, by rw [hr]; simp⟩
theorem wp_region_E {id : Nat} {a : Act} {w : World} (hm : P.follows .mixedOrders = true)
    (h : wpAnyE P .any ops Q S E ops.size (Array.replicate ops.size false) a { w with drawn := w.drawn + 1 }) : (Code.region id ops true).wp P Q a w :=
  wp_region_any hm (wpAny_of_E _ _ _ _ h)
theorem wp_region_cast {id : Nat} {b : Bool} {ops' : Array Oper} {a : Act} {w : World} (e : ops = ops') (h : (Code.region id ops' b).wp P Q a w) : (Code.region id ops b).wp P Q a w := e ▸ h
theorem wpOp_val {i : Nat} {o : Oper} {a : Act} {w w' : World} {v : Value} {K : Act → World → Prop} (hi : ops[i]? = some o) (hg : o.guard = none) (hr : (execOp a.eval o).run P w = .ok (.value v) w') (hK : K (a.put o.dst v) w') : wpOp P ops Q i K a w := by
  have hw : Region.wanted o (yielded ops a.tmps) = true := by simp [Region.wanted, hg]
  unfold wpOp
  simp only [hi, hw, if_true]
  refine .inl ?_
  unfold Oper.wp
  rw [hr]
  exact hK
theorem wpOp_skip {i : Nat} {o : Oper} {a : Act} {w w' : World} {K : Act → World → Prop} (hi : ops[i]? = some o) (hg : o.guard = none) (hr : (execOp a.eval o).run P w = .ok .skip w') (hK : K (a.put o.dst undef) w') : wpOp P ops Q i K a w := by
  have hw : Region.wanted o (yielded ops a.tmps) = true := by simp [Region.wanted, hg]
  unfold wpOp
  simp only [hi, hw, if_true]
  refine .inl ?_
  unfold Oper.wp
  rw [hr]
  exact hK
theorem wpOp_wp {i : Nat} {o : Oper} {a : Act} {w : World} {K : Act → World → Prop} (hi : ops[i]? = some o) (hg : o.guard = none) (h : o.wp P a w K Q) : wpOp P ops Q i K a w := by
  have hw : Region.wanted o (yielded ops a.tmps) = true := by simp [Region.wanted, hg]
  unfold wpOp
  simp only [hi, hw, if_true]
  exact .inl h
end
theorem wp_normal2 {P : Program} {c : Code} {R : Act → World → Prop} {Q : Exit → Act → World → Prop} {a : Act} {w : World} (h : ∀ K : Act → World → Prop, (∀ a' w', R a' w' → K a' w') → c.wp P (Exit.then K fun _ _ _ => False) a w) (hQ : ∀ a' w', R a' w' → Q .normal a' w') : c.wp P Q a w := by
  refine wp_mono (h R fun _ _ h => h) ?_
  intro e a' w' he
  cases e with
  | normal => exact hQ a' w' he
  | exit id => exact he.elim
  | goto l => exact he.elim
  | ret => exact he.elim
  | panic ch => exact he.elim
  | outgrown => exact he.elim
def regOf (k : Nat) : Code → List Oper
  | .region i ops _ => if i == k then ops.toList else []
  | .seq a b => regOf k a ++ regOf k b
  | .cond _ a b => regOf k a ++ regOf k b
  | .block _ b => regOf k b
  | .loop b => regOf k b
  | .scope b => regOf k b
  | _ => []
end Go.Proofs.YtaajmfgplhfncaaGreat

/- Texts joined: ChSm1. -/
import Derived.Test.YtaajmfgplhfncaaGreatB17
namespace Go.Proofs.YtaajmfgplhfncaaGreat
open Go.RowKit
set_option maxRecDepth 100000
section
variable {l : List Oper} {K : Act → World → Prop} {s j f k dd : Nat} {T : TypeId} {d : List Deferred} {a : Act} {w : World} {cs1 cs2 : Array Value} {v v1 v2 : Value} {fn : FuncId} {ts : Array TypeId} {op : Op} {g : Option (Nat × Bool)}
structure SmL (l : List Oper) : Prop where
  lex : LexOk l.toArray l 0
  sel : Region.noSelect l.toArray = true
abbrev SmH (l : List Oper) (s : Nat) (cs1 cs2 : Array Value) (K : Act → World → Prop) (k : Nat) (a : Act) (w : World) : Prop := HC Tryz.prog l (SmS s cs1 cs2) (PQ K) k a w
theorem PQ.ok (K : Act → World → Prop) : ∀ c (a : Act) (d : Option Tmp) (v : Value) w, PQ K (.panic c) (a.put d v) w → PQ K (.panic c) a w := fun _ _ _ _ _ h => h
theorem st_take (H : SmL l) (h : OpIs l k op dd g) (hw : ∀ o : Oper, o.guard = g → Region.wanted o (yielded l.toArray a.tmps) = true) (hy : ∀ (o : Oper) (w : World), o.op = op → SmS s cs1 cs2 w → (execOp a.eval o).run Tryz.prog w = .ok (.value v) w) (hS : SmS s cs1 cs2 w)
    (hn : SmH l s cs1 cs2 K (k + 1) (a.put (some dd) v) w) : SmH l s cs1 cs2 K k a w := by
  obtain ⟨o, h1, h2, h3, h4⟩ := h.get
  rw [← h3] at hn
  exact HC.yields H.lex H.sel (PQ.ok K) h1 (.inl ⟨hw o h4, fun w hs => hy o w h2 hs⟩) hS hn
theorem SmS.upd {w' : World} (h : SmS s cs1 cs2 w) (hu : Upd [] w w') : SmS s cs1 cs2 w' := ⟨h.1.upd hu (by simp), h.2.upd hu (by simp)⟩
theorem st_call_ (H : SmL l) (h : OpIs l k op dd g) (hw : ∀ o : Oper, o.guard = g → Region.wanted o (yielded l.toArray a.tmps) = true) (hl : loneL k (l.drop (k + 1)) = true) (args : Array Value) (he : ∀ (o : Oper), o.op = op → (execOp a.eval o).run Tryz.prog w = .ok (.enter fn args) w) (hS : SmS s cs1 cs2 w)
    {R : Value → World → Prop} (hc : Calls Tryz.prog fn args w (fun e w' => ∃ v, e = .returned v ∧ R v w' ∧ Upd [] w w')) (hn : ∀ v w', R v w' → Upd [] w w' → SmS s cs1 cs2 w' → SmH l s cs1 cs2 K (k + 1) (a.put (some dd) v) w') : SmH l s cs1 cs2 K k a w := by
  obtain ⟨o, h1, h2, h3, h4⟩ := h.get
  refine HC.call H.lex h1 hl (wpOp_enter (by simpa using h1) (hw o h4) fn args (he o h2) (hc.mono fun e w' he => ?_))
  obtain ⟨v, rfl, hr, hu⟩ := he
  rw [h3]
  exact ⟨hS.upd hu, hn v w' hr hu (hS.upd hu)⟩
theorem st_swap_ {op1 op2 : Op} {d1 d2 : Nat} {g1 g2 : Option (Nat × Bool)} (H : SmL l) (h : OpIs l k op dd g) (h1 : OpIs l (k + 1) op1 d1 g1) (h2 : OpIs l (k + 2) op2 d2 g2)
    (hl : (match l[k]?, l[k + 1]?, l[k + 2]? with | some o, some o1, some o2 => swapL l.toArray k o o1 o2 (l.drop (k + 3)) | _, _, _ => false) = true)
    (hw1 : ∀ o : Oper, o.guard = g1 → Region.wanted o (yielded l.toArray a.tmps) = true) (hy1 : ∀ (o : Oper) (w : World), o.op = op1 → SmS s cs1 cs2 w → (execOp a.eval o).run Tryz.prog w = .ok (.value v1) w)
    (hw2 : ∀ o : Oper, o.guard = g2 → Region.wanted o (yielded l.toArray (a.put (some d1) v1).tmps) = true) (hy2 : ∀ (o : Oper) (w : World), o.op = op2 → SmS s cs1 cs2 w → (execOp (a.put (some d1) v1).eval o).run Tryz.prog w = .ok (.value v2) w)
    (hw : ∀ o : Oper, o.guard = g → Region.wanted o (yielded l.toArray ((a.put (some d1) v1).put (some d2) v2).tmps) = true) (args : Array Value) (he : ∀ (o : Oper), o.op = op → (execOp ((a.put (some d1) v1).put (some d2) v2).eval o).run Tryz.prog w = .ok (.enter fn args) w) (hS : SmS s cs1 cs2 w)
    {R : Value → World → Prop} (hc : Calls Tryz.prog fn args w (fun e w' => ∃ v, e = .returned v ∧ R v w' ∧ Upd [] w w')) (hn : ∀ v w', R v w' → Upd [] w w' → SmS s cs1 cs2 w' → SmH l s cs1 cs2 K (k + 3) (((a.put (some d1) v1).put (some d2) v2).put (some dd) v) w') : SmH l s cs1 cs2 K k a w := by
  obtain ⟨o, k1, k2, k3, k4⟩ := h.get
  obtain ⟨o1, m1, m2, m3, m4⟩ := h1.get
  obtain ⟨o2, n1, n2, n3, n4⟩ := h2.get
  rw [k1, m1, n1] at hl
  refine HC.swap H.lex H.sel (PQ.ok K) k1 m1 n1 hl (.inl ⟨hw1 o1 m4, fun w hs => hy1 o1 w m2 hs⟩) (v2 := v2) ?_ hS ?_
  · rw [m3]; exact .inl ⟨hw2 o2 n4, fun w hs => hy2 o2 w n2 hs⟩
  · rw [m3, n3]
    refine wpOp_enter (by simpa using k1) (hw o k4) fn args (he o k2) (hc.mono fun e w' he => ?_)
    obtain ⟨v, rfl, hr, hu⟩ := he
    rw [k3]
    exact ⟨hS.upd hu, hn v w' hr hu (hS.upd hu)⟩
abbrev YesP (w : World) (e : Ending) (w' : World) : Prop := e = .returned (.bool true) ∧ Upd [] w w'
abbrev FldRun (f : Nat) : Prop := ∀ (w : World) (g : Nat), (Instr.fieldAt 29 (.pointer (some ⟨g, 0, none⟩)) f).run Tryz.prog w = .ok (.pointer (some ⟨g, f, none⟩)) w
abbrev LdRun (T : TypeId) : Prop := ∀ (w : World) (g i : Nat) (v : Value), w.cell? ⟨g, i, none⟩ = some v → (Instr.loadAt T (.pointer (some ⟨g, i, none⟩))).run Tryz.prog w = .ok v w
abbrev FnRun2 (fn : FuncId) : Prop := ∀ (x y : Value) (u : World), (callFunc fn #[x, y]).run Tryz.prog u = .ok (.enter fn #[x, y]) u
abbrev FnRun1 (fn : FuncId) : Prop := ∀ (x : Value) (u : World), (callFunc fn #[x]).run Tryz.prog u = .ok (.enter fn #[x]) u
theorem st_end {m : Nat} (H : SmL l) (h6 : OpIs l m (.pick (.tmp (j + 5)) (.tmp (m + 4)) (.const (.bool false))) (m + 5) none) (h7 : OpIs l (m + 1) (.move (.tmp (m + 5))) (m + 6) none) (hm : m + 6 < 199)
    (hn : a.tmps.size = 199) (p2 : AtS a 2 (.pointer (some ⟨s, 0, none⟩))) (p3 : AtS a 3 (.pointer (some ⟨s + 1, 0, none⟩))) (c : AtS a (j + 5) (.bool true)) (r : AtS a (m + 4) (.bool true)) (hd : a.defers = d) (hS : SmS s cs1 cs2 w)
    (hk : ∀ a', SmF s (m + 6) d a' → SmH l s cs1 cs2 K (m + 2) a' w) : SmH l s cs1 cs2 K m a w := by
  refine st_take H h6 (fun o hg => wanted_none hg) (fun o w ho _ => x_pick ho c.ev r.ev) hS ?_
  have r1 : AtS (a.put (some (m + 5)) (.bool true)) (m + 5) (.bool true) := AtS.new (by omega)
  refine st_take H h7 (fun o hg => wanted_none hg) (fun o w ho _ => x_move ho r1.ev) hS ?_
  exact hk _ ⟨by rw [put_sz, put_sz, hn], (p2.put (by omega)).put (by omega), (p3.put (by omega)).put (by omega), AtS.new (by rw [put_sz]; omega), hd⟩
theorem st_load (H : SmL l) {q r : Nat} (h1 : OpIs l k (.fieldAddr 29 (.tmp q) f) (k + 5) (some (j, true))) (h2 : OpIs l (k + 1) (.load T (.tmp (k + 5))) (k + 6) (some (j, true))) (hdst : (l[j]?).bind (·.dst) = some (j + 5)) (hf : FldRun f) (hl : LdRun T)
    (hj : j < k) (hk : k + 6 < 199) (hn : a.tmps.size = 199) (hq : AtS a q (.pointer (some ⟨r, 0, none⟩))) (c : AtS a (j + 5) (.bool true)) (hv : ∀ w, SmS s cs1 cs2 w → w.cell? ⟨r, f, none⟩ = some v) (hS : SmS s cs1 cs2 w)
    (hk : SmH l s cs1 cs2 K (k + 2) ((a.put (some (k + 5)) (.pointer (some ⟨r, f, none⟩))).put (some (k + 6)) v) w) : SmH l s cs1 cs2 K k a w := by
  refine st_take H h1 (fun o hg => wanted_at hg hdst c) (fun o w ho _ => x_field ho hq.ev (hf w r)) hS ?_
  have r1 : AtS (a.put (some (k + 5)) (.pointer (some ⟨r, f, none⟩))) (k + 5) (.pointer (some ⟨r, f, none⟩)) := AtS.new (by omega)
  exact st_take H h2 (fun o hg => wanted_at hg hdst (c.put (by omega))) (fun o w ho hs => x_load ho r1.ev (hl w r f v (hv w hs))) hS hk
theorem st_call (H : SmL l) (h1 : OpIs l (j + 1) (.fieldAddr 29 (.tmp 2) f) (j + 6) (some (j, true))) (h2 : OpIs l (j + 2) (.load T (.tmp (j + 6))) (j + 7) (some (j, true))) (h3 : OpIs l (j + 3) (.fieldAddr 29 (.tmp 3) f) (j + 8) (some (j, true))) (h4 : OpIs l (j + 4) (.load T (.tmp (j + 8))) (j + 9) (some (j, true)))
    (h5 : OpIs l (j + 5) (.call { callee := .value (.func fn), args := #[.tmp (j + 7), .tmp (j + 9)], argTypes := ts }) (j + 10) (some (j, true))) (h6 : OpIs l (j + 6) (.pick (.tmp (j + 5)) (.tmp (j + 10)) (.const (.bool false))) (j + 11) none) (h7 : OpIs l (j + 7) (.move (.tmp (j + 11))) (j + 12) none)
    (hdst : (l[j]?).bind (·.dst) = some (j + 5)) (hlone : loneL (j + 5) (l.drop (j + 6)) = true) (hj : j + 12 < 199) (hf : FldRun f) (hl : LdRun T) (hm : FnRun2 fn) (c1 : cs1[f]? = some v1) (c2 : cs2[f]? = some v2)
    (hF : SmF s (j + 5) d a) (hS : SmS s cs1 cs2 w) (hc : Calls Tryz.prog fn #[v1, v2] w (YesP w)) (hk : ∀ a' w', SmF s (j + 12) d a' → Upd [] w w' → SmS s cs1 cs2 w' → SmH l s cs1 cs2 K (j + 8) a' w') : SmH l s cs1 cs2 K (j + 1) a w := by
  refine st_load (k := j + 1) H h1 h2 hdst hf hl (by omega) (by omega) hF.n hF.p2 hF.c (fun w hs => hs.1.at_ c1) hS ?_
  refine st_load (k := j + 3) H h3 h4 hdst hf hl (by omega) (by omega) (by rw [put_sz, put_sz]; exact hF.n) ((hF.p3.put (by omega)).put (by omega)) ((hF.c.put (by omega)).put (by omega)) (fun w hs => hs.2.at_ c2) hS ?_
  have sz : ((((a.put (some (j + 1 + 5)) (.pointer (some ⟨s, f, none⟩))).put (some (j + 1 + 6)) v1).put (some (j + 3 + 5)) (.pointer (some ⟨s + 1, f, none⟩))).put (some (j + 3 + 6)) v2).tmps.size = 199 := by rw [put_sz, put_sz, put_sz, put_sz]; exact hF.n
  have q2 := (((hF.p2.put (d := j + 1 + 5) (x := .pointer (some ⟨s, f, none⟩)) (by omega)).put (d := j + 1 + 6) (x := v1) (by omega)).put (d := j + 3 + 5) (x := .pointer (some ⟨s + 1, f, none⟩)) (by omega)).put (d := j + 3 + 6) (x := v2) (by omega)
  have q3 := (((hF.p3.put (d := j + 1 + 5) (x := .pointer (some ⟨s, f, none⟩)) (by omega)).put (d := j + 1 + 6) (x := v1) (by omega)).put (d := j + 3 + 5) (x := .pointer (some ⟨s + 1, f, none⟩)) (by omega)).put (d := j + 3 + 6) (x := v2) (by omega)
  have qc := (((hF.c.put (d := j + 1 + 5) (x := .pointer (some ⟨s, f, none⟩)) (by omega)).put (d := j + 1 + 6) (x := v1) (by omega)).put (d := j + 3 + 5) (x := .pointer (some ⟨s + 1, f, none⟩)) (by omega)).put (d := j + 3 + 6) (x := v2) (by omega)
  have r1 : AtS ((((a.put (some (j + 1 + 5)) (.pointer (some ⟨s, f, none⟩))).put (some (j + 1 + 6)) v1).put (some (j + 3 + 5)) (.pointer (some ⟨s + 1, f, none⟩))).put (some (j + 3 + 6)) v2) (j + 7) v1 := ((AtS.new (by rw [put_sz, hF.n]; omega)).put (by omega)).put (by omega)
  have r2 : AtS ((((a.put (some (j + 1 + 5)) (.pointer (some ⟨s, f, none⟩))).put (some (j + 1 + 6)) v1).put (some (j + 3 + 5)) (.pointer (some ⟨s + 1, f, none⟩))).put (some (j + 3 + 6)) v2) (j + 9) v2 := AtS.new (by rw [put_sz, put_sz, put_sz, hF.n]; omega)
  have df : ((((a.put (some (j + 1 + 5)) (.pointer (some ⟨s, f, none⟩))).put (some (j + 1 + 6)) v1).put (some (j + 3 + 5)) (.pointer (some ⟨s + 1, f, none⟩))).put (some (j + 3 + 6)) v2).defers = d := hF.df
  generalize (((a.put (some (j + 1 + 5)) (.pointer (some ⟨s, f, none⟩))).put (some (j + 1 + 6)) v1).put (some (j + 3 + 5)) (.pointer (some ⟨s + 1, f, none⟩))).put (some (j + 3 + 6)) v2 = b at sz q2 q3 qc r1 r2 df ⊢
  refine st_call_ (k := j + 5) H h5 (fun o hg => wanted_at hg hdst qc) hlone #[v1, v2] (fun o ho => x_call2 ho r1.ev r2.ev (hm v1 v2)) hS (R := fun v _ => v = .bool true) (hc.mono fun e w' he => ⟨_, he.1, rfl, he.2⟩) ?_
  rintro v w' rfl hu hS'
  refine st_end (j := j) (m := j + 6) H h6 h7 (by omega) (by rw [put_sz, sz]) (q2.put (by omega)) (q3.put (by omega)) (qc.put (by omega)) (AtS.new (by omega)) df hS' fun a' hF' => hk a' w' hF' hu hS'
theorem st_last (H : SmL l) (h1 : OpIs l (j + 1) (.fieldAddr 29 (.tmp 2) f) (j + 6) (some (j, true))) (h2 : OpIs l (j + 2) (.load T (.tmp (j + 6))) (j + 7) (some (j, true))) (h3 : OpIs l (j + 3) (.fieldAddr 29 (.tmp 3) f) (j + 8) (some (j, true))) (h4 : OpIs l (j + 4) (.load T (.tmp (j + 8))) (j + 9) (some (j, true)))
    (h5 : OpIs l (j + 5) (.call { callee := .value (.func fn), args := #[.tmp (j + 7), .tmp (j + 9)], argTypes := ts }) (j + 10) (some (j, true))) (h6 : OpIs l (j + 6) (.pick (.tmp (j + 5)) (.tmp (j + 10)) (.const (.bool false))) (j + 11) none) (h7 : OpIs l (j + 7) (.assign (.tmp (j + 11))) 4 none)
    (hdst : (l[j]?).bind (·.dst) = some (j + 5)) (hlone : loneL (j + 5) (l.drop (j + 6)) = true) (hj : j + 11 < 199) (hf : FldRun f) (hl : LdRun T) (hm : FnRun2 fn) (c1 : cs1[f]? = some v1) (c2 : cs2[f]? = some v2)
    (hF : SmF s (j + 5) d a) (hS : SmS s cs1 cs2 w) (hc : Calls Tryz.prog fn #[v1, v2] w (YesP w)) (hk : ∀ a' w', a'.tmps.size = 199 → AtS a' 4 (.bool true) → a'.defers = d → Upd [] w w' → SmH l s cs1 cs2 K (j + 8) a' w') : SmH l s cs1 cs2 K (j + 1) a w := by
  refine st_load (k := j + 1) H h1 h2 hdst hf hl (by omega) (by omega) hF.n hF.p2 hF.c (fun w hs => hs.1.at_ c1) hS ?_
  refine st_load (k := j + 3) H h3 h4 hdst hf hl (by omega) (by omega) (by rw [put_sz, put_sz]; exact hF.n) ((hF.p3.put (by omega)).put (by omega)) ((hF.c.put (by omega)).put (by omega)) (fun w hs => hs.2.at_ c2) hS ?_
  have sz : ((((a.put (some (j + 1 + 5)) (.pointer (some ⟨s, f, none⟩))).put (some (j + 1 + 6)) v1).put (some (j + 3 + 5)) (.pointer (some ⟨s + 1, f, none⟩))).put (some (j + 3 + 6)) v2).tmps.size = 199 := by rw [put_sz, put_sz, put_sz, put_sz]; exact hF.n
  have q2 := (((hF.p2.put (d := j + 1 + 5) (x := .pointer (some ⟨s, f, none⟩)) (by omega)).put (d := j + 1 + 6) (x := v1) (by omega)).put (d := j + 3 + 5) (x := .pointer (some ⟨s + 1, f, none⟩)) (by omega)).put (d := j + 3 + 6) (x := v2) (by omega)
  have q3 := (((hF.p3.put (d := j + 1 + 5) (x := .pointer (some ⟨s, f, none⟩)) (by omega)).put (d := j + 1 + 6) (x := v1) (by omega)).put (d := j + 3 + 5) (x := .pointer (some ⟨s + 1, f, none⟩)) (by omega)).put (d := j + 3 + 6) (x := v2) (by omega)
  have qc := (((hF.c.put (d := j + 1 + 5) (x := .pointer (some ⟨s, f, none⟩)) (by omega)).put (d := j + 1 + 6) (x := v1) (by omega)).put (d := j + 3 + 5) (x := .pointer (some ⟨s + 1, f, none⟩)) (by omega)).put (d := j + 3 + 6) (x := v2) (by omega)
  have r1 : AtS ((((a.put (some (j + 1 + 5)) (.pointer (some ⟨s, f, none⟩))).put (some (j + 1 + 6)) v1).put (some (j + 3 + 5)) (.pointer (some ⟨s + 1, f, none⟩))).put (some (j + 3 + 6)) v2) (j + 7) v1 := ((AtS.new (by rw [put_sz, hF.n]; omega)).put (by omega)).put (by omega)
  have r2 : AtS ((((a.put (some (j + 1 + 5)) (.pointer (some ⟨s, f, none⟩))).put (some (j + 1 + 6)) v1).put (some (j + 3 + 5)) (.pointer (some ⟨s + 1, f, none⟩))).put (some (j + 3 + 6)) v2) (j + 9) v2 := AtS.new (by rw [put_sz, put_sz, put_sz, hF.n]; omega)
  have df : ((((a.put (some (j + 1 + 5)) (.pointer (some ⟨s, f, none⟩))).put (some (j + 1 + 6)) v1).put (some (j + 3 + 5)) (.pointer (some ⟨s + 1, f, none⟩))).put (some (j + 3 + 6)) v2).defers = d := hF.df
  generalize (((a.put (some (j + 1 + 5)) (.pointer (some ⟨s, f, none⟩))).put (some (j + 1 + 6)) v1).put (some (j + 3 + 5)) (.pointer (some ⟨s + 1, f, none⟩))).put (some (j + 3 + 6)) v2 = b at sz q2 q3 qc r1 r2 df ⊢
  refine st_call_ (k := j + 5) H h5 (fun o hg => wanted_at hg hdst qc) hlone #[v1, v2] (fun o ho => x_call2 ho r1.ev r2.ev (hm v1 v2)) hS (R := fun v _ => v = .bool true) (hc.mono fun e w' he => ⟨_, he.1, rfl, he.2⟩) ?_
  rintro v w' rfl hu hS'
  have rr : AtS (b.put (some (j + 10)) (.bool true)) (j + 10) (.bool true) := AtS.new (by omega)
  refine st_take (k := j + 6) H h6 (fun o hg => wanted_none hg) (fun o w ho _ => x_pick ho (qc.put (by omega)).ev rr.ev) hS' ?_
  have r3 : AtS ((b.put (some (j + 10)) (.bool true)).put (some (j + 11)) (.bool true)) (j + 11) (.bool true) := AtS.new (by rw [put_sz]; omega)
  refine st_take (k := j + 7) H h7 (fun o hg => wanted_none hg) (fun o w ho _ => x_assign ho r3.ev) hS' ?_
  exact hk _ _ (by rw [put_sz, put_sz, put_sz]; exact sz) (AtS.new (by rw [put_sz, put_sz]; omega)) df hu
set_option maxHeartbeats 1000000 in
theorem st_eq (H : SmL l) (h1 : OpIs l (j + 1) (.fieldAddr 29 (.tmp 2) f) (j + 6) (some (j, true))) (h2 : OpIs l (j + 2) (.load T (.tmp (j + 6))) (j + 7) (some (j, true))) (h3 : OpIs l (j + 3) (.fieldAddr 29 (.tmp 3) f) (j + 8) (some (j, true))) (h4 : OpIs l (j + 4) (.load T (.tmp (j + 8))) (j + 9) (some (j, true)))
    (h5 : OpIs l (j + 5) (.binOp .eql T (.tmp (j + 7)) (.tmp (j + 9)) T) (j + 10) (some (j, true))) (h6 : OpIs l (j + 6) (.pick (.tmp (j + 5)) (.tmp (j + 10)) (.const (.bool false))) (j + 11) none) (h7 : OpIs l (j + 7) (.move (.tmp (j + 11))) (j + 12) none)
    (hdst : (l[j]?).bind (·.dst) = some (j + 5)) (hj : j + 12 < 199) (hf : FldRun f) (hl : LdRun T) (c1 : cs1[f]? = some v) (c2 : cs2[f]? = some v) (he : ∀ (w : World) (p q : Operand), (do eqGuard .eql T p q v v; binOp .eql T v v).run Tryz.prog w = .ok (.bool true) w)
    (hF : SmF s (j + 5) d a) (hS : SmS s cs1 cs2 w) (hk : ∀ a', SmF s (j + 12) d a' → SmH l s cs1 cs2 K (j + 8) a' w) : SmH l s cs1 cs2 K (j + 1) a w := by
  refine st_load (k := j + 1) H h1 h2 hdst hf hl (by omega) (by omega) hF.n hF.p2 hF.c (fun w hs => hs.1.at_ c1) hS ?_
  refine st_load (k := j + 3) H h3 h4 hdst hf hl (by omega) (by omega) (by rw [put_sz, put_sz]; exact hF.n) ((hF.p3.put (by omega)).put (by omega)) ((hF.c.put (by omega)).put (by omega)) (fun w hs => hs.2.at_ c2) hS ?_
  have sz : ((((a.put (some (j + 1 + 5)) (.pointer (some ⟨s, f, none⟩))).put (some (j + 1 + 6)) v).put (some (j + 3 + 5)) (.pointer (some ⟨s + 1, f, none⟩))).put (some (j + 3 + 6)) v).tmps.size = 199 := by rw [put_sz, put_sz, put_sz, put_sz]; exact hF.n
  have q2 := (((hF.p2.put (d := j + 1 + 5) (x := .pointer (some ⟨s, f, none⟩)) (by omega)).put (d := j + 1 + 6) (x := v) (by omega)).put (d := j + 3 + 5) (x := .pointer (some ⟨s + 1, f, none⟩)) (by omega)).put (d := j + 3 + 6) (x := v) (by omega)
  have q3 := (((hF.p3.put (d := j + 1 + 5) (x := .pointer (some ⟨s, f, none⟩)) (by omega)).put (d := j + 1 + 6) (x := v) (by omega)).put (d := j + 3 + 5) (x := .pointer (some ⟨s + 1, f, none⟩)) (by omega)).put (d := j + 3 + 6) (x := v) (by omega)
  have qc := (((hF.c.put (d := j + 1 + 5) (x := .pointer (some ⟨s, f, none⟩)) (by omega)).put (d := j + 1 + 6) (x := v) (by omega)).put (d := j + 3 + 5) (x := .pointer (some ⟨s + 1, f, none⟩)) (by omega)).put (d := j + 3 + 6) (x := v) (by omega)
  have r1 : AtS ((((a.put (some (j + 1 + 5)) (.pointer (some ⟨s, f, none⟩))).put (some (j + 1 + 6)) v).put (some (j + 3 + 5)) (.pointer (some ⟨s + 1, f, none⟩))).put (some (j + 3 + 6)) v) (j + 7) v := ((AtS.new (by rw [put_sz, hF.n]; omega)).put (by omega)).put (by omega)
  have r2 : AtS ((((a.put (some (j + 1 + 5)) (.pointer (some ⟨s, f, none⟩))).put (some (j + 1 + 6)) v).put (some (j + 3 + 5)) (.pointer (some ⟨s + 1, f, none⟩))).put (some (j + 3 + 6)) v) (j + 9) v := AtS.new (by rw [put_sz, put_sz, put_sz, hF.n]; omega)
  have df : ((((a.put (some (j + 1 + 5)) (.pointer (some ⟨s, f, none⟩))).put (some (j + 1 + 6)) v).put (some (j + 3 + 5)) (.pointer (some ⟨s + 1, f, none⟩))).put (some (j + 3 + 6)) v).defers = d := hF.df
  generalize (((a.put (some (j + 1 + 5)) (.pointer (some ⟨s, f, none⟩))).put (some (j + 1 + 6)) v).put (some (j + 3 + 5)) (.pointer (some ⟨s + 1, f, none⟩))).put (some (j + 3 + 6)) v = b at sz q2 q3 qc r1 r2 df ⊢
  refine st_take (k := j + 5) H h5 (fun o hg => wanted_at hg hdst qc) (fun o w ho _ => x_bin ho r1.ev r2.ev (he w _ _)) hS ?_
  refine st_end (j := j) (m := j + 6) H h6 h7 (by omega) (by rw [put_sz, sz]) (q2.put (by omega)) (q3.put (by omega)) (qc.put (by omega)) (AtS.new (by omega)) df hS fun a' hF' => hk a' hF'
theorem st_load0 (H : SmL l) {q r b : Nat} (h1 : OpIs l k (.fieldAddr 29 (.tmp q) f) b none) (h2 : OpIs l (k + 1) (.load T (.tmp b)) (b + 1) none) (hf : FldRun f) (hl : LdRun T)
    (hk : b + 1 < 199) (hn : a.tmps.size = 199) (hq : AtS a q (.pointer (some ⟨r, 0, none⟩))) (hv : ∀ w, SmS s cs1 cs2 w → w.cell? ⟨r, f, none⟩ = some v) (hS : SmS s cs1 cs2 w)
    (hk : SmH l s cs1 cs2 K (k + 2) ((a.put (some b) (.pointer (some ⟨r, f, none⟩))).put (some (b + 1)) v) w) : SmH l s cs1 cs2 K k a w := by
  refine st_take H h1 (fun o hg => wanted_none hg) (fun o w ho _ => x_field ho hq.ev (hf w r)) hS ?_
  have r1 : AtS (a.put (some b) (.pointer (some ⟨r, f, none⟩))) b (.pointer (some ⟨r, f, none⟩)) := AtS.new (by omega)
  exact st_take H h2 (fun o hg => wanted_none hg) (fun o w ho hs => x_load ho r1.ev (hl w r f v (hv w hs))) hS hk
theorem st_first {b : Nat} (hb : b = 5) (H : SmL l) (h1 : OpIs l 0 (.fieldAddr 29 (.tmp 2) f) b none) (h2 : OpIs l (0 + 1) (.load T (.tmp b)) (b + 1) none) (h3 : OpIs l (0 + 2) (.fieldAddr 29 (.tmp 3) f) (b + 2) none) (h4 : OpIs l (0 + 2 + 1) (.load T (.tmp (b + 2))) (b + 2 + 1) none)
    (h5 : OpIs l (0 + 2 + 2) (.binOp .eql T (.tmp (b + 1)) (.tmp (b + 2 + 1)) T) (b + 4) none) (h7 : OpIs l (0 + 2 + 2 + 1) (.move (.tmp (b + 4))) (b + 5) none)
    (hf : FldRun f) (hl : LdRun T) (c1 : cs1[f]? = some v) (c2 : cs2[f]? = some v) (he : ∀ (w : World) (p q : Operand), (do eqGuard .eql T p q v v; binOp .eql T v v).run Tryz.prog w = .ok (.bool true) w)
    (hn : a.tmps.size = 199) (p2 : AtS a 2 (.pointer (some ⟨s, 0, none⟩))) (p3 : AtS a 3 (.pointer (some ⟨s + 1, 0, none⟩))) (hd : a.defers = d) (hS : SmS s cs1 cs2 w) (hk : ∀ a', SmF s (b + 5) d a' → SmH l s cs1 cs2 K (0 + 2 + 2 + 1 + 1) a' w) : SmH l s cs1 cs2 K 0 a w := by
  refine st_load0 H h1 h2 hf hl (by omega) hn p2 (fun w hs => hs.1.at_ c1) hS ?_
  have sz : ((a.put (some b) (.pointer (some ⟨s, f, none⟩))).put (some (b + 1)) v).tmps.size = 199 := by rw [put_sz, put_sz]; exact hn
  have q2 := (p2.put (d := b) (x := .pointer (some ⟨s, f, none⟩)) (by omega)).put (d := b + 1) (x := v) (by omega)
  have q3 := (p3.put (d := b) (x := .pointer (some ⟨s, f, none⟩)) (by omega)).put (d := b + 1) (x := v) (by omega)
  have r1 : AtS ((a.put (some b) (.pointer (some ⟨s, f, none⟩))).put (some (b + 1)) v) (b + 1) v := AtS.new (by rw [put_sz]; omega)
  have df : ((a.put (some b) (.pointer (some ⟨s, f, none⟩))).put (some (b + 1)) v).defers = d := hd
  generalize (a.put (some b) (.pointer (some ⟨s, f, none⟩))).put (some (b + 1)) v = a2 at sz q2 q3 r1 df ⊢
  refine st_load0 H h3 h4 hf hl (by omega) sz q3 (fun w hs => hs.2.at_ c2) hS ?_
  have sz2 : ((a2.put (some (b + 2)) (.pointer (some ⟨s + 1, f, none⟩))).put (some (b + 2 + 1)) v).tmps.size = 199 := by rw [put_sz, put_sz]; exact sz
  have t2 := (q2.put (d := b + 2) (x := .pointer (some ⟨s + 1, f, none⟩)) (by omega)).put (d := b + 2 + 1) (x := v) (by omega)
  have t3 := (q3.put (d := b + 2) (x := .pointer (some ⟨s + 1, f, none⟩)) (by omega)).put (d := b + 2 + 1) (x := v) (by omega)
  have u1 := (r1.put (d := b + 2) (x := .pointer (some ⟨s + 1, f, none⟩)) (by omega)).put (d := b + 2 + 1) (x := v) (by omega)
  have u2 : AtS ((a2.put (some (b + 2)) (.pointer (some ⟨s + 1, f, none⟩))).put (some (b + 2 + 1)) v) (b + 2 + 1) v := AtS.new (by rw [put_sz]; omega)
  have df2 : ((a2.put (some (b + 2)) (.pointer (some ⟨s + 1, f, none⟩))).put (some (b + 2 + 1)) v).defers = d := df
  generalize (a2.put (some (b + 2)) (.pointer (some ⟨s + 1, f, none⟩))).put (some (b + 2 + 1)) v = a4 at sz2 t2 t3 u1 u2 df2 ⊢
  refine st_take H h5 (fun o hg => wanted_none hg) (fun o w ho _ => x_bin ho u1.ev u2.ev (he w _ _)) hS ?_
  have r3 : AtS (a4.put (some (b + 4)) (.bool true)) (b + 4) (.bool true) := AtS.new (by omega)
  refine st_take H h7 (fun o hg => wanted_none hg) (fun o w ho _ => x_move ho r3.ev) hS ?_
  exact hk _ ⟨by rw [put_sz, put_sz]; exact sz2, (t2.put (by omega)).put (by omega), (t3.put (by omega)).put (by omega), AtS.new (by rw [put_sz]; omega), df2⟩
theorem st_keys (H : SmL l) (h1 : OpIs l (j + 1) (.load 29 (.tmp 2)) (j + 6) (some (j, true))) (h2 : OpIs l (j + 2) (.load 29 (.tmp 3)) (j + 7) (some (j, true)))
    (h5 : OpIs l (j + 3) (.call { callee := .value (.func fn), args := #[.tmp (j + 6), .tmp (j + 7)], argTypes := ts }) (j + 8) (some (j, true))) (h6 : OpIs l (j + 4) (.pick (.tmp (j + 5)) (.tmp (j + 8)) (.const (.bool false))) (j + 9) none) (h7 : OpIs l (j + 5) (.move (.tmp (j + 9))) (j + 10) none)
    (hdst : (l[j]?).bind (·.dst) = some (j + 5)) (hlone : loneL (j + 3) (l.drop (j + 4)) = true) (hj : j + 10 < 199) (hl : ∀ (w : World) (g : Nat) (cs : Array Value), cs.size = 31 → Blk w g 29 cs → (Instr.loadAt 29 (.pointer (some ⟨g, 0, none⟩))).run Tryz.prog w = .ok (.agg cs) w) (hm : FnRun2 fn) (n1 : cs1.size = 31) (n2 : cs2.size = 31)
    (hF : SmF s (j + 5) d a) (hS : SmS s cs1 cs2 w) (hc : Calls Tryz.prog fn #[.agg cs1, .agg cs2] w (YesP w)) (hk : ∀ a' w', SmF s (j + 10) d a' → Upd [] w w' → SmS s cs1 cs2 w' → SmH l s cs1 cs2 K (j + 6) a' w') : SmH l s cs1 cs2 K (j + 1) a w := by
  refine st_take H h1 (fun o hg => wanted_at hg hdst hF.c) (fun o w ho hs => x_load ho hF.p2.ev (hl w s cs1 n1 hs.1)) hS ?_
  refine st_take H h2 (fun o hg => wanted_at hg hdst (hF.c.put (by omega))) (fun o w ho hs => x_load ho (hF.p3.put (by omega)).ev (hl w (s + 1) cs2 n2 hs.2)) hS ?_
  have sz : ((a.put (some (j + 6)) (.agg cs1)).put (some (j + 7)) (.agg cs2)).tmps.size = 199 := by rw [put_sz, put_sz]; exact hF.n
  have q2 := (hF.p2.put (d := j + 6) (x := .agg cs1) (by omega)).put (d := j + 7) (x := .agg cs2) (by omega)
  have q3 := (hF.p3.put (d := j + 6) (x := .agg cs1) (by omega)).put (d := j + 7) (x := .agg cs2) (by omega)
  have qc := (hF.c.put (d := j + 6) (x := .agg cs1) (by omega)).put (d := j + 7) (x := .agg cs2) (by omega)
  have r1 : AtS ((a.put (some (j + 6)) (.agg cs1)).put (some (j + 7)) (.agg cs2)) (j + 6) (.agg cs1) := (AtS.new (by rw [hF.n]; omega)).put (by omega)
  have r2 : AtS ((a.put (some (j + 6)) (.agg cs1)).put (some (j + 7)) (.agg cs2)) (j + 7) (.agg cs2) := AtS.new (by rw [put_sz, hF.n]; omega)
  have df : ((a.put (some (j + 6)) (.agg cs1)).put (some (j + 7)) (.agg cs2)).defers = d := hF.df
  generalize (a.put (some (j + 6)) (.agg cs1)).put (some (j + 7)) (.agg cs2) = b at sz q2 q3 qc r1 r2 df ⊢
  refine st_call_ (k := j + 3) H h5 (fun o hg => wanted_at hg hdst qc) hlone #[.agg cs1, .agg cs2] (fun o ho => x_call2 ho r1.ev r2.ev (hm _ _)) hS (R := fun v _ => v = .bool true) (hc.mono fun e w' he => ⟨_, he.1, rfl, he.2⟩) ?_
  rintro v w' rfl hu hS'
  refine st_end (j := j) (m := j + 4) H h6 h7 (by omega) (by rw [put_sz, sz]) (q2.put (by omega)) (q3.put (by omega)) (qc.put (by omega)) (AtS.new (by omega)) df hS' fun a' hF' => hk a' w' hF' hu hS'
theorem st_octs (H : SmL l) {fo fl : FuncId} {tq : Array TypeId} (h1 : OpIs l (j + 1) (.fieldAddr 29 (.tmp 2) f) (j + 6) (some (j, true))) (h2 : OpIs l (j + 2) (.load T (.tmp (j + 6))) (j + 7) (some (j, true)))
    (h3 : OpIs l (j + 3) (.call { callee := .value (.func fo), args := #[.tmp (j + 7)], argTypes := tq }) (j + 8) (some (j, true))) (h4 : OpIs l (j + 4) (.fieldAddr 29 (.tmp 3) f) (j + 9) (some (j, true))) (h5 : OpIs l (j + 5) (.load T (.tmp (j + 9))) (j + 10) (some (j, true)))
    (h6 : OpIs l (j + 6) (.call { callee := .value (.func fo), args := #[.tmp (j + 10)], argTypes := tq }) (j + 11) (some (j, true))) (h7 : OpIs l (j + 7) (.call { callee := .value (.func fl), args := #[.tmp (j + 8), .tmp (j + 11)], argTypes := ts }) (j + 12) (some (j, true)))
    (h8 : OpIs l (j + 8) (.pick (.tmp (j + 5)) (.tmp (j + 12)) (.const (.bool false))) (j + 13) none) (h9 : OpIs l (j + 9) (.move (.tmp (j + 13))) (j + 14) none)
    (hdst : (l[j]?).bind (·.dst) = some (j + 5)) (hsw : (match l[j + 3]?, l[j + 3 + 1]?, l[j + 3 + 2]? with | some o, some o1, some o2 => swapL l.toArray (j + 3) o o1 o2 (l.drop (j + 3 + 3)) | _, _, _ => false) = true) (hl6 : loneL (j + 6) (l.drop (j + 7)) = true) (hl7 : loneL (j + 7) (l.drop (j + 8)) = true)
    (hj : j + 14 < 199) (hf : FldRun f) (hl : LdRun T) (hm : FnRun1 fo) (hm2 : FnRun2 fl) (c1 : cs1[f]? = some v1) (c2 : cs2[f]? = some v2)
    (hF : SmF s (j + 5) d a) (hS : SmS s cs1 cs2 w) {R : Value → World → Prop} (hc : Calls Tryz.prog fo #[v1] w (fun e w' => ∃ v, e = .returned v ∧ R v w' ∧ Upd [] w w')) {R2 : Value → Value → World → Prop} (hc2 : ∀ u w1, R u w1 → Upd [] w w1 → Calls Tryz.prog fo #[v2] w1 (fun e w' => ∃ v, e = .returned v ∧ R2 u v w' ∧ Upd [] w1 w'))
    (hc3 : ∀ u v w2, R2 u v w2 → Calls Tryz.prog fl #[u, v] w2 (YesP w2)) (hk : ∀ a' w', SmF s (j + 14) d a' → Upd [] w w' → SmS s cs1 cs2 w' → SmH l s cs1 cs2 K (j + 10) a' w') : SmH l s cs1 cs2 K (j + 1) a w := by
  refine st_load (k := j + 1) H h1 h2 hdst hf hl (by omega) (by omega) hF.n hF.p2 hF.c (fun w hs => hs.1.at_ c1) hS ?_
  have sz : ((a.put (some (j + 1 + 5)) (.pointer (some ⟨s, f, none⟩))).put (some (j + 1 + 6)) v1).tmps.size = 199 := by rw [put_sz, put_sz]; exact hF.n
  have q2 := (hF.p2.put (d := j + 1 + 5) (x := .pointer (some ⟨s, f, none⟩)) (by omega)).put (d := j + 1 + 6) (x := v1) (by omega)
  have q3 := (hF.p3.put (d := j + 1 + 5) (x := .pointer (some ⟨s, f, none⟩)) (by omega)).put (d := j + 1 + 6) (x := v1) (by omega)
  have qc := (hF.c.put (d := j + 1 + 5) (x := .pointer (some ⟨s, f, none⟩)) (by omega)).put (d := j + 1 + 6) (x := v1) (by omega)
  have r1 : AtS ((a.put (some (j + 1 + 5)) (.pointer (some ⟨s, f, none⟩))).put (some (j + 1 + 6)) v1) (j + 7) v1 := AtS.new (by rw [put_sz, hF.n]; omega)
  have df : ((a.put (some (j + 1 + 5)) (.pointer (some ⟨s, f, none⟩))).put (some (j + 1 + 6)) v1).defers = d := hF.df
  generalize (a.put (some (j + 1 + 5)) (.pointer (some ⟨s, f, none⟩))).put (some (j + 1 + 6)) v1 = b at sz q2 q3 qc r1 df ⊢
  have t1 : AtS (b.put (some (j + 9)) (.pointer (some ⟨s + 1, f, none⟩))) (j + 9) (.pointer (some ⟨s + 1, f, none⟩)) := AtS.new (by omega)
  refine st_swap_ (k := j + 3) H h3 h4 h5 hsw (fun o hg => wanted_at hg hdst qc) (v1 := .pointer (some ⟨s + 1, f, none⟩)) (fun o w ho _ => x_field ho q3.ev (hf w (s + 1))) (fun o hg => wanted_at hg hdst (qc.put (by omega))) (v2 := v2) (fun o w ho hs => x_load ho t1.ev (hl w (s + 1) f v2 (hs.2.at_ c2)))
    (fun o hg => wanted_at hg hdst ((qc.put (by omega)).put (by omega))) #[v1] (fun o ho => x_call1 ho ((r1.put (by omega)).put (by omega)).ev (hm v1)) hS hc ?_
  intro u w1 hR hu1 hS1
  have sz2 : (((b.put (some (j + 9)) (.pointer (some ⟨s + 1, f, none⟩))).put (some (j + 10)) v2).put (some (j + 8)) u).tmps.size = 199 := by rw [put_sz, put_sz, put_sz]; exact sz
  have p2 := ((q2.put (d := j + 9) (x := .pointer (some ⟨s + 1, f, none⟩)) (by omega)).put (d := j + 10) (x := v2) (by omega)).put (d := j + 8) (x := u) (by omega)
  have p3 := ((q3.put (d := j + 9) (x := .pointer (some ⟨s + 1, f, none⟩)) (by omega)).put (d := j + 10) (x := v2) (by omega)).put (d := j + 8) (x := u) (by omega)
  have pc := ((qc.put (d := j + 9) (x := .pointer (some ⟨s + 1, f, none⟩)) (by omega)).put (d := j + 10) (x := v2) (by omega)).put (d := j + 8) (x := u) (by omega)
  have r2 : AtS (((b.put (some (j + 9)) (.pointer (some ⟨s + 1, f, none⟩))).put (some (j + 10)) v2).put (some (j + 8)) u) (j + 10) v2 := (AtS.new (by rw [put_sz, sz]; omega)).put (by omega)
  have r3 : AtS (((b.put (some (j + 9)) (.pointer (some ⟨s + 1, f, none⟩))).put (some (j + 10)) v2).put (some (j + 8)) u) (j + 8) u := AtS.new (by rw [put_sz, put_sz, sz]; omega)
  have df2 : (((b.put (some (j + 9)) (.pointer (some ⟨s + 1, f, none⟩))).put (some (j + 10)) v2).put (some (j + 8)) u).defers = d := df
  generalize ((b.put (some (j + 9)) (.pointer (some ⟨s + 1, f, none⟩))).put (some (j + 10)) v2).put (some (j + 8)) u = b2 at sz2 p2 p3 pc r2 r3 df2 ⊢
  refine st_call_ (k := j + 6) H h6 (fun o hg => wanted_at hg hdst pc) hl6 #[v2] (fun o ho => x_call1 ho r2.ev (hm v2)) hS1 (hc2 u w1 hR hu1) ?_
  intro v w2 hR2 hu2 hS2
  have rr : AtS (b2.put (some (j + 11)) v) (j + 11) v := AtS.new (by omega)
  refine st_call_ (k := j + 7) H h7 (fun o hg => wanted_at hg hdst (pc.put (by omega))) hl7 #[u, v] (fun o ho => x_call2 ho (r3.put (by omega)).ev rr.ev (hm2 u v)) hS2 (R := fun v _ => v = .bool true) ((hc3 u v w2 hR2).mono fun e w' he => ⟨_, he.1, rfl, he.2⟩) ?_
  rintro x w3 rfl hu3 hS3
  refine st_end (j := j) (m := j + 8) H h8 h9 (by omega) (by rw [put_sz, put_sz, sz2]) ((p2.put (by omega)).put (by omega)) ((p3.put (by omega)).put (by omega)) ((pc.put (by omega)).put (by omega)) (AtS.new (by rw [put_sz]; omega)) df2 hS3 fun a' hF' => hk a' w3 hF' ((hu1.trans hu2 (by simp)).trans hu3 (by simp)) hS3
end
end Go.Proofs.YtaajmfgplhfncaaGreat

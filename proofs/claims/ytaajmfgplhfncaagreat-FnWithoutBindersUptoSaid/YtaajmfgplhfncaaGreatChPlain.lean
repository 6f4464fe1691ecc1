/- ClientHello, plainly: what each extension makes of a message; what is written is such a run. No function of the program is walked here. -/
import Derived.Test.YtaajmfgplhfncaaGreatShMade
import Derived.Test.YtaajmfgplhfncaaGreatShare
namespace Go.Proofs.YtaajmfgplhfncaaGreat
set_option maxRecDepth 20000

/-- a ClientHello -/
structure Ch where
  vers : UInt16
  random : List UInt8
  sid : List UInt8
  suites : List UInt16
  comps : List UInt8
  host : List UInt8
  ocsp : Bool
  curves : List UInt16
  pts : List UInt8
  ticket : Bool
  tick : List UInt8
  sig : List UInt16
  sigc : List UInt16
  rns : Bool
  rn : List UInt8
  ems : Bool
  alpn : List (List UInt8)
  scts : Bool
  sv : List UInt16
  cookie : List UInt8
  kg : List UInt16
  kd : List (List UInt8)
  early : Bool
  modes : List UInt8
  pl : List (List UInt8)
  pa : List UInt32
  pb : List (List UInt8)
  quic : Bool
  qtp : List UInt8
  ech : List UInt8
  exs : List UInt16
def Ch.zero : Ch := ⟨0, [], [], [], [], [], false, [], [], false, [], [], [], false, [], false, [], false, [], [], [], [], false, [], [], [], [], false, [], [], []⟩
/-- identities, one behind the other -/
def identB (x : List UInt8 × UInt32) : List UInt8 := be 2 x.1.length ++ (x.1 ++ be 4 x.2.toNat)
def identsB (l : List (List UInt8 × UInt32)) : List UInt8 := l.flatMap identB
def identsBad (l : List (List UInt8 × UInt32)) : Bool := l.any fun x => decide (65536 ≤ x.1.length)
def identsW (l : List (List UInt8 × UInt32)) : Wr := ⟨identsB l, identsBad l⟩
/-- an extension of number k with the data d makes M' of M -/
inductive ChStep : Ch → UInt16 → List UInt8 → Ch → Prop
  | host (M : Ch) (d h : List UInt8) : M.host = [] → h ≠ [] → h.getLast? ≠ some 46 → d = be 2 (3 + h.length) ++ (0 :: (be 2 h.length ++ h)) → ChStep M 0 d { M with host := h }
  | ocsp (M : Ch) (d : List UInt8) : d = [1, 0, 0, 0, 0] → ChStep M 5 d { M with ocsp := true }
  | curves (M : Ch) (d : List UInt8) (l : List UInt16) : M.curves = [] → l ≠ [] → d = be 2 (wordsB l).length ++ wordsB l → ChStep M 10 d { M with curves := l }
  | pts (M : Ch) (d x : List UInt8) : x ≠ [] → x.length < 256 → d = be 1 x.length ++ x → ChStep M 11 d { M with pts := x }
  | ticket (M : Ch) (d : List UInt8) : ChStep M 35 d { M with ticket := true, tick := d }
  | sig (M : Ch) (d : List UInt8) (l : List UInt16) : M.sig = [] → l ≠ [] → d = be 2 (wordsB l).length ++ wordsB l → ChStep M 13 d { M with sig := l }
  | sigc (M : Ch) (d : List UInt8) (l : List UInt16) : M.sigc = [] → l ≠ [] → d = be 2 (wordsB l).length ++ wordsB l → ChStep M 50 d { M with sigc := l }
  | rn (M : Ch) (d x : List UInt8) : x.length < 256 → d = be 1 x.length ++ x → ChStep M 65281 d { M with rns := true, rn := x }
  | ems (M : Ch) (d : List UInt8) : d = [] → ChStep M 23 d { M with ems := true }
  | alpn (M : Ch) (d : List UInt8) (l : List (List UInt8)) : M.alpn = [] → l ≠ [] → (∀ x ∈ l, x ≠ [] ∧ x.length < 256) → d = be 2 (vecsB 1 l).length ++ vecsB 1 l → ChStep M 16 d { M with alpn := l }
  | scts (M : Ch) (d : List UInt8) : d = [] → ChStep M 18 d { M with scts := true }
  | sv (M : Ch) (d : List UInt8) (l : List UInt16) : M.sv = [] → l ≠ [] → (wordsB l).length < 256 → d = be 1 (wordsB l).length ++ wordsB l → ChStep M 43 d { M with sv := l }
  | cookie (M : Ch) (d x : List UInt8) : x ≠ [] → d = be 2 x.length ++ x → ChStep M 44 d { M with cookie := x }
  | ks (M : Ch) (d : List UInt8) (l : List (UInt16 × List UInt8)) : M.kg = [] → M.kd = [] → l ≠ [] → (∀ e ∈ l, e.2 ≠ []) → d = be 2 (kshB l).length ++ kshB l → ChStep M 51 d { M with kg := l.map (·.1), kd := l.map (·.2) }
  | early (M : Ch) (d : List UInt8) : d = [] → ChStep M 42 d { M with early := true }
  | modes (M : Ch) (d x : List UInt8) : x ≠ [] → x.length < 256 → d = be 1 x.length ++ x → ChStep M 45 d { M with modes := x }
  | quic (M : Ch) (d : List UInt8) : ChStep M 57 d { M with quic := true, qtp := d }
  | ech (M : Ch) (d : List UInt8) : d ≠ [] → ChStep M 65037 d { M with ech := d }
  | psk (M : Ch) (d : List UInt8) (l : List (List UInt8 × UInt32)) (b : List (List UInt8)) : M.pl = [] → M.pa = [] → M.pb = [] → l ≠ [] → (∀ e ∈ l, e.1 ≠ []) → b.length = l.length → (∀ x ∈ b, 32 ≤ x.length ∧ x.length < 256) →
      d = be 2 (identsB l).length ++ (identsB l ++ (be 2 (vecsB 1 b).length ++ vecsB 1 b)) → ChStep M 41 d { M with pl := l.map (·.1), pa := l.map (·.2), pb := b }
  | other (M : Ch) (k : UInt16) (d : List UInt8) : 43520 ≤ k.toNat → k.toNat < 44520 → ChStep M k d M
/-- a list of extensions makes M' of M -/
inductive ChRun : Ch → List Ex → Ch → Prop
  | nil (M : Ch) : ChRun M [] M
  | cons (M M1 M2 : Ch) (k : UInt16) (d : List UInt8) (L : List Ex) : k ∉ M.exs → ChStep { M with exs := M.exs ++ [k] } k d M1 → (k = 41 → L = []) → ChRun M1 L M2 → ChRun M ((k, d) :: L) M2
theorem ChStep.exs {M M' : Ch} {k : UInt16} {d : List UInt8} (h : ChStep M k d M') : M'.exs = M.exs := by cases h <;> rfl
theorem ChStep.setExs {M M' : Ch} {k : UInt16} {d : List UInt8} (h : ChStep M k d M') (E : List UInt16) : ChStep { M with exs := E } k d { M' with exs := E } := by
  cases h with
  | host d h h1 h2 h3 h4 => exact .host _ d h h1 h2 h3 h4
  | ocsp d h1 => exact .ocsp _ d h1
  | curves d l h1 h2 h3 => exact .curves _ d l h1 h2 h3
  | pts d x h1 h2 h3 => exact .pts _ d x h1 h2 h3
  | ticket d => exact .ticket _ d
  | sig d l h1 h2 h3 => exact .sig _ d l h1 h2 h3
  | sigc d l h1 h2 h3 => exact .sigc _ d l h1 h2 h3
  | rn d x h1 h2 => exact .rn _ d x h1 h2
  | ems d h1 => exact .ems _ d h1
  | alpn d l h1 h2 h3 h4 => exact .alpn _ d l h1 h2 h3 h4
  | scts d h1 => exact .scts _ d h1
  | sv d l h1 h2 h3 h4 => exact .sv _ d l h1 h2 h3 h4
  | cookie d x h1 h2 => exact .cookie _ d x h1 h2
  | ks d l h1 h2 h3 h4 h5 => exact .ks _ d l h1 h2 h3 h4 h5
  | early d h1 => exact .early _ d h1
  | modes d x h1 h2 h3 => exact .modes _ d x h1 h2 h3
  | quic d => exact .quic _ d
  | ech d h1 => exact .ech _ d h1
  | psk d l b h1 h2 h3 h4 h5 h6 h7 h8 => exact .psk _ d l b h1 h2 h3 h4 h5 h6 h7 h8
  | other k d h1 h2 => exact .other _ k d h1 h2
theorem ChRun.keys {M M' : Ch} {L : List Ex} (h : ChRun M L M') : M'.exs = M.exs ++ L.map (·.1) := by
  induction h with
  | nil M => simp
  | cons M M1 M2 k d L h1 h2 h3 h4 ih => rw [ih, h2.exs]; simp
/-- the head -/
def chHd (t : Ch) : Ch := { Ch.zero with vers := t.vers, random := t.random, sid := t.sid, suites := t.suites, comps := t.comps }
def chHeadB (t : Ch) : List UInt8 := be 2 t.vers.toNat ++ (t.random ++ (be 1 t.sid.length ++ (t.sid ++ (be 2 (wordsB t.suites).length ++ (wordsB t.suites ++ (be 1 t.comps.length ++ t.comps))))))
def chBodyB (t : Ch) (L : List Ex) : List UInt8 := chHeadB t ++ (if L = [] then [] else blkB L)
def chMsg (t : Ch) (L : List Ex) : List UInt8 := msgB 1 (chBodyB t L)
structure ChHead (t : Ch) : Prop where
  r : t.random.length = 32
  s : t.sid.length ≤ 32
  u : t.suites ≠ []
  ul : (wordsB t.suites).length < 65536
  c : t.comps ≠ []
  cl : t.comps.length < 256
  sg : (255 : UInt16) ∉ t.suites
/-- the bytes are a message that makes t' -/
structure ChForm (data : List UInt8) (t L : _) (t' : Ch) : Prop where
  eq : data = chMsg t L
  hd : ChHead t
  ln : (exsB L).length < 65536
  run : ChRun (chHd t) L t'
theorem chHeadB_len (t : Ch) : (chHeadB t).length = 6 + t.random.length + t.sid.length + (wordsB t.suites).length + t.comps.length := by simp [chHeadB, be_len]; omega
theorem chBodyB_len (t : Ch) (L : List Ex) : (chBodyB t L).length ≤ 8 + t.random.length + t.sid.length + (wordsB t.suites).length + t.comps.length + (exsB L).length := by
  unfold chBodyB
  rw [List.length_append, chHeadB_len]
  split
  · simp; omega
  · simp [blkB, be_len]; omega
/-- what the laws call right -/
structure ChOk (t : Ch) : Prop where
  r : t.random.length = 32
  s : t.sid.length ≤ 32
  u : t.suites ≠ []
  c : t.comps ≠ []
  host : t.host.getLast? ≠ some 46
  tick : t.ticket = true ∨ t.tick = []
  rn : t.rns = true ∨ t.rn = []
  quic : t.quic = true ∨ t.qtp = []
  ks : t.kg.length = t.kd.length
  pa : t.pl.length = t.pa.length
  pb : t.pl.length = t.pb.length
  ep : t.ech = [] ∨ t.pl = []
  sg : (255 : UInt16) ∉ t.suites
  kd : ∀ x ∈ t.kd, x ≠ []
  pl : ∀ x ∈ t.pl, x ≠ []
  bl : ∀ x ∈ t.pb, 32 ≤ x.length
  al : ∀ x ∈ t.alpn, x ≠ []
/-- the extensions -/
def hostW (h : List UInt8) : Wr := (Wr.nil.num 1 0).vec 2 h
def statusW : Wr := ((Wr.nil.num 1 1).vec 2 []).vec 2 []
def chKs (t : Ch) : List (UInt16 × List UInt8) := t.kg.zip t.kd
def chPs (t : Ch) : List (List UInt8 × UInt32) := t.pl.zip t.pa
def chItem (t : Ch) : Nat → Item
  | 0 => (!t.host.isEmpty, 0, Wr.vector 2 (hostW t.host))
  | 1 => (t.ocsp, 5, statusW)
  | 2 => (decide (0 < t.curves.length), 10, Wr.vector 2 (wordsW t.curves))
  | 3 => (decide (0 < t.pts.length), 11, Wr.vector 1 (Wr.plain t.pts))
  | 4 => (t.ticket, 35, Wr.plain t.tick)
  | 5 => (decide (0 < t.sig.length), 13, Wr.vector 2 (wordsW t.sig))
  | 6 => (decide (0 < t.sigc.length), 50, Wr.vector 2 (wordsW t.sigc))
  | 7 => (t.rns, 65281, Wr.vector 1 (Wr.plain t.rn))
  | 8 => (t.ems, 23, Wr.nil)
  | 9 => (decide (0 < t.alpn.length), 16, Wr.vector 2 (vecsW 1 t.alpn))
  | 10 => (t.scts, 18, Wr.nil)
  | 11 => (decide (0 < t.sv.length), 43, Wr.vector 1 (wordsW t.sv))
  | 12 => (decide (0 < t.cookie.length), 44, Wr.vector 2 (Wr.plain t.cookie))
  | 13 => (decide (0 < t.kg.length), 51, Wr.vector 2 (kshW (chKs t)))
  | 14 => (t.early, 42, Wr.nil)
  | 15 => (decide (0 < t.modes.length), 45, Wr.vector 1 (Wr.plain t.modes))
  | 16 => (t.quic, 57, Wr.plain t.qtp)
  | 17 => (decide (0 < t.ech.length), 65037, Wr.plain t.ech)
  | _ => (decide (0 < t.pl.length), 41, behindW (Wr.vector 2 (identsW (chPs t))) (Wr.vector 2 (vecsW 1 t.pb)))
/-- the reference's order; the package's -/
def chItems (t : Ch) : List Item := [0, 1, 2, 3, 4, 5, 6, 7, 8, 9, 10, 11, 12, 13, 14, 15, 16, 17, 18].map (chItem t)
def chPkg (t : Ch) : List Item := [0, 3, 4, 7, 8, 10, 14, 16, 17, 1, 2, 5, 6, 9, 11, 12, 13, 15, 18].map (chItem t)
theorem chPkg_perm (t : Ch) : (chPkg t).Perm (chItems t) := by
  unfold chPkg chItems
  exact List.Perm.map _ (by decide)
def chExtL (t : Ch) : LW := adds (chItems t) LW.nil
def chE (t : Ch) : List Ex := (chExtL t).l
def chPE (t : Ch) : List Ex := itemsE (chPkg t)
theorem chE_eq (t : Ch) : chE t = itemsE (chItems t) := by unfold chE chExtL; rw [adds_l]; rfl
theorem chBad_eq (t : Ch) : (chExtL t).bad = itemsBad (chItems t) := by unfold chExtL; rw [adds_bad]; rfl
theorem chPE_perm (t : Ch) : (chPE t).Perm (chE t) := by rw [chE_eq]; exact itemsE_perm (chPkg_perm t)
theorem chPE_len (t : Ch) : (exsB (chPE t)).length = (exsB (chE t)).length := exsB_perm (chPE_perm t)
theorem ch_keys (t : Ch) : ((chE t).map (·.1)).Sublist [0, 5, 10, 11, 35, 13, 50, 65281, 23, 16, 18, 43, 44, 51, 42, 45, 57, 65037, 41] := by rw [chE_eq]; exact itemsE_keys (chItems t)
theorem ch_pkeys (t : Ch) : ((chPE t).map (·.1)).Sublist [0, 11, 35, 65281, 23, 18, 42, 57, 65037, 5, 10, 13, 50, 16, 43, 44, 51, 45, 41] := itemsE_keys (chPkg t)
theorem chE_nodup (t : Ch) : ((chE t).map (·.1)).Nodup := (ch_keys t).nodup (by decide)
theorem chE_low (t : Ch) (e : Ex) (he : e ∈ (chExtL t).l) : e.1.toNat < 43520 ∨ 44520 ≤ e.1.toNat := by
  have h := (ch_keys t).subset (List.mem_map_of_mem he)
  simp only [List.mem_cons, List.not_mem_nil, or_false] at h
  rcases h with h | h | h | h | h | h | h | h | h | h | h | h | h | h | h | h | h | h | h <;> rw [h] <;> decide
theorem chE_few (t : Ch) : (chExtL t).l.length ≤ 1000 := by
  have h := (ch_keys t).length_le
  rw [List.length_map] at h
  exact Nat.le_trans h (by decide)
/-- pre_shared_key stands last -/
def PskLast : List Ex → Prop
  | [] => True
  | e :: l => (e.1 = 41 → l = []) ∧ PskLast l
theorem pskLast_app : ∀ {A B : List Ex}, (∀ e ∈ A, e.1 ≠ 41) → B.length ≤ 1 → PskLast (A ++ B)
  | [], [], _, _ => trivial
  | [], [b], _, _ => ⟨fun _ => rfl, trivial⟩
  | [], _ :: _ :: _, _, h => by simp at h
  | e :: A, B, hA, hB => ⟨fun h => absurd h (hA e (by simp)), pskLast_app (fun x hx => hA x (by simp [hx])) hB⟩
theorem chPE_last (t : Ch) : PskLast (chPE t) := by
  have e : chPE t = itemsE ([0, 3, 4, 7, 8, 10, 14, 16, 17, 1, 2, 5, 6, 9, 11, 12, 13, 15].map (chItem t)) ++ itemsE [chItem t 18] := by
    unfold chPE itemsE chPkg
    rw [← List.map_append, ← List.filter_append]
    rfl
  rw [e]
  refine pskLast_app (fun e he => ?_) (by have := itemsE_few [chItem t 18]; simpa using this)
  have h := (itemsE_keys _).subset (List.mem_map_of_mem he)
  intro h41
  rw [h41] at h
  revert h
  show (41 : UInt16) ∈ ([0, 11, 35, 65281, 23, 18, 42, 57, 65037, 5, 10, 13, 50, 16, 43, 44, 51, 45] : List UInt16) → False
  decide
theorem ordGo_41 (l : List Ex) (s : Nat) (o : List Ex) (ho : ∀ e ∈ o, e.1 ≠ 41) (i : Nat) : (∀ e ∈ (ordGo l s o i).1, e.1 ≠ 41) ∧ (∀ e ∈ (ordGo l s o i).2, e.1 = 41) := by
  induction i with
  | zero => exact ⟨by simp [ordGo], by simp [ordGo]⟩
  | succ i ih =>
    have hoi : ∀ e ∈ (o[i]?).toList, e.1 ≠ 41 := fun e he => ho e (List.mem_of_getElem? (Option.mem_toList.1 he))
    unfold ordGo
    by_cases hk : (ordE l s i).1 = 41
    · simp only [if_pos hk]
      exact ⟨fun e he => (List.mem_append.1 he).elim (ih.1 e) (hoi e), fun e he => (List.mem_append.1 he).elim (ih.2 e) (fun h => by rw [List.mem_singleton.1 h]; exact hk)⟩
    · simp only [if_neg hk]
      refine ⟨fun e he => (List.mem_append.1 he).elim (fun h => (List.mem_append.1 h).elim (ih.1 e) (fun h => by rw [List.mem_singleton.1 h]; exact hk)) (hoi e), ih.2⟩
theorem ordered_last (E : List Ex) (f : Nat) (more : List (List UInt8)) (hm : more.length ≤ 1000) (hn : ((ordered E f more).map (·.1)).Nodup) : PskLast (ordered E f more) := by
  have hu : ∀ e ∈ unknown more, e.1 ≠ 41 := fun e he h => by
    have := unknown_ge hm he
    rw [h] at this
    simp at this
  obtain ⟨h1, h2⟩ := ordGo_41 E (f % E.length) (unknown more) hu E.length
  unfold ordered at hn ⊢
  refine pskLast_app h1 ?_
  generalize (ordGo E (f % E.length) (unknown more) E.length).2 = B at hn h2
  match B, h2, hn with
  | [], _, _ => simp
  | [_], _, _ => simp
  | a :: b :: B, h2, hn =>
    rw [List.map_append, List.nodup_append] at hn
    have h3 := hn.2.1
    simp only [List.map_cons, List.nodup_cons, List.mem_cons] at h3
    exact absurd (.inl ((h2 a (by simp)).trans (h2 b (by simp)).symm)) h3.1
/-- the message as far as the extensions of the numbers S tell it -/
def chPart (t : Ch) (S : UInt16 → Bool) (E : List UInt16) : Ch := ⟨t.vers, t.random, t.sid, t.suites, t.comps, if S 0 then t.host else [], S 5 && t.ocsp, if S 10 then t.curves else [], if S 11 then t.pts else [], S 35 && t.ticket, if S 35 then t.tick else [],
  if S 13 then t.sig else [], if S 50 then t.sigc else [], S 65281 && t.rns, if S 65281 then t.rn else [], S 23 && t.ems, if S 16 then t.alpn else [], S 18 && t.scts, if S 43 then t.sv else [], if S 44 then t.cookie else [], if S 51 then t.kg else [], if S 51 then t.kd else [],
  S 42 && t.early, if S 45 then t.modes else [], if S 41 then t.pl else [], if S 41 then t.pa else [], if S 41 then t.pb else [], S 57 && t.quic, if S 57 then t.qtp else [], if S 65037 then t.ech else [], E⟩
theorem ne_pos {α : Type} (l : List α) : decide (0 < l.length) = true ↔ l ≠ [] := by rw [decide_eq_true_iff, List.length_pos_iff]
theorem ne_emp {α : Type} (l : List α) : (!l.isEmpty) = true ↔ l ≠ [] := by cases l <;> simp
theorem hostW_b (h : List UInt8) : (hostW h).b = 0 :: (be 2 h.length ++ h) := by simp [hostW, Wr.num, Wr.vec, Wr.nil, be]
theorem hostW_bad (h : List UInt8) : (hostW h).bad = decide (65536 ≤ h.length) := by simp [hostW, Wr.num, Wr.vec, Wr.nil]
theorem statusW_b : statusW.b = [1, 0, 0, 0, 0] := by simp [statusW, Wr.num, Wr.vec, Wr.nil, be]
theorem chE_mem (t : Ch) (e : Ex) : e ∈ chE t ↔ (t.host ≠ [] ∧ e = (0, (Wr.vector 2 (hostW t.host)).b)) ∨ (t.ocsp = true ∧ e = (5, statusW.b)) ∨ (t.curves ≠ [] ∧ e = (10, (Wr.vector 2 (wordsW t.curves)).b)) ∨ (t.pts ≠ [] ∧ e = (11, (Wr.vector 1 (Wr.plain t.pts)).b)) ∨
    (t.ticket = true ∧ e = (35, t.tick)) ∨ (t.sig ≠ [] ∧ e = (13, (Wr.vector 2 (wordsW t.sig)).b)) ∨ (t.sigc ≠ [] ∧ e = (50, (Wr.vector 2 (wordsW t.sigc)).b)) ∨ (t.rns = true ∧ e = (65281, (Wr.vector 1 (Wr.plain t.rn)).b)) ∨ (t.ems = true ∧ e = (23, [])) ∨
    (t.alpn ≠ [] ∧ e = (16, (Wr.vector 2 (vecsW 1 t.alpn)).b)) ∨ (t.scts = true ∧ e = (18, [])) ∨ (t.sv ≠ [] ∧ e = (43, (Wr.vector 1 (wordsW t.sv)).b)) ∨ (t.cookie ≠ [] ∧ e = (44, (Wr.vector 2 (Wr.plain t.cookie)).b)) ∨ (t.kg ≠ [] ∧ e = (51, (Wr.vector 2 (kshW (chKs t))).b)) ∨
    (t.early = true ∧ e = (42, [])) ∨ (t.modes ≠ [] ∧ e = (45, (Wr.vector 1 (Wr.plain t.modes)).b)) ∨ (t.quic = true ∧ e = (57, t.qtp)) ∨ (t.ech ≠ [] ∧ e = (65037, t.ech)) ∨
    (t.pl ≠ [] ∧ e = (41, (behindW (Wr.vector 2 (identsW (chPs t))) (Wr.vector 2 (vecsW 1 t.pb))).b)) := by
  rw [chE_eq, itemsE_mem]
  simp only [chItems, List.map_cons, List.map_nil, chItem, List.mem_cons, List.not_mem_nil, or_false, exists_eq_or_imp, exists_eq_left, ne_pos, ne_emp]
  rfl
/-- the sizes of what fits -/
structure ChSm (t : Ch) : Prop where
  pts : t.pts ≠ [] → t.pts.length < 256
  rn : t.rns = true → t.rn.length < 256
  alpn : t.alpn ≠ [] → ∀ x ∈ t.alpn, x.length < 256
  sv : t.sv ≠ [] → (wordsB t.sv).length < 256
  modes : t.modes ≠ [] → t.modes.length < 256
  pb : t.pl ≠ [] → ∀ x ∈ t.pb, x.length < 256
theorem vecsBad_of {n : Nat} {l : List (List UInt8)} (h : vecsBad n l = false) : ∀ x ∈ l, x.length < 256 ^ n := by
  unfold vecsBad at h
  rw [List.any_eq_false] at h
  intro x hx
  have := h x hx
  simpa using this
theorem ch_small {t : Ch} (hb : (chExtL t).bad = false) : ChSm t := by
  rw [chBad_eq] at hb
  unfold itemsBad at hb
  rw [List.any_eq_false] at hb
  have hg : ∀ i : Nat, i < 19 → (chItem t i).1 = true → (chItem t i).2.2.bad = false := by
    intro i hi ht
    have hm : chItem t i ∈ chItems t := by
      unfold chItems
      refine List.mem_map_of_mem ?_
      have : i = 0 ∨ i = 1 ∨ i = 2 ∨ i = 3 ∨ i = 4 ∨ i = 5 ∨ i = 6 ∨ i = 7 ∨ i = 8 ∨ i = 9 ∨ i = 10 ∨ i = 11 ∨ i = 12 ∨ i = 13 ∨ i = 14 ∨ i = 15 ∨ i = 16 ∨ i = 17 ∨ i = 18 := by omega
      simpa using this
    have := hb _ hm
    rw [ht, Bool.true_and] at this
    simpa using this
  refine ⟨fun h => ?_, fun h => ?_, fun h => ?_, fun h => ?_, fun h => ?_, fun h => ?_⟩
  · have := hg 3 (by omega) ((ne_pos _).2 h)
    have this : (Wr.vector 1 (Wr.plain t.pts)).bad = false := this
    rw [vector_bad] at this
    simpa [Wr.plain] using this
  · have := hg 7 (by omega) h
    have this : (Wr.vector 1 (Wr.plain t.rn)).bad = false := this
    rw [vector_bad] at this
    simpa [Wr.plain] using this
  · have := hg 9 (by omega) ((ne_pos _).2 h)
    have this : (Wr.vector 2 (vecsW 1 t.alpn)).bad = false := this
    rw [vector_bad] at this
    exact vecsBad_of (Bool.or_eq_false_iff.1 this).1
  · have := hg 11 (by omega) ((ne_pos _).2 h)
    have this : (Wr.vector 1 (wordsW t.sv)).bad = false := this
    rw [vector_bad] at this
    simpa [wordsW] using this
  · have := hg 15 (by omega) ((ne_pos _).2 h)
    have this : (Wr.vector 1 (Wr.plain t.modes)).bad = false := this
    rw [vector_bad] at this
    simpa [Wr.plain] using this
  · have := hg 18 (by omega) ((ne_pos _).2 h)
    have this : (behindW (Wr.vector 2 (identsW (chPs t))) (Wr.vector 2 (vecsW 1 t.pb))).bad = false := this
    unfold behindW at this
    have this := (Bool.or_eq_false_iff.1 this).2
    rw [vector_bad] at this
    exact vecsBad_of (Bool.or_eq_false_iff.1 this).1
theorem zip_fst {α β : Type} : ∀ {l : List α} {m : List β}, l.length = m.length → (l.zip m).map (·.1) = l
  | [], [], _ => rfl
  | a :: l, b :: m, h => by simp [zip_fst (l := l) (m := m) (by simpa using h)]
  | [], _ :: _, h => by simp at h
  | _ :: _, [], h => by simp at h
theorem zip_snd {α β : Type} : ∀ {l : List α} {m : List β}, l.length = m.length → (l.zip m).map (·.2) = m
  | [], [], _ => rfl
  | a :: l, b :: m, h => by simp [zip_snd (l := l) (m := m) (by simpa using h)]
  | [], _ :: _, h => by simp at h
  | _ :: _, [], h => by simp at h
theorem zip_ne {α β : Type} {l : List α} {m : List β} (h : l.length = m.length) (h0 : l ≠ []) : l.zip m ≠ [] := by
  cases l with
  | nil => exact absurd rfl h0
  | cons a l => cases m with
    | nil => simp at h
    | cons b m => simp
/-- a right extension's step -/
theorem ch_step {t : Ch} (h : ChOk t) (hs : ChSm t) (S : UInt16 → Bool) (E : List UInt16) (e : Ex) (he : e ∈ chE t) (hS : S e.1 = false) : ChStep (chPart t S E) e.1 e.2 (chPart t (fun k => S k || k == e.1) E) := by
  rcases (chE_mem t e).1 he with ⟨hc, rfl⟩ | ⟨hc, rfl⟩ | ⟨hc, rfl⟩ | ⟨hc, rfl⟩ | ⟨hc, rfl⟩ | ⟨hc, rfl⟩ | ⟨hc, rfl⟩ | ⟨hc, rfl⟩ | ⟨hc, rfl⟩ | ⟨hc, rfl⟩ | ⟨hc, rfl⟩ | ⟨hc, rfl⟩ | ⟨hc, rfl⟩ | ⟨hc, rfl⟩ | ⟨hc, rfl⟩ | ⟨hc, rfl⟩ | ⟨hc, rfl⟩ | ⟨hc, rfl⟩ | ⟨hc, rfl⟩
  · have hS : S 0 = false := hS
    have := ChStep.host (chPart t S E) (Wr.vector 2 (hostW t.host)).b t.host (by simp [chPart, hS]) hc h.host (by rw [vector_b, hostW_b]; simp [be_len]; congr 1; omega)
    simpa [chPart] using this
  · have := ChStep.ocsp (chPart t S E) statusW.b statusW_b
    simpa [chPart, hc] using this
  · have hS : S 10 = false := hS
    have := ChStep.curves (chPart t S E) (Wr.vector 2 (wordsW t.curves)).b t.curves (by simp [chPart, hS]) hc (by rw [vector_b]; rfl)
    simpa [chPart] using this
  · have := ChStep.pts (chPart t S E) (Wr.vector 1 (Wr.plain t.pts)).b t.pts hc (hs.pts hc) (by rw [vector_b]; rfl)
    simpa [chPart] using this
  · have := ChStep.ticket (chPart t S E) t.tick
    simpa [chPart, hc] using this
  · have hS : S 13 = false := hS
    have := ChStep.sig (chPart t S E) (Wr.vector 2 (wordsW t.sig)).b t.sig (by simp [chPart, hS]) hc (by rw [vector_b]; rfl)
    simpa [chPart] using this
  · have hS : S 50 = false := hS
    have := ChStep.sigc (chPart t S E) (Wr.vector 2 (wordsW t.sigc)).b t.sigc (by simp [chPart, hS]) hc (by rw [vector_b]; rfl)
    simpa [chPart] using this
  · have := ChStep.rn (chPart t S E) (Wr.vector 1 (Wr.plain t.rn)).b t.rn (hs.rn hc) (by rw [vector_b]; rfl)
    simpa [chPart, hc] using this
  · have := ChStep.ems (chPart t S E) [] rfl
    simpa [chPart, hc] using this
  · have hS : S 16 = false := hS
    have := ChStep.alpn (chPart t S E) (Wr.vector 2 (vecsW 1 t.alpn)).b t.alpn (by simp [chPart, hS]) hc (fun x hx => ⟨h.al x hx, hs.alpn hc x hx⟩) (by rw [vector_b]; rfl)
    simpa [chPart] using this
  · have := ChStep.scts (chPart t S E) [] rfl
    simpa [chPart, hc] using this
  · have hS : S 43 = false := hS
    have := ChStep.sv (chPart t S E) (Wr.vector 1 (wordsW t.sv)).b t.sv (by simp [chPart, hS]) hc (hs.sv hc) (by rw [vector_b]; rfl)
    simpa [chPart] using this
  · have := ChStep.cookie (chPart t S E) (Wr.vector 2 (Wr.plain t.cookie)).b t.cookie hc (by rw [vector_b]; rfl)
    simpa [chPart] using this
  · have hS : S 51 = false := hS
    have := ChStep.ks (chPart t S E) (Wr.vector 2 (kshW (chKs t))).b (chKs t) (by simp [chPart, hS]) (by simp [chPart, hS]) (zip_ne h.ks hc) (fun e he => h.kd _ (List.of_mem_zip he).2) (by rw [vector_b]; rfl)
    rw [show (chKs t).map (·.1) = t.kg from zip_fst h.ks, show (chKs t).map (·.2) = t.kd from zip_snd h.ks] at this
    simpa [chPart] using this
  · have := ChStep.early (chPart t S E) [] rfl
    simpa [chPart, hc] using this
  · have := ChStep.modes (chPart t S E) (Wr.vector 1 (Wr.plain t.modes)).b t.modes hc (hs.modes hc) (by rw [vector_b]; rfl)
    simpa [chPart] using this
  · have := ChStep.quic (chPart t S E) t.qtp
    simpa [chPart, hc] using this
  · have := ChStep.ech (chPart t S E) t.ech hc
    simpa [chPart] using this
  · have hS : S 41 = false := hS
    have := ChStep.psk (chPart t S E) (behindW (Wr.vector 2 (identsW (chPs t))) (Wr.vector 2 (vecsW 1 t.pb))).b (chPs t) t.pb (by simp [chPart, hS]) (by simp [chPart, hS]) (by simp [chPart, hS]) (zip_ne h.pa hc) (fun e he => h.pl _ (List.of_mem_zip he).1)
      (by unfold chPs; rw [List.length_zip]; have := h.pa; have := h.pb; omega) (fun x hx => ⟨h.bl x hx, hs.pb hc x hx⟩) (by show (Wr.vector 2 _).b ++ (Wr.vector 2 _).b = _; rw [vector_b, vector_b]; simp [identsW, vecsW])
    rw [show (chPs t).map (·.1) = t.pl from zip_fst h.pa, show (chPs t).map (·.2) = t.pa from zip_snd h.pa] at this
    simpa [chPart] using this
theorem chPart_low (t : Ch) (S : UInt16 → Bool) (E : List UInt16) (k : UInt16) (h1 : 43520 ≤ k.toNat) (h2 : k.toNat < 44520) : chPart t (fun j => S j || j == k) E = chPart t S E := by
  have hne : ∀ j : UInt16, j.toNat < 43520 ∨ 44520 ≤ j.toNat → (j == k) = false := by
    intro j hj
    rw [beq_eq_false_iff_ne]
    intro e
    rw [e] at hj; omega
  unfold chPart
  simp only [hne 0 (by decide), hne 5 (by decide), hne 10 (by decide), hne 11 (by decide), hne 35 (by decide), hne 13 (by decide), hne 50 (by decide), hne 65281 (by decide), hne 23 (by decide), hne 16 (by decide), hne 18 (by decide), hne 43 (by decide), hne 44 (by decide), hne 51 (by decide),
    hne 42 (by decide), hne 45 (by decide), hne 41 (by decide), hne 57 (by decide), hne 65037 (by decide), Bool.or_false]
theorem ch_lists {t : Ch} (h : ChOk t) (hs : ChSm t) : ∀ (L : List Ex), (L.map (·.1)).Nodup → (∀ e ∈ L, e ∈ chE t ∨ 43520 ≤ e.1.toNat ∧ e.1.toNat < 44520) → PskLast L → ∀ (S : UInt16 → Bool) (E : List UInt16), (∀ e ∈ L, S e.1 = false) → (∀ e ∈ L, e.1 ∉ E) →
    ∃ S', ChRun (chPart t S E) L (chPart t S' (E ++ L.map (·.1))) ∧ (∀ k, S k = true → S' k = true) ∧ ∀ e ∈ L, S' e.1 = true
  | [], _, _, _, S, E, _, _ => ⟨S, by simpa using ChRun.nil _, fun _ h => h, by simp⟩
  | (k, d) :: L, hn, hl, hp, S, E, hS, hE => by
    rw [List.map_cons, List.nodup_cons] at hn
    have hne : ∀ x ∈ L, x.1 ≠ k := fun x hx hx2 => hn.1 (List.mem_map.2 ⟨x, hx, hx2⟩)
    obtain ⟨S', h1, h2, h3⟩ := ch_lists h hs L hn.2 (fun x hx => hl x (List.mem_cons_of_mem _ hx)) hp.2 (fun j => S j || j == k) (E ++ [k]) (fun x hx => by
        simp only [Bool.or_eq_false_iff, beq_eq_false_iff_ne]
        exact ⟨hS x (List.mem_cons_of_mem _ hx), hne x hx⟩) (fun x hx hm => by
        rcases List.mem_append.1 hm with hm | hm
        · exact hE x (List.mem_cons_of_mem _ hx) hm
        · exact hne x hx (List.mem_singleton.1 hm))
    have hst : ChStep (chPart t S (E ++ [k])) k d (chPart t (fun j => S j || j == k) (E ++ [k])) := by
      rcases hl (k, d) (by simp) with he | ⟨u1, u2⟩
      · exact ch_step h hs S (E ++ [k]) (k, d) he (hS (k, d) (by simp))
      · rw [chPart_low t S (E ++ [k]) k u1 u2]
        exact .other _ k d u1 u2
    refine ⟨S', ?_, fun j hj => h2 j (by simp [hj]), fun e he => ?_⟩
    · rw [List.append_assoc] at h1
      exact .cons _ _ _ k d L (hE (k, d) (by simp)) hst hp.1 h1
    · rcases List.mem_cons.1 he with rfl | he
      · exact h2 k (by simp)
      · exact h3 e he
/-- right extensions give the message -/
theorem ch_run {t : Ch} (h : ChOk t) (hs : ChSm t) {L : List Ex} (hL : ListsE (chE t) L) (hp : PskLast L) : ChRun (chHd t) L { t with exs := L.map (·.1) } := by
  obtain ⟨S, h1, -, h3⟩ := ch_lists h hs L hL.1 hL.2.1 hp (fun _ => false) [] (fun _ _ => rfl) (fun _ _ hm => by cases hm)
  have e0 : chPart t (fun _ => false) [] = chHd t := by simp [chPart, chHd, Ch.zero]
  have e1 : chPart t S ([] ++ L.map (·.1)) = { t with exs := L.map (·.1) } := by
    have mem : ∀ e, e ∈ chE t → S e.1 = true := fun e he => h3 e (hL.2.2 e he)
    have m0 : t.host ≠ [] → S 0 = true := fun hh => mem (0, _) ((chE_mem t _).2 (.inl ⟨hh, rfl⟩))
    have m5 : t.ocsp = true → S 5 = true := fun hh => mem (5, _) ((chE_mem t _).2 (.inr (.inl ⟨hh, rfl⟩)))
    have m10 : t.curves ≠ [] → S 10 = true := fun hh => mem (10, _) ((chE_mem t _).2 (.inr (.inr (.inl ⟨hh, rfl⟩))))
    have m11 : t.pts ≠ [] → S 11 = true := fun hh => mem (11, _) ((chE_mem t _).2 (.inr (.inr (.inr (.inl ⟨hh, rfl⟩)))))
    have m35 : t.ticket = true → S 35 = true := fun hh => mem (35, _) ((chE_mem t _).2 (.inr (.inr (.inr (.inr (.inl ⟨hh, rfl⟩))))))
    have m13 : t.sig ≠ [] → S 13 = true := fun hh => mem (13, _) ((chE_mem t _).2 (.inr (.inr (.inr (.inr (.inr (.inl ⟨hh, rfl⟩)))))))
    have m50 : t.sigc ≠ [] → S 50 = true := fun hh => mem (50, _) ((chE_mem t _).2 (.inr (.inr (.inr (.inr (.inr (.inr (.inl ⟨hh, rfl⟩))))))))
    have mrn : t.rns = true → S 65281 = true := fun hh => mem (65281, _) ((chE_mem t _).2 (.inr (.inr (.inr (.inr (.inr (.inr (.inr (.inl ⟨hh, rfl⟩)))))))))
    have m23 : t.ems = true → S 23 = true := fun hh => mem (23, _) ((chE_mem t _).2 (.inr (.inr (.inr (.inr (.inr (.inr (.inr (.inr (.inl ⟨hh, rfl⟩))))))))))
    have m16 : t.alpn ≠ [] → S 16 = true := fun hh => mem (16, _) ((chE_mem t _).2 (.inr (.inr (.inr (.inr (.inr (.inr (.inr (.inr (.inr (.inl ⟨hh, rfl⟩)))))))))))
    have m18 : t.scts = true → S 18 = true := fun hh => mem (18, _) ((chE_mem t _).2 (.inr (.inr (.inr (.inr (.inr (.inr (.inr (.inr (.inr (.inr (.inl ⟨hh, rfl⟩))))))))))))
    have m43 : t.sv ≠ [] → S 43 = true := fun hh => mem (43, _) ((chE_mem t _).2 (.inr (.inr (.inr (.inr (.inr (.inr (.inr (.inr (.inr (.inr (.inr (.inl ⟨hh, rfl⟩)))))))))))))
    have m44 : t.cookie ≠ [] → S 44 = true := fun hh => mem (44, _) ((chE_mem t _).2 (.inr (.inr (.inr (.inr (.inr (.inr (.inr (.inr (.inr (.inr (.inr (.inr (.inl ⟨hh, rfl⟩))))))))))))))
    have m51 : t.kg ≠ [] → S 51 = true := fun hh => mem (51, _) ((chE_mem t _).2 (.inr (.inr (.inr (.inr (.inr (.inr (.inr (.inr (.inr (.inr (.inr (.inr (.inr (.inl ⟨hh, rfl⟩)))))))))))))))
    have m42 : t.early = true → S 42 = true := fun hh => mem (42, _) ((chE_mem t _).2 (.inr (.inr (.inr (.inr (.inr (.inr (.inr (.inr (.inr (.inr (.inr (.inr (.inr (.inr (.inl ⟨hh, rfl⟩))))))))))))))))
    have m45 : t.modes ≠ [] → S 45 = true := fun hh => mem (45, _) ((chE_mem t _).2 (.inr (.inr (.inr (.inr (.inr (.inr (.inr (.inr (.inr (.inr (.inr (.inr (.inr (.inr (.inr (.inl ⟨hh, rfl⟩)))))))))))))))))
    have m57 : t.quic = true → S 57 = true := fun hh => mem (57, _) ((chE_mem t _).2 (.inr (.inr (.inr (.inr (.inr (.inr (.inr (.inr (.inr (.inr (.inr (.inr (.inr (.inr (.inr (.inr (.inl ⟨hh, rfl⟩))))))))))))))))))
    have mech : t.ech ≠ [] → S 65037 = true := fun hh => mem (65037, _) ((chE_mem t _).2 (.inr (.inr (.inr (.inr (.inr (.inr (.inr (.inr (.inr (.inr (.inr (.inr (.inr (.inr (.inr (.inr (.inr (.inl ⟨hh, rfl⟩)))))))))))))))))))
    have m41 : t.pl ≠ [] → S 41 = true := fun hh => mem (41, _) ((chE_mem t _).2 (.inr (.inr (.inr (.inr (.inr (.inr (.inr (.inr (.inr (.inr (.inr (.inr (.inr (.inr (.inr (.inr (.inr (.inr ⟨hh, rfl⟩)))))))))))))))))))
    have m35' : t.tick ≠ [] → S 35 = true := fun hh => m35 (h.tick.resolve_right hh)
    have mrn' : t.rn ≠ [] → S 65281 = true := fun hh => mrn (h.rn.resolve_right hh)
    have m57' : t.qtp ≠ [] → S 57 = true := fun hh => m57 (h.quic.resolve_right hh)
    have len0 : ∀ {α β : Type} {a : List α} {b : List β}, a.length = b.length → b ≠ [] → a ≠ [] := by
      intro α β a b he hb ha
      rw [ha] at he
      exact hb (List.eq_nil_of_length_eq_zero (by simpa using he.symm))
    have m51' : t.kd ≠ [] → S 51 = true := fun hh => m51 (len0 h.ks hh)
    have m41a : t.pa ≠ [] → S 41 = true := fun hh => m41 (len0 h.pa hh)
    have m41b : t.pb ≠ [] → S 41 = true := fun hh => m41 (len0 h.pb hh)
    have bb : ∀ (s b : Bool), (b = true → s = true) → (s && b) = b := by intro s b h; cases b <;> simp_all
    have ll : ∀ {α : Type} (s : Bool) (l : List α), (l ≠ [] → s = true) → (if s = true then l else []) = l := by
      intro α s l h
      by_cases h0 : l = []
      · subst h0; simp
      · rw [if_pos (h h0)]
    unfold chPart
    rw [ll _ _ m0, bb _ _ m5, ll _ _ m10, ll _ _ m11, bb _ _ m35, ll _ _ m35', ll _ _ m13, ll _ _ m50, bb _ _ mrn, ll _ _ mrn', bb _ _ m23, ll _ _ m16, bb _ _ m18, ll _ _ m43, ll _ _ m44, ll _ _ m51, ll _ _ m51', bb _ _ m42, ll _ _ m45, ll _ _ m41, ll _ _ m41a, ll _ _ m41b, bb _ _ m57, ll _ _ m57', ll _ _ mech]
    simp
  rw [e0, e1] at h1
  exact h1
end Go.Proofs.YtaajmfgplhfncaaGreat

/- Texts joined: ChPlain, EmL, AddVal, ChMade, Lift, U32, LiftS, Bulk, Gen, GV, Loops, Prs, GP, EmV. -/
import Derived.Test.YtaajmfgplhfncaaGreatRows
import Derived.ProofKit
import Derived.OpenShut
import Derived.JoinedCond
import Derived.Below
import Derived.ChangeSame
import Derived.StillTailTactics
import Derived.Lib.SmallJoins
import Derived.Laws.Rows
import Derived.Deep.MidRow
import Derived.Deep.RegionLaw
import Derived.Test.YtaajmfgplhfncaaGreatB06
import Derived.Test.YtaajmfgplhfncaaGreatB05
import Derived.Test.YtaajmfgplhfncaaGreatB01
import Derived.Test.YtaajmfgplhfncaaGreatB03
import Derived.Test.YtaajmfgplhfncaaGreatB02
namespace Go.Proofs.YtaajmfgplhfncaaGreat
set_option maxRecDepth 20000
structure Ch where
  vers : UInt16
  random : List UInt8
  sid : List UInt8
  suites : List UInt16
  comps : List UInt8
  host : List UInt8
  ocsp : Bool
  curves : List UInt16
  pts : List UInt8
  ticket : Bool
  tick : List UInt8
  sig : List UInt16
  sigc : List UInt16
  rns : Bool
  rn : List UInt8
  ems : Bool
  alpn : List (List UInt8)
  scts : Bool
  sv : List UInt16
  cookie : List UInt8
  kg : List UInt16
  kd : List (List UInt8)
  early : Bool
  modes : List UInt8
  pl : List (List UInt8)
  pa : List UInt32
  pb : List (List UInt8)
  quic : Bool
  qtp : List UInt8
  ech : List UInt8
  exs : List UInt16
def Ch.zero : Ch := ⟨0, [], [], [], [], [], false, [], [], false, [], [], [], false, [], false, [], false, [], [], [], [], false, [], [], [], [], false, [], [], []⟩
def identB (x : List UInt8 × UInt32) : List UInt8 := be 2 x.1.length ++ (x.1 ++ be 4 x.2.toNat)
def identsB (l : List (List UInt8 × UInt32)) : List UInt8 := l.flatMap identB
def identsBad (l : List (List UInt8 × UInt32)) : Bool := l.any fun x => decide (65536 ≤ x.1.length)
def identsW (l : List (List UInt8 × UInt32)) : Wr := ⟨identsB l, identsBad l⟩
inductive ChStep : Ch → UInt16 → List UInt8 → Ch → Prop
  | host (M : Ch) (d h : List UInt8) : M.host = [] → h ≠ [] → h.getLast? ≠ some 46 → d = be 2 (3 + h.length) ++ (0 :: (be 2 h.length ++ h)) → ChStep M 0 d { M with host := h }
  | ocsp (M : Ch) (d : List UInt8) : d = [1, 0, 0, 0, 0] → ChStep M 5 d { M with ocsp := true }
  | curves (M : Ch) (d : List UInt8) (l : List UInt16) : M.curves = [] → l ≠ [] → d = be 2 (wordsB l).length ++ wordsB l → ChStep M 10 d { M with curves := l }
  | pts (M : Ch) (d x : List UInt8) : x ≠ [] → x.length < 256 → d = be 1 x.length ++ x → ChStep M 11 d { M with pts := x }
  | ticket (M : Ch) (d : List UInt8) : ChStep M 35 d { M with ticket := true, tick := d }
  | sig (M : Ch) (d : List UInt8) (l : List UInt16) : M.sig = [] → l ≠ [] → d = be 2 (wordsB l).length ++ wordsB l → ChStep M 13 d { M with sig := l }
  | sigc (M : Ch) (d : List UInt8) (l : List UInt16) : M.sigc = [] → l ≠ [] → d = be 2 (wordsB l).length ++ wordsB l → ChStep M 50 d { M with sigc := l }
  | rn (M : Ch) (d x : List UInt8) : x.length < 256 → d = be 1 x.length ++ x → ChStep M 65281 d { M with rns := true, rn := x }
  | ems (M : Ch) (d : List UInt8) : d = [] → ChStep M 23 d { M with ems := true }
  | alpn (M : Ch) (d : List UInt8) (l : List (List UInt8)) : M.alpn = [] → l ≠ [] → (∀ x ∈ l, x ≠ [] ∧ x.length < 256) → d = be 2 (vecsB 1 l).length ++ vecsB 1 l → ChStep M 16 d { M with alpn := l }
  | scts (M : Ch) (d : List UInt8) : d = [] → ChStep M 18 d { M with scts := true }
  | sv (M : Ch) (d : List UInt8) (l : List UInt16) : M.sv = [] → l ≠ [] → (wordsB l).length < 256 → d = be 1 (wordsB l).length ++ wordsB l → ChStep M 43 d { M with sv := l }
  | cookie (M : Ch) (d x : List UInt8) : x ≠ [] → d = be 2 x.length ++ x → ChStep M 44 d { M with cookie := x }
  | ks (M : Ch) (d : List UInt8) (l : List (UInt16 × List UInt8)) : M.kg = [] → M.kd = [] → l ≠ [] → (∀ e ∈ l, e.2 ≠ []) → d = be 2 (kshB l).length ++ kshB l → ChStep M 51 d { M with kg := l.map (·.1), kd := l.map (·.2) }
  | early (M : Ch) (d : List UInt8) : d = [] → ChStep M 42 d { M with early := true }
  | modes (M : Ch) (d x : List UInt8) : x ≠ [] → x.length < 256 → d = be 1 x.length ++ x → ChStep M 45 d { M with modes := x }
  | quic (M : Ch) (d : List UInt8) : ChStep M 57 d { M with quic := true, qtp := d }
  | ech (M : Ch) (d : List UInt8) : d ≠ [] → ChStep M 65037 d { M with ech := d }
  | psk (M : Ch) (d : List UInt8) (l : List (List UInt8 × UInt32)) (b : List (List UInt8)) : M.pl = [] → M.pa = [] → M.pb = [] → l ≠ [] → (∀ e ∈ l, e.1 ≠ []) → b.length = l.length → (∀ x ∈ b, 32 ≤ x.length ∧ x.length < 256) →
      d = be 2 (identsB l).length ++ (identsB l ++ (be 2 (vecsB 1 b).length ++ vecsB 1 b)) → ChStep M 41 d { M with pl := l.map (·.1), pa := l.map (·.2), pb := b }
  | other (M : Ch) (k : UInt16) (d : List UInt8) : 43520 ≤ k.toNat → k.toNat < 44520 → ChStep M k d M
inductive ChRun : Ch → List Ex → Ch → Prop
  | nil (M : Ch) : ChRun M [] M
  | cons (M M1 M2 : Ch) (k : UInt16) (d : List UInt8) (L : List Ex) : k ∉ M.exs → ChStep { M with exs := M.exs ++ [k] } k d M1 → (k = 41 → L = []) → ChRun M1 L M2 → ChRun M ((k, d) :: L) M2
theorem ChStep.exs {M M' : Ch} {k : UInt16} {d : List UInt8} (h : ChStep M k d M') : M'.exs = M.exs := by cases h <;> rfl
theorem ChStep.setExs {M M' : Ch} {k : UInt16} {d : List UInt8} (h : ChStep M k d M') (E : List UInt16) : ChStep { M with exs := E } k d { M' with exs := E } := by
  cases h with
  | host d h h1 h2 h3 h4 => exact .host _ d h h1 h2 h3 h4
  | ocsp d h1 => exact .ocsp _ d h1
  | curves d l h1 h2 h3 => exact .curves _ d l h1 h2 h3
  | pts d x h1 h2 h3 => exact .pts _ d x h1 h2 h3
  | ticket d => exact .ticket _ d
  | sig d l h1 h2 h3 => exact .sig _ d l h1 h2 h3
  | sigc d l h1 h2 h3 => exact .sigc _ d l h1 h2 h3
  | rn d x h1 h2 => exact .rn _ d x h1 h2
  | ems d h1 => exact .ems _ d h1
  | alpn d l h1 h2 h3 h4 => exact .alpn _ d l h1 h2 h3 h4
  | scts d h1 => exact .scts _ d h1
  | sv d l h1 h2 h3 h4 => exact .sv _ d l h1 h2 h3 h4
  | cookie d x h1 h2 => exact .cookie _ d x h1 h2
  | ks d l h1 h2 h3 h4 h5 => exact .ks _ d l h1 h2 h3 h4 h5
  | early d h1 => exact .early _ d h1
  | modes d x h1 h2 h3 => exact .modes _ d x h1 h2 h3
  | quic d => exact .quic _ d
  | ech d h1 => exact .ech _ d h1
  | psk d l b h1 h2 h3 h4 h5 h6 h7 h8 => exact .psk _ d l b h1 h2 h3 h4 h5 h6 h7 h8
  | other k d h1 h2 => exact .other _ k d h1 h2
theorem ChRun.keys {M M' : Ch} {L : List Ex} (h : ChRun M L M') : M'.exs = M.exs ++ L.map (·.1) := by
  induction h with
  | nil M => simp
  | cons M M1 M2 k d L h1 h2 h3 h4 ih => rw [ih, h2.exs]; simp
def chHd (t : Ch) : Ch := { Ch.zero with vers := t.vers, random := t.random, sid := t.sid, suites := t.suites, comps := t.comps }
def chHeadB (t : Ch) : List UInt8 := be 2 t.vers.toNat ++ (t.random ++ (be 1 t.sid.length ++ (t.sid ++ (be 2 (wordsB t.suites).length ++ (wordsB t.suites ++ (be 1 t.comps.length ++ t.comps))))))
def chBodyB (t : Ch) (L : List Ex) : List UInt8 := chHeadB t ++ (if L = [] then [] else blkB L)
def chMsg (t : Ch) (L : List Ex) : List UInt8 := msgB 1 (chBodyB t L)
structure ChHead (t : Ch) : Prop where
  r : t.random.length = 32
  s : t.sid.length ≤ 32
  u : t.suites ≠ []
  ul : (wordsB t.suites).length < 65536
  c : t.comps ≠ []
  cl : t.comps.length < 256
  sg : (255 : UInt16) ∉ t.suites
structure ChForm (data : List UInt8) (t L : _) (t' : Ch) : Prop where
  eq : data = chMsg t L
  hd : ChHead t
  ln : (exsB L).length < 65536
  run : ChRun (chHd t) L t'
theorem chHeadB_len (t : Ch) : (chHeadB t).length = 6 + t.random.length + t.sid.length + (wordsB t.suites).length + t.comps.length := by simp [chHeadB, be_len]; omega
theorem chBodyB_len (t : Ch) (L : List Ex) : (chBodyB t L).length ≤ 8 + t.random.length + t.sid.length + (wordsB t.suites).length + t.comps.length + (exsB L).length := by
  unfold chBodyB
  rw [List.length_append, chHeadB_len]
  split
  · simp; omega
  · simp [blkB, be_len]; omega
structure ChOk (t : Ch) : Prop where
  r : t.random.length = 32
  s : t.sid.length ≤ 32
  u : t.suites ≠ []
  c : t.comps ≠ []
  host : t.host.getLast? ≠ some 46
  tick : t.ticket = true ∨ t.tick = []
  rn : t.rns = true ∨ t.rn = []
  quic : t.quic = true ∨ t.qtp = []
  ks : t.kg.length = t.kd.length
  pa : t.pl.length = t.pa.length
  pb : t.pl.length = t.pb.length
  ep : t.ech = [] ∨ t.pl = []
  sg : (255 : UInt16) ∉ t.suites
  kd : ∀ x ∈ t.kd, x ≠ []
  pl : ∀ x ∈ t.pl, x ≠ []
  bl : ∀ x ∈ t.pb, 32 ≤ x.length
  al : ∀ x ∈ t.alpn, x ≠ []
def hostW (h : List UInt8) : Wr := (Wr.nil.num 1 0).vec 2 h
def statusW : Wr := ((Wr.nil.num 1 1).vec 2 []).vec 2 []
def chKs (t : Ch) : List (UInt16 × List UInt8) := t.kg.zip t.kd
def chPs (t : Ch) : List (List UInt8 × UInt32) := t.pl.zip t.pa
def chItem (t : Ch) : Nat → Item
  | 0 => (!t.host.isEmpty, 0, Wr.vector 2 (hostW t.host))
  | 1 => (t.ocsp, 5, statusW)
  | 2 => (decide (0 < t.curves.length), 10, Wr.vector 2 (wordsW t.curves))
  | 3 => (decide (0 < t.pts.length), 11, Wr.vector 1 (Wr.plain t.pts))
  | 4 => (t.ticket, 35, Wr.plain t.tick)
  | 5 => (decide (0 < t.sig.length), 13, Wr.vector 2 (wordsW t.sig))
  | 6 => (decide (0 < t.sigc.length), 50, Wr.vector 2 (wordsW t.sigc))
  | 7 => (t.rns, 65281, Wr.vector 1 (Wr.plain t.rn))
  | 8 => (t.ems, 23, Wr.nil)
  | 9 => (decide (0 < t.alpn.length), 16, Wr.vector 2 (vecsW 1 t.alpn))
  | 10 => (t.scts, 18, Wr.nil)
  | 11 => (decide (0 < t.sv.length), 43, Wr.vector 1 (wordsW t.sv))
  | 12 => (decide (0 < t.cookie.length), 44, Wr.vector 2 (Wr.plain t.cookie))
  | 13 => (decide (0 < t.kg.length), 51, Wr.vector 2 (kshW (chKs t)))
  | 14 => (t.early, 42, Wr.nil)
  | 15 => (decide (0 < t.modes.length), 45, Wr.vector 1 (Wr.plain t.modes))
  | 16 => (t.quic, 57, Wr.plain t.qtp)
  | 17 => (decide (0 < t.ech.length), 65037, Wr.plain t.ech)
  | _ => (decide (0 < t.pl.length), 41, behindW (Wr.vector 2 (identsW (chPs t))) (Wr.vector 2 (vecsW 1 t.pb)))
def chItems (t : Ch) : List Item := [0, 1, 2, 3, 4, 5, 6, 7, 8, 9, 10, 11, 12, 13, 14, 15, 16, 17, 18].map (chItem t)
def chPkg (t : Ch) : List Item := [0, 3, 4, 7, 8, 10, 14, 16, 17, 1, 2, 5, 6, 9, 11, 12, 13, 15, 18].map (chItem t)
theorem chPkg_perm (t : Ch) : (chPkg t).Perm (chItems t) := by
  unfold chPkg chItems
  exact List.Perm.map _ (by decide)
def chExtL (t : Ch) : LW := adds (chItems t) LW.nil
def chE (t : Ch) : List Ex := (chExtL t).l
def chPE (t : Ch) : List Ex := itemsE (chPkg t)
theorem chE_eq (t : Ch) : chE t = itemsE (chItems t) := by unfold chE chExtL; rw [adds_l]; rfl
theorem chBad_eq (t : Ch) : (chExtL t).bad = itemsBad (chItems t) := by unfold chExtL; rw [adds_bad]; rfl
theorem chPE_perm (t : Ch) : (chPE t).Perm (chE t) := by rw [chE_eq]; exact itemsE_perm (chPkg_perm t)
theorem chPE_len (t : Ch) : (exsB (chPE t)).length = (exsB (chE t)).length := exsB_perm (chPE_perm t)
theorem ch_keys (t : Ch) : ((chE t).map (·.1)).Sublist [0, 5, 10, 11, 35, 13, 50, 65281, 23, 16, 18, 43, 44, 51, 42, 45, 57, 65037, 41] := by rw [chE_eq]; exact itemsE_keys (chItems t)
theorem chE_nodup (t : Ch) : ((chE t).map (·.1)).Nodup := (ch_keys t).nodup (by decide)
def PskLast : List Ex → Prop
  | [] => True
  | e :: l => (e.1 = 41 → l = []) ∧ PskLast l
theorem pskLast_app : ∀ {A B : List Ex}, (∀ e ∈ A, e.1 ≠ 41) → B.length ≤ 1 → PskLast (A ++ B)
  | [], [], _, _ => trivial
  | [], [b], _, _ => ⟨fun _ => rfl, trivial⟩
  | [], _ :: _ :: _, _, h => by simp at h
  | e :: A, B, hA, hB => ⟨fun h => absurd h (hA e (by simp)), pskLast_app (fun x hx => hA x (by simp [hx])) hB⟩
theorem chPE_last (t : Ch) : PskLast (chPE t) := by
  have e : chPE t = itemsE ([0, 3, 4, 7, 8, 10, 14, 16, 17, 1, 2, 5, 6, 9, 11, 12, 13, 15].map (chItem t)) ++ itemsE [chItem t 18] := by
    unfold chPE itemsE chPkg
    rw [← List.map_append, ← List.filter_append]
    rfl
  rw [e]
  refine pskLast_app (fun e he => ?_) (by have := itemsE_few [chItem t 18]; simpa using this)
  have h := (itemsE_keys _).subset (List.mem_map_of_mem he)
  intro h41
  rw [h41] at h
  revert h
  show (41 : UInt16) ∈ ([0, 11, 35, 65281, 23, 18, 42, 57, 65037, 5, 10, 13, 50, 16, 43, 44, 51, 45] : List UInt16) → False
  decide
def chPart (t : Ch) (S : UInt16 → Bool) (E : List UInt16) : Ch := ⟨t.vers, t.random, t.sid, t.suites, t.comps, if S 0 then t.host else [], S 5 && t.ocsp, if S 10 then t.curves else [], if S 11 then t.pts else [], S 35 && t.ticket, if S 35 then t.tick else [],
  if S 13 then t.sig else [], if S 50 then t.sigc else [], S 65281 && t.rns, if S 65281 then t.rn else [], S 23 && t.ems, if S 16 then t.alpn else [], S 18 && t.scts, if S 43 then t.sv else [], if S 44 then t.cookie else [], if S 51 then t.kg else [], if S 51 then t.kd else [],
  S 42 && t.early, if S 45 then t.modes else [], if S 41 then t.pl else [], if S 41 then t.pa else [], if S 41 then t.pb else [], S 57 && t.quic, if S 57 then t.qtp else [], if S 65037 then t.ech else [], E⟩
theorem ne_pos {α : Type} (l : List α) : decide (0 < l.length) = true ↔ l ≠ [] := by rw [decide_eq_true_iff, List.length_pos_iff]
theorem ne_emp {α : Type} (l : List α) : (!l.isEmpty) = true ↔ l ≠ [] := by cases l <;> simp
theorem hostW_b (h : List UInt8) : (hostW h).b = 0 :: (be 2 h.length ++ h) := by simp [hostW, Wr.num, Wr.vec, Wr.nil, be]
theorem statusW_b : statusW.b = [1, 0, 0, 0, 0] := by simp [statusW, Wr.num, Wr.vec, Wr.nil, be]
theorem chE_mem (t : Ch) (e : Ex) : e ∈ chE t ↔ (t.host ≠ [] ∧ e = (0, (Wr.vector 2 (hostW t.host)).b)) ∨ (t.ocsp = true ∧ e = (5, statusW.b)) ∨ (t.curves ≠ [] ∧ e = (10, (Wr.vector 2 (wordsW t.curves)).b)) ∨ (t.pts ≠ [] ∧ e = (11, (Wr.vector 1 (Wr.plain t.pts)).b)) ∨
    (t.ticket = true ∧ e = (35, t.tick)) ∨ (t.sig ≠ [] ∧ e = (13, (Wr.vector 2 (wordsW t.sig)).b)) ∨ (t.sigc ≠ [] ∧ e = (50, (Wr.vector 2 (wordsW t.sigc)).b)) ∨ (t.rns = true ∧ e = (65281, (Wr.vector 1 (Wr.plain t.rn)).b)) ∨ (t.ems = true ∧ e = (23, [])) ∨
    (t.alpn ≠ [] ∧ e = (16, (Wr.vector 2 (vecsW 1 t.alpn)).b)) ∨ (t.scts = true ∧ e = (18, [])) ∨ (t.sv ≠ [] ∧ e = (43, (Wr.vector 1 (wordsW t.sv)).b)) ∨ (t.cookie ≠ [] ∧ e = (44, (Wr.vector 2 (Wr.plain t.cookie)).b)) ∨ (t.kg ≠ [] ∧ e = (51, (Wr.vector 2 (kshW (chKs t))).b)) ∨
    (t.early = true ∧ e = (42, [])) ∨ (t.modes ≠ [] ∧ e = (45, (Wr.vector 1 (Wr.plain t.modes)).b)) ∨ (t.quic = true ∧ e = (57, t.qtp)) ∨ (t.ech ≠ [] ∧ e = (65037, t.ech)) ∨
    (t.pl ≠ [] ∧ e = (41, (behindW (Wr.vector 2 (identsW (chPs t))) (Wr.vector 2 (vecsW 1 t.pb))).b)) := by
  rw [chE_eq, itemsE_mem]
  simp only [chItems, List.map_cons, List.map_nil, chItem, List.mem_cons, List.not_mem_nil, or_false, exists_eq_or_imp, exists_eq_left, ne_pos, ne_emp]
  rfl
structure ChSm (t : Ch) : Prop where
  pts : t.pts ≠ [] → t.pts.length < 256
  rn : t.rns = true → t.rn.length < 256
  alpn : t.alpn ≠ [] → ∀ x ∈ t.alpn, x.length < 256
  sv : t.sv ≠ [] → (wordsB t.sv).length < 256
  modes : t.modes ≠ [] → t.modes.length < 256
  pb : t.pl ≠ [] → ∀ x ∈ t.pb, x.length < 256
theorem vecsBad_of {n : Nat} {l : List (List UInt8)} (h : vecsBad n l = false) : ∀ x ∈ l, x.length < 256 ^ n := by
  unfold vecsBad at h
  rw [List.any_eq_false] at h
  intro x hx
  have := h x hx
  simpa using this
theorem ch_small {t : Ch} (hb : (chExtL t).bad = false) : ChSm t := by
  rw [chBad_eq] at hb
  unfold itemsBad at hb
  rw [List.any_eq_false] at hb
  have hg : ∀ i : Nat, i < 19 → (chItem t i).1 = true → (chItem t i).2.2.bad = false := by
    intro i hi ht
    have hm : chItem t i ∈ chItems t := by
      unfold chItems
      refine List.mem_map_of_mem ?_
      have : i = 0 ∨ i = 1 ∨ i = 2 ∨ i = 3 ∨ i = 4 ∨ i = 5 ∨ i = 6 ∨ i = 7 ∨ i = 8 ∨ i = 9 ∨ i = 10 ∨ i = 11 ∨ i = 12 ∨ i = 13 ∨ i = 14 ∨ i = 15 ∨ i = 16 ∨ i = 17 ∨ i = 18 := by omega
      simpa using this
    have := hb _ hm
    rw [ht, Bool.true_and] at this
    simpa using this
  refine ⟨fun h => ?_, fun h => ?_, fun h => ?_, fun h => ?_, fun h => ?_, fun h => ?_⟩
  · have := hg 3 (by omega) ((ne_pos _).2 h)
    have this : (Wr.vector 1 (Wr.plain t.pts)).bad = false := this
    rw [vector_bad] at this
    simpa [Wr.plain] using this
  · have := hg 7 (by omega) h
    have this : (Wr.vector 1 (Wr.plain t.rn)).bad = false := this
    rw [vector_bad] at this
    simpa [Wr.plain] using this
  · have := hg 9 (by omega) ((ne_pos _).2 h)
    have this : (Wr.vector 2 (vecsW 1 t.alpn)).bad = false := this
    rw [vector_bad] at this
    exact vecsBad_of (Bool.or_eq_false_iff.1 this).1
  · have := hg 11 (by omega) ((ne_pos _).2 h)
    have this : (Wr.vector 1 (wordsW t.sv)).bad = false := this
    rw [vector_bad] at this
    simpa [wordsW] using this
  · have := hg 15 (by omega) ((ne_pos _).2 h)
    have this : (Wr.vector 1 (Wr.plain t.modes)).bad = false := this
    rw [vector_bad] at this
    simpa [Wr.plain] using this
  · have := hg 18 (by omega) ((ne_pos _).2 h)
    have this : (behindW (Wr.vector 2 (identsW (chPs t))) (Wr.vector 2 (vecsW 1 t.pb))).bad = false := this
    unfold behindW at this
    have this := (Bool.or_eq_false_iff.1 this).2
    rw [vector_bad] at this
    exact vecsBad_of (Bool.or_eq_false_iff.1 this).1
theorem zip_fst {α β : Type} : ∀ {l : List α} {m : List β}, l.length = m.length → (l.zip m).map (·.1) = l
  | [], [], _ => rfl
  | a :: l, b :: m, h => by simp [zip_fst (l := l) (m := m) (by simpa using h)]
  | [], _ :: _, h => by simp at h
  | _ :: _, [], h => by simp at h
theorem zip_snd {α β : Type} : ∀ {l : List α} {m : List β}, l.length = m.length → (l.zip m).map (·.2) = m
  | [], [], _ => rfl
  | a :: l, b :: m, h => by simp [zip_snd (l := l) (m := m) (by simpa using h)]
  | [], _ :: _, h => by simp at h
  | _ :: _, [], h => by simp at h
theorem zip_ne {α β : Type} {l : List α} {m : List β} (h : l.length = m.length) (h0 : l ≠ []) : l.zip m ≠ [] := by
  cases l with
  | nil => exact absurd rfl h0
  | cons a l => cases m with
    | nil => simp at h
    | cons b m => simp
theorem ch_step {t : Ch} (h : ChOk t) (hs : ChSm t) (S : UInt16 → Bool) (E : List UInt16) (e : Ex) (he : e ∈ chE t) (hS : S e.1 = false) : ChStep (chPart t S E) e.1 e.2 (chPart t (fun k => S k || k == e.1) E) := by
  rcases (chE_mem t e).1 he with ⟨hc, rfl⟩ | ⟨hc, rfl⟩ | ⟨hc, rfl⟩ | ⟨hc, rfl⟩ | ⟨hc, rfl⟩ | ⟨hc, rfl⟩ | ⟨hc, rfl⟩ | ⟨hc, rfl⟩ | ⟨hc, rfl⟩ | ⟨hc, rfl⟩ | ⟨hc, rfl⟩ | ⟨hc, rfl⟩ | ⟨hc, rfl⟩ | ⟨hc, rfl⟩ | ⟨hc, rfl⟩ | ⟨hc, rfl⟩ | ⟨hc, rfl⟩ | ⟨hc, rfl⟩ | ⟨hc, rfl⟩
  · have hS : S 0 = false := hS
    have := ChStep.host (chPart t S E) (Wr.vector 2 (hostW t.host)).b t.host (by simp [chPart, hS]) hc h.host (by rw [vector_b, hostW_b]; simp [be_len]; congr 1; omega)
    simpa [chPart] using this
  · have := ChStep.ocsp (chPart t S E) statusW.b statusW_b
    simpa [chPart, hc] using this
  · have hS : S 10 = false := hS
    have := ChStep.curves (chPart t S E) (Wr.vector 2 (wordsW t.curves)).b t.curves (by simp [chPart, hS]) hc (by rw [vector_b]; rfl)
    simpa [chPart] using this
  · have := ChStep.pts (chPart t S E) (Wr.vector 1 (Wr.plain t.pts)).b t.pts hc (hs.pts hc) (by rw [vector_b]; rfl)
    simpa [chPart] using this
  · have := ChStep.ticket (chPart t S E) t.tick
    simpa [chPart, hc] using this
  · have hS : S 13 = false := hS
    have := ChStep.sig (chPart t S E) (Wr.vector 2 (wordsW t.sig)).b t.sig (by simp [chPart, hS]) hc (by rw [vector_b]; rfl)
    simpa [chPart] using this
  · have hS : S 50 = false := hS
    have := ChStep.sigc (chPart t S E) (Wr.vector 2 (wordsW t.sigc)).b t.sigc (by simp [chPart, hS]) hc (by rw [vector_b]; rfl)
    simpa [chPart] using this
  · have := ChStep.rn (chPart t S E) (Wr.vector 1 (Wr.plain t.rn)).b t.rn (hs.rn hc) (by rw [vector_b]; rfl)
    simpa [chPart, hc] using this
  · have := ChStep.ems (chPart t S E) [] rfl
    simpa [chPart, hc] using this
  · have hS : S 16 = false := hS
    have := ChStep.alpn (chPart t S E) (Wr.vector 2 (vecsW 1 t.alpn)).b t.alpn (by simp [chPart, hS]) hc (fun x hx => ⟨h.al x hx, hs.alpn hc x hx⟩) (by rw [vector_b]; rfl)
    simpa [chPart] using this
  · have := ChStep.scts (chPart t S E) [] rfl
    simpa [chPart, hc] using this
  · have hS : S 43 = false := hS
    have := ChStep.sv (chPart t S E) (Wr.vector 1 (wordsW t.sv)).b t.sv (by simp [chPart, hS]) hc (hs.sv hc) (by rw [vector_b]; rfl)
    simpa [chPart] using this
  · have := ChStep.cookie (chPart t S E) (Wr.vector 2 (Wr.plain t.cookie)).b t.cookie hc (by rw [vector_b]; rfl)
    simpa [chPart] using this
  · have hS : S 51 = false := hS
    have := ChStep.ks (chPart t S E) (Wr.vector 2 (kshW (chKs t))).b (chKs t) (by simp [chPart, hS]) (by simp [chPart, hS]) (zip_ne h.ks hc) (fun e he => h.kd _ (List.of_mem_zip he).2) (by rw [vector_b]; rfl)
    rw [show (chKs t).map (·.1) = t.kg from zip_fst h.ks, show (chKs t).map (·.2) = t.kd from zip_snd h.ks] at this
    simpa [chPart] using this
  · have := ChStep.early (chPart t S E) [] rfl
    simpa [chPart, hc] using this
  · have := ChStep.modes (chPart t S E) (Wr.vector 1 (Wr.plain t.modes)).b t.modes hc (hs.modes hc) (by rw [vector_b]; rfl)
    simpa [chPart] using this
  · have := ChStep.quic (chPart t S E) t.qtp
    simpa [chPart, hc] using this
  · have := ChStep.ech (chPart t S E) t.ech hc
    simpa [chPart] using this
  · have hS : S 41 = false := hS
    have := ChStep.psk (chPart t S E) (behindW (Wr.vector 2 (identsW (chPs t))) (Wr.vector 2 (vecsW 1 t.pb))).b (chPs t) t.pb (by simp [chPart, hS]) (by simp [chPart, hS]) (by simp [chPart, hS]) (zip_ne h.pa hc) (fun e he => h.pl _ (List.of_mem_zip he).1)
      (by unfold chPs; rw [List.length_zip]; have := h.pa; have := h.pb; omega) (fun x hx => ⟨h.bl x hx, hs.pb hc x hx⟩) (by show (Wr.vector 2 _).b ++ (Wr.vector 2 _).b = _; rw [vector_b, vector_b]; simp [identsW, vecsW])
    rw [show (chPs t).map (·.1) = t.pl from zip_fst h.pa, show (chPs t).map (·.2) = t.pa from zip_snd h.pa] at this
    simpa [chPart] using this
theorem chPart_low (t : Ch) (S : UInt16 → Bool) (E : List UInt16) (k : UInt16) (h1 : 43520 ≤ k.toNat) (h2 : k.toNat < 44520) : chPart t (fun j => S j || j == k) E = chPart t S E := by
  have hne : ∀ j : UInt16, j.toNat < 43520 ∨ 44520 ≤ j.toNat → (j == k) = false := by
    intro j hj
    rw [beq_eq_false_iff_ne]
    intro e
    rw [e] at hj; omega
  unfold chPart
  simp only [hne 0 (by decide), hne 5 (by decide), hne 10 (by decide), hne 11 (by decide), hne 35 (by decide), hne 13 (by decide), hne 50 (by decide), hne 65281 (by decide), hne 23 (by decide), hne 16 (by decide), hne 18 (by decide), hne 43 (by decide), hne 44 (by decide), hne 51 (by decide),
    hne 42 (by decide), hne 45 (by decide), hne 41 (by decide), hne 57 (by decide), hne 65037 (by decide), Bool.or_false]
theorem ch_lists {t : Ch} (h : ChOk t) (hs : ChSm t) : ∀ (L : List Ex), (L.map (·.1)).Nodup → (∀ e ∈ L, e ∈ chE t ∨ 43520 ≤ e.1.toNat ∧ e.1.toNat < 44520) → PskLast L → ∀ (S : UInt16 → Bool) (E : List UInt16), (∀ e ∈ L, S e.1 = false) → (∀ e ∈ L, e.1 ∉ E) →
    ∃ S', ChRun (chPart t S E) L (chPart t S' (E ++ L.map (·.1))) ∧ (∀ k, S k = true → S' k = true) ∧ ∀ e ∈ L, S' e.1 = true
  | [], _, _, _, S, E, _, _ => ⟨S, by simpa using ChRun.nil _, fun _ h => h, by simp⟩
  | (k, d) :: L, hn, hl, hp, S, E, hS, hE => by
    rw [List.map_cons, List.nodup_cons] at hn
    have hne : ∀ x ∈ L, x.1 ≠ k := fun x hx hx2 => hn.1 (List.mem_map.2 ⟨x, hx, hx2⟩)
    obtain ⟨S', h1, h2, h3⟩ := ch_lists h hs L hn.2 (fun x hx => hl x (List.mem_cons_of_mem _ hx)) hp.2 (fun j => S j || j == k) (E ++ [k]) (fun x hx => by
        simp only [Bool.or_eq_false_iff, beq_eq_false_iff_ne]
        exact ⟨hS x (List.mem_cons_of_mem _ hx), hne x hx⟩) (fun x hx hm => by
        rcases List.mem_append.1 hm with hm | hm
        · exact hE x (List.mem_cons_of_mem _ hx) hm
        · exact hne x hx (List.mem_singleton.1 hm))
    have hst : ChStep (chPart t S (E ++ [k])) k d (chPart t (fun j => S j || j == k) (E ++ [k])) := by
      rcases hl (k, d) (by simp) with he | ⟨u1, u2⟩
      · exact ch_step h hs S (E ++ [k]) (k, d) he (hS (k, d) (by simp))
      · rw [chPart_low t S (E ++ [k]) k u1 u2]
        exact .other _ k d u1 u2
    refine ⟨S', ?_, fun j hj => h2 j (by simp [hj]), fun e he => ?_⟩
    · rw [List.append_assoc] at h1
      exact .cons _ _ _ k d L (hE (k, d) (by simp)) hst hp.1 h1
    · rcases List.mem_cons.1 he with rfl | he
      · exact h2 k (by simp)
      · exact h3 e he
theorem ch_run {t : Ch} (h : ChOk t) (hs : ChSm t) {L : List Ex} (hL : ListsE (chE t) L) (hp : PskLast L) : ChRun (chHd t) L { t with exs := L.map (·.1) } := by
  obtain ⟨S, h1, -, h3⟩ := ch_lists h hs L hL.1 hL.2.1 hp (fun _ => false) [] (fun _ _ => rfl) (fun _ _ hm => by cases hm)
  have e0 : chPart t (fun _ => false) [] = chHd t := by simp [chPart, chHd, Ch.zero]
  have e1 : chPart t S ([] ++ L.map (·.1)) = { t with exs := L.map (·.1) } := by
    have mem : ∀ e, e ∈ chE t → S e.1 = true := fun e he => h3 e (hL.2.2 e he)
    have m0 : t.host ≠ [] → S 0 = true := fun hh => mem (0, _) ((chE_mem t _).2 (.inl ⟨hh, rfl⟩))
    have m5 : t.ocsp = true → S 5 = true := fun hh => mem (5, _) ((chE_mem t _).2 (.inr (.inl ⟨hh, rfl⟩)))
    have m10 : t.curves ≠ [] → S 10 = true := fun hh => mem (10, _) ((chE_mem t _).2 (.inr (.inr (.inl ⟨hh, rfl⟩))))
    have m11 : t.pts ≠ [] → S 11 = true := fun hh => mem (11, _) ((chE_mem t _).2 (.inr (.inr (.inr (.inl ⟨hh, rfl⟩)))))
    have m35 : t.ticket = true → S 35 = true := fun hh => mem (35, _) ((chE_mem t _).2 (.inr (.inr (.inr (.inr (.inl ⟨hh, rfl⟩))))))
    have m13 : t.sig ≠ [] → S 13 = true := fun hh => mem (13, _) ((chE_mem t _).2 (.inr (.inr (.inr (.inr (.inr (.inl ⟨hh, rfl⟩)))))))
    have m50 : t.sigc ≠ [] → S 50 = true := fun hh => mem (50, _) ((chE_mem t _).2 (.inr (.inr (.inr (.inr (.inr (.inr (.inl ⟨hh, rfl⟩))))))))
    have mrn : t.rns = true → S 65281 = true := fun hh => mem (65281, _) ((chE_mem t _).2 (.inr (.inr (.inr (.inr (.inr (.inr (.inr (.inl ⟨hh, rfl⟩)))))))))
    have m23 : t.ems = true → S 23 = true := fun hh => mem (23, _) ((chE_mem t _).2 (.inr (.inr (.inr (.inr (.inr (.inr (.inr (.inr (.inl ⟨hh, rfl⟩))))))))))
    have m16 : t.alpn ≠ [] → S 16 = true := fun hh => mem (16, _) ((chE_mem t _).2 (.inr (.inr (.inr (.inr (.inr (.inr (.inr (.inr (.inr (.inl ⟨hh, rfl⟩)))))))))))
    have m18 : t.scts = true → S 18 = true := fun hh => mem (18, _) ((chE_mem t _).2 (.inr (.inr (.inr (.inr (.inr (.inr (.inr (.inr (.inr (.inr (.inl ⟨hh, rfl⟩))))))))))))
    have m43 : t.sv ≠ [] → S 43 = true := fun hh => mem (43, _) ((chE_mem t _).2 (.inr (.inr (.inr (.inr (.inr (.inr (.inr (.inr (.inr (.inr (.inr (.inl ⟨hh, rfl⟩)))))))))))))
    have m44 : t.cookie ≠ [] → S 44 = true := fun hh => mem (44, _) ((chE_mem t _).2 (.inr (.inr (.inr (.inr (.inr (.inr (.inr (.inr (.inr (.inr (.inr (.inr (.inl ⟨hh, rfl⟩))))))))))))))
    have m51 : t.kg ≠ [] → S 51 = true := fun hh => mem (51, _) ((chE_mem t _).2 (.inr (.inr (.inr (.inr (.inr (.inr (.inr (.inr (.inr (.inr (.inr (.inr (.inr (.inl ⟨hh, rfl⟩)))))))))))))))
    have m42 : t.early = true → S 42 = true := fun hh => mem (42, _) ((chE_mem t _).2 (.inr (.inr (.inr (.inr (.inr (.inr (.inr (.inr (.inr (.inr (.inr (.inr (.inr (.inr (.inl ⟨hh, rfl⟩))))))))))))))))
    have m45 : t.modes ≠ [] → S 45 = true := fun hh => mem (45, _) ((chE_mem t _).2 (.inr (.inr (.inr (.inr (.inr (.inr (.inr (.inr (.inr (.inr (.inr (.inr (.inr (.inr (.inr (.inl ⟨hh, rfl⟩)))))))))))))))))
    have m57 : t.quic = true → S 57 = true := fun hh => mem (57, _) ((chE_mem t _).2 (.inr (.inr (.inr (.inr (.inr (.inr (.inr (.inr (.inr (.inr (.inr (.inr (.inr (.inr (.inr (.inr (.inl ⟨hh, rfl⟩))))))))))))))))))
    have mech : t.ech ≠ [] → S 65037 = true := fun hh => mem (65037, _) ((chE_mem t _).2 (.inr (.inr (.inr (.inr (.inr (.inr (.inr (.inr (.inr (.inr (.inr (.inr (.inr (.inr (.inr (.inr (.inr (.inl ⟨hh, rfl⟩)))))))))))))))))))
    have m41 : t.pl ≠ [] → S 41 = true := fun hh => mem (41, _) ((chE_mem t _).2 (.inr (.inr (.inr (.inr (.inr (.inr (.inr (.inr (.inr (.inr (.inr (.inr (.inr (.inr (.inr (.inr (.inr (.inr ⟨hh, rfl⟩)))))))))))))))))))
    have m35' : t.tick ≠ [] → S 35 = true := fun hh => m35 (h.tick.resolve_right hh)
    have mrn' : t.rn ≠ [] → S 65281 = true := fun hh => mrn (h.rn.resolve_right hh)
    have m57' : t.qtp ≠ [] → S 57 = true := fun hh => m57 (h.quic.resolve_right hh)
    have len0 : ∀ {α β : Type} {a : List α} {b : List β}, a.length = b.length → b ≠ [] → a ≠ [] := by
      intro α β a b he hb ha
      rw [ha] at he
      exact hb (List.eq_nil_of_length_eq_zero (by simpa using he.symm))
    have m51' : t.kd ≠ [] → S 51 = true := fun hh => m51 (len0 h.ks hh)
    have m41a : t.pa ≠ [] → S 41 = true := fun hh => m41 (len0 h.pa hh)
    have m41b : t.pb ≠ [] → S 41 = true := fun hh => m41 (len0 h.pb hh)
    have bb : ∀ (s b : Bool), (b = true → s = true) → (s && b) = b := by intro s b h; cases b <;> simp_all
    have ll : ∀ {α : Type} (s : Bool) (l : List α), (l ≠ [] → s = true) → (if s = true then l else []) = l := by
      intro α s l h
      by_cases h0 : l = []
      · subst h0; simp
      · rw [if_pos (h h0)]
    unfold chPart
    rw [ll _ _ m0, bb _ _ m5, ll _ _ m10, ll _ _ m11, bb _ _ m35, ll _ _ m35', ll _ _ m13, ll _ _ m50, bb _ _ mrn, ll _ _ mrn', bb _ _ m23, ll _ _ m16, bb _ _ m18, ll _ _ m43, ll _ _ m44, ll _ _ m51, ll _ _ m51', bb _ _ m42, ll _ _ m45, ll _ _ m41, ll _ _ m41a, ll _ _ m41b, bb _ _ m57, ll _ _ m57', ll _ _ mech]
    simp
  rw [e0, e1] at h1
  exact h1
end Go.Proofs.YtaajmfgplhfncaaGreat
namespace Go.Proofs.YtaajmfgplhfncaaGreat
open Go.RowKit
set_option maxRecDepth 100000
theorem olen_ofW (x : Wr) : olen (ofW x) ≤ x.b.length := by
  unfold ofW
  split
  · exact Nat.zero_le _
  · exact Nat.le_refl _
theorem olen_vecs (n : Nat) (ls : List (List UInt8)) : olen (ofW (vecsW n ls)) ≤ (vecsB n ls).length := olen_ofW _
theorem app_vecs (n : Nat) (ls : List (List UInt8)) (x : List UInt8) : app (ofW (vecsW n ls)) (lpOut n (some x)) = ofW (vecsW n (ls ++ [x])) := by
  rw [← ofW_vecs_one, app_ofW]
  simp [behindW, vecsW, vecsB, vecsBad]
section
variable {w w0 w1 w2 wr w' : World} {base q off pl : Nat} {v u content ic : Value} {xs bs : List UInt8} {st out : Option (List UInt8)} {S : List Nat} {B R R' need : Nat} {F : World → Prop} {e : Ending} {fid : FuncId} {T : TypeId}
end
end Go.Proofs.YtaajmfgplhfncaaGreat
namespace Go.Proofs.YtaajmfgplhfncaaGreat
open Go.RowKit
set_option maxRecDepth 100000
def ablOut (n : Nat) (xs : List UInt8) : Option (List UInt8) := if xs.length = n then some xs else none
theorem ablOut_ok {n : Nat} {xs : List UInt8} (h : xs.length = n) : ablOut n xs = some xs := if_pos h
theorem olen_abl (n : Nat) (xs : List UInt8) : olen (ablOut n xs) ≤ xs.length := by
  unfold ablOut
  split
  · exact Nat.le_refl _
  · exact Nat.zero_le _
section
variable {w w0 w1 w2 wr w' : World} {base p q off pl a b n : Nat} {v u content ic : Value} {xs bs : List UInt8} {st out : Option (List UInt8)} {S : List Nat} {B R R' need : Nat} {F : World → Prop} {e : Ending} {fid : FuncId} {T : TypeId}
def AblP (w : World) (base p : Nat) (v : Value) (off pl : Nat) (ic : Value) (st : Option (List UInt8)) (n : Nat) (xs : List UInt8) (e : Ending) (w' : World) : Prop :=
  (xs.length = n ∧ e = .returned .nilIface ∧ ∃ v', BS w' base p v' off pl ic (app st (some xs)) ∧ Upd (p :: v.ownBlock.toList) w w' ∧ (v'.ownBlock = v.ownBlock ∨ ∃ g, v'.ownBlock = some g ∧ w.heap.size ≤ g)) ∨
  (xs.length ≠ n ∧ (∃ t x, e = .returned (.iface t x)) ∧ BS w' base p v off pl ic st ∧ Upd [] w w')
set_option maxHeartbeats 1000000 in
theorem abl_1 (hb : BS w base p v off pl ic st) (ha : Blk w a 23 #[content]) (hn : Blk w b 3 #[.int .i64 n]) (hc : Src w base p v content xs) (hl : olen st ≤ 17592186044416) (hx : xs.length ≤ 17592186044416) :
    Calls Tryz.prog 141 #[.pointer (some ⟨p, 0, none⟩), .pointer (some ⟨a, 0, none⟩), .pointer (some ⟨b, 0, none⟩)] w (AblP w base p v off pl ic st n xs) := by
  have hc0 := hc
  obtain ⟨B, hy, -⟩ := hc0
  obtain ⟨A, c, rfl, hy, -, -⟩ := Byt.form hy rfl
  have d0 := ha.cell 0
  have d1 := hn.cell 0
  simp at d0 d1
  by_cases he : xs.length = n
  · have t0 : ((xs.length : Int) != (n : Int)) = false := by rw [bne_eq_false_iff_eq]; omega
    have H := hid (AddBytes_any hb hc hl hx)
    clear hb hc hy ha hn
    have HE := hid he
    clear he
    go_enter Tryz.func141, Tryz.ntmps141
    go_wp2_with fail
    refine H.out.mono ?_
    intro e1 w1 hp
    obtain ⟨he, hp⟩ := hp
    subst he
    go_wp2
    go_ret
    exact .inl ⟨HE.out, rfl, hp⟩
  · have t0 : ((xs.length : Int) != (n : Int)) = true := by rw [bne_iff_ne]; omega
    have HE := hid he
    have HB := hid hb
    clear he hb hc hy ha hn
    go_enter Tryz.func141, Tryz.ntmps141
    go_wp2_with fail
    refine (errors_New_any _).mono ?_
    rintro e1 w1 ⟨rfl, hu⟩
    go_wp2
    go_ret
    exact .inr ⟨HE.out, ⟨_, _, rfl⟩, HB.out.upd hu (by simp) (by simp), hu⟩
set_option maxHeartbeats 1000000 in
theorem abl_Marshal (hb : BS w base p v off pl ic st) (ha : Blk w a 23 #[content]) (hn : Blk w b 3 #[.int .i64 n]) (hc : Src w base p v content xs) (hl : olen st ≤ 17592186044416) (hx : xs.length ≤ 17592186044416) :
    Calls Tryz.prog 163 #[.func (.func 141) #[] #[.pointer (some ⟨a, 0, none⟩), .pointer (some ⟨b, 0, none⟩)], .pointer (some ⟨p, 0, none⟩)] w (AblP w base p v off pl ic st n xs) := by
  have H := hid (abl_1 hb ha hn hc hl hx)
  have hen : Enters 141 := by intro args w; kernel_rfl
  unfold Enters at hen
  go_enter Tryz.func163, Tryz.ntmps163
  go_wp2_with fail
  refine H.out.mono ?_
  intro e1 w1 hp
  rcases hp with ⟨h1, rfl, h2⟩ | ⟨h1, ⟨t, x, rfl⟩, h2, h3⟩
  · have HP := hid h2
    clear h2
    go_wp2
    go_ret
    exact .inl ⟨h1, rfl, HP.out⟩
  · have HP := hid h2
    clear h2
    go_wp2
    go_ret
    exact .inr ⟨h1, ⟨_, _, rfl⟩, HP.out, h3⟩
set_option maxHeartbeats 1000000 in
theorem abl_AddValue (hb : BS w base p v off pl ic st) (ha : Blk w a 23 #[content]) (hn : Blk w b 3 #[.int .i64 n]) (hc : Src w base p v content xs) (hl : olen st ≤ 17592186044416) (hx : xs.length ≤ 17592186044416) :
    Calls Tryz.prog 140 #[.pointer (some ⟨p, 0, none⟩), .iface 153 (.func (.func 141) #[] #[.pointer (some ⟨a, 0, none⟩), .pointer (some ⟨b, 0, none⟩)])] w (BSP w base p v off pl ic (app st (ablOut n xs))) := by
  have H := hid (abl_Marshal hb ha hn hc hl hx)
  go_enter Tryz.func140, Tryz.ntmps140
  go_wp2_with fail
  refine H.out.mono ?_
  intro e1 w1 hp
  have q1 := neq_err_nil
  have q2 := neq_err_some
  rcases hp with ⟨h1, rfl, h2⟩ | ⟨h1, ⟨t, x, rfl⟩, h2, h3⟩
  · have HP := hid h2
    clear h2
    go_wp2
    go_end0
    exact ⟨rfl, by rw [ablOut_ok h1]; exact HP.out⟩
  · have hp0 : base ≤ p := by cases st with
      | none => exact (h2 : BErr _ _ _).1
      | some bs => exact (h2 : Bld _ _ _ _ _ _ _ _).1
    obtain ⟨cs, hbl, hs8, h30⟩ : ∃ cs, Blk w1 p 139 cs ∧ cs.size = 8 ∧ cs[3]? = some (.pointer none) := by
      cases st with
      | none =>
        obtain ⟨-, cs, t, x, k1, k2, k3, k4⟩ := (h2 : BErr _ _ _)
        exact ⟨cs, k1, k2, k4⟩
      | some bs => exact ⟨_, (h2 : Bld _ _ _ _ _ _ _ _).2.1, rfl, rfl⟩
    have c0 : w1.cell? ⟨p, 0, none⟩ = some cs[0] := by rw [hbl.cell]; simp [hs8]
    have f0 := hbl.frozen 0
    have hb2 := hbl.set_ 0 (.iface t x)
    have HB := hid hb2
    have H3 := hid h3
    clear h2 hbl hb2 h3
    go_wp2
    go_end0
    refine ⟨rfl, v, ?_, (H3.out.mono (S' := p :: v.ownBlock.toList) (by simp)).trans (((Upd.refl [p] _).setCell (by simp) _)) (by simp), .inl rfl⟩
    have e : app st (ablOut n xs) = none := by unfold ablOut; rw [if_neg h1, app_none]
    rw [e]
    refine ⟨hp0, _, t, x, HB.out, by simp [hs8], ?_, ?_⟩
    · rw [Array.getElem?_setIfInBounds_self_of_lt (by omega)]
    · rw [Array.getElem?_setIfInBounds_ne (by omega)]; exact h30
theorem abl_any (hb : BS w base p v off pl ic st) (hc : Src w base p v content xs) (hl : olen st ≤ 17592186044416) (hx : xs.length ≤ 17592186044416) :
    Calls Tryz.prog 129 #[.pointer (some ⟨p, 0, none⟩), content, .int .i64 n] w (BSP w base p v off pl ic (app st (ablOut n xs))) := by
  have hy := hc
  obtain ⟨B, hy, -⟩ := hy
  obtain ⟨A, c, rfl, -, -, -⟩ := Byt.form hy rfl
  obtain ⟨w1, hw1⟩ : ∃ w1, (w.alloc (.cells #[.slice A xs.length c] 23)).alloc (.cells #[.int .i64 (n : Int)] 3) = w1 := ⟨_, rfl⟩
  obtain ⟨s, hs⟩ : ∃ s, w.heap.size = s := ⟨_, rfl⟩
  have hu1 : Upd [] w w1 := by rw [← hw1]; exact ((Upd.refl _ _).alloc _).alloc _
  have ha : Blk w1 s 23 #[.slice A xs.length c] := by rw [← hw1, ← hs]; exact (Blk.new _ _ _).alloc _
  have hn : Blk w1 (s + 1) 3 #[.int .i64 (n : Int)] := by
    rw [← hw1, ← hs]
    have := Blk.new (w.alloc (.cells #[.slice A xs.length c] 23)) 3 #[.int .i64 (n : Int)]
    rwa [show (w.alloc (.cells #[.slice A xs.length c] 23)).heap.size = w.heap.size + 1 by simp] at this
  have H := hid (abl_AddValue (hb.upd hu1 (by simp) (by simp)) ha hn (hc.upd hu1 (by simp)) hl hx)
  have hmf : ∀ (fn : Fn) (first cap : Array Value) (w : World), (Instr.makeFunc fn first cap).run Tryz.prog w = .ok (.func fn first cap) w := fun _ _ _ _ => rfl
  have HW := hid hw1
  have HS := hid hs
  clear hb hc hy ha hn hw1 hs
  go_enter Tryz.func129, Tryz.ntmps129
  go_wp2_with fail
  rw [HW.out, HS.out]
  refine H.out.mono ?_
  intro e w2 hp
  obtain ⟨he, v', h1, h2, h3⟩ := hp
  subst he
  have HP := hid h1
  clear h1
  go_wp2
  go_end0
  have hsz := hu1.size
  exact ⟨rfl, v', HP.out, (hu1.mono (S' := p :: v.ownBlock.toList) (by simp)).trans h2 (fun k hk => .inl hk), h3.imp id fun ⟨g, hg, hge⟩ => ⟨g, hg, by omega⟩⟩
theorem Em.abl (h : Em w1 q v base off pl ic B F st R w2) (hc : Byt w2 B content xs) (hR : R' + xs.length ≤ R) :
    Calls Tryz.prog 129 #[.pointer (some ⟨q, 0, none⟩), content, .int .i64 n] w2 (EmP w1 q v base off pl ic B F (app st (ablOut n xs)) R') := by
  obtain ⟨v2, hb, hu, hv2⟩ := h.main
  have hr := h.room
  have ho := olen_app st (ablOut n xs)
  have h1 := olen_abl n xs
  refine (abl_any hb (src_of hc h.hq ?_) (by omega) (by omega)).mono fun e w' hp => h.step hu hv2 hp (by omega)
  intro g hg
  rcases hv2 with h2 | ⟨g', h2, hg'⟩
  · rw [h2] at hg; exact h.hv g hg
  · rw [h2] at hg
    injection hg with hg
    have := h.B1
    omega
end
end Go.Proofs.YtaajmfgplhfncaaGreat
namespace Go.Proofs.YtaajmfgplhfncaaGreat
set_option maxRecDepth 20000
def chHeadW (t : Ch) : Wr := ((((⟨(Wr.nil.num 2 t.vers.toNat).b ++ t.random, false⟩ : Wr).vec 1 t.sid).inner 2 (wordsW t.suites)).vec 1 t.comps)
def chW (t : Ch) (L : List Ex) : Wr := if L = [] then chHeadW t else behindW (chHeadW t) (exsW L)
theorem chHeadW_eq (t : Ch) : chHeadW t = ⟨chHeadB t, decide (256 ≤ t.sid.length) || decide (65536 ≤ (wordsB t.suites).length) || decide (256 ≤ t.comps.length)⟩ := by
  simp [chHeadW, chHeadB, Wr.num, Wr.vec, Wr.inner, Wr.nil, wordsW]
  rfl
theorem chW_eq (t : Ch) (L : List Ex) : chW t L = ⟨chBodyB t L, (decide (256 ≤ t.sid.length) || decide (65536 ≤ (wordsB t.suites).length) || decide (256 ≤ t.comps.length)) || decide (65536 ≤ (exsB L).length)⟩ := by
  unfold chW chBodyB
  by_cases h : L = []
  · rw [if_pos h, if_pos h, chHeadW_eq, h]; simp [exsB]
  · rw [if_neg h, if_neg h, chHeadW_eq]
    unfold behindW
    rw [exsW_short, exsW_eq]
    rfl
def chFits (t : Ch) : Bool := !(messageW 1 (chW t (chE t))).bad && !(chExtL t).bad
theorem chW_fine {t : Ch} (h : ChOk t) {L : List Ex} : (messageW 1 (chW t L)).bad = false ↔ (wordsB t.suites).length < 65536 ∧ t.comps.length < 256 ∧ (exsB L).length < 65536 := by
  have hb := chBodyB_len t L
  have h1 := h.r
  have h2 := h.s
  rw [messageW_msgB, chW_eq]
  simp only [Bool.or_eq_false_iff, decide_eq_false_iff_not]
  constructor
  · rintro ⟨⟨⟨⟨h3, h4⟩, h5⟩, h6⟩, h7⟩; exact ⟨by omega, by omega, by omega⟩
  · rintro ⟨h3, h4, h5⟩; exact ⟨⟨⟨⟨by omega, by omega⟩, by omega⟩, by omega⟩, by omega⟩
theorem chFits_iff {t : Ch} (h : ChOk t) : chFits t = true ↔ (chExtL t).bad = false ∧ (wordsB t.suites).length < 65536 ∧ t.comps.length < 256 ∧ (exsB (chE t)).length < 65536 := by
  unfold chFits
  rw [Bool.and_eq_true, Bool.not_eq_true', Bool.not_eq_true', chW_fine h]
  exact ⟨fun ⟨h1, h2⟩ => ⟨h2, h1⟩, fun ⟨h1, h2⟩ => ⟨h2, h1⟩⟩
theorem ChOk.head {t : Ch} (h : ChOk t) (h1 : (wordsB t.suites).length < 65536) (h2 : t.comps.length < 256) : ChHead t := ⟨h.r, h.s, h.u, h1, h.c, h2, h.sg⟩
theorem ch_made {t : Ch} (h : ChOk t) (hf : chFits t = true) : ChForm (chMsg t (chPE t)) t (chPE t) { t with exs := (chPE t).map (·.1) } := by
  obtain ⟨h1, h2, h3, h4⟩ := (chFits_iff h).1 hf
  exact ⟨rfl, h.head h2 h3, by rw [chPE_len]; exact h4, ch_run h (ch_small h1) ((ListsE.self (chE_nodup t)).perm (chPE_perm t)) (chPE_last t)⟩
def chOut (t : Ch) : Option (List UInt8) := itemsOut (chPkg t) (some [])
def chBodyO (t : Ch) (xs : List UInt8) : Option (List UInt8) := app (some (be 2 t.vers.toNat)) (app (ablOut 32 t.random) (app (lpOut 1 (some t.sid)) (app (lpOut 2 (some (wordsB t.suites))) (app (lpOut 1 (some t.comps)) (condOut (decide (0 < xs.length)) (lpOut 2 (some xs)))))))
def chMake (t : Ch) : Option (List UInt8) := (chOut t).bind fun xs => app (some [UInt8.ofNat 1]) (lpOut 3 (chBodyO t xs))
theorem chOut_eq (t : Ch) : chOut t = if itemsBad (chItems t) || exsBad (chPE t) then none else some (exsB (chPE t)) := by
  unfold chOut
  rw [← outL_nil, itemsOut_outL]
  unfold outL ofW
  rw [adds_l, adds_bad, itemsBad_perm (chPkg_perm t)]
  rfl
theorem lpOut_in {n : Nat} {x : List UInt8} (h : x.length < 256 ^ n) : lpOut n (some x) = some (be n x.length ++ x) := by show (if _ then _ else _) = _; rw [if_pos h]
theorem lpOut_out {n : Nat} {x : List UInt8} (h : ¬ x.length < 256 ^ n) : lpOut n (some x) = none := by show (if _ then _ else _) = _; rw [if_neg h]
theorem chBodyO_eq (t : Ch) (h : ChOk t) (xs : List UInt8) : chBodyO t xs = if (wordsB t.suites).length < 65536 ∧ t.comps.length < 256 ∧ xs.length < 65536 then some (chHeadB t ++ (if xs = [] then [] else be 2 xs.length ++ xs)) else none := by
  have hs := h.s
  have hr : ablOut 32 t.random = some t.random := ablOut_ok h.r
  unfold chBodyO
  rw [lpOut_in (n := 1) (x := t.sid) (by omega), hr]
  by_cases h1 : (wordsB t.suites).length < 65536
  · rw [lpOut_in (n := 2) (x := wordsB t.suites) (by omega)]
    by_cases h2 : t.comps.length < 256
    · rw [lpOut_in (n := 1) (x := t.comps) (by omega)]
      by_cases h0 : xs = []
      · subst h0
        rw [if_pos ⟨h1, h2, by simp⟩, if_pos rfl]
        simp [condOut, app, chHeadB]
      · have hp : decide (0 < xs.length) = true := decide_eq_true (List.length_pos_iff.2 h0)
        rw [hp, if_neg h0, condOut_true]
        by_cases hx : xs.length < 65536
        · rw [if_pos ⟨h1, h2, hx⟩, lpOut_in (n := 2) (x := xs) (by omega)]
          simp [app, chHeadB]
        · rw [if_neg (fun h => hx h.2.2), lpOut_out (n := 2) (x := xs) (by omega)]
          simp [app]
    · rw [if_neg (fun h => h2 h.2.1), lpOut_out (n := 1) (x := t.comps) (by omega)]
      simp [app]
  · rw [if_neg (fun h => h1 h.1), lpOut_out (n := 2) (x := wordsB t.suites) (by omega)]
    simp [app]
theorem chMake_eq {t : Ch} (h : ChOk t) : chMake t = if chFits t then some (chMsg t (chPE t)) else none := by
  have hl := chPE_len t
  have h1 := h.r
  have h2 := h.s
  have key : ∀ xs, xs = exsB (chPE t) → (wordsB t.suites).length < 65536 → t.comps.length < 256 → xs.length < 65536 → app (some [UInt8.ofNat 1]) (lpOut 3 (chBodyO t xs)) = some (chMsg t (chPE t)) := by
    intro xs hx h3 h4 hlt
    rw [chBodyO_eq t h, if_pos ⟨h3, h4, hlt⟩]
    have hb : chHeadB t ++ (if xs = [] then [] else be 2 xs.length ++ xs) = chBodyB t (chPE t) := by
      unfold chBodyB
      congr 1
      have hn := exsB_nil_iff (chPE t)
      rw [← hx] at hn
      by_cases h0 : xs = []
      · rw [if_pos h0, if_pos (hn.1 (by rw [h0]; rfl))]
      · rw [if_neg h0, if_neg (fun hh => h0 (List.eq_nil_of_length_eq_zero (hn.2 hh)))]
        unfold blkB
        rw [hx]
    rw [hb]
    have hlen := chBodyB_len t (chPE t)
    rw [← hx] at hlen
    rw [lpOut_in (n := 3) (by omega)]
    simp [app, chMsg, msgB, be]
  unfold chMake
  rw [chOut_eq]
  by_cases hf : chFits t = true
  · rw [if_pos hf]
    obtain ⟨h3, h4, h5, h6⟩ := (chFits_iff h).1 hf
    rw [chBad_eq] at h3
    rw [h3, exsB_short _ (by omega)]
    exact key _ rfl h4 h5 (by omega)
  · rw [if_neg hf]
    by_cases h3 : itemsBad (chItems t) = true
    · rw [h3]; rfl
    · have h3 : itemsBad (chItems t) = false := by simpa using h3
      by_cases h4 : exsBad (chPE t) = true
      · rw [h3, h4]; rfl
      · have h4 : exsBad (chPE t) = false := by simpa using h4
        rw [h3, h4]
        show app (some [UInt8.ofNat 1]) (lpOut 3 (chBodyO t (exsB (chPE t)))) = none
        rw [chBodyO_eq t h, if_neg (fun hh => hf ((chFits_iff h).2 ⟨by rw [chBad_eq]; exact h3, hh.1, hh.2.1, by omega⟩))]
        simp [lpOut, app]
end Go.Proofs.YtaajmfgplhfncaaGreat
namespace Go.Proofs.YtaajmfgplhfncaaGreat
open Go.ChangeShapes Go.WideShapes Go.ChangeAt Go.RowKit
set_option maxRecDepth 100000
theorem own : ownKnob Tryz.prog.godebug = none := by kernel_rfl
theorem laidOut : laidOutB Tryz.prog = true := by kernel_rfl
section
variable {H : Type} {enc : TypeId × Value → H} {P : Program}
theorem post_of_below {f : Func} {s : ChangeSpec} {apart fresh handsOn again : Bool} {W W' : World} {args : Array Value} {v : Value} {ds gs : List (DataW H)} {before pa pv : List MemPlace}
    (hW : DataW.Whole enc P f.params.toList s.vars apart W args.toList ds gs before)
    (hres : ∀ (b : Nat) (sp : Nat → Bool) (hd : Bool), DataW.TrodAll enc P W' b sp hd f.resultTypes.toList (v.resultList f.resultTypes.size) (s.fn H (ds ++ gs)).results [])
    (hargs : ∀ sp : Nat → Bool, (∀ p ∈ before, sp p.block = true) → DataW.TrodAll enc P W' 0 sp true f.params.toList args.toList (s.fn H (ds ++ gs)).args pa)
    (hvars : ∀ sp : Nat → Bool, (∀ p ∈ before, sp p.block = true) → DataW.TrodVars enc P W' sp s.vars (s.fn H (ds ++ gs)).vars pv)
    (hps : before = pa ++ pv) (hb : Below W.heap.size W W')
    (hok : ∀ (j : Nat) (t : TypeId) (r : Value), f.resultTypes[j]? = some t → (v.resultList f.resultTypes.size)[j]? = some r → Value.okWide P W' .any 0 t r) :
    s.post enc P f apart fresh handsOn again W args v W' := by
  have hlt : ∀ p ∈ before, p.block < W.heap.size := fun p hp => hW.lt p hp
  have hold : ∀ p ∈ before, (fun b => decide (b < W.heap.size)) p.block = true := fun p hp => by simpa using hlt p hp
  refine ⟨ds, gs, before, [], pa, pv, hW, hres _ _ _, hargs _ hold, hvars _ hold, World.keptBut_mono (fun p hp => ⟨hp, ?_⟩) (hb.frame (· ∈ before)), fun _ => ?_⟩
  · rw [hps, List.mem_append] at hp
    exact Or.inr hp
  · obtain ⟨_, _, _, _, _, hz, hn⟩ := hW
    refine ⟨hok, _, _, ([] ++ pa) ++ pv, ⟨[] ++ pa, pv, trodAll_append (hargs _ (fun _ _ => rfl)) (hres _ _ _), hvars _ (fun _ _ => rfl), rfl, ?_, ?_⟩, ?_⟩
    · intro b off hp
      have hin : MemPlace.cell b off ∈ before := by rw [hps]; simpa using hp
      rw [hb.frozen (hlt _ hin)]
      exact hz b off hin
    · intro ha
      have := hn ha
      rw [hps] at this
      simpa using this
    · intro p hp _
      rw [hps]
      simpa using hp
theorem below_trodAll (hl : laidOutB P = true) {W W' : World} (hb : Below W.heap.size W W') {sp : Nat → Bool} :
    ∀ {ts : List TypeId} {vs : List Value} {ds : List (DataW H)} {p : List MemPlace}, (ts.all fun t => P.readableRec t && decide (t < P.types.size)) = true → (∀ x ∈ p, x.block < W.heap.size) → (∀ x ∈ p, sp x.block = true) →
      DataW.TrodAll enc P W 0 (fun _ => true) true ts vs ds p → DataW.TrodAll enc P W' 0 sp true ts vs ds p
  | [], _, _, _, _, _, _, h => by
    obtain ⟨rfl, rfl, rfl⟩ := trodAll_nil h
    exact trodAll_mk0
  | t :: ts, vs, ds, p, hr, hlt, hsp, h => by
    obtain ⟨v, vs1, d, ds1, a, b, rfl, rfl, rfl, h1, h2⟩ := trodAll_cons h
    simp only [List.all_cons, Bool.and_eq_true, decide_eq_true_eq] at hr
    refine trodAll_cons_mk ?_ (below_trodAll hl hb hr.2 (fun x hx => hlt x (by simp [hx])) (fun x hx => hsp x (by simp [hx])) h2)
    exact WideElems.Trod_stays hl hr.1.1 hr.1.2 h1 (fun x hx => hb.same (hlt x (by simp [hx]))) (fun x hx => hsp x (by simp [hx]))
end
theorem law_post {H : Type} {enc : TypeId × Value → H} {f : Func} {s : ChangeSpec} {W W' : World} {args : Array Value} {ds gs : List (DataW H)} {before : List MemPlace} {e : Ending}
    (hW : DataW.Whole enc Tryz.prog f.params.toList s.vars false W args.toList ds gs before) (hv : s.vars = []) (hs : (s.fn H ds) = { results := [.lit (.bool true)], args := ds })
    (hr : (f.params.toList.all fun t => Tryz.prog.readableRec t && decide (t < Tryz.prog.types.size)) = true) (hres : f.resultTypes = #[4]) (h : LawP W e W') :
    ∃ v, e = .returned v ∧ s.post enc Tryz.prog f false true false false W args v W' := by
  obtain ⟨rfl, hu⟩ := h
  have hb : Below W.heap.size W W' := hu.below (Nat.le_refl _) (by simp)
  have hW' := hW
  obtain ⟨p, q, hA, hV, rfl, hfz, hnd⟩ := hW
  rw [hv] at hV
  obtain ⟨rfl, rfl⟩ := trodVars_none hV
  have hlt := hW'.lt
  have hvars : ∀ sp : Nat → Bool, DataW.TrodVars enc Tryz.prog W' sp s.vars (s.fn H (ds ++ [])).vars [] := by
    intro sp
    rw [List.append_nil, hs, hv]
    exact rfl
  refine ⟨_, rfl, post_of_below (pa := p) (pv := []) hW' (fun _ _ _ => ?_) (fun sp hsp => ?_) (fun sp _ => hvars sp) rfl hb (ok_one hres rfl (okWide_bool_mk Tryz.underlying4 _))⟩
  · rw [List.append_nil, hs, hres]
    exact trodAll_cons_mk (shut_bool Tryz.underlying4 _) trodAll_mk0
  · rw [List.append_nil, hs]
    exact below_trodAll laidOut hb hr (fun x hx => hlt x (by simpa using hx)) (fun x hx => hsp x (by simpa using hx)) hA
end Go.Proofs.YtaajmfgplhfncaaGreat
namespace Go.Proofs.YtaajmfgplhfncaaGreat
open Go.RowKit
set_option maxRecDepth 100000
abbrev uv (u : UInt32) : Value := .int .u32 (u.toNat : Int)
section
variable {w w' w1 w2 : World} {base q p off pl N b : Nat} {v content ic : Value} {xs bs : List UInt8} {st out : Option (List UInt8)} {S : List Nat} {B R R' : Nat} {F : World → Prop} {e : Ending} {nn : Prop}
theorem AddUint32_any (hb : BS w base p v off pl ic st) (hl : olen st ≤ 17592186044416) (n : Nat) (hn : n < 4294967296) :
    Calls Tryz.prog 123 #[.pointer (some ⟨p, 0, none⟩), .int .u32 (n : Int)] w (BSP w base p v off pl ic (app st (some (be 4 n)))) := by
  have h := add_lit_any hb hl (be 4 n) (by simp [be_len]) 5
  rw [be_len] at h
  have e3 : bv (UInt8.ofNat (n / 256 ^ 3)) = .int .u8 ((n : Int) / 16777216) := bv_of (by omega)
  have e2 : bv (UInt8.ofNat (n / 256 ^ 2)) = .int .u8 ((n : Int) / 65536 % 256) := bv_of (by omega)
  have e1 : bv (UInt8.ofNat (n / 256 ^ 1)) = .int .u8 ((n : Int) / 256 % 256) := bv_of (by omega)
  have e0 : bv (UInt8.ofNat (n / 256 ^ 0)) = .int .u8 ((n : Int) % 256) := bv_of (by omega)
  simp only [be, List.map_cons, List.map_nil, e3, e2, e1, e0] at h
  have H := hid h
  clear h e0 e1 e2 e3
  go_enter Tryz.func123, Tryz.ntmps123
  go_wp2_with fail
  refine H.out.mono ?_
  intro e1 w1 hp
  have he := hp.1
  subst he
  go_wp2
  go_end0
  exact hp
theorem Em.u32 (h : Em w1 q v base off pl ic B F st R w2) (n : Nat) (hn : n < 4294967296) (hR : R' + 4 ≤ R) :
    Calls Tryz.prog 123 #[.pointer (some ⟨q, 0, none⟩), .int .u32 (n : Int)] w2 (EmP w1 q v base off pl ic B F (app st (some (be 4 n))) R') := by
  obtain ⟨v2, hb, hu, hv2⟩ := h.main
  have hr := h.room
  have ho := olen_app st (some (be 4 n))
  have h1 : olen (some (be 4 n)) = 4 := be_len 4 n
  exact (AddUint32_any hb (by omega) n hn).mono fun e w' hp => h.step hu hv2 hp (by omega)
end
end Go.Proofs.YtaajmfgplhfncaaGreat
namespace Go.Proofs.YtaajmfgplhfncaaGreat
open Go.Joins Go.ChangeShapes Go.WideShapes Go.RowKit Go.Deep
set_option maxRecDepth 100000
section
variable {H : Type} {enc : TypeId × Value → H} {P : Program} {w : World} {base : Nat} {spare : Nat → Bool} {held : Bool}
end
section
variable {H : Type} {enc : TypeId × Value → H} {W : World} {sp : Nat → Bool} {hd : Bool}
theorem bytes_trod {n base : Nat} {v : Value} {x : DataW H × List MemPlace} (hf : DataW.trod enc Tryz.prog W base (fun _ => true) hd n 23 [v] = some x) : ∃ bs, Byt W W.heap.size v bs := by
  rcases open_ints Tryz.underlying23 Tryz.underlying5 (by kernel_rfl) hf with ⟨hcs, -⟩ | ⟨a, len, cap, zs, hcs, -, hle, hmax, hall, -, hcell, hwf⟩
  · injection hcs with hcs _
    subst hcs
    exact ⟨[], Row.nil_ _ _⟩
  · injection hcs with hcs _
    subst hcs
    simp only [if_true] at hall
    have hlen : (((zs.take len).map fun n => UInt8.ofNat n.toNat).map bv).length = len := by simp; omega
    refine ⟨(zs.take len).map fun n => UInt8.ofNat n.toNat, some a, cap, by rw [hlen], by rw [hlen]; exact hle, hmax, (by intro e; cases e), ?_⟩
    intro hne
    have hp : 0 < zs.length := by
      rw [hall]
      have : len ≠ 0 := by
        intro e0
        apply hne
        exact List.length_eq_zero_iff.1 (hlen.trans e0)
      omega
    obtain ⟨b, off, rfl, hc⟩ := ints_at hcell hp
    refine ⟨b, off, rfl, World.block_lt_of_cell? W ⟨b, off + 0, none⟩ (hc 0 hp), ?_⟩
    intro j u hj
    have hjl : j < len := by
      have := (List.getElem?_eq_some_iff.1 hj).1
      rwa [hlen] at this
    rw [hc j (by omega), ← hj]
    have hz : zs[j]? = some (zs.getD j 0) := by simp [List.getD, List.getElem?_eq_getElem (show j < zs.length by omega)]
    have hb := bounds_u8 (hwf (zs.getD j 0) (List.mem_of_getElem? hz))
    rw [List.getElem?_map, List.getElem?_map, List.getElem?_take, if_pos hjl, hz]
    simp only [Option.map_some]
    congr 2
    show zs.getD j 0 = _
    rw [UInt8.toNat_ofNat']
    have : (zs.getD j 0).toNat % 2 ^ 8 = (zs.getD j 0).toNat := Nat.mod_eq_of_lt (by omega)
    rw [this]
    omega
theorem all2_of {α β : Type} {p : α → β → Prop} : ∀ (l : List α), (∀ a ∈ l, ∃ b, p a b) → ∃ m, All2 p l m
  | [], _ => ⟨[], trivial⟩
  | a :: l, h => by
    obtain ⟨b, hb⟩ := h a (by simp)
    obtain ⟨m, hm⟩ := all2_of l (fun x hx => h x (by simp [hx]))
    exact ⟨b :: m, hb, hm⟩
theorem lists_trod {n base : Nat} {v : Value} {x : DataW H × List MemPlace} (hf : DataW.trod enc Tryz.prog W base (fun _ => true) hd n 26 [v] = some x) : ∃ ls, Lst W W.heap.size v ls := by
  rcases DataW.trod_slice Tryz.underlying26 hf with ⟨hcs, -⟩ | ⟨a, len, cap, elems, rest, m, -, hcs, -, -, hle, hmax, hlen, hel, -, -⟩
  · injection hcs with hcs _
    subst hcs
    exact ⟨[], [], Row.nil_ _ _, trivial⟩
  · injection hcs with hcs _
    subst hcs
    have each : ∀ i, i < len → ∃ u bs, W.cell? (a.add i) = some u ∧ Byt W W.heap.size u bs := by
      intro i hi
      have h := hel i hi
      have hc : Tryz.prog.cellsOf 23 = 1 := by kernel_rfl
      rw [hc, Nat.mul_one] at h
      have hy : elems[i]? = some (elems[i]'(by omega)) := List.getElem?_eq_getElem (by omega)
      rw [hy, Option.bind_eq_some_iff] at h
      obtain ⟨cs, h1, h2⟩ := h
      have hl1 := (World.cells?_some h1).2.1
      match cs, hl1 with
      | [u], _ =>
        obtain ⟨bs, hb⟩ := bytes_trod h2
        exact ⟨u, bs, cell_of_cells?_one h1, hb⟩
    let us : List Value := (List.range len).map fun i => (W.cell? (a.add i)).getD undef
    have hus : us.length = len := by simp [us]
    have hget : ∀ i, i < len → us[i]? = W.cell? (a.add i) := by
      intro i hi
      obtain ⟨u, bs, h1, -⟩ := each i hi
      simp [us, hi, h1]
    obtain ⟨ls, hls⟩ := all2_of (p := fun u l => Byt W W.heap.size u l) us (by
      intro u hu
      obtain ⟨i, hi⟩ := List.getElem?_of_mem hu
      have hil : i < len := by have := (List.getElem?_eq_some_iff.1 hi).1; rwa [hus] at this
      obtain ⟨u', bs, h1, h2⟩ := each i hil
      rw [hget i hil, h1] at hi
      cases hi
      exact ⟨bs, h2⟩)
    refine ⟨ls, us, ⟨some a, cap, by rw [hus], by rw [hus]; exact hle, hmax, (by intro e; cases e), ?_⟩, hls⟩
    intro hne
    have hp : 0 < len := by
      have : us.length ≠ 0 := fun e => hne (List.length_eq_zero_iff.1 e)
      omega
    obtain ⟨b, off, spot⟩ := a
    obtain ⟨u0, -, h0, -⟩ := each 0 hp
    have hspot : spot = none := by simpa [Addr.add] using World.cell?_spot h0
    subst hspot
    refine ⟨b, off, rfl, World.block_lt_of_cell? W ⟨b, off + 0, none⟩ (by rw [← Go.WideShapes.add_plain]; exact h0), ?_⟩
    intro j u hj
    have hjl : j < len := by have := (List.getElem?_eq_some_iff.1 hj).1; rwa [hus] at this
    rw [← Go.WideShapes.add_plain, ← hget j hjl]
    exact hj
end
section
variable {H : Type} {enc : TypeId × Value → H} {P : Program} {w : World} {base : Nat} {spare : Nat → Bool} {held : Bool}
theorem bool_trod {W : World} {n b0 : Nat} {v : Value} {x : DataW H × List MemPlace} {sp : Nat → Bool} {hd : Bool} (hf : DataW.trod enc Tryz.prog W b0 sp hd n 4 [v] = some x) : ∃ b : Bool, v = .bool b := by
  obtain ⟨b, h, -⟩ := DataW.trod_bool Tryz.underlying4 hf
  injection h with h _
  exact ⟨b, h⟩
end
end Go.Proofs.YtaajmfgplhfncaaGreat
namespace Go.Proofs.YtaajmfgplhfncaaGreat
open Go.Joins Go.ChangeShapes Go.WideShapes Go.RowKit Go.Deep
set_option maxRecDepth 100000
theorem uptoSmall_le {H : Type} {ds : List (DataW H)} (h : Rows.uptoSmall H ds = true) : Rows.uptoBulkAll ds ≤ 1048576 := of_decide_eq_true h
theorem bulk_one {H : Type} (d : DataW H) : 1 ≤ Rows.uptoBulk d := by
  cases d with
  | lit l => cases l <;> simp [Rows.uptoBulk]
  | nil => simp [Rows.uptoBulk]
  | ptr d => simp [Rows.uptoBulk]
  | slice elems spare => simp [Rows.uptoBulk]
  | agg parts => simp [Rows.uptoBulk]
  | iface t d => simp [Rows.uptoBulk]
  | map entries => simp [Rows.uptoBulk]
  | held h => simp [Rows.uptoBulk]
theorem bulk_part {H : Type} {d : DataW H} : ∀ {l : List (DataW H)}, d ∈ l → Rows.uptoBulk d ≤ Rows.uptoBulkAll l
  | [], h => by cases h
  | x :: r, h => by
    simp only [Rows.uptoBulkAll]
    rcases List.mem_cons.1 h with h | h
    · rw [h]; omega
    · have := bulk_part h; omega
theorem bulk_length {H : Type} : ∀ (l : List (DataW H)), l.length ≤ Rows.uptoBulkAll l
  | [] => by simp [Rows.uptoBulkAll]
  | x :: r => by
    have := bulk_one x
    have := bulk_length r
    simp only [Rows.uptoBulkAll, List.length_cons]
    omega
def lstSz (ls : List (List UInt8)) : Nat := (ls.map fun l => l.length + 1).sum
theorem lstSz_cons (l : List UInt8) (ls : List (List UInt8)) : lstSz (l :: ls) = l.length + 1 + lstSz ls := by simp [lstSz]
theorem lstSz_le {H : Type} : ∀ (ls : List (List UInt8)) (ds : List (DataW H)), ls.length = ds.length → (∀ (i : Nat) (x : List UInt8) (d : DataW H), ls[i]? = some x → ds[i]? = some d → x.length + 1 ≤ Rows.uptoBulk d) → lstSz ls ≤ Rows.uptoBulkAll ds
  | [], ds, _, _ => by simp [lstSz]
  | x :: ls, [], h, _ => by simp at h
  | x :: ls, d :: ds, h, hg => by
    rw [lstSz_cons]
    simp only [Rows.uptoBulkAll]
    have h0 := hg 0 x d rfl rfl
    have h1 := lstSz_le ls ds (by simpa using h) (fun i y e hy he => hg (i + 1) y e (by simpa using hy) (by simpa using he))
    omega
theorem vecsB_lst (n : Nat) (ls : List (List UInt8)) : (vecsB n ls).length ≤ (n + 1) * lstSz ls := by
  induction ls with
  | nil => simp [vecsB]
  | cons x ls ih =>
    have e : vecsB n (x :: ls) = be n x.length ++ x ++ vecsB n ls := by simp [vecsB]
    rw [e, lstSz_cons, List.length_append, List.length_append, be_len]
    have : (n + 1) * (x.length + 1 + lstSz ls) = n * x.length + x.length + n + 1 + (n + 1) * lstSz ls := by simp only [Nat.mul_add, Nat.add_mul]; omega
    rw [this]
    have : 0 ≤ n * x.length := Nat.zero_le _
    omega
section
variable {H : Type} {enc : TypeId × Value → H} {W : World} {sp : Nat → Bool} {hd : Bool}
theorem row_bulk {t e : TypeId} {n base B : Nat} {v : Value} {xs : List Value} {x : DataW H × List MemPlace} (ht : Tryz.prog.underlying t = some (.slice e)) (hf : DataW.trod enc Tryz.prog W base sp hd n t [v] = some x) (hv : Row W B v xs) : xs.length + 1 ≤ Rows.uptoBulk x.1 := by
  obtain ⟨A, c, rfl, -⟩ := hv
  rcases DataW.trod_slice ht hf with ⟨hcs, hx⟩ | ⟨a, len, cap, elems, rest, m, -, hcs, hx, -, -, -, hlen, -⟩
  · injection hcs with hcs _
    injection hcs with _ h0 _
    rw [hx, h0]
    simp [Rows.uptoBulk]
  · injection hcs with hcs _
    injection hcs with _ h0 _
    rw [hx, h0]
    simp only [Rows.uptoBulk]
    have := bulk_length (elems.map (·.1))
    rw [List.length_map] at this
    omega
theorem bytes_bulk {n base : Nat} {v : Value} {x : DataW H × List MemPlace} (hf : DataW.trod enc Tryz.prog W base (fun _ => true) hd n 23 [v] = some x) : ∃ bs, Byt W W.heap.size v bs ∧ bs.length + 1 ≤ Rows.uptoBulk x.1 := by
  obtain ⟨bs, hb⟩ := bytes_trod hf
  have := row_bulk Tryz.underlying23 hf hb
  rw [List.length_map] at this
  exact ⟨bs, hb, this⟩
theorem byt_same {w : World} {B C : Nat} {v : Value} {xs ys : List UInt8} (h : Byt w B v xs) (k : Byt w C v ys) : xs.length = ys.length := by
  obtain ⟨A, c, e, -⟩ := Byt.form h rfl
  obtain ⟨A', c', e', -⟩ := Byt.form k rfl
  rw [e] at e'
  injection e' with _ h _
theorem lists_bulk {n base : Nat} {v : Value} {x : DataW H × List MemPlace} (hf : DataW.trod enc Tryz.prog W base (fun _ => true) hd n 26 [v] = some x) : ∃ ls, Lst W W.heap.size v ls ∧ lstSz ls + 1 ≤ Rows.uptoBulk x.1 := by
  obtain ⟨ls, hl⟩ := lists_trod hf
  refine ⟨ls, hl, ?_⟩
  obtain ⟨vs, h1, h2⟩ := hl
  have hll := h2.length
  have h1' := h1
  obtain ⟨A, c, rfl, -, -, -, hrow⟩ := h1
  rcases DataW.trod_slice Tryz.underlying26 hf with ⟨hcs, hx⟩ | ⟨a, len, cap, elems, rest, m, -, hcs, hx, -, -, -, hlen, hel, -, -⟩
  · injection hcs with hcs _
    injection hcs with _ h0 _
    have : ls = [] := List.eq_nil_of_length_eq_zero (by omega)
    rw [hx, this]
    simp [Rows.uptoBulk, lstSz]
  · injection hcs with hcs _
    injection hcs with hA h0 _
    rw [hx]
    simp only [Rows.uptoBulk]
    have key : lstSz ls ≤ Rows.uptoBulkAll (elems.map (·.1)) := by
      refine lstSz_le ls _ (by rw [List.length_map]; omega) ?_
      intro i y d hy hd
      have hil : i < ls.length := (List.getElem?_eq_some_iff.1 hy).1
      have hiv : i < vs.length := by omega
      have hgy : ls[i] = y := by rw [List.getElem?_eq_getElem hil] at hy; exact Option.some.inj hy
      have hby := h2.get i hiv hil
      rw [hgy] at hby
      obtain ⟨b, o, hAe, -, hcell⟩ := hrow (by intro e; rw [e] at hiv; simp at hiv)
      have hci := hcell i _ (List.getElem?_eq_getElem hiv)
      have hie : i < elems.length := by omega
      have h := hel i (by omega)
      have hc : Tryz.prog.cellsOf 23 = 1 := by kernel_rfl
      rw [hc, Nat.mul_one, List.getElem?_eq_getElem hie, Option.bind_eq_some_iff] at h
      obtain ⟨cs, k1, k2⟩ := h
      rw [hAe] at hA
      injection hA with hA
      rw [← hA, add_lit] at k1
      have hl1 := (World.cells?_some k1).2.1
      match cs, hl1 with
      | [u], _ =>
        have hu := cell_of_cells?_one k1
        rw [hci] at hu
        injection hu with hu
        rw [← hu] at k2
        obtain ⟨bs, hb, hbb⟩ := bytes_bulk k2
        have := byt_same hby hb
        have hdd : d = elems[i].1 := by
          rw [List.getElem?_map, List.getElem?_eq_getElem hie] at hd
          exact (Option.some.inj hd).symm
        rw [hdd]
        omega
    omega
end
theorem open_aggB {H : Type} {enc : TypeId × Value → H} {P : Program} {w : World} {base : Nat} {spare : Nat → Bool} {held : Bool} {r : Reach} {b0 : Nat} {t : TypeId} {fs : Array Field} {v : Value} {d : DataW H} {p : List MemPlace}
    (hs : P.underlying t = some (.struct fs)) (hone : oneCellFields P fs = true) (hC : P.cellsOf t = fs.size) (hv : Value.okWide P w r b0 t v) (h : DataW.Trod enc P w base spare held t v d p) :
    ∃ (l : List Value) (n : Nat), v = .agg ⟨l⟩ ∧ l.length = fs.size ∧ ∀ (i : Nat) (f : Field), fs[i]? = some f → ∃ u y, l[i]? = some u ∧ DataW.trod enc P w base spare held n f.type [u] = some y ∧ Rows.uptoBulk y.1 ≤ Rows.uptoBulk d := by
  obtain ⟨cs, rfl, hsz⟩ := okWide_struct hs hv
  obtain ⟨l⟩ := cs
  have hsz : l.length = fs.size := by rw [← hC]; exact hsz
  obtain ⟨fuel, hf⟩ := h
  obtain ⟨xs, n, _, hx, _, hlen, hg⟩ := DataW.trod_struct hs hf
  refine ⟨l, n, rfl, hsz, fun i f hi => ?_⟩
  obtain ⟨o, k⟩ := hone_of hone i f hi
  have hil : i < fs.size := (Array.getElem?_eq_some_iff.1 hi).1
  have := hg i f hi
  simp only [Value.cells, o, k] at this
  have e : (l.drop i).take 1 = [l[i]'(by omega)] := by
    rw [List.drop_eq_getElem_cons (by omega)]; rfl
  rw [e, List.getElem?_eq_getElem (by omega)] at this
  refine ⟨_, _, List.getElem?_eq_getElem (by omega), this, ?_⟩
  have hd : d = .agg (xs.map (·.1)) := congrArg (·.1) hx
  rw [hd]
  simp only [Rows.uptoBulk]
  have := bulk_part (d := (xs[i]'(by omega)).1) (l := xs.map (·.1)) (List.mem_map_of_mem (List.getElem_mem _))
  omega
section
variable {H : Type} {enc : TypeId × Value → H} {W : World} {sp : Nat → Bool} {hd : Bool}
theorem words_trod {n base : Nat} {v : Value} {x : DataW H × List MemPlace} (hf : DataW.trod enc Tryz.prog W base (fun _ => true) hd n 24 [v] = some x) : ∃ l : List UInt16, Row W W.heap.size v (l.map wv) ∧ l.length + 1 ≤ Rows.uptoBulk x.1 := by
  suffices h : ∃ l : List UInt16, Row W W.heap.size v (l.map wv) by
    obtain ⟨l, hl⟩ := h
    have := row_bulk Tryz.underlying24 hf hl
    rw [List.length_map] at this
    exact ⟨l, hl, this⟩
  rcases open_ints Tryz.underlying24 Tryz.underlying22 (by kernel_rfl) hf with ⟨hcs, -⟩ | ⟨a, len, cap, zs, hcs, -, hle, hmax, hall, -, hcell, hwf⟩
  · injection hcs with hcs _
    subst hcs
    exact ⟨[], Row.nil_ _ _⟩
  · injection hcs with hcs _
    subst hcs
    simp only [if_true] at hall
    have hlen : (((zs.take len).map fun n => UInt16.ofNat n.toNat).map wv).length = len := by simp; omega
    refine ⟨(zs.take len).map fun n => UInt16.ofNat n.toNat, ⟨some a, cap, by rw [hlen], by rw [hlen]; exact hle, hmax, (by intro e; cases e), ?_⟩⟩
    · intro hne
      have hp : 0 < zs.length := by
        rw [hall]
        have : len ≠ 0 := by
          intro e0
          apply hne
          exact List.length_eq_zero_iff.1 (hlen.trans e0)
        omega
      obtain ⟨b, off, rfl, hc⟩ := ints_at hcell hp
      refine ⟨b, off, rfl, World.block_lt_of_cell? W ⟨b, off + 0, none⟩ (hc 0 hp), ?_⟩
      intro j u hj
      have hjl : j < len := by
        have := (List.getElem?_eq_some_iff.1 hj).1
        rwa [hlen] at this
      rw [hc j (by omega), ← hj]
      have hz : zs[j]? = some (zs.getD j 0) := by simp [List.getD, List.getElem?_eq_getElem (show j < zs.length by omega)]
      have hb := bounds_u16 (hwf (zs.getD j 0) (List.mem_of_getElem? hz))
      rw [List.getElem?_map, List.getElem?_map, List.getElem?_take, if_pos hjl, hz]
      simp only [Option.map_some]
      congr 2
      show zs.getD j 0 = _
      rw [UInt16.toNat_ofNat']
      have : (zs.getD j 0).toNat % 2 ^ 16 = (zs.getD j 0).toNat := Nat.mod_eq_of_lt (by omega)
      rw [this]
      omega
end
end Go.Proofs.YtaajmfgplhfncaaGreat
namespace Go.Proofs.YtaajmfgplhfncaaGreat
open Go.RowKit
set_option maxRecDepth 100000
structure VOk {α : Type} (T : TypeId) (V : World → Nat → Value → α → Prop) : Prop where
  agg : ∀ {w B v x}, V w B v x → ∃ cs : Array Value, v = .agg cs ∧ (Tryz.prog.info? T).map (·.size) = some cs.size ∧ cs.all (·.oneCell') = true
  str : ∃ d, Tryz.prog.underlying T = some d ∧ d.isRow = true
  upd : ∀ {w w' B v x S}, V w B v x → Upd S w w' → (∀ k ∈ S, B ≤ k) → V w' B v x
  shrink : ∀ {w B v x}, V w B v x → V w w.heap.size v x
def VB {α : Type} (T : TypeId) (V : World → Nat → Value → α → Prop) (w : World) (g : Nat) (x : α) (cs : Array Value) : Prop :=
  Blk w g T cs ∧ V w w.heap.size (.agg cs) x
section
variable {α : Type} {T : TypeId} {V : World → Nat → Value → α → Prop} {w w' : World} {B g : Nat} {v : Value} {x : α} {S : List Nat} {cs zs : Array Value}
theorem VOk.box (h : VOk T V) (hv : V w B (.agg cs) x) : VB T V (w.alloc (.cells cs T)) w.heap.size x cs :=
  ⟨Blk.new _ _ _, h.shrink (h.upd hv ((Upd.refl [] w).alloc _) (by simp))⟩
theorem VB.upd (h : VOk T V) (hb : VB T V w g x cs) (hu : Upd [] w w') : VB T V w' g x cs :=
  ⟨hb.1.upd hu (by simp), h.shrink (h.upd hb.2 hu (by simp))⟩
theorem VB.agg (h : VOk T V) (hb : VB T V w g x cs) : (Tryz.prog.info? T).map (·.size) = some cs.size := by
  obtain ⟨cs', e, h1, -⟩ := h.agg hb.2
  injection e with e
  subst e
  exact h1
theorem VB.val (hb : VB T V w g x cs) : V w w.heap.size (.agg cs) x := hb.2
theorem VB.lt (hb : VB T V w g x cs) : g < w.heap.size := hb.1.lt
theorem VB.load (h : VOk T V) (hb : VB T V w g x cs) : (loadVar T ⟨g, 0, none⟩).run Tryz.prog w = .ok (.agg cs) w := by
  obtain ⟨d, hu, hd⟩ := h.str
  exact run_loadVar_row w g T T cs (0, 0) d hb.1 hu (by cases d <;> first | rfl | (cases hd)) (VB.agg h hb)
theorem VB.loadAt (h : VOk T V) (hb : VB T V w g x cs) : (Instr.loadAt T (.pointer (some ⟨g, 0, none⟩))).run Tryz.prog w = .ok (.agg cs) w := by
  simp only [Instr.loadAt, Instr.sureAddr, Sem.run_bind, Sem.run_pure, Result.andThen_ok, VB.load h hb]
theorem wpList_load_vb {ops : Array Oper} {rest : List Oper} {o : Oper} {a : Act} {Q : Exit → Act → World → Prop} (h : VOk T V) (hb : VB T V w g x cs) (p : Operand) (ho : o.op = .load T p)
    (hx : a.eval p = .pointer (some ⟨g, 0, none⟩)) (hw : Region.wanted o (yielded ops a.tmps) = true) (hK : wpList Tryz.prog ops Q rest (a.put o.dst (.agg cs)) w) : wpList Tryz.prog ops Q (o :: rest) a w := by
  obtain ⟨d, hu, hd⟩ := h.str
  exact BigFrame.wpList_want hw fun _ hK' => wp_load_row T p ho g hx T cs (0, 0) d hb.1 hu (by cases d <;> first | rfl | (cases hd)) (VB.agg h hb) (hK' _ _ hK)
theorem setCells_blk (g : Nat) (T : TypeId) : ∀ (l : List Value) (i : Nat) (w : World) (zs : Array Value), Blk w g T zs → i + l.length ≤ zs.size → Blk (w.setCells g i l) g T (zs.toList.take i ++ l ++ zs.toList.drop (i + l.length)).toArray
  | [], i, w, zs, h, _ => by
    have e : (zs.toList.take i ++ [] ++ zs.toList.drop (i + ([] : List Value).length)).toArray = zs := by simp
    rw [e]; exact h
  | v :: r, i, w, zs, h, hl => by
    simp only [List.length_cons] at hl
    have h1 := setCells_blk g T r (i + 1) _ _ (h.set_ i v) (by simp; omega)
    rw [World.setCells]
    have e : ((zs.setIfInBounds i v).toList.take (i + 1) ++ r ++ (zs.setIfInBounds i v).toList.drop (i + 1 + r.length)).toArray = (zs.toList.take i ++ (v :: r) ++ zs.toList.drop (i + (v :: r).length)).toArray := by
      have hi : i < zs.size := by omega
      congr 1
      rw [Array.toList_setIfInBounds]
      rw [List.take_succ_eq_append_getElem (by simpa using hi), List.take_set_of_le (by omega)]
      rw [List.drop_set_of_lt (by omega)]
      simp [Nat.add_assoc, Nat.add_comm 1]
    rw [e] at h1
    exact h1
theorem setCells_upd (g : Nat) : ∀ (l : List Value) (i : Nat) (w : World), Upd [g] w (w.setCells g i l)
  | [], _, w => Upd.refl _ _
  | v :: r, i, w => by
    rw [World.setCells]
    exact ((Upd.refl [g] w).setCell (by simp) v).trans (setCells_upd g r (i + 1) _) (by simp)
theorem setCells_size (g : Nat) : ∀ (l : List Value) (i : Nat) (w : World), (w.setCells g i l).heap.size = w.heap.size
  | [], _, w => rfl
  | v :: r, i, w => by
    rw [World.setCells, setCells_size g r (i + 1)]
    simp [World.setCell]
theorem blk_loadVar {d : TypeDesc} (hb : Blk w g T cs) (hu : Tryz.prog.underlying T = some d) (hd : d.isRow = true) (hi : (Tryz.prog.info? T).map (·.size) = some cs.size) : (loadVar T ⟨g, 0, none⟩).run Tryz.prog w = .ok (.agg cs) w :=
  run_loadVar_row w g T T cs (0, 0) d hb hu (by cases d <;> first | rfl | (cases hd)) hi
theorem wpList_store_vb {ops : Array Oper} {rest : List Oper} {o : Oper} {a : Act} {Q : Exit → Act → World → Prop} (h : VOk T V) (hb : Blk w g T zs) (hv : V w B (.agg cs) x) (hB : B ≤ g) (hz : zs.size = cs.size) (hgd : o.guard = none) (p q : Operand) (ho : o.op = .store T p q)
    (hx : a.eval p = .pointer (some ⟨g, 0, none⟩)) (hy : a.eval q = .agg cs)
    (hK : ∀ w', VB T V w' g x cs → Upd [g] w w' → w'.heap.size = w.heap.size → wpList Tryz.prog ops Q rest (a.put o.dst undef) w') : wpList Tryz.prog ops Q (o :: rest) a w := by
  obtain ⟨cs', e, h1, h2⟩ := h.agg hv
  injection e with e
  subst e
  have hu := setCells_upd g cs.toList 0 w
  have hl : 0 + cs.toList.length ≤ zs.size := by rw [hz]; simp
  have hb' := setCells_blk g T cs.toList 0 w zs hb hl
  have e : (zs.toList.take 0 ++ cs.toList ++ zs.toList.drop (0 + cs.toList.length)).toArray = cs := by
    have : zs.toList.drop (0 + cs.toList.length) = [] := by rw [List.drop_eq_nil_iff]; simp [hz]
    rw [this]; simp
  rw [e] at hb'
  refine wpList_store_mid hgd T p q ho g 0 cs hx hy ?_ h1 h2 (hK _ ⟨hb', h.shrink (h.upd hv hu (by simpa using hB))⟩ hu (setCells_size _ _ _ _))
  intro j hj
  have hjz : j < zs.size := by omega
  rw [hb.cell, hb.frozen]
  simp [hjz]
theorem results_cell2 {fn : Func} {p q : Tmp} {v b : Value} (h : fn.results = #[.cell p T, .tmp q]) (tmps : Array Value) (w : World) (hp : tmps.getD p undef = .pointer (some ⟨g, 0, none⟩)) (hq : tmps.getD q undef = b) (hb : (loadVar T ⟨g, 0, none⟩).run Tryz.prog w = .ok v w) :
    (results fn tmps).run Tryz.prog w = .ok (.tuple #[v, b]) w := by
  have hp' : tmps[p]?.getD undef = .pointer (some ⟨g, 0, none⟩) := by simpa using hp
  have hq' : tmps[q]?.getD undef = b := by simpa using hq
  simp [results, h, hp', hq', asAddr, hb]
end
end Go.Proofs.YtaajmfgplhfncaaGreat
namespace Go.Proofs.YtaajmfgplhfncaaGreat
open Go.RowKit
set_option maxRecDepth 100000
abbrev strv (xs : List UInt8) : Value := .string ⟨xs.toArray⟩
inductive Fd where
  | val (v : Value)
  | byt (l : List UInt8)
  | row (us : List Value)
  | lst (ls : List (List UInt8))
def FdOk (w : World) (B : Nat) (v : Value) : Fd → Prop
  | .val u => v = u ∧ u.oneCell' = true
  | .byt l => Byt w B v l
  | .row us => Row w B v us
  | .lst ls => Lst w B v ls
section
variable {w w' : World} {B : Nat} {v : Value} {f : Fd} {S : List Nat}
theorem FdOk.upd (h : FdOk w B v f) (hu : Upd S w w') (hs : ∀ k ∈ S, B ≤ k) : FdOk w' B v f := by
  cases f with
  | val u => exact h
  | byt l => exact Row.upd h hu hs
  | row us => exact Row.upd h hu hs
  | lst ls => exact Lst.upd h hu hs
theorem FdOk.shrink (h : FdOk w B v f) : FdOk w w.heap.size v f := by
  cases f with
  | val u => exact h
  | byt l => exact Row.shrink h
  | row us => exact Row.shrink h
  | lst ls => exact Lst.shrink h
theorem row_one {us : List Value} (h : Row w B v us) : v.oneCell' = true := by
  obtain ⟨A, c, rfl, _⟩ := h
  rfl
theorem FdOk.one (h : FdOk w B v f) : v.oneCell' = true := by
  cases f with
  | val u => obtain ⟨rfl, h⟩ := h; exact h
  | byt l => exact row_one h
  | row us => exact row_one h
  | lst ls => obtain ⟨vs, h, _⟩ := h; exact row_one h
end
def GV {α : Type} (fs : α → List Fd) (w : World) (B : Nat) (v : Value) (x : α) : Prop :=
  ∃ cs : Array Value, v = .agg cs ∧ cs.size = (fs x).length ∧ ∀ (i : Nat) (v : Value) (f : Fd), cs[i]? = some v → (fs x)[i]? = some f → FdOk w B v f
section
variable {α : Type} {fs : α → List Fd} {w w' : World} {B i g : Nat} {v : Value} {x : α} {S : List Nat} {cs : Array Value} {f : Fd} {T : TypeId}
theorem GV.upd (h : GV fs w B v x) (hu : Upd S w w') (hs : ∀ k ∈ S, B ≤ k) : GV fs w' B v x := by
  obtain ⟨cs, e, h1, h2⟩ := h
  exact ⟨cs, e, h1, fun i v f k1 k2 => (h2 i v f k1 k2).upd hu hs⟩
theorem GV.shrink (h : GV fs w B v x) : GV fs w w.heap.size v x := by
  obtain ⟨cs, e, h1, h2⟩ := h
  exact ⟨cs, e, h1, fun i v f k1 k2 => (h2 i v f k1 k2).shrink⟩
theorem GV.ok {n : Nat} {d : TypeDesc} (hn : ∀ x, (fs x).length = n) (hi : (Tryz.prog.info? T).map (·.size) = some n) (hd : Tryz.prog.underlying T = some d) (hr : d.isRow = true) : VOk T (GV fs) where
  agg := by
    intro w B v x h
    obtain ⟨cs, e, h1, h2⟩ := h
    refine ⟨cs, e, by rw [hi, h1, hn], ?_⟩
    rw [Array.all_eq_true]
    intro i hi
    have hif : i < (fs x).length := by rw [← h1]; exact hi
    exact (h2 i _ _ (Array.getElem?_eq_getElem hi) (List.getElem?_eq_getElem hif)).one
  str := ⟨d, hd, hr⟩
  upd := fun h hu hs => GV.upd h hu hs
  shrink := fun h => GV.shrink h
theorem GV.at_ (h : GV fs w B (.agg cs) x) (hf : (fs x)[i]? = some f) : ∃ v, cs[i]? = some v ∧ FdOk w B v f := by
  obtain ⟨cs', e, h1, h2⟩ := h
  injection e with e
  subst e
  have hi : i < cs.size := by rw [h1]; exact (List.getElem?_eq_some_iff.1 hf).1
  exact ⟨cs[i], Array.getElem?_eq_getElem hi, h2 i _ f (Array.getElem?_eq_getElem hi) hf⟩
theorem GV.val (h : GV fs w B (.agg cs) x) {u : Value} (hf : (fs x)[i]? = some (.val u)) : cs[i]? = some u := by
  obtain ⟨v, h1, h2, -⟩ := h.at_ hf
  rw [h1, h2]
theorem GV.byt (h : GV fs w B (.agg cs) x) {l : List UInt8} (hf : (fs x)[i]? = some (.byt l)) : ∃ A c, cs[i]? = some (.slice A l.length c) ∧ Byt w B (.slice A l.length c) l := by
  obtain ⟨v, h1, h2⟩ := h.at_ hf
  obtain ⟨A, c, rfl, h3, -⟩ := Byt.form h2 rfl
  exact ⟨A, c, h1, h3⟩
theorem GV.row (h : GV fs w B (.agg cs) x) {us : List Value} (hf : (fs x)[i]? = some (.row us)) {n : Nat} (hn : us.length = n) : ∃ A c, cs[i]? = some (.slice A n c) ∧ Row w B (.slice A n c) us := by
  obtain ⟨v, h1, h2⟩ := h.at_ hf
  obtain ⟨A, c, rfl, h3, -⟩ := Row.formN h2 hn
  exact ⟨A, c, h1, h3⟩
theorem GV.lst (h : GV fs w B (.agg cs) x) {ls : List (List UInt8)} (hf : (fs x)[i]? = some (.lst ls)) : ∃ A c, cs[i]? = some (.slice A ls.length c) ∧ Lst w B (.slice A ls.length c) ls := by
  obtain ⟨v, h1, h2⟩ := h.at_ hf
  obtain ⟨A, c, rfl, h3, -⟩ := h2.form
  exact ⟨A, c, h1, h3⟩
theorem GV.size (h : GV fs w B (.agg cs) x) : cs.size = (fs x).length := by
  obtain ⟨cs', e, h1, -⟩ := h
  injection e with e
  rw [e, h1]
theorem Blk.at_ (h : Blk w g T cs) {v : Value} (hc : cs[i]? = some v) : w.cell? ⟨g, i, none⟩ = some v := (h.cell i).trans hc
theorem GV.start {vs : List Value} (h : All2 (fun v f => FdOk w B v f) vs (fs x)) : GV fs w B (.agg vs.toArray) x := by
  have hl := h.length
  refine ⟨_, rfl, by simpa using hl, fun i v f h1 h2 => ?_⟩
  obtain ⟨hi2, e2⟩ := List.getElem?_eq_some_iff.1 h2
  have h1 : vs[i]? = some v := by simpa using h1
  obtain ⟨hi1, e1⟩ := List.getElem?_eq_some_iff.1 h1
  have := h.get i hi1 hi2
  rw [e1, e2] at this
  exact this
end
end Go.Proofs.YtaajmfgplhfncaaGreat
namespace Go.Proofs.YtaajmfgplhfncaaGreat
open Go.RowKit
set_option maxRecDepth 100000
def apartV (u v : Value) : Prop := ∀ g, u.ownBlock = some g → v.ownBlock ≠ some g
def nextV (v v' : Value) (n : Nat) : Prop := v'.ownBlock = v.ownBlock ∨ ∃ k, v'.ownBlock = some k ∧ n ≤ k
theorem apartV.symm {u v : Value} (h : apartV u v) : apartV v u := fun g hg he => h g he hg
theorem apartV.next {u v v' : Value} {n : Nat} (h : apartV u v) (hn : nextV v v' n) (hu : ∀ g, u.ownBlock = some g → g < n) : apartV u v' := by
  intro g hg he
  rcases hn with hn | ⟨k, hn, hk⟩
  · rw [hn] at he; exact h g hg he
  · rw [hn] at he; injection he with he; have := hu g hg; omega
theorem nextV.refl (v : Value) (n : Nat) : nextV v v n := .inl rfl
theorem nextV.trans {v v' v'' : Value} {n n' : Nat} (h : nextV v v' n) (h' : nextV v' v'' n') (hn : n ≤ n') : nextV v v'' n := by
  rcases h' with h' | ⟨k, h', hk⟩
  · rcases h with h | ⟨j, h, hj⟩
    · exact .inl (h'.trans h)
    · exact .inr ⟨j, h'.trans h, hj⟩
  · exact .inr ⟨k, h', Nat.le_trans hn hk⟩
structure ALoop (e : TypeId) (B p m : Nat) (T : TypeId) (CS : Value → Array Value) (lo : Nat) (wE : World) (v0 : Value) (x : List UInt8) (v : Value) (us : List Value) (wr : World) : Prop where
  sv : Sv wr B p x True
  hm : Blk wr m T (CS v)
  own : Own wr lo e v us
  nx : nextV v0 v wE.heap.size
  up : Upd (p :: m :: v0.ownBlock.toList) wE wr
section
variable {e : TypeId} {B p m lo : Nat} {T : TypeId} {CS : Value → Array Value} {wE wr w2 W2 w3 w4 : World} {v0 v v3 u : Value} {x x2 : List UInt8} {us : List Value}
theorem ALoop.lt (h : ALoop e B p m T CS lo wE v0 x v us wr) : ∀ g, v.ownBlock = some g → lo ≤ g ∧ g < wr.heap.size := fun g hg => h.own.ge hg
theorem ALoop.step (h : ALoop e B p m T CS lo wE v0 x v us wr) (hB : B ≤ lo) (hpm : p ≠ m) (hBm : B ≤ m) (he : e ≠ T) (hes : e ≠ 116) (hu2 : Upd [p] wr w2) (hsv : Sv w2 B p x2 True) (hW : Upd [] w2 W2)
    (hap : Appended W2 lo e v (us ++ [u]) v3 w3) (hu4 : Upd [m] w3 w4) (hm4 : Blk w4 m T (CS v3)) : ALoop e B p m T CS lo wE v0 x2 v3 (us ++ [u]) w4 := by
  obtain ⟨h1, h2, h3⟩ := hap
  have hsv0 := hsv
  obtain ⟨-, pv, hpb, -⟩ := hsv0
  have hmW : Blk W2 m T (CS v) := (h.hm.upd hu2 (by simpa using Ne.symm hpm)).upd hW (by simp)
  have hoW : Own W2 lo e v us := (h.own.upd hu2 (fun g hg hk => by
    obtain ⟨_, qv, hq, _⟩ := h.sv
    have := h.own.ne hq hes g hg
    simp at hk; exact this hk)).upd hW (by simp)
  have hnm : ∀ g, v.ownBlock = some g → g ≠ m := hoW.ne hmW he
  have hnp : ∀ g, v.ownBlock = some g → g ≠ p := hoW.ne (hpb.upd hW (by simp)) hes
  have hlo : ∀ g, v.ownBlock = some g → lo ≤ g := fun g hg => (hoW.ge hg).1
  have hsz : wE.heap.size ≤ W2.heap.size := Nat.le_trans h.up.size (Nat.le_trans hu2.size hW.size)
  have hm3 : Blk w3 m T (CS v) := hmW.upd h2 (fun hk => hnm m (Option.mem_toList.1 hk) rfl)
  refine ⟨((hsv.upd hW (by simp) (by simp)).upd h2 (fun k hk => Nat.le_trans hB (hlo k (Option.mem_toList.1 hk))) (fun hk => hnp p (Option.mem_toList.1 hk) rfl)).upd hu4 (by simpa using hBm) (by simpa using hpm), hm4, h1.upd hu4 (fun g hg hk => ?_), ?_, ?_⟩
  · have := h1.ne hm3 he g hg
    simp at hk; exact this hk
  · refine h.nx.trans (n' := wE.heap.size) ?_ (Nat.le_refl _)
    rcases h3 with h3 | h3
    · exact .inl h3
    · exact .inr ⟨_, h3, hsz⟩
  · refine (((h.up.trans hu2 (by simp)).trans hW (by simp)).trans h2 (fun k hk => ?_)).trans hu4 (by simp)
    rcases h.nx with hn | ⟨j, hn, hj⟩
    · left; rw [hn] at hk; exact List.mem_cons_of_mem _ (List.mem_cons_of_mem _ hk)
    · right
      rw [hn] at hk
      have : k = j := by simpa using hk
      omega
end
theorem u16_eq (k n : UInt16) : ((k.toNat : Int) == (n.toNat : Int)) = decide (k = n) := by
  by_cases h : k = n
  · subst h; simp
  · rw [decide_eq_false h, beq_eq_false_iff_ne]
    intro e
    exact h (UInt16.toNat_inj.1 (by omega))
end Go.Proofs.YtaajmfgplhfncaaGreat
namespace Go.Proofs.YtaajmfgplhfncaaGreat
open Go.RowKit
set_option maxRecDepth 100000
inductive Cel where
  | val (v : Value)
  | byt (l : List UInt8)
def COk (w : World) (B : Nat) (u : Value) : Cel → Prop
  | .val v => u = v ∧ v.oneCell' = true
  | .byt l => Byt w B u l
def prc : List (Value × Value) → List Value
  | [] => []
  | p :: us => p.1 :: p.2 :: prc us
theorem prc_append : ∀ us vs : List (Value × Value), prc (us ++ vs) = prc us ++ prc vs
  | [], _ => rfl
  | p :: us, vs => by simp only [prc, List.cons_append, prc_append us vs]
def Prs (w : World) (lo B : Nat) (e : TypeId) (v : Value) (ls : List (Cel × Cel)) : Prop :=
  ∃ us : List (Value × Value), w.ownsRow lo e 2 v ls.length (prc us) ∧ All2 (fun p c => COk w B p.1 c.1 ∧ COk w B p.2 c.2) us ls
section
variable {w w' : World} {B lo : Nat} {e : TypeId} {v : Value} {ls ms : List (Cel × Cel)} {S : List Nat}
theorem COk.upd {u : Value} {c : Cel} (h : COk w B u c) (hu : Upd S w w') (hB : ∀ k ∈ S, B ≤ k) : COk w' B u c := by
  cases c with
  | val v => exact h
  | byt l => exact Row.upd h hu hB
theorem COk.one {u : Value} {c : Cel} (h : COk w B u c) : u.oneCell' = true := by
  cases c with
  | val v => obtain ⟨rfl, h⟩ := h; exact h
  | byt l => exact byt_oneCell' h
theorem Prs.nil_ (w : World) (lo B : Nat) (e : TypeId) : Prs w lo B e (.slice none 0 0) [] := ⟨[], World.ownsRow_nil w lo _ 2, trivial⟩
theorem Prs.upd (h : Prs w lo B e v ls) (hu : Upd S w w') (hs : ∀ g, v.ownBlock = some g → g ∉ S) (hB : ∀ x ∈ S, B ≤ x) : Prs w' lo B e v ls := by
  obtain ⟨us, h1, h2⟩ := h
  refine ⟨us, ⟨h1.1, ?_⟩, h2.imp fun _ _ hy => ⟨hy.1.upd hu hB, hy.2.upd hu hB⟩⟩
  rcases h1.2 with hn | ⟨g, cap, cur, rfl, hb, hg, rest⟩
  · exact .inl hn
  · exact .inr ⟨g, cap, cur, rfl, hb, (hu.block g (Array.getElem?_eq_some_iff.1 hg).1 (hs g rfl)).trans hg, rest⟩
theorem Prs.ge (h : Prs w lo B e v ls) {g : Nat} (hg : v.ownBlock = some g) : lo ≤ g ∧ g < w.heap.size := by
  obtain ⟨us, h1, _⟩ := h
  exact World.ownsRow.lt h1 g hg
theorem Prs.ne {g : Nat} {t : TypeId} {cs : Array Value} (h : Prs w lo B e v ls) (hb : Blk w g t cs) (hne : e ≠ t) : ∀ k, v.ownBlock = some k → k ≠ g := by
  intro k hk
  obtain ⟨us, h, _⟩ := h
  rcases h.2 with ⟨rfl, _⟩ | ⟨g', cap, cur, rfl, _, hh, _⟩
  · simp [Value.ownBlock] at hk
  · have : g' = k := by simpa [Value.ownBlock] using hk
    subst this
    exact Blk.ne_ (t := e) hh hb hne
theorem Prs.form (h : Prs w lo B e v ls) : ∃ A c, v = .slice A ls.length c ∧ ls.length ≤ c ∧ c ≤ 9223372036854775807 := by
  obtain ⟨us, h1, _⟩ := h
  rcases h1.2 with ⟨rfl, h0⟩ | ⟨g, cap, cur, rfl, hb, hg, hn, hm, hs, ht⟩
  · rw [h0]; exact ⟨none, 0, rfl, Nat.le_refl _, by omega⟩
  · exact ⟨_, cap, rfl, hn, by unfold maxLen at hm; omega⟩
def PAppended (w : World) (lo B : Nat) (e : TypeId) (v : Value) (ls : List (Cel × Cel)) (v' : Value) (w' : World) : Prop :=
  Prs w' lo B e v' ls ∧ Upd v.ownBlock.toList w w' ∧ (v'.ownBlock = v.ownBlock ∨ v'.ownBlock = some w.heap.size)
theorem run_append_prs (t ty e : TypeId) {z : Value} {bytes : Nat} (ht : Tryz.prog.underlying t = some (.slice e)) (hinfo : (Tryz.prog.info? e).map (fun i => (i.zero, i.size, i.bytes)) = some (some z, 2, bytes)) (hzs : z.cells.size = 2)
    (hown : Prs w lo B e v ls) {b : Nat} {x y : Value} {c : Cel × Cel} (hx0 : w.cell? ⟨b, 0, none⟩ = some x) (hx1 : w.cell? ⟨b, 1, none⟩ = some y) (hx : COk w B x c.1) (hy : COk w B y c.2)
    (hlen : (ls.length + 1) * bytes ≤ 140737488355328) (hl63 : ls.length + 1 ≤ 140737488355328) (hbase : lo ≤ w.heap.size) (hB : B ≤ lo) :
    ∃ v' w', (Builtin.append_ #[t, t] ty #[v, .slice (some ⟨b, 0, none⟩) 1 1]).run Tryz.prog w = .ok v' w' ∧ PAppended w lo B e v (ls ++ [c]) v' w' := by
  obtain ⟨i, hi, hz, hsize, hby⟩ := info_parts hinfo
  obtain ⟨us, h1, h2⟩ := hown
  have hcells : ∀ j u, [x, y][j]? = some u → w.cell? ((⟨b, 0, none⟩ : Addr).add j) = some u := by
    intro j u hj
    match j, hj with
    | 0, hj => simp at hj; subst hj; exact hx0
    | 1, hj => simp at hj; subst hj; exact hx1
    | j + 2, hj => simp at hj
  obtain ⟨v', w', hrun, h3, h4, _, h5⟩ := run_append_own_at (P := Tryz.prog) w lo t ty e i _ 2 bytes ht hi hz hsize hby hzs (by omega) v ls.length _ h1 ⟨b, 0, none⟩ 1 1 [x, y] rfl hcells
    (by intro u hu; simp at hu; rcases hu with rfl | rfl; exact hx.one; exact hy.one) (by simp only [maxLen]; omega) (by omega) hbase
  have hu := upd_of_grown h4
  have hge : ∀ x ∈ v.ownBlock.toList, B ≤ x := fun x hx => by
    have := World.ownsRow.lt h1 x (Option.mem_toList.1 hx)
    omega
  refine ⟨v', w', hrun, ⟨us ++ [(x, y)], ?_, ?_⟩, hu, h5⟩
  · rw [List.length_append, prc_append]
    exact h3
  · exact (h2.imp fun _ _ hy => ⟨hy.1.upd hu hge, hy.2.upd hu hge⟩).append ⟨⟨hx.upd hu hge, hy.upd hu hge⟩, trivial⟩
theorem wp_append_prs {o : Oper} {a : Act} {K : Act → World → Prop} {Q : Exit → Act → World → Prop} (s x : Operand) (t : TypeId)
    (ho : o.op = .call { callee := .builtin .append, args := #[s, x], argTypes := #[t, t] }) (e : TypeId) (z : Value) (bytes : Nat)
    (ht : Tryz.prog.underlying t = some (.slice e)) (hinfo : (Tryz.prog.info? e).map (fun i => (i.zero, i.size, i.bytes)) = some (some z, 2, bytes)) (hzs : z.cells.size = 2)
    (hs : a.eval s = v) (hown : Prs w lo B e v ls) {b : Nat} (hxv : a.eval x = .slice (some ⟨b, 0, none⟩) 1 1) {x0 y0 : Value} {c : Cel × Cel} (hx0 : w.cell? ⟨b, 0, none⟩ = some x0) (hx1 : w.cell? ⟨b, 1, none⟩ = some y0) (hx : COk w B x0 c.1) (hy : COk w B y0 c.2)
    (hlen : (ls.length + 1) * bytes ≤ 140737488355328) (hl63 : ls.length + 1 ≤ 140737488355328) (hbase : lo ≤ w.heap.size) (hB : B ≤ lo)
    (h : ∀ v' w', PAppended w lo B e v (ls ++ [c]) v' w' → K (a.put o.dst v') w') : o.wp Tryz.prog a w K Q := by
  obtain ⟨v', w', hrun, h2⟩ := run_append_prs t o.type e ht hinfo hzs hown hx0 hx1 hx hy hlen hl63 hbase hB
  unfold Oper.wp execOp
  simp only [ho, resolve, invoke, builtin, Sem.run_bind, Sem.run_pure, Result.andThen_ok, List.map_toArray, List.map_cons, List.map_nil, hs, hxv, hrun]
  exact h v' w' h2
theorem step_append_prs {ops : Array Oper} {o : Oper} {a : Act} {K : Act → World → Prop} {Q : Exit → Act → World → Prop} {E : Prop} (hgd : o.guard = none) (s x : Operand) (t : TypeId)
    (ho : o.op = .call { callee := .builtin .append, args := #[s, x], argTypes := #[t, t] }) (e : TypeId) (z : Value) (bytes : Nat)
    (ht : Tryz.prog.underlying t = some (.slice e)) (hinfo : (Tryz.prog.info? e).map (fun i => (i.zero, i.size, i.bytes)) = some (some z, 2, bytes)) (hzs : z.cells.size = 2)
    (hs : a.eval s = v) (hown : Prs w lo B e v ls) {b : Nat} (hxv : a.eval x = .slice (some ⟨b, 0, none⟩) 1 1) {x0 y0 : Value} {c : Cel × Cel} (hx0 : w.cell? ⟨b, 0, none⟩ = some x0) (hx1 : w.cell? ⟨b, 1, none⟩ = some y0) (hx : COk w B x0 c.1) (hy : COk w B y0 c.2)
    (hlen : (ls.length + 1) * bytes ≤ 140737488355328) (hl63 : ls.length + 1 ≤ 140737488355328) (hbase : lo ≤ w.heap.size) (hB : B ≤ lo)
    (h : ∀ v' w', PAppended w lo B e v (ls ++ [c]) v' w' → K (a.put o.dst v') w') :
    if Region.wanted o (yielded ops a.tmps) = true then Oper.wp Tryz.prog o a w K Q else E := by
  have hw : Region.wanted o (yielded ops a.tmps) = true := by simp [Region.wanted, hgd]
  rw [if_pos hw]
  exact wp_append_prs s x t ho e z bytes ht hinfo hzs hs hown hxv hx0 hx1 hx hy hlen hl63 hbase hB h
end
structure PLoop (e : TypeId) (B p m : Nat) (T : TypeId) (CS : Value → Array Value) (lo : Nat) (wE : World) (v0 : Value) (x : List UInt8) (v : Value) (ls : List (Cel × Cel)) (wr : World) : Prop where
  sv : Sv wr B p x True
  hm : Blk wr m T (CS v)
  own : Prs wr lo B e v ls
  nx : nextV v0 v wE.heap.size
  up : Upd (p :: m :: v0.ownBlock.toList) wE wr
section
variable {e : TypeId} {B p m lo : Nat} {T : TypeId} {CS : Value → Array Value} {wE wr w2 W2 w3 w4 : World} {v0 v v3 : Value} {x x2 : List UInt8} {ls : List (Cel × Cel)} {c : Cel × Cel}
theorem PLoop.lt (h : PLoop e B p m T CS lo wE v0 x v ls wr) : ∀ g, v.ownBlock = some g → lo ≤ g ∧ g < wr.heap.size := fun _ hg => h.own.ge hg
theorem PLoop.step (h : PLoop e B p m T CS lo wE v0 x v ls wr) (hB : B ≤ lo) (hpm : p ≠ m) (hpB : B ≤ p) (hBm : B ≤ m) (he : e ≠ T) (hes : e ≠ 116) (hu2 : Upd [p] wr w2) (hsv : Sv w2 B p x2 True) (hW : Upd [] w2 W2)
    (hap : PAppended W2 lo B e v (ls ++ [c]) v3 w3) (hu4 : Upd [m] w3 w4) (hm4 : Blk w4 m T (CS v3)) : PLoop e B p m T CS lo wE v0 x2 v3 (ls ++ [c]) w4 := by
  obtain ⟨h1, h2, h3⟩ := hap
  have hsv0 := hsv
  obtain ⟨-, pv, hpb, -⟩ := hsv0
  have hmW : Blk W2 m T (CS v) := (h.hm.upd hu2 (by simpa using Ne.symm hpm)).upd hW (by simp)
  have hoW : Prs W2 lo B e v ls := (h.own.upd hu2 (fun g hg hk => by
    obtain ⟨_, qv, hq, _⟩ := h.sv
    have := h.own.ne hq hes g hg
    simp at hk; exact this hk) (by simpa using hpB)).upd hW (by simp) (by simp)
  have hnm : ∀ g, v.ownBlock = some g → g ≠ m := hoW.ne hmW he
  have hnp : ∀ g, v.ownBlock = some g → g ≠ p := hoW.ne (hpb.upd hW (by simp)) hes
  have hlo : ∀ g, v.ownBlock = some g → lo ≤ g := fun g hg => (hoW.ge hg).1
  have hsz : wE.heap.size ≤ W2.heap.size := Nat.le_trans h.up.size (Nat.le_trans hu2.size hW.size)
  have hm3 : Blk w3 m T (CS v) := hmW.upd h2 (fun hk => hnm m (Option.mem_toList.1 hk) rfl)
  refine ⟨((hsv.upd hW (by simp) (by simp)).upd h2 (fun k hk => Nat.le_trans hB (hlo k (Option.mem_toList.1 hk))) (fun hk => hnp p (Option.mem_toList.1 hk) rfl)).upd hu4 (by simpa using hBm) (by simpa using hpm), hm4, h1.upd hu4 (fun g hg hk => ?_) (by simpa using hBm), ?_, ?_⟩
  · have := h1.ne hm3 he g hg
    simp at hk; exact this hk
  · refine h.nx.trans (n' := wE.heap.size) ?_ (Nat.le_refl _)
    rcases h3 with h3 | h3
    · exact .inl h3
    · exact .inr ⟨_, h3, hsz⟩
  · refine (((h.up.trans hu2 (by simp)).trans hW (by simp)).trans h2 (fun k hk => ?_)).trans hu4 (by simp)
    rcases h.nx with hn | ⟨j, hn, hj⟩
    · left; rw [hn] at hk; exact List.mem_cons_of_mem _ (List.mem_cons_of_mem _ hk)
    · right
      rw [hn] at hk
      have : k = j := by simpa using hk
      omega
end
end Go.Proofs.YtaajmfgplhfncaaGreat
namespace Go.Proofs.YtaajmfgplhfncaaGreat
open Go.RowKit
set_option maxRecDepth 100000
def PrR (w : World) (B : Nat) (v : Value) (ls : List (Cel × Cel)) : Prop :=
  ∃ (A : Option Addr) (c : Nat) (us : List (Value × Value)), v = .slice A ls.length c ∧ ls.length ≤ c ∧ c ≤ maxLen ∧ All2 (fun p c => COk w B p.1 c.1 ∧ COk w B p.2 c.2) us ls ∧
    (ls ≠ [] → ∃ b o, A = some ⟨b, o, none⟩ ∧ b < B ∧ ∀ j u, (prc us)[j]? = some u → w.cell? ⟨b, o + j, none⟩ = some u)
theorem prc_at : ∀ {us : List (Value × Value)} (k : Nat) (h : k < us.length), (prc us)[k * 2]? = some us[k].1 ∧ (prc us)[k * 2 + 1]? = some us[k].2
  | [], k, h => by simp at h
  | p :: us, 0, _ => ⟨rfl, rfl⟩
  | p :: us, k + 1, h => by
    have := prc_at (us := us) k (by simpa using h)
    have e1 : (k + 1) * 2 = k * 2 + 2 := by omega
    rw [e1]
    simpa [prc] using this
section
variable {w w' : World} {B B' lo : Nat} {v u : Value} {ls : List (Cel × Cel)} {S : List Nat} {e : TypeId} {c : Cel}
theorem COk.below (h : COk w B u c) (hb : Below B w w') : COk w' B u c := by
  cases c with
  | val v => exact h
  | byt l => exact Row.below h hb
theorem COk.more (h : COk w B u c) (hB : B ≤ B') : COk w B' u c := by
  cases c with
  | val v => exact h
  | byt l => exact Row.more h hB
theorem COk.shrink (h : COk w B u c) : COk w w.heap.size u c := by
  cases c with
  | val v => exact h
  | byt l => exact Row.shrink h
theorem PrR.below (h : PrR w B v ls) (hb : Below B w w') : PrR w' B v ls := by
  obtain ⟨A, c, us, rfl, h1, h2, h3, h4⟩ := h
  refine ⟨A, c, us, rfl, h1, h2, h3.imp fun _ _ hy => ⟨hy.1.below hb, hy.2.below hb⟩, fun hn => ?_⟩
  obtain ⟨b, o, rfl, hlt, hc⟩ := h4 hn
  exact ⟨b, o, rfl, hlt, fun j u hu => (hb.cell hlt).trans (hc j u hu)⟩
theorem PrR.upd (h : PrR w B v ls) (hu : Upd S w w') (hs : ∀ k ∈ S, B ≤ k) : PrR w' B v ls := by
  obtain ⟨A, c, us, rfl, h1, h2, h3, h4⟩ := h
  refine ⟨A, c, us, rfl, h1, h2, h3.imp fun _ _ hy => ⟨hy.1.upd hu hs, hy.2.upd hu hs⟩, fun hn => ?_⟩
  obtain ⟨b, o, rfl, hlt, hc⟩ := h4 hn
  exact ⟨b, o, rfl, hlt, fun j u hj => hu.cell (hc j u hj) (fun hm => by have := hs _ hm; simp only at this; omega)⟩
theorem PrR.shrink (h : PrR w B v ls) : PrR w w.heap.size v ls := by
  obtain ⟨A, c, us, rfl, h1, h2, h3, h4⟩ := h
  refine ⟨A, c, us, rfl, h1, h2, h3.imp fun _ _ hy => ⟨hy.1.shrink, hy.2.shrink⟩, fun hn => ?_⟩
  obtain ⟨b, o, rfl, hlt, hc⟩ := h4 hn
  have hl : us.length = ls.length := h3.length
  have hpos : 0 < ls.length := List.length_pos_iff.2 hn
  exact ⟨b, o, rfl, World.block_lt_of_cell? w _ (hc 0 _ (prc_at 0 (by omega)).1), hc⟩
theorem PrR.form (h : PrR w B v ls) : ∃ A c, v = .slice A ls.length c ∧ PrR w B (.slice A ls.length c) ls ∧ ls.length ≤ c ∧ c ≤ 9223372036854775807 := by
  have h0 := h
  obtain ⟨A, c, us, rfl, h1, h2, _⟩ := h
  exact ⟨A, c, rfl, h0, h1, by unfold maxLen at h2; omega⟩
theorem PrR.at_ {A : Option Addr} {n c : Nat} (h : PrR w B (.slice A n c) ls) {k : Nat} (hk : k < n) :
    ∃ b o, A = some ⟨b, o, none⟩ ∧ b < B ∧ ∃ hk' : k < ls.length, ∃ x y, w.cell? ⟨b, o + k * 2, none⟩ = some x ∧ w.cell? ⟨b, o + k * 2 + 1, none⟩ = some y ∧ COk w B x (ls[k]'hk').1 ∧ COk w B y (ls[k]'hk').2 := by
  obtain ⟨A1, c1, us, e, h1, h2, h3, h4⟩ := h
  injection e with e1 e2 e3
  subst e1 e2 e3
  obtain ⟨b, o, rfl, hb, hc⟩ := h4 (by intro e; simp [e] at hk)
  have hl : us.length = ls.length := h3.length
  obtain ⟨g1, g2⟩ := prc_at (us := us) k (by omega)
  have hy := h3.get k (by omega) hk
  refine ⟨b, o, rfl, hb, hk, _, _, hc _ _ g1, ?_, hy.1, hy.2⟩
  have := hc _ _ g2
  rw [Nat.add_assoc]
  exact this
theorem PrR.one (h : PrR w B v ls) : v.oneCell' = true := by
  obtain ⟨A, c, us, rfl, _⟩ := h
  rfl
theorem PrR.nil_ (w : World) (B : Nat) : PrR w B (.slice none 0 0) [] := ⟨none, 0, [], rfl, Nat.le_refl _, by unfold maxLen; omega, trivial, fun h => absurd rfl h⟩
theorem Prs.read (h : Prs w lo B e v ls) : PrR w w.heap.size v ls := by
  obtain ⟨us, h1, h2⟩ := h
  rcases h1.2 with ⟨rfl, h0⟩ | ⟨g, cap, cur, rfl, hb, hg, hn, hm, hs, ht⟩
  · have : ls = [] := List.eq_nil_of_length_eq_zero h0
    subst this
    exact PrR.nil_ _ _
  · refine ⟨some ⟨g, 0, none⟩, cap, us, rfl, hn, hm, h2.imp fun _ _ hy => ⟨hy.1.shrink, hy.2.shrink⟩, fun _ => ⟨g, 0, rfl, (Array.getElem?_eq_some_iff.1 hg).1, fun j u hu => ?_⟩⟩
    have := h1.cells (g := g) rfl j u hu
    rwa [add_lit] at this
end
inductive Fm where
  | fd (f : Fd)
  | prs (ls : List (Cel × Cel))
  | cpy (has : Bool) (l : List UInt8)
def FmOk (w : World) (B : Nat) (v : Value) : Fm → Prop
  | .fd f => FdOk w B v f
  | .prs ls => PrR w B v ls
  | .cpy has l => ∃ (A : Option Addr) (c : Nat), v = .slice A l.length c ∧ A.isSome = has ∧ Byt w B (.slice A l.length c) l
section
variable {w w' : World} {B : Nat} {v : Value} {f : Fm} {S : List Nat}
theorem FdOk.below {f : Fd} (h : FdOk w B v f) (hb : Below B w w') : FdOk w' B v f := by
  cases f with
  | val u => exact h
  | byt l => exact Row.below h hb
  | row us => exact Row.below h hb
  | lst ls =>
    obtain ⟨vs, h1, h2⟩ := h
    exact ⟨vs, Row.below h1 hb, h2.imp fun _ _ hy => Row.below hy hb⟩
theorem FmOk.below (h : FmOk w B v f) (hb : Below B w w') : FmOk w' B v f := by
  cases f with
  | fd f => exact FdOk.below h hb
  | prs ls => exact PrR.below h hb
  | cpy has l =>
    obtain ⟨A, c, rfl, h1, h2⟩ := h
    exact ⟨A, c, rfl, h1, Row.below h2 hb⟩
theorem FmOk.upd (h : FmOk w B v f) (hu : Upd S w w') (hs : ∀ k ∈ S, B ≤ k) : FmOk w' B v f := by
  cases f with
  | fd f => exact FdOk.upd h hu hs
  | prs ls => exact PrR.upd h hu hs
  | cpy has l =>
    obtain ⟨A, c, rfl, h1, h2⟩ := h
    exact ⟨A, c, rfl, h1, Row.upd h2 hu hs⟩
theorem FmOk.shrink (h : FmOk w B v f) : FmOk w w.heap.size v f := by
  cases f with
  | fd f => exact FdOk.shrink h
  | prs ls => exact PrR.shrink h
  | cpy has l =>
    obtain ⟨A, c, rfl, h1, h2⟩ := h
    exact ⟨A, c, rfl, h1, Row.shrink h2⟩
theorem FmOk.one (h : FmOk w B v f) : v.oneCell' = true := by
  cases f with
  | fd f => exact FdOk.one h
  | prs ls => exact PrR.one h
  | cpy has l =>
    obtain ⟨A, c, rfl, h1, h2⟩ := h
    rfl
end
def TM (fs : List Fm) (cs : Array Value) (w : World) (B : Nat) : Prop := cs.size = fs.length ∧ ∀ (i : Nat) (v : Value) (f : Fm), cs[i]? = some v → fs[i]? = some f → FmOk w B v f
section
variable {w w' : World} {B i g : Nat} {v : Value} {fs : List Fm} {cs : Array Value} {f : Fm} {S : List Nat}
theorem TM.below (h : TM fs cs w B) (hb : Below B w w') : TM fs cs w' B := ⟨h.1, fun i v f h1 h2 => (h.2 i v f h1 h2).below hb⟩
theorem TM.upd (h : TM fs cs w B) (hu : Upd S w w') (hs : ∀ k ∈ S, B ≤ k) : TM fs cs w' B := ⟨h.1, fun i v f h1 h2 => (h.2 i v f h1 h2).upd hu hs⟩
theorem TM.shrink (h : TM fs cs w B) : TM fs cs w w.heap.size := ⟨h.1, fun i v f h1 h2 => (h.2 i v f h1 h2).shrink⟩
theorem TM.all (h : TM fs cs w B) : cs.all (·.oneCell') = true := by
  rw [Array.all_eq_true]
  intro i hi
  have hif : i < fs.length := by rw [← h.1]; exact hi
  exact (h.2 i _ _ (Array.getElem?_eq_getElem hi) (List.getElem?_eq_getElem hif)).one
theorem TM.at_ (h : TM fs cs w B) (hf : fs[i]? = some f) : ∃ v, cs[i]? = some v ∧ FmOk w B v f := by
  have hi : i < cs.size := by rw [h.1]; exact (List.getElem?_eq_some_iff.1 hf).1
  exact ⟨cs[i], Array.getElem?_eq_getElem hi, h.2 i _ f (Array.getElem?_eq_getElem hi) hf⟩
theorem TM.val (h : TM fs cs w B) {u : Value} (hf : fs[i]? = some (.fd (.val u))) : cs[i]? = some u := by
  obtain ⟨v, h1, h2, -⟩ := h.at_ hf
  rw [h1, h2]
theorem TM.byt (h : TM fs cs w B) {l : List UInt8} (hf : fs[i]? = some (.fd (.byt l))) : ∃ A c, cs[i]? = some (.slice A l.length c) ∧ Byt w B (.slice A l.length c) l := by
  obtain ⟨v, h1, h2⟩ := h.at_ hf
  obtain ⟨A, c, rfl, h3, -⟩ := Byt.form h2 rfl
  exact ⟨A, c, h1, h3⟩
theorem TM.row (h : TM fs cs w B) {us : List Value} (hf : fs[i]? = some (.fd (.row us))) {n : Nat} (hn : us.length = n) : ∃ A c, cs[i]? = some (.slice A n c) ∧ Row w B (.slice A n c) us := by
  obtain ⟨v, h1, h2⟩ := h.at_ hf
  obtain ⟨A, c, rfl, h3, -⟩ := Row.formN h2 hn
  exact ⟨A, c, h1, h3⟩
theorem TM.lst (h : TM fs cs w B) {ls : List (List UInt8)} (hf : fs[i]? = some (.fd (.lst ls))) : ∃ A c, cs[i]? = some (.slice A ls.length c) ∧ Lst w B (.slice A ls.length c) ls := by
  obtain ⟨v, h1, h2⟩ := h.at_ hf
  obtain ⟨A, c, rfl, h3, -⟩ := h2.form
  exact ⟨A, c, h1, h3⟩
theorem TM.prs (h : TM fs cs w B) {ls : List (Cel × Cel)} (hf : fs[i]? = some (.prs ls)) : ∃ A c, cs[i]? = some (.slice A ls.length c) ∧ PrR w B (.slice A ls.length c) ls := by
  obtain ⟨v, h1, h2⟩ := h.at_ hf
  obtain ⟨A, c, rfl, h3, -⟩ := h2.form
  exact ⟨A, c, h1, h3⟩
theorem TM.cpy (h : TM fs cs w B) {has : Bool} {l : List UInt8} (hf : fs[i]? = some (.cpy has l)) : ∃ A c, cs[i]? = some (.slice A l.length c) ∧ A.isSome = has ∧ Byt w B (.slice A l.length c) l := by
  obtain ⟨v, h1, A, c, rfl, h2, h3⟩ := h.at_ hf
  exact ⟨A, c, h1, h2, h3⟩
end
end Go.Proofs.YtaajmfgplhfncaaGreat
namespace Go.Proofs.YtaajmfgplhfncaaGreat
open Go.RowKit
set_option maxRecDepth 100000
theorem ofW_num (x : Wr) (n k : Nat) : ofW (x.num n k) = app (ofW x) (some (be n k)) := by
  obtain ⟨b, bad⟩ := x
  cases bad <;> rfl
theorem ofW_vec (x : Wr) (n : Nat) (d : List UInt8) : ofW (x.vec n d) = app (ofW x) (lpOut n (some d)) := by
  have h : lpOut n (some d) = ofW (Wr.vector n (Wr.plain d)) := by rw [← lpOut_ofW]; rfl
  rw [h, app_ofW]
  congr 1
  simp [behindW, Wr.vector, Wr.inner, Wr.vec, Wr.nil, Wr.plain]
  rfl
theorem app_ksh (l : List (UInt16 × List UInt8)) (g : UInt16) (d : List UInt8) : app (app (ofW (kshW l)) (some (be 2 g.toNat))) (lpOut 2 (some d)) = ofW (kshW (l ++ [(g, d)])) := by
  rw [← kshW_snoc, ofW_vec, ofW_num]
theorem sum_drop {α : Type} (f : α → Nat) (l : List α) (j : Nat) (h : j < l.length) : ((l.drop j).map f).sum = f l[j] + ((l.drop (j + 1)).map f).sum := by
  rw [List.drop_eq_getElem_cons h, List.map_cons, List.sum_cons]
section
variable {w w0 w1 w2 wr w' : World} {base q off pl g : Nat} {v u content ic : Value} {xs bs : List UInt8} {st out : Option (List UInt8)} {S : List Nat} {B R R' need : Nat} {F : World → Prop} {e : Ending} {fid fn : FuncId} {T : TypeId} {c1 args : Array Value}
theorem Em.lt (h : Em w1 q v base off pl ic B F st R w2) : q < w2.heap.size := by
  obtain ⟨v2, hb, -, -⟩ := h.main
  obtain ⟨cs, hbl⟩ := hb.isBlk
  exact hbl.lt
theorem Em.keep1 (h : Em w1 q v base off pl ic B F st R w2) (hb1 : Blk w2 g T c1) (hT : 5 ≠ T) (hqg : q ≠ g)
    (hcall : ∀ v2, BS w2 base q v2 off pl ic st → (∀ y ∈ q :: v2.ownBlock.toList, B ≤ y ∧ y ≠ g) → Calls Tryz.prog fn args w2 (BSP w2 base q v2 off pl ic (app st out))) (hR : olen (app st out) + R' ≤ 17592186044416) :
    Calls Tryz.prog fn args w2 (fun e w' => EmP w1 q v base off pl ic B F (app st out) R' e w' ∧ Blk w' g T c1) := by
  obtain ⟨v2, hb, hu, hv2⟩ := h.main
  cases st with
  | none =>
    have hb' : BS w2 base q (.slice none 0 0) off pl ic none := hb
    have e0 : app none out = none := by cases out <;> rfl
    refine (hcall _ hb' (fun y hy => by simp [Value.ownBlock] at hy; subst hy; exact ⟨h.hq, hqg⟩)).mono fun e w' hp => ?_
    rw [e0] at hp hR ⊢
    obtain ⟨he, v', hb2, hu', hv'⟩ := hp
    have hp' : BSP w2 base q v2 off pl ic none e w' := ⟨he, v2, hb2, hu'.mono (by simp [Value.ownBlock]), .inl rfl⟩
    refine ⟨h.step hu hv2 hp' hR, hb1.upd hu' (fun hk => ?_)⟩
    simp [Value.ownBlock] at hk
    exact hqg hk.symm
  | some bs =>
    have hS : ∀ y ∈ q :: v2.ownBlock.toList, B ≤ y ∧ y ≠ g := by
      intro y hy
      rcases List.mem_cons.1 hy with hy | hy
      · rw [hy]; exact ⟨h.hq, hqg⟩
      · have hy : v2.ownBlock = some y := Option.mem_toList.1 hy
        refine ⟨?_, Own.ne (hb : Bld _ base q v2 off pl ic bs).2.2 hb1 hT y hy⟩
        rcases hv2 with h2 | ⟨g', h2, hg⟩
        · rw [h2] at hy; exact h.hv y hy
        · rw [h2] at hy
          injection hy with hy
          have := h.B1
          omega
    refine (hcall _ hb hS).mono fun e w' hp => ⟨h.step hu hv2 hp hR, ?_⟩
    obtain ⟨_, v', _, hu', _⟩ := hp
    exact hb1.upd hu' (fun hk => (hS _ hk).2 rfl)
theorem Em.u16v (h : Em w1 q v base off pl ic B F st R w2) (hb1 : Blk w2 g T c1) (hT : 5 ≠ T) (hqg : q ≠ g) (n : Nat) (hn : n < 65536) (hR : R' + 2 ≤ R) :
    Calls Tryz.prog 83 #[.pointer (some ⟨q, 0, none⟩), .int .u16 (n : Int)] w2 (fun e w' => EmP w1 q v base off pl ic B F (app st (some (be 2 n))) R' e w' ∧ Blk w' g T c1) := by
  have hr := h.room
  have ho := olen_app st (some (be 2 n))
  have h1 : olen (some (be 2 n)) = 2 := be_len 2 n
  exact h.keep1 hb1 hT hqg (fun v2 hb _ => AddUint16_any hb (by omega) n hn) (by omega)
theorem Em.lp16g (h : Em w1 q v base off pl ic B F st R w2) (hb1 : Blk w2 g T c1) (hT : 5 ≠ T) (hqg : q ≠ g) (hen : Enters fid) (ho : olen out ≤ need)
    (hi : ∀ S : List Nat, (∀ y ∈ S, B ≤ y ∧ y ≠ g) → Emits fid #[.pointer (some ⟨g, 0, none⟩)] S w2 out need) (hR : R' + need + 4 ≤ R) :
    Calls Tryz.prog 84 #[.pointer (some ⟨q, 0, none⟩), .func (.func fid) #[] #[.pointer (some ⟨g, 0, none⟩)]] w2 (fun e w' => EmP w1 q v base off pl ic B F (app st (lpOut 2 out)) R' e w' ∧ Blk w' g T c1) := by
  have hr := h.room
  have ho2 := olen_app st (lpOut 2 out)
  have h1 := olen_lp 2 (by omega) out
  exact h.keep1 hb1 hT hqg (fun v2 hb hS => AddLP16_inner hb h.inner2 (fun _ => hi _ hS) hen (by omega) (by omega)) (by omega)
theorem Em.lp8g (h : Em w1 q v base off pl ic B F st R w2) (hb1 : Blk w2 g T c1) (hT : 5 ≠ T) (hqg : q ≠ g) (hen : Enters fid) (ho : olen out ≤ need)
    (hi : ∀ S : List Nat, (∀ y ∈ S, B ≤ y ∧ y ≠ g) → Emits fid #[.pointer (some ⟨g, 0, none⟩)] S w2 out need) (hR : R' + need + 4 ≤ R) :
    Calls Tryz.prog 91 #[.pointer (some ⟨q, 0, none⟩), .func (.func fid) #[] #[.pointer (some ⟨g, 0, none⟩)]] w2 (fun e w' => EmP w1 q v base off pl ic B F (app st (lpOut 1 out)) R' e w' ∧ Blk w' g T c1) := by
  have hr := h.room
  have ho2 := olen_app st (lpOut 1 out)
  have h1 := olen_lp 1 (by omega) out
  exact h.keep1 hb1 hT hqg (fun v2 hb hS => AddLP8_inner hb h.inner2 (fun _ => hi _ hS) hen (by omega) (by omega)) (by omega)
end
end Go.Proofs.YtaajmfgplhfncaaGreat

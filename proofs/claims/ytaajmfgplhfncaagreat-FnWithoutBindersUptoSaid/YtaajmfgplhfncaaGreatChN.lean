/- ClientHello: the pairs that its cells hold; how long its fields are. -/
import Derived.Test.YtaajmfgplhfncaaGreatChMade
import Derived.Test.YtaajmfgplhfncaaGreatBulk
import Derived.Test.YtaajmfgplhfncaaGreatGP
import Derived.Test.YtaajmfgplhfncaaGreatEmV
import Derived.Test.YtaajmfgplhfncaaGreatChS
namespace Go.Proofs.YtaajmfgplhfncaaGreat
open Go.RowKit
set_option maxRecDepth 100000

def ksC (M : Ch) : List (Cel × Cel) := (M.kg.zip M.kd).map fun x => (.val (wv x.1), .byt x.2)
def piC (M : Ch) : List (Cel × Cel) := (M.pl.zip M.pa).map fun x => (.byt x.1, .val (uv x.2))
/-- how long the fields are -/
structure ChSz (t : Ch) : Prop where
  random : t.random.length ≤ 1048576
  sid : t.sid.length ≤ 1048576
  suites : t.suites.length ≤ 1048576
  comps : t.comps.length ≤ 1048576
  host : t.host.length ≤ 1048576
  curves : t.curves.length ≤ 1048576
  pts : t.pts.length ≤ 1048576
  tick : t.tick.length ≤ 1048576
  sig : t.sig.length ≤ 1048576
  sigc : t.sigc.length ≤ 1048576
  rn : t.rn.length ≤ 1048576
  alpn : lstSz t.alpn ≤ 1048576
  sv : t.sv.length ≤ 1048576
  cookie : t.cookie.length ≤ 1048576
  kg : t.kg.length ≤ 1048576
  kd : lstSz t.kd ≤ 1048576
  modes : t.modes.length ≤ 1048576
  pl : lstSz t.pl ≤ 1048576
  pa : t.pa.length ≤ 1048576
  pb : lstSz t.pb ≤ 1048576
  qtp : t.qtp.length ≤ 1048576
  ech : t.ech.length ≤ 1048576
  exs : t.exs.length ≤ 1048576
theorem lstSz_len (ls : List (List UInt8)) : ls.length ≤ lstSz ls := by
  induction ls with
  | nil => simp
  | cons x ls ih => rw [lstSz_cons, List.length_cons]; omega
theorem lstSz_mem {ls : List (List UInt8)} {x : List UInt8} (h : x ∈ ls) : x.length + 1 ≤ lstSz ls := by
  induction ls with
  | nil => cases h
  | cons y ls ih =>
    rw [lstSz_cons]
    rcases List.mem_cons.1 h with rfl | h
    · omega
    · have := ih h; omega
/-- what the rest of a list costs -/
def cVec (ls : List (List UInt8)) : Nat := (ls.map fun x => 4 + x.length).sum
def cKsh (ls : List (UInt16 × List UInt8)) : Nat := (ls.map fun x => 6 + x.2.length).sum
def cIds (ls : List (List UInt8 × UInt32)) : Nat := (ls.map fun x => 8 + x.1.length).sum
theorem cVec_le (ls : List (List UInt8)) : cVec ls ≤ 4 * lstSz ls := by
  induction ls with
  | nil => simp [cVec]
  | cons x ls ih =>
    have e : cVec (x :: ls) = 4 + x.length + cVec ls := by simp [cVec]
    rw [e, lstSz_cons]; omega
theorem cKsh_le : ∀ (g : List UInt16) (d : List (List UInt8)), cKsh (g.zip d) ≤ 6 * lstSz d
  | [], d => by simp [cKsh]
  | _ :: _, [] => by simp [cKsh]
  | g :: gs, d :: ds => by
    have ih := cKsh_le gs ds
    have e : cKsh ((g :: gs).zip (d :: ds)) = 6 + d.length + cKsh (gs.zip ds) := by simp [cKsh]
    rw [e, lstSz_cons]; omega
theorem cIds_le : ∀ (d : List (List UInt8)) (a : List UInt32), cIds (d.zip a) ≤ 8 * lstSz d
  | [], d => by simp [cIds]
  | _ :: _, [] => by simp [cIds]
  | d :: ds, a :: aa => by
    have ih := cIds_le ds aa
    have e : cIds ((d :: ds).zip (a :: aa)) = 8 + d.length + cIds (ds.zip aa) := by simp [cIds]
    rw [e, lstSz_cons]; omega
theorem cVec_len (ls : List (List UInt8)) : ls.length ≤ cVec ls := by
  induction ls with
  | nil => simp
  | cons x ls ih =>
    have e : cVec (x :: ls) = 4 + x.length + cVec ls := by simp [cVec]
    rw [e, List.length_cons]; omega
theorem cKsh_len (ls : List (UInt16 × List UInt8)) : ls.length ≤ cKsh ls := by
  induction ls with
  | nil => simp
  | cons x ls ih =>
    have e : cKsh (x :: ls) = 6 + x.2.length + cKsh ls := by simp [cKsh]
    rw [e, List.length_cons]; omega
theorem cIds_len (ls : List (List UInt8 × UInt32)) : ls.length ≤ cIds ls := by
  induction ls with
  | nil => simp
  | cons x ls ih =>
    have e : cIds (x :: ls) = 8 + x.1.length + cIds ls := by simp [cIds]
    rw [e, List.length_cons]; omega
theorem kshB_cost (l : List (UInt16 × List UInt8)) : (kshB l).length ≤ cKsh l := by
  induction l with
  | nil => simp [kshB]
  | cons x l ih =>
    have e : kshB (x :: l) = (be 2 x.1.toNat ++ (be 2 x.2.length ++ x.2)) ++ kshB l := rfl
    have e2 : cKsh (x :: l) = 6 + x.2.length + cKsh l := by simp [cKsh]
    rw [e, e2, List.length_append, List.length_append, List.length_append, be_len, be_len]; omega
theorem identsB_cost (l : List (List UInt8 × UInt32)) : (identsB l).length ≤ cIds l := by
  induction l with
  | nil => simp [identsB]
  | cons x l ih =>
    have e : identsB (x :: l) = (be 2 x.1.length ++ (x.1 ++ be 4 x.2.toNat)) ++ identsB l := rfl
    have e2 : cIds (x :: l) = 8 + x.1.length + cIds l := by simp [cIds]
    rw [e, e2, List.length_append, List.length_append, List.length_append, be_len, be_len]; omega
theorem app_ids (l : List (List UInt8 × UInt32)) (d : List UInt8) (g : UInt32) : app (app (ofW (identsW l)) (lpOut 2 (some d))) (some (be 4 g.toNat)) = ofW (identsW (l ++ [(d, g)])) := by
  rw [← identsW_snoc, ofW_num, ofW_vec]
section
variable {t : Ch}
theorem ChSz.vks (h : ChSz t) : cKsh (chKs t) ≤ 8388608 := by have := cKsh_le t.kg t.kd; have := h.kd; unfold chKs; omega
theorem ChSz.vps (h : ChSz t) : cIds (chPs t) ≤ 8388608 := by have := cIds_le t.pl t.pa; have := h.pl; unfold chPs; omega
theorem ChSz.valpn (h : ChSz t) : cVec t.alpn ≤ 8388608 := by have := cVec_le t.alpn; have := h.alpn; omega
theorem ChSz.vpb (h : ChSz t) : cVec t.pb ≤ 8388608 := by have := cVec_le t.pb; have := h.pb; omega
end
end Go.Proofs.YtaajmfgplhfncaaGreat

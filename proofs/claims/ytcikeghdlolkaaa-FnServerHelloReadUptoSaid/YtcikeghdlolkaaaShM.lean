/- ServerHello: the continuations of its maker (printed by gen_shm.py). -/
import Derived.Test.YtcikeghdlolkaaaEmL
import Derived.Test.YtcikeghdlolkaaaAddVal
import Derived.Test.YtcikeghdlolkaaaShW
namespace Go.Proofs.Ytcikeghdlolkaaa
open Go.RowKit
set_option maxRecDepth 100000

/-- what the continuations read -/
def ShE (B m k : Nat) (A1 : Option Addr) (c1 : Nat) (A2 : Option Addr) (c2 : Nat) (A8 : Option Addr) (c8 : Nat) (A11 : Option Addr) (c11 : Nat) (A14 : Option Addr) (c14 : Nat) (A17 : Option Addr) (c17 : Nat) (A18 : Option Addr) (c18 : Nat) (A20 : Option Addr) (c20 : Nat) (t : Sh) (w : World) : Prop :=
  Blk w m 121 #[.slice none 0 0, wv t.vers, .slice A1 t.random.length c1, .slice A2 t.sid.length c2, wv t.suite, bv t.comp, .bool t.ocsp, .bool t.ticket, .bool t.rns, .slice A8 t.rn.length c8, .bool t.ems, strv t.alpn, .slice A11 t.scts.length c11, wv t.sv, wv t.sg, .slice A14 t.sd.length c14, .bool t.sip, wv t.si, .slice A17 t.pts.length c17, .slice A18 t.ech.length c18, .bool t.ack, .slice A20 t.cookie.length c20, wv t.selg] ∧ Blk w k 117 #[.pointer (some ⟨m, 0, none⟩)] ∧
    Byt w B (.slice A1 t.random.length c1) t.random ∧ Byt w B (.slice A2 t.sid.length c2) t.sid ∧ Byt w B (.slice A8 t.rn.length c8) t.rn ∧ Lst w B (.slice A11 t.scts.length c11) t.scts ∧ Byt w B (.slice A14 t.sd.length c14) t.sd ∧ Byt w B (.slice A17 t.pts.length c17) t.pts ∧ Byt w B (.slice A18 t.ech.length c18) t.ech ∧ Byt w B (.slice A20 t.cookie.length c20) t.cookie
def ShG (B m k x : Nat) (Ax : Option Addr) (cx : Nat) (A1 : Option Addr) (c1 : Nat) (A2 : Option Addr) (c2 : Nat) (A8 : Option Addr) (c8 : Nat) (A11 : Option Addr) (c11 : Nat) (A14 : Option Addr) (c14 : Nat) (A17 : Option Addr) (c17 : Nat) (A18 : Option Addr) (c18 : Nat) (A20 : Option Addr) (c20 : Nat) (t : Sh) (xs : List UInt8) (w : World) : Prop :=
  ShE B m k A1 c1 A2 c2 A8 c8 A11 c11 A14 c14 A17 c17 A18 c18 A20 c20 t w ∧ Blk w x 23 #[.slice Ax xs.length cx] ∧ Byt w B (.slice Ax xs.length cx) xs
section
variable {w w' : World} {B m k x : Nat} {Ax : Option Addr} {cx : Nat} {A1 : Option Addr} {c1 : Nat} {A2 : Option Addr} {c2 : Nat} {A8 : Option Addr} {c8 : Nat} {A11 : Option Addr} {c11 : Nat} {A14 : Option Addr} {c14 : Nat} {A17 : Option Addr} {c17 : Nat} {A18 : Option Addr} {c18 : Nat} {A20 : Option Addr} {c20 : Nat} {t : Sh} {xs : List UInt8}
theorem Lst.belowSh {v : Value} {ls : List (List UInt8)} (h : Lst w B v ls) (hb : Below B w w') : Lst w' B v ls := by
  obtain ⟨vs, h1, h2⟩ := h
  exact ⟨vs, Row.below h1 hb, h2.imp fun _ _ hy => Row.below hy hb⟩
theorem ShE.lst (h : ShE B m k A1 c1 A2 c2 A8 c8 A11 c11 A14 c14 A17 c17 A18 c18 A20 c20 t w) : Lst w B (.slice A11 t.scts.length c11) t.scts := by
  obtain ⟨_, _, _, _, _, hq11, _, _, _, _⟩ := h
  exact hq11
theorem ShE.stable (hm : m < B) (hk : k < B) : Stable B (ShE B m k A1 c1 A2 c2 A8 c8 A11 c11 A14 c14 A17 c17 A18 c18 A20 c20 t) := fun _ _ hb hf => by
  obtain ⟨hm1, hk1, hq1, hq2, hq8, hq11, hq14, hq17, hq18, hq20⟩ := hf
  exact ⟨hm1.below hb hm, hk1.below hb hk, Row.below hq1 hb, Row.below hq2 hb, Row.below hq8 hb, Lst.belowSh hq11 hb, Row.below hq14 hb, Row.below hq17 hb, Row.below hq18 hb, Row.below hq20 hb⟩
theorem ShG.stable (hm : m < B) (hk : k < B) (hxb : x < B) : Stable B (ShG B m k x Ax cx A1 c1 A2 c2 A8 c8 A11 c11 A14 c14 A17 c17 A18 c18 A20 c20 t xs) := fun _ _ hb hf =>
  ⟨ShE.stable hm hk _ _ hb hf.1, hf.2.1.below hb hxb, Row.below hf.2.2 hb⟩
/-- what the package writes: the extensions, the body -/
def shOutM (t : Sh) : Option (List UInt8) := app (condOut (t.ocsp) (extOut 5 (some ([])))) (app (condOut (t.ticket) (extOut 35 (some ([])))) (app (condOut (t.rns) (extOut 65281 (lpOut 1 (some (t.rn))))) (app (condOut (t.ems) (extOut 23 (some ([])))) (app (condOut (decide (0 < t.alpn.length)) (extOut 16 (lpOut 2 (lpOut 1 (some (t.alpn)))))) (app (condOut (decide (0 < t.scts.length)) (extOut 18 (lpOut 2 (ofW (vecsW 2 t.scts))))) (app (condOut ((t.sv.toNat : Int) != 0) (extOut 43 (some (be 2 t.sv.toNat)))) (app (condOut ((t.sg.toNat : Int) != 0) (extOut 51 (app (some (be 2 t.sg.toNat)) (lpOut 2 (some (t.sd)))))) (app (condOut (t.sip) (extOut 41 (some (be 2 t.si.toNat)))) (app (condOut (decide (0 < t.cookie.length)) (extOut 44 (lpOut 2 (some (t.cookie))))) (app (condOut ((t.selg.toNat : Int) != 0) (extOut 51 (some (be 2 t.selg.toNat)))) (app (condOut (decide (0 < t.pts.length)) (extOut 11 (lpOut 1 (some (t.pts))))) (app (condOut (decide (0 < t.ech.length)) (extOut 65037 (some (t.ech)))) (condOut (t.ack) (extOut 0 (some ([]))))))))))))))))
theorem olen_shOutM (hZ : ShSz t) : olen (shOutM t) ≤ 12901679358 := by
  have hz8 := hZ.rn; have hz10 := hZ.alpn; have hz14 := hZ.sd; have hz17 := hZ.pts; have hz18 := hZ.ech; have hz20 := hZ.cookie; have hz11 := hZ.scts
  unfold shOutM
  have := olen_app (condOut (t.ocsp) (extOut 5 (some ([])))) (app (condOut (t.ticket) (extOut 35 (some ([])))) (app (condOut (t.rns) (extOut 65281 (lpOut 1 (some (t.rn))))) (app (condOut (t.ems) (extOut 23 (some ([])))) (app (condOut (decide (0 < t.alpn.length)) (extOut 16 (lpOut 2 (lpOut 1 (some (t.alpn)))))) (app (condOut (decide (0 < t.scts.length)) (extOut 18 (lpOut 2 (ofW (vecsW 2 t.scts))))) (app (condOut ((t.sv.toNat : Int) != 0) (extOut 43 (some (be 2 t.sv.toNat)))) (app (condOut ((t.sg.toNat : Int) != 0) (extOut 51 (app (some (be 2 t.sg.toNat)) (lpOut 2 (some (t.sd)))))) (app (condOut (t.sip) (extOut 41 (some (be 2 t.si.toNat)))) (app (condOut (decide (0 < t.cookie.length)) (extOut 44 (lpOut 2 (some (t.cookie))))) (app (condOut ((t.selg.toNat : Int) != 0) (extOut 51 (some (be 2 t.selg.toNat)))) (app (condOut (decide (0 < t.pts.length)) (extOut 11 (lpOut 1 (some (t.pts))))) (app (condOut (decide (0 < t.ech.length)) (extOut 65037 (some (t.ech)))) (condOut (t.ack) (extOut 0 (some ([]))))))))))))))))
  have := olen_cond (t.ocsp) (extOut 5 (some ([])))
  have := olen_ext 5 (some ([]))
  have : olen (some []) = 0 := rfl
  have := olen_app (condOut (t.ticket) (extOut 35 (some ([])))) (app (condOut (t.rns) (extOut 65281 (lpOut 1 (some (t.rn))))) (app (condOut (t.ems) (extOut 23 (some ([])))) (app (condOut (decide (0 < t.alpn.length)) (extOut 16 (lpOut 2 (lpOut 1 (some (t.alpn)))))) (app (condOut (decide (0 < t.scts.length)) (extOut 18 (lpOut 2 (ofW (vecsW 2 t.scts))))) (app (condOut ((t.sv.toNat : Int) != 0) (extOut 43 (some (be 2 t.sv.toNat)))) (app (condOut ((t.sg.toNat : Int) != 0) (extOut 51 (app (some (be 2 t.sg.toNat)) (lpOut 2 (some (t.sd)))))) (app (condOut (t.sip) (extOut 41 (some (be 2 t.si.toNat)))) (app (condOut (decide (0 < t.cookie.length)) (extOut 44 (lpOut 2 (some (t.cookie))))) (app (condOut ((t.selg.toNat : Int) != 0) (extOut 51 (some (be 2 t.selg.toNat)))) (app (condOut (decide (0 < t.pts.length)) (extOut 11 (lpOut 1 (some (t.pts))))) (app (condOut (decide (0 < t.ech.length)) (extOut 65037 (some (t.ech)))) (condOut (t.ack) (extOut 0 (some ([])))))))))))))))
  have := olen_cond (t.ticket) (extOut 35 (some ([])))
  have := olen_ext 35 (some ([]))
  have : olen (some []) = 0 := rfl
  have := olen_app (condOut (t.rns) (extOut 65281 (lpOut 1 (some (t.rn))))) (app (condOut (t.ems) (extOut 23 (some ([])))) (app (condOut (decide (0 < t.alpn.length)) (extOut 16 (lpOut 2 (lpOut 1 (some (t.alpn)))))) (app (condOut (decide (0 < t.scts.length)) (extOut 18 (lpOut 2 (ofW (vecsW 2 t.scts))))) (app (condOut ((t.sv.toNat : Int) != 0) (extOut 43 (some (be 2 t.sv.toNat)))) (app (condOut ((t.sg.toNat : Int) != 0) (extOut 51 (app (some (be 2 t.sg.toNat)) (lpOut 2 (some (t.sd)))))) (app (condOut (t.sip) (extOut 41 (some (be 2 t.si.toNat)))) (app (condOut (decide (0 < t.cookie.length)) (extOut 44 (lpOut 2 (some (t.cookie))))) (app (condOut ((t.selg.toNat : Int) != 0) (extOut 51 (some (be 2 t.selg.toNat)))) (app (condOut (decide (0 < t.pts.length)) (extOut 11 (lpOut 1 (some (t.pts))))) (app (condOut (decide (0 < t.ech.length)) (extOut 65037 (some (t.ech)))) (condOut (t.ack) (extOut 0 (some ([]))))))))))))))
  have := olen_cond (t.rns) (extOut 65281 (lpOut 1 (some (t.rn))))
  have := olen_ext 65281 (lpOut 1 (some (t.rn)))
  have := olen_lp 1 (by omega) (some (t.rn))
  have : olen (some (t.rn)) = (t.rn).length := rfl
  have := olen_app (condOut (t.ems) (extOut 23 (some ([])))) (app (condOut (decide (0 < t.alpn.length)) (extOut 16 (lpOut 2 (lpOut 1 (some (t.alpn)))))) (app (condOut (decide (0 < t.scts.length)) (extOut 18 (lpOut 2 (ofW (vecsW 2 t.scts))))) (app (condOut ((t.sv.toNat : Int) != 0) (extOut 43 (some (be 2 t.sv.toNat)))) (app (condOut ((t.sg.toNat : Int) != 0) (extOut 51 (app (some (be 2 t.sg.toNat)) (lpOut 2 (some (t.sd)))))) (app (condOut (t.sip) (extOut 41 (some (be 2 t.si.toNat)))) (app (condOut (decide (0 < t.cookie.length)) (extOut 44 (lpOut 2 (some (t.cookie))))) (app (condOut ((t.selg.toNat : Int) != 0) (extOut 51 (some (be 2 t.selg.toNat)))) (app (condOut (decide (0 < t.pts.length)) (extOut 11 (lpOut 1 (some (t.pts))))) (app (condOut (decide (0 < t.ech.length)) (extOut 65037 (some (t.ech)))) (condOut (t.ack) (extOut 0 (some ([])))))))))))))
  have := olen_cond (t.ems) (extOut 23 (some ([])))
  have := olen_ext 23 (some ([]))
  have : olen (some []) = 0 := rfl
  have := olen_app (condOut (decide (0 < t.alpn.length)) (extOut 16 (lpOut 2 (lpOut 1 (some (t.alpn)))))) (app (condOut (decide (0 < t.scts.length)) (extOut 18 (lpOut 2 (ofW (vecsW 2 t.scts))))) (app (condOut ((t.sv.toNat : Int) != 0) (extOut 43 (some (be 2 t.sv.toNat)))) (app (condOut ((t.sg.toNat : Int) != 0) (extOut 51 (app (some (be 2 t.sg.toNat)) (lpOut 2 (some (t.sd)))))) (app (condOut (t.sip) (extOut 41 (some (be 2 t.si.toNat)))) (app (condOut (decide (0 < t.cookie.length)) (extOut 44 (lpOut 2 (some (t.cookie))))) (app (condOut ((t.selg.toNat : Int) != 0) (extOut 51 (some (be 2 t.selg.toNat)))) (app (condOut (decide (0 < t.pts.length)) (extOut 11 (lpOut 1 (some (t.pts))))) (app (condOut (decide (0 < t.ech.length)) (extOut 65037 (some (t.ech)))) (condOut (t.ack) (extOut 0 (some ([]))))))))))))
  have := olen_cond (decide (0 < t.alpn.length)) (extOut 16 (lpOut 2 (lpOut 1 (some (t.alpn)))))
  have := olen_ext 16 (lpOut 2 (lpOut 1 (some (t.alpn))))
  have := olen_lp 2 (by omega) (lpOut 1 (some (t.alpn)))
  have := olen_lp 1 (by omega) (some (t.alpn))
  have : olen (some (t.alpn)) = (t.alpn).length := rfl
  have := olen_app (condOut (decide (0 < t.scts.length)) (extOut 18 (lpOut 2 (ofW (vecsW 2 t.scts))))) (app (condOut ((t.sv.toNat : Int) != 0) (extOut 43 (some (be 2 t.sv.toNat)))) (app (condOut ((t.sg.toNat : Int) != 0) (extOut 51 (app (some (be 2 t.sg.toNat)) (lpOut 2 (some (t.sd)))))) (app (condOut (t.sip) (extOut 41 (some (be 2 t.si.toNat)))) (app (condOut (decide (0 < t.cookie.length)) (extOut 44 (lpOut 2 (some (t.cookie))))) (app (condOut ((t.selg.toNat : Int) != 0) (extOut 51 (some (be 2 t.selg.toNat)))) (app (condOut (decide (0 < t.pts.length)) (extOut 11 (lpOut 1 (some (t.pts))))) (app (condOut (decide (0 < t.ech.length)) (extOut 65037 (some (t.ech)))) (condOut (t.ack) (extOut 0 (some ([])))))))))))
  have := olen_cond (decide (0 < t.scts.length)) (extOut 18 (lpOut 2 (ofW (vecsW 2 t.scts))))
  have := olen_ext 18 (lpOut 2 (ofW (vecsW 2 t.scts)))
  have := olen_lp 2 (by omega) (ofW (vecsW 2 t.scts))
  have := olen_vecs 2 t.scts
  have := olen_app (condOut ((t.sv.toNat : Int) != 0) (extOut 43 (some (be 2 t.sv.toNat)))) (app (condOut ((t.sg.toNat : Int) != 0) (extOut 51 (app (some (be 2 t.sg.toNat)) (lpOut 2 (some (t.sd)))))) (app (condOut (t.sip) (extOut 41 (some (be 2 t.si.toNat)))) (app (condOut (decide (0 < t.cookie.length)) (extOut 44 (lpOut 2 (some (t.cookie))))) (app (condOut ((t.selg.toNat : Int) != 0) (extOut 51 (some (be 2 t.selg.toNat)))) (app (condOut (decide (0 < t.pts.length)) (extOut 11 (lpOut 1 (some (t.pts))))) (app (condOut (decide (0 < t.ech.length)) (extOut 65037 (some (t.ech)))) (condOut (t.ack) (extOut 0 (some ([]))))))))))
  have := olen_cond ((t.sv.toNat : Int) != 0) (extOut 43 (some (be 2 t.sv.toNat)))
  have := olen_ext 43 (some (be 2 t.sv.toNat))
  have : olen (some (be 2 t.sv.toNat)) = 2 := be_len _ _
  have := olen_app (condOut ((t.sg.toNat : Int) != 0) (extOut 51 (app (some (be 2 t.sg.toNat)) (lpOut 2 (some (t.sd)))))) (app (condOut (t.sip) (extOut 41 (some (be 2 t.si.toNat)))) (app (condOut (decide (0 < t.cookie.length)) (extOut 44 (lpOut 2 (some (t.cookie))))) (app (condOut ((t.selg.toNat : Int) != 0) (extOut 51 (some (be 2 t.selg.toNat)))) (app (condOut (decide (0 < t.pts.length)) (extOut 11 (lpOut 1 (some (t.pts))))) (app (condOut (decide (0 < t.ech.length)) (extOut 65037 (some (t.ech)))) (condOut (t.ack) (extOut 0 (some ([])))))))))
  have := olen_cond ((t.sg.toNat : Int) != 0) (extOut 51 (app (some (be 2 t.sg.toNat)) (lpOut 2 (some (t.sd)))))
  have := olen_ext 51 (app (some (be 2 t.sg.toNat)) (lpOut 2 (some (t.sd))))
  have := olen_app (some (be 2 t.sg.toNat)) (lpOut 2 (some (t.sd)))
  have : olen (some (be 2 t.sg.toNat)) = 2 := be_len _ _
  have := olen_lp 2 (by omega) (some (t.sd))
  have : olen (some (t.sd)) = (t.sd).length := rfl
  have := olen_app (condOut (t.sip) (extOut 41 (some (be 2 t.si.toNat)))) (app (condOut (decide (0 < t.cookie.length)) (extOut 44 (lpOut 2 (some (t.cookie))))) (app (condOut ((t.selg.toNat : Int) != 0) (extOut 51 (some (be 2 t.selg.toNat)))) (app (condOut (decide (0 < t.pts.length)) (extOut 11 (lpOut 1 (some (t.pts))))) (app (condOut (decide (0 < t.ech.length)) (extOut 65037 (some (t.ech)))) (condOut (t.ack) (extOut 0 (some ([]))))))))
  have := olen_cond (t.sip) (extOut 41 (some (be 2 t.si.toNat)))
  have := olen_ext 41 (some (be 2 t.si.toNat))
  have : olen (some (be 2 t.si.toNat)) = 2 := be_len _ _
  have := olen_app (condOut (decide (0 < t.cookie.length)) (extOut 44 (lpOut 2 (some (t.cookie))))) (app (condOut ((t.selg.toNat : Int) != 0) (extOut 51 (some (be 2 t.selg.toNat)))) (app (condOut (decide (0 < t.pts.length)) (extOut 11 (lpOut 1 (some (t.pts))))) (app (condOut (decide (0 < t.ech.length)) (extOut 65037 (some (t.ech)))) (condOut (t.ack) (extOut 0 (some ([])))))))
  have := olen_cond (decide (0 < t.cookie.length)) (extOut 44 (lpOut 2 (some (t.cookie))))
  have := olen_ext 44 (lpOut 2 (some (t.cookie)))
  have := olen_lp 2 (by omega) (some (t.cookie))
  have : olen (some (t.cookie)) = (t.cookie).length := rfl
  have := olen_app (condOut ((t.selg.toNat : Int) != 0) (extOut 51 (some (be 2 t.selg.toNat)))) (app (condOut (decide (0 < t.pts.length)) (extOut 11 (lpOut 1 (some (t.pts))))) (app (condOut (decide (0 < t.ech.length)) (extOut 65037 (some (t.ech)))) (condOut (t.ack) (extOut 0 (some ([]))))))
  have := olen_cond ((t.selg.toNat : Int) != 0) (extOut 51 (some (be 2 t.selg.toNat)))
  have := olen_ext 51 (some (be 2 t.selg.toNat))
  have : olen (some (be 2 t.selg.toNat)) = 2 := be_len _ _
  have := olen_app (condOut (decide (0 < t.pts.length)) (extOut 11 (lpOut 1 (some (t.pts))))) (app (condOut (decide (0 < t.ech.length)) (extOut 65037 (some (t.ech)))) (condOut (t.ack) (extOut 0 (some ([])))))
  have := olen_cond (decide (0 < t.pts.length)) (extOut 11 (lpOut 1 (some (t.pts))))
  have := olen_ext 11 (lpOut 1 (some (t.pts)))
  have := olen_lp 1 (by omega) (some (t.pts))
  have : olen (some (t.pts)) = (t.pts).length := rfl
  have := olen_app (condOut (decide (0 < t.ech.length)) (extOut 65037 (some (t.ech)))) (condOut (t.ack) (extOut 0 (some ([]))))
  have := olen_cond (decide (0 < t.ech.length)) (extOut 65037 (some (t.ech)))
  have := olen_ext 65037 (some (t.ech))
  have : olen (some (t.ech)) = (t.ech).length := rfl
  have := olen_cond (t.ack) (extOut 0 (some ([])))
  have := olen_ext 0 (some ([]))
  have : olen (some []) = 0 := rfl
  omega
def shBodyA (t : Sh) (xs : List UInt8) : Option (List UInt8) := app (some (be 2 t.vers.toNat)) (app (ablOut 32 t.random) (app (lpOut 1 (some (t.sid))) (app (some (be 2 t.suite.toNat)) (app (some ([UInt8.ofNat t.comp.toNat])) (condOut (decide (0 < xs.length)) (lpOut 2 (some (xs))))))))
theorem olen_shBodyA (hZ : ShSz t) (hxl : xs.length ≤ 34359738368) : olen (shBodyA t xs) ≤ 38654705739 := by
  have hz1 := hZ.random; have hz2 := hZ.sid
  unfold shBodyA
  have := olen_app (some (be 2 t.vers.toNat)) (app (ablOut 32 t.random) (app (lpOut 1 (some (t.sid))) (app (some (be 2 t.suite.toNat)) (app (some ([UInt8.ofNat t.comp.toNat])) (condOut (decide (0 < xs.length)) (lpOut 2 (some (xs))))))))
  have : olen (some (be 2 t.vers.toNat)) = 2 := be_len _ _
  have := olen_app (ablOut 32 t.random) (app (lpOut 1 (some (t.sid))) (app (some (be 2 t.suite.toNat)) (app (some ([UInt8.ofNat t.comp.toNat])) (condOut (decide (0 < xs.length)) (lpOut 2 (some (xs)))))))
  have := olen_abl 32 t.random
  have := olen_app (lpOut 1 (some (t.sid))) (app (some (be 2 t.suite.toNat)) (app (some ([UInt8.ofNat t.comp.toNat])) (condOut (decide (0 < xs.length)) (lpOut 2 (some (xs))))))
  have := olen_lp 1 (by omega) (some (t.sid))
  have : olen (some (t.sid)) = (t.sid).length := rfl
  have := olen_app (some (be 2 t.suite.toNat)) (app (some ([UInt8.ofNat t.comp.toNat])) (condOut (decide (0 < xs.length)) (lpOut 2 (some (xs)))))
  have : olen (some (be 2 t.suite.toNat)) = 2 := be_len _ _
  have := olen_app (some ([UInt8.ofNat t.comp.toNat])) (condOut (decide (0 < xs.length)) (lpOut 2 (some (xs))))
  have : olen (some ([UInt8.ofNat t.comp.toNat])) = ([UInt8.ofNat t.comp.toNat]).length := rfl
  have : [UInt8.ofNat t.comp.toNat].length = 1 := rfl
  have := olen_cond (decide (0 < xs.length)) (lpOut 2 (some (xs)))
  have := olen_lp 2 (by omega) (some (xs))
  have : olen (some (xs)) = (xs).length := rfl
  omega
set_option maxHeartbeats 2000000 in
theorem sh_rna (hm : m < B) (hk : k < B) (hZ : ShSz t) : EmitsF 95 #[.pointer (some ⟨k, 0, none⟩)] B (ShE B m k A1 c1 A2 c2 A8 c8 A11 c11 A14 c14 A17 c17 A18 c18 A20 c20 t) (some (t.rn)) 2147483647 := by
  have hmf : ∀ (fn : Fn) (first cap : Array Value) (w : World), (Instr.makeFunc fn first cap).run Try.prog w = .ok (.func fn first cap) w := fun _ _ _ _ => rfl
  have hz1 := hZ.random
  have hz2 := hZ.sid
  have hz8 := hZ.rn
  have hz10 := hZ.alpn
  have hz14 := hZ.sd
  have hz17 := hZ.pts
  have hz18 := hZ.ech
  have hz20 := hZ.cookie
  have hz11 := hZ.scts
  refine EmitsF.mk (ShE.stable hm hk) (by have hz8 := hZ.rn; have hz10 := hZ.alpn; have hz14 := hZ.sd; have hz17 := hZ.pts; have hz18 := hZ.ech; have hz20 := hZ.cookie; have hz2 := hZ.sid; have hz11 := hZ.scts; have : olen (some (t.rn)) = (t.rn).length := rfl; omega) (by intro args w; kernel_rfl) ?_
  intro w1 q v base off pl ic bs hem
  obtain ⟨hm1, hk1, hq1, hq2, hq8, hq11, hq14, hq17, hq18, hq20⟩ := hem.F
  have d0 := hk1.cell 0
  have cc9 := hm1.cell 9
  simp at d0 cc9
  have H := hid (hem.bytes (R' := 0) hq8 (by omega))
  clear hem hm1 hk1 hq1 hq2 hq8 hq11 hq14 hq17 hq18 hq20
  go_enter Try.func95, Try.ntmps95
  go_wp2_with fail
  refine H.out.mono ?_
  rintro e w2 ⟨rfl, hem⟩
  clear H
  have HM := hid hem
  clear hem
  go_wp2
  go_end0
  exact ⟨rfl, (HM.out.cast (by rfl)).less (by omega)⟩
set_option maxHeartbeats 2000000 in
theorem sh_rn (hm : m < B) (hk : k < B) (hZ : ShSz t) : EmitsF 93 #[.pointer (some ⟨k, 0, none⟩)] B (ShE B m k A1 c1 A2 c2 A8 c8 A11 c11 A14 c14 A17 c17 A18 c18 A20 c20 t) (lpOut 1 (some (t.rn))) 2147483651 := by
  have HE0 := hid (sh_rna (t := t) (A1 := A1) (c1 := c1) (A2 := A2) (c2 := c2) (A8 := A8) (c8 := c8) (A11 := A11) (c11 := c11) (A14 := A14) (c14 := c14) (A17 := A17) (c17 := c17) (A18 := A18) (c18 := c18) (A20 := A20) (c20 := c20) hm hk hZ)
  have hmf : ∀ (fn : Fn) (first cap : Array Value) (w : World), (Instr.makeFunc fn first cap).run Try.prog w = .ok (.func fn first cap) w := fun _ _ _ _ => rfl
  have hz1 := hZ.random
  have hz2 := hZ.sid
  have hz8 := hZ.rn
  have hz10 := hZ.alpn
  have hz14 := hZ.sd
  have hz17 := hZ.pts
  have hz18 := hZ.ech
  have hz20 := hZ.cookie
  have hz11 := hZ.scts
  refine EmitsF.mk (ShE.stable hm hk) (by have hz8 := hZ.rn; have hz10 := hZ.alpn; have hz14 := hZ.sd; have hz17 := hZ.pts; have hz18 := hZ.ech; have hz20 := hZ.cookie; have hz2 := hZ.sid; have hz11 := hZ.scts; have := olen_lp 1 (by omega) (some (t.rn)); have : olen (some (t.rn)) = (t.rn).length := rfl; omega) (by intro args w; kernel_rfl) ?_
  intro w1 q v base off pl ic bs hem
  obtain ⟨hm1, hk1, hq1, hq2, hq8, hq11, hq14, hq17, hq18, hq20⟩ := hem.F
  have H := hid (hem.lp8 (R' := 0) HE0.out (by omega))
  clear hem hm1 hk1 hq1 hq2 hq8 hq11 hq14 hq17 hq18 hq20
  go_enter Try.func93, Try.ntmps93
  go_wp2_with fail
  refine H.out.mono ?_
  rintro e w2 ⟨rfl, hem⟩
  clear H
  have HM := hid hem
  clear hem
  go_wp2
  go_end0
  exact ⟨rfl, (HM.out.cast (by rfl)).less (by omega)⟩
set_option maxHeartbeats 2000000 in
theorem sh_a3 (hm : m < B) (hk : k < B) (hZ : ShSz t) : EmitsF 99 #[.pointer (some ⟨k, 0, none⟩)] B (ShE B m k A1 c1 A2 c2 A8 c8 A11 c11 A14 c14 A17 c17 A18 c18 A20 c20 t) (some (t.alpn)) 2147483647 := by
  have hmf : ∀ (fn : Fn) (first cap : Array Value) (w : World), (Instr.makeFunc fn first cap).run Try.prog w = .ok (.func fn first cap) w := fun _ _ _ _ => rfl
  have hz1 := hZ.random
  have hz2 := hZ.sid
  have hz8 := hZ.rn
  have hz10 := hZ.alpn
  have hz14 := hZ.sd
  have hz17 := hZ.pts
  have hz18 := hZ.ech
  have hz20 := hZ.cookie
  have hz11 := hZ.scts
  refine EmitsF.mk (ShE.stable hm hk) (by have hz8 := hZ.rn; have hz10 := hZ.alpn; have hz14 := hZ.sd; have hz17 := hZ.pts; have hz18 := hZ.ech; have hz20 := hZ.cookie; have hz2 := hZ.sid; have hz11 := hZ.scts; have : olen (some (t.alpn)) = (t.alpn).length := rfl; omega) (by intro args w; kernel_rfl) ?_
  intro w1 q v base off pl ic bs hem
  obtain ⟨hm1, hk1, hq1, hq2, hq8, hq11, hq14, hq17, hq18, hq20⟩ := hem.F
  have d0 := hk1.cell 0
  have cc11 := hm1.cell 11
  simp at d0 cc11
  have HM := hid hem
  clear hem hm1 hk1 hq1 hq2 hq8 hq11 hq14 hq17 hq18 hq20
  go_enter Try.func99, Try.ntmps99
  go_wp2_with (refine wpList_conv_string 9 23 _ rfl Try.underlying9 Try.underlying23 rfl rfl (by omega) ?_; intro wN A9 c9 hyN huN hnN)
  refine (HM.out.bytesOf (R' := 0) huN hyN (fun k hk => (hnN k hk).1) (by omega)).mono ?_
  rintro e w2 ⟨rfl, hem⟩
  clear HM
  have HM := hid hem
  clear hem
  go_wp2
  go_end0
  exact ⟨rfl, (HM.out.cast (by rfl)).less (by omega)⟩
set_option maxHeartbeats 2000000 in
theorem sh_a2 (hm : m < B) (hk : k < B) (hZ : ShSz t) : EmitsF 98 #[.pointer (some ⟨k, 0, none⟩)] B (ShE B m k A1 c1 A2 c2 A8 c8 A11 c11 A14 c14 A17 c17 A18 c18 A20 c20 t) (lpOut 1 (some (t.alpn))) 2147483651 := by
  have HE0 := hid (sh_a3 (t := t) (A1 := A1) (c1 := c1) (A2 := A2) (c2 := c2) (A8 := A8) (c8 := c8) (A11 := A11) (c11 := c11) (A14 := A14) (c14 := c14) (A17 := A17) (c17 := c17) (A18 := A18) (c18 := c18) (A20 := A20) (c20 := c20) hm hk hZ)
  have hmf : ∀ (fn : Fn) (first cap : Array Value) (w : World), (Instr.makeFunc fn first cap).run Try.prog w = .ok (.func fn first cap) w := fun _ _ _ _ => rfl
  have hz1 := hZ.random
  have hz2 := hZ.sid
  have hz8 := hZ.rn
  have hz10 := hZ.alpn
  have hz14 := hZ.sd
  have hz17 := hZ.pts
  have hz18 := hZ.ech
  have hz20 := hZ.cookie
  have hz11 := hZ.scts
  refine EmitsF.mk (ShE.stable hm hk) (by have hz8 := hZ.rn; have hz10 := hZ.alpn; have hz14 := hZ.sd; have hz17 := hZ.pts; have hz18 := hZ.ech; have hz20 := hZ.cookie; have hz2 := hZ.sid; have hz11 := hZ.scts; have := olen_lp 1 (by omega) (some (t.alpn)); have : olen (some (t.alpn)) = (t.alpn).length := rfl; omega) (by intro args w; kernel_rfl) ?_
  intro w1 q v base off pl ic bs hem
  obtain ⟨hm1, hk1, hq1, hq2, hq8, hq11, hq14, hq17, hq18, hq20⟩ := hem.F
  have H := hid (hem.lp8 (R' := 0) HE0.out (by omega))
  clear hem hm1 hk1 hq1 hq2 hq8 hq11 hq14 hq17 hq18 hq20
  go_enter Try.func98, Try.ntmps98
  go_wp2_with fail
  refine H.out.mono ?_
  rintro e w2 ⟨rfl, hem⟩
  clear H
  have HM := hid hem
  clear hem
  go_wp2
  go_end0
  exact ⟨rfl, (HM.out.cast (by rfl)).less (by omega)⟩
set_option maxHeartbeats 2000000 in
theorem sh_a1 (hm : m < B) (hk : k < B) (hZ : ShSz t) : EmitsF 97 #[.pointer (some ⟨k, 0, none⟩)] B (ShE B m k A1 c1 A2 c2 A8 c8 A11 c11 A14 c14 A17 c17 A18 c18 A20 c20 t) (lpOut 2 (lpOut 1 (some (t.alpn)))) 2147483655 := by
  have HE0 := hid (sh_a2 (t := t) (A1 := A1) (c1 := c1) (A2 := A2) (c2 := c2) (A8 := A8) (c8 := c8) (A11 := A11) (c11 := c11) (A14 := A14) (c14 := c14) (A17 := A17) (c17 := c17) (A18 := A18) (c18 := c18) (A20 := A20) (c20 := c20) hm hk hZ)
  have hmf : ∀ (fn : Fn) (first cap : Array Value) (w : World), (Instr.makeFunc fn first cap).run Try.prog w = .ok (.func fn first cap) w := fun _ _ _ _ => rfl
  have hz1 := hZ.random
  have hz2 := hZ.sid
  have hz8 := hZ.rn
  have hz10 := hZ.alpn
  have hz14 := hZ.sd
  have hz17 := hZ.pts
  have hz18 := hZ.ech
  have hz20 := hZ.cookie
  have hz11 := hZ.scts
  refine EmitsF.mk (ShE.stable hm hk) (by have hz8 := hZ.rn; have hz10 := hZ.alpn; have hz14 := hZ.sd; have hz17 := hZ.pts; have hz18 := hZ.ech; have hz20 := hZ.cookie; have hz2 := hZ.sid; have hz11 := hZ.scts; have := olen_lp 2 (by omega) (lpOut 1 (some (t.alpn))); have := olen_lp 1 (by omega) (some (t.alpn)); have : olen (some (t.alpn)) = (t.alpn).length := rfl; omega) (by intro args w; kernel_rfl) ?_
  intro w1 q v base off pl ic bs hem
  obtain ⟨hm1, hk1, hq1, hq2, hq8, hq11, hq14, hq17, hq18, hq20⟩ := hem.F
  have H := hid (hem.lp16 (R' := 0) HE0.out (by omega))
  clear hem hm1 hk1 hq1 hq2 hq8 hq11 hq14 hq17 hq18 hq20
  go_enter Try.func97, Try.ntmps97
  go_wp2_with fail
  refine H.out.mono ?_
  rintro e w2 ⟨rfl, hem⟩
  clear H
  have HM := hid hem
  clear hem
  go_wp2
  go_end0
  exact ⟨rfl, (HM.out.cast (by rfl)).less (by omega)⟩
set_option maxHeartbeats 2000000 in
/-- a vector of the list: the continuation reads the round's own variable -/
theorem sh_item {S : List Nat} {u : Value} {x : List UInt8} (hk : Blk w k 23 #[u]) (hy : Byt w B u x) (hB : B ≤ w.heap.size) (hS : ∀ y ∈ S, B ≤ y ∧ y ≠ k) (hx : x.length ≤ 1099511627776) :
    Emits 102 #[.pointer (some ⟨k, 0, none⟩)] S w (some x) x.length := by
  intro w1 hu base q v off pl ic bs hb hi hq hv hl
  have hk1 := hk.upd hu (fun h => (hS _ h).2 rfl)
  have hy1 : Byt w1 B u x := Row.upd hy hu fun y hy => (hS y hy).1
  obtain ⟨A, c, rfl, hy1, -, -⟩ := Byt.form hy1 rfl
  have H := hid (AddBytes_any (st := some bs) hb (src_of hy1 (by omega) fun g hg => by rcases hv g hg with h | h; exact (hS g h).1; omega) (by show bs.length ≤ _; omega) (by omega))
  have d0 := hk1.cell 0
  simp at d0
  clear hk hk1 hy hy1 hu hv hS hb hi
  go_enter Try.func102, Try.ntmps102
  go_wp2_with fail
  refine H.out.mono ?_
  intro e w2 hp
  obtain ⟨he, hp⟩ := hp
  subst he
  go_wp2
  go_end0
  exact ⟨rfl, hp⟩
set_option maxHeartbeats 2000000 in
theorem sh_l3 (hm : m < B) (hk : k < B) (hZ : ShSz t) : EmitsF 101 #[.pointer (some ⟨k, 0, none⟩)] B (ShE B m k A1 c1 A2 c2 A8 c8 A11 c11 A14 c14 A17 c17 A18 c18 A20 c20 t) (ofW (vecsW 2 t.scts)) 16777216 := by
  have hmf : ∀ (fn : Fn) (first cap : Array Value) (w : World), (Instr.makeFunc fn first cap).run Try.prog w = .ok (.func fn first cap) w := fun _ _ _ _ => rfl
  refine EmitsF.mk (ShE.stable hm hk) (by have := olen_vecs 2 t.scts; have := hZ.scts; omega) (by intro args w; kernel_rfl) ?_
  intro w1 q v base off pl ic bs hem
  obtain ⟨hm1, hk1, hq1, hq2, hq8, hq11, hq14, hq17, hq18, hq20⟩ := hem.F
  have d0 := hk1.cell 0
  have cc := hm1.cell 12
  simp at d0 cc
  have HM := hid hem
  have HX := hid (show (vecsB 2 t.scts).length ≤ 4194304 from hZ.scts)
  have hlen : t.scts.length ≤ 9223372036854775807 := by obtain ⟨_, _, _, _, a, b⟩ := hq11.form; omega
  clear hem hm1 hk1 hq1 hq2 hq8 hq11 hq14 hq17 hq18 hq20
  go_enter Try.func101, Try.ntmps101
  go_wp2_with fail
  go_loopg [10] t.scts.length (fun gk i wr => ∃ j : Nat, j + gk = t.scts.length ∧ i = .int .i64 (j : Int) ∧ Em w1 q v base off pl ic B (ShE B m k A1 c1 A2 c2 A8 c8 A11 c11 A14 c14 A17 c17 A18 c18 A20 c20 t) (app (some bs) (ofW (vecsW 2 (t.scts.take j)))) (16777216 - 2 * (vecsB 2 (t.scts.take j)).length) wr)
  case atStart => exact ⟨0, by omega, rfl, by have h : ofW (vecsW 2 (t.scts.take 0)) = some [] := rfl; rw [h, app_nil]; exact HM.out⟩
  case round =>
    obtain ⟨j, hj0, rfl, hem⟩ := hrel
    have HJ := hid hj0
    have HE := hid hem
    have hj : j ≤ t.scts.length := by omega
    clear hj0
    by_cases hlt : j < t.scts.length
    · obtain ⟨b, o, rfl, hb, hj', A', c', hcell, hy, hl1, hl2⟩ := (ShE.lst hem.F).at_ hlt
      have hB := Nat.le_trans hem.B1 hem.size
      have hg := vecsB_get 2 t.scts j hlt
      have hsn := vecsB_snoc 2 (t.scts.take j) t.scts[j]
      rw [← List.take_succ_eq_append_getElem hlt] at hsn
      have ht1 := vecsB_take 2 t.scts (j + 1)
      have hln : (vecsB 2 (t.scts.take (j + 1))).length = (vecsB 2 (t.scts.take j)).length + (2 + (t.scts[j]).length) := by rw [hsn]; simp [be_len]
      have HS := hid (show app (app (some bs) (ofW (vecsW 2 (t.scts.take j)))) (lpOut 2 (some t.scts[j])) = app (some bs) (ofW (vecsW 2 (t.scts.take (j + 1)))) by rw [app_assoc, app_vecs, ← List.take_succ_eq_append_getElem hlt])
      have hX := HX.out
      have H := hid (hem.item16 (R' := 16777216 - 2 * (vecsB 2 (t.scts.take (j + 1))).length) (u := .slice A' (t.scts[j]).length c') (T := 23) (fid := 102) (out := some t.scts[j]) (need := (t.scts[j]).length) (by decide) (by intro args w; kernel_rfl) (Nat.le_refl _)
        (fun S hS => sh_item (Blk.new _ _ _) (Row.upd hy ((Upd.refl [] _).alloc _) (by simp)) (by simp; omega) hS (by omega)) (by omega))
      clear hem hy hsn ht1 hln hg hX
      go_wp2_with fail
      refine H.out.mono ?_
      rintro e w2 ⟨rfl, hem⟩
      clear H
      go_wp2
      have hj0 := HJ.out
      go_roundg (t.scts.length - (j + 1))
      case measure => omega
      case rel => exact ⟨j + 1, by omega, by go_num, hem.cast HS.out⟩
    · obtain rfl : j = t.scts.length := by have := HJ.out; omega
      clear hem
      go_wp2
      go_end0
      exact ⟨rfl, (HE.out.cast (by rw [List.take_length])).less (by omega)⟩

set_option maxHeartbeats 2000000 in
theorem sh_s1 (hm : m < B) (hk : k < B) (hZ : ShSz t) : EmitsF 100 #[.pointer (some ⟨k, 0, none⟩)] B (ShE B m k A1 c1 A2 c2 A8 c8 A11 c11 A14 c14 A17 c17 A18 c18 A20 c20 t) (lpOut 2 (ofW (vecsW 2 t.scts))) 16777220 := by
  have HE0 := hid (sh_l3 (t := t) (A1 := A1) (c1 := c1) (A2 := A2) (c2 := c2) (A8 := A8) (c8 := c8) (A11 := A11) (c11 := c11) (A14 := A14) (c14 := c14) (A17 := A17) (c17 := c17) (A18 := A18) (c18 := c18) (A20 := A20) (c20 := c20) hm hk hZ)
  have hmf : ∀ (fn : Fn) (first cap : Array Value) (w : World), (Instr.makeFunc fn first cap).run Try.prog w = .ok (.func fn first cap) w := fun _ _ _ _ => rfl
  have hz1 := hZ.random
  have hz2 := hZ.sid
  have hz8 := hZ.rn
  have hz10 := hZ.alpn
  have hz14 := hZ.sd
  have hz17 := hZ.pts
  have hz18 := hZ.ech
  have hz20 := hZ.cookie
  have hz11 := hZ.scts
  refine EmitsF.mk (ShE.stable hm hk) (by have hz8 := hZ.rn; have hz10 := hZ.alpn; have hz14 := hZ.sd; have hz17 := hZ.pts; have hz18 := hZ.ech; have hz20 := hZ.cookie; have hz2 := hZ.sid; have hz11 := hZ.scts; have := olen_lp 2 (by omega) (ofW (vecsW 2 t.scts)); have := olen_vecs 2 t.scts; omega) (by intro args w; kernel_rfl) ?_
  intro w1 q v base off pl ic bs hem
  obtain ⟨hm1, hk1, hq1, hq2, hq8, hq11, hq14, hq17, hq18, hq20⟩ := hem.F
  have H := hid (hem.lp16 (R' := 0) HE0.out (by omega))
  clear hem hm1 hk1 hq1 hq2 hq8 hq11 hq14 hq17 hq18 hq20
  go_enter Try.func100, Try.ntmps100
  go_wp2_with fail
  refine H.out.mono ?_
  rintro e w2 ⟨rfl, hem⟩
  clear H
  have HM := hid hem
  clear hem
  go_wp2
  go_end0
  exact ⟨rfl, (HM.out.cast (by rfl)).less (by omega)⟩
set_option maxHeartbeats 2000000 in
theorem sh_sv (hm : m < B) (hk : k < B) (hZ : ShSz t) : EmitsF 103 #[.pointer (some ⟨k, 0, none⟩)] B (ShE B m k A1 c1 A2 c2 A8 c8 A11 c11 A14 c14 A17 c17 A18 c18 A20 c20 t) (some (be 2 t.sv.toNat)) 2 := by
  have hmf : ∀ (fn : Fn) (first cap : Array Value) (w : World), (Instr.makeFunc fn first cap).run Try.prog w = .ok (.func fn first cap) w := fun _ _ _ _ => rfl
  have hz1 := hZ.random
  have hz2 := hZ.sid
  have hz8 := hZ.rn
  have hz10 := hZ.alpn
  have hz14 := hZ.sd
  have hz17 := hZ.pts
  have hz18 := hZ.ech
  have hz20 := hZ.cookie
  have hz11 := hZ.scts
  refine EmitsF.mk (ShE.stable hm hk) (by have hz8 := hZ.rn; have hz10 := hZ.alpn; have hz14 := hZ.sd; have hz17 := hZ.pts; have hz18 := hZ.ech; have hz20 := hZ.cookie; have hz2 := hZ.sid; have hz11 := hZ.scts; have : olen (some (be 2 t.sv.toNat)) = 2 := be_len _ _; omega) (by intro args w; kernel_rfl) ?_
  intro w1 q v base off pl ic bs hem
  obtain ⟨hm1, hk1, hq1, hq2, hq8, hq11, hq14, hq17, hq18, hq20⟩ := hem.F
  have d0 := hk1.cell 0
  have cc13 := hm1.cell 13
  simp at d0 cc13
  have H := hid (hem.u16 (R' := 0) t.sv.toNat t.sv.toNat_lt (by omega))
  clear hem hm1 hk1 hq1 hq2 hq8 hq11 hq14 hq17 hq18 hq20
  go_enter Try.func103, Try.ntmps103
  go_wp2_with fail
  refine H.out.mono ?_
  rintro e w2 ⟨rfl, hem⟩
  clear H
  have HM := hid hem
  clear hem
  go_wp2
  go_end0
  exact ⟨rfl, (HM.out.cast (by rfl)).less (by omega)⟩
set_option maxHeartbeats 2000000 in
theorem sh_sda (hm : m < B) (hk : k < B) (hZ : ShSz t) : EmitsF 105 #[.pointer (some ⟨k, 0, none⟩)] B (ShE B m k A1 c1 A2 c2 A8 c8 A11 c11 A14 c14 A17 c17 A18 c18 A20 c20 t) (some (t.sd)) 2147483647 := by
  have hmf : ∀ (fn : Fn) (first cap : Array Value) (w : World), (Instr.makeFunc fn first cap).run Try.prog w = .ok (.func fn first cap) w := fun _ _ _ _ => rfl
  have hz1 := hZ.random
  have hz2 := hZ.sid
  have hz8 := hZ.rn
  have hz10 := hZ.alpn
  have hz14 := hZ.sd
  have hz17 := hZ.pts
  have hz18 := hZ.ech
  have hz20 := hZ.cookie
  have hz11 := hZ.scts
  refine EmitsF.mk (ShE.stable hm hk) (by have hz8 := hZ.rn; have hz10 := hZ.alpn; have hz14 := hZ.sd; have hz17 := hZ.pts; have hz18 := hZ.ech; have hz20 := hZ.cookie; have hz2 := hZ.sid; have hz11 := hZ.scts; have : olen (some (t.sd)) = (t.sd).length := rfl; omega) (by intro args w; kernel_rfl) ?_
  intro w1 q v base off pl ic bs hem
  obtain ⟨hm1, hk1, hq1, hq2, hq8, hq11, hq14, hq17, hq18, hq20⟩ := hem.F
  have d0 := hk1.cell 0
  have cc15 := hm1.cell 15
  simp at d0 cc15
  have H := hid (hem.bytes (R' := 0) hq14 (by omega))
  clear hem hm1 hk1 hq1 hq2 hq8 hq11 hq14 hq17 hq18 hq20
  go_enter Try.func105, Try.ntmps105
  go_wp2_with fail
  refine H.out.mono ?_
  rintro e w2 ⟨rfl, hem⟩
  clear H
  have HM := hid hem
  clear hem
  go_wp2
  go_end0
  exact ⟨rfl, (HM.out.cast (by rfl)).less (by omega)⟩
set_option maxHeartbeats 2000000 in
theorem sh_sd (hm : m < B) (hk : k < B) (hZ : ShSz t) : EmitsF 104 #[.pointer (some ⟨k, 0, none⟩)] B (ShE B m k A1 c1 A2 c2 A8 c8 A11 c11 A14 c14 A17 c17 A18 c18 A20 c20 t) (app (some (be 2 t.sg.toNat)) (lpOut 2 (some (t.sd)))) 2147483653 := by
  have HE0 := hid (sh_sda (t := t) (A1 := A1) (c1 := c1) (A2 := A2) (c2 := c2) (A8 := A8) (c8 := c8) (A11 := A11) (c11 := c11) (A14 := A14) (c14 := c14) (A17 := A17) (c17 := c17) (A18 := A18) (c18 := c18) (A20 := A20) (c20 := c20) hm hk hZ)
  have hmf : ∀ (fn : Fn) (first cap : Array Value) (w : World), (Instr.makeFunc fn first cap).run Try.prog w = .ok (.func fn first cap) w := fun _ _ _ _ => rfl
  have hz1 := hZ.random
  have hz2 := hZ.sid
  have hz8 := hZ.rn
  have hz10 := hZ.alpn
  have hz14 := hZ.sd
  have hz17 := hZ.pts
  have hz18 := hZ.ech
  have hz20 := hZ.cookie
  have hz11 := hZ.scts
  refine EmitsF.mk (ShE.stable hm hk) (by have hz8 := hZ.rn; have hz10 := hZ.alpn; have hz14 := hZ.sd; have hz17 := hZ.pts; have hz18 := hZ.ech; have hz20 := hZ.cookie; have hz2 := hZ.sid; have hz11 := hZ.scts; have := olen_app (some (be 2 t.sg.toNat)) (lpOut 2 (some (t.sd))); have : olen (some (be 2 t.sg.toNat)) = 2 := be_len _ _; have := olen_lp 2 (by omega) (some (t.sd)); have : olen (some (t.sd)) = (t.sd).length := rfl; omega) (by intro args w; kernel_rfl) ?_
  intro w1 q v base off pl ic bs hem
  obtain ⟨hm1, hk1, hq1, hq2, hq8, hq11, hq14, hq17, hq18, hq20⟩ := hem.F
  have d0 := hk1.cell 0
  have cc14 := hm1.cell 14
  simp at d0 cc14
  have H := hid (hem.u16 (R' := 2147483651) t.sg.toNat t.sg.toNat_lt (by omega))
  clear hem hm1 hk1 hq1 hq2 hq8 hq11 hq14 hq17 hq18 hq20
  go_enter Try.func104, Try.ntmps104
  go_wp2_with fail
  refine H.out.mono ?_
  rintro e w2 ⟨rfl, hem⟩
  clear H
  obtain ⟨hm1, hk1, hq1, hq2, hq8, hq11, hq14, hq17, hq18, hq20⟩ := hem.F
  have H := hid (hem.lp16 (R' := 0) HE0.out (by omega))
  clear hem hm1 hk1 hq1 hq2 hq8 hq11 hq14 hq17 hq18 hq20
  go_wp2_with fail
  refine H.out.mono ?_
  rintro e w2 ⟨rfl, hem⟩
  clear H
  have HM := hid hem
  clear hem
  go_wp2
  go_end0
  exact ⟨rfl, (HM.out.cast (by rw [app_assoc])).less (by omega)⟩
set_option maxHeartbeats 2000000 in
theorem sh_si (hm : m < B) (hk : k < B) (hZ : ShSz t) : EmitsF 106 #[.pointer (some ⟨k, 0, none⟩)] B (ShE B m k A1 c1 A2 c2 A8 c8 A11 c11 A14 c14 A17 c17 A18 c18 A20 c20 t) (some (be 2 t.si.toNat)) 2 := by
  have hmf : ∀ (fn : Fn) (first cap : Array Value) (w : World), (Instr.makeFunc fn first cap).run Try.prog w = .ok (.func fn first cap) w := fun _ _ _ _ => rfl
  have hz1 := hZ.random
  have hz2 := hZ.sid
  have hz8 := hZ.rn
  have hz10 := hZ.alpn
  have hz14 := hZ.sd
  have hz17 := hZ.pts
  have hz18 := hZ.ech
  have hz20 := hZ.cookie
  have hz11 := hZ.scts
  refine EmitsF.mk (ShE.stable hm hk) (by have hz8 := hZ.rn; have hz10 := hZ.alpn; have hz14 := hZ.sd; have hz17 := hZ.pts; have hz18 := hZ.ech; have hz20 := hZ.cookie; have hz2 := hZ.sid; have hz11 := hZ.scts; have : olen (some (be 2 t.si.toNat)) = 2 := be_len _ _; omega) (by intro args w; kernel_rfl) ?_
  intro w1 q v base off pl ic bs hem
  obtain ⟨hm1, hk1, hq1, hq2, hq8, hq11, hq14, hq17, hq18, hq20⟩ := hem.F
  have d0 := hk1.cell 0
  have cc17 := hm1.cell 17
  simp at d0 cc17
  have H := hid (hem.u16 (R' := 0) t.si.toNat t.si.toNat_lt (by omega))
  clear hem hm1 hk1 hq1 hq2 hq8 hq11 hq14 hq17 hq18 hq20
  go_enter Try.func106, Try.ntmps106
  go_wp2_with fail
  refine H.out.mono ?_
  rintro e w2 ⟨rfl, hem⟩
  clear H
  have HM := hid hem
  clear hem
  go_wp2
  go_end0
  exact ⟨rfl, (HM.out.cast (by rfl)).less (by omega)⟩
set_option maxHeartbeats 2000000 in
theorem sh_cka (hm : m < B) (hk : k < B) (hZ : ShSz t) : EmitsF 108 #[.pointer (some ⟨k, 0, none⟩)] B (ShE B m k A1 c1 A2 c2 A8 c8 A11 c11 A14 c14 A17 c17 A18 c18 A20 c20 t) (some (t.cookie)) 2147483647 := by
  have hmf : ∀ (fn : Fn) (first cap : Array Value) (w : World), (Instr.makeFunc fn first cap).run Try.prog w = .ok (.func fn first cap) w := fun _ _ _ _ => rfl
  have hz1 := hZ.random
  have hz2 := hZ.sid
  have hz8 := hZ.rn
  have hz10 := hZ.alpn
  have hz14 := hZ.sd
  have hz17 := hZ.pts
  have hz18 := hZ.ech
  have hz20 := hZ.cookie
  have hz11 := hZ.scts
  refine EmitsF.mk (ShE.stable hm hk) (by have hz8 := hZ.rn; have hz10 := hZ.alpn; have hz14 := hZ.sd; have hz17 := hZ.pts; have hz18 := hZ.ech; have hz20 := hZ.cookie; have hz2 := hZ.sid; have hz11 := hZ.scts; have : olen (some (t.cookie)) = (t.cookie).length := rfl; omega) (by intro args w; kernel_rfl) ?_
  intro w1 q v base off pl ic bs hem
  obtain ⟨hm1, hk1, hq1, hq2, hq8, hq11, hq14, hq17, hq18, hq20⟩ := hem.F
  have d0 := hk1.cell 0
  have cc21 := hm1.cell 21
  simp at d0 cc21
  have H := hid (hem.bytes (R' := 0) hq20 (by omega))
  clear hem hm1 hk1 hq1 hq2 hq8 hq11 hq14 hq17 hq18 hq20
  go_enter Try.func108, Try.ntmps108
  go_wp2_with fail
  refine H.out.mono ?_
  rintro e w2 ⟨rfl, hem⟩
  clear H
  have HM := hid hem
  clear hem
  go_wp2
  go_end0
  exact ⟨rfl, (HM.out.cast (by rfl)).less (by omega)⟩
set_option maxHeartbeats 2000000 in
theorem sh_ck (hm : m < B) (hk : k < B) (hZ : ShSz t) : EmitsF 107 #[.pointer (some ⟨k, 0, none⟩)] B (ShE B m k A1 c1 A2 c2 A8 c8 A11 c11 A14 c14 A17 c17 A18 c18 A20 c20 t) (lpOut 2 (some (t.cookie))) 2147483651 := by
  have HE0 := hid (sh_cka (t := t) (A1 := A1) (c1 := c1) (A2 := A2) (c2 := c2) (A8 := A8) (c8 := c8) (A11 := A11) (c11 := c11) (A14 := A14) (c14 := c14) (A17 := A17) (c17 := c17) (A18 := A18) (c18 := c18) (A20 := A20) (c20 := c20) hm hk hZ)
  have hmf : ∀ (fn : Fn) (first cap : Array Value) (w : World), (Instr.makeFunc fn first cap).run Try.prog w = .ok (.func fn first cap) w := fun _ _ _ _ => rfl
  have hz1 := hZ.random
  have hz2 := hZ.sid
  have hz8 := hZ.rn
  have hz10 := hZ.alpn
  have hz14 := hZ.sd
  have hz17 := hZ.pts
  have hz18 := hZ.ech
  have hz20 := hZ.cookie
  have hz11 := hZ.scts
  refine EmitsF.mk (ShE.stable hm hk) (by have hz8 := hZ.rn; have hz10 := hZ.alpn; have hz14 := hZ.sd; have hz17 := hZ.pts; have hz18 := hZ.ech; have hz20 := hZ.cookie; have hz2 := hZ.sid; have hz11 := hZ.scts; have := olen_lp 2 (by omega) (some (t.cookie)); have : olen (some (t.cookie)) = (t.cookie).length := rfl; omega) (by intro args w; kernel_rfl) ?_
  intro w1 q v base off pl ic bs hem
  obtain ⟨hm1, hk1, hq1, hq2, hq8, hq11, hq14, hq17, hq18, hq20⟩ := hem.F
  have H := hid (hem.lp16 (R' := 0) HE0.out (by omega))
  clear hem hm1 hk1 hq1 hq2 hq8 hq11 hq14 hq17 hq18 hq20
  go_enter Try.func107, Try.ntmps107
  go_wp2_with fail
  refine H.out.mono ?_
  rintro e w2 ⟨rfl, hem⟩
  clear H
  have HM := hid hem
  clear hem
  go_wp2
  go_end0
  exact ⟨rfl, (HM.out.cast (by rfl)).less (by omega)⟩
set_option maxHeartbeats 2000000 in
theorem sh_sg (hm : m < B) (hk : k < B) (hZ : ShSz t) : EmitsF 109 #[.pointer (some ⟨k, 0, none⟩)] B (ShE B m k A1 c1 A2 c2 A8 c8 A11 c11 A14 c14 A17 c17 A18 c18 A20 c20 t) (some (be 2 t.selg.toNat)) 2 := by
  have hmf : ∀ (fn : Fn) (first cap : Array Value) (w : World), (Instr.makeFunc fn first cap).run Try.prog w = .ok (.func fn first cap) w := fun _ _ _ _ => rfl
  have hz1 := hZ.random
  have hz2 := hZ.sid
  have hz8 := hZ.rn
  have hz10 := hZ.alpn
  have hz14 := hZ.sd
  have hz17 := hZ.pts
  have hz18 := hZ.ech
  have hz20 := hZ.cookie
  have hz11 := hZ.scts
  refine EmitsF.mk (ShE.stable hm hk) (by have hz8 := hZ.rn; have hz10 := hZ.alpn; have hz14 := hZ.sd; have hz17 := hZ.pts; have hz18 := hZ.ech; have hz20 := hZ.cookie; have hz2 := hZ.sid; have hz11 := hZ.scts; have : olen (some (be 2 t.selg.toNat)) = 2 := be_len _ _; omega) (by intro args w; kernel_rfl) ?_
  intro w1 q v base off pl ic bs hem
  obtain ⟨hm1, hk1, hq1, hq2, hq8, hq11, hq14, hq17, hq18, hq20⟩ := hem.F
  have d0 := hk1.cell 0
  have cc22 := hm1.cell 22
  simp at d0 cc22
  have H := hid (hem.u16 (R' := 0) t.selg.toNat t.selg.toNat_lt (by omega))
  clear hem hm1 hk1 hq1 hq2 hq8 hq11 hq14 hq17 hq18 hq20
  go_enter Try.func109, Try.ntmps109
  go_wp2_with fail
  refine H.out.mono ?_
  rintro e w2 ⟨rfl, hem⟩
  clear H
  have HM := hid hem
  clear hem
  go_wp2
  go_end0
  exact ⟨rfl, (HM.out.cast (by rfl)).less (by omega)⟩
set_option maxHeartbeats 2000000 in
theorem sh_pta (hm : m < B) (hk : k < B) (hZ : ShSz t) : EmitsF 111 #[.pointer (some ⟨k, 0, none⟩)] B (ShE B m k A1 c1 A2 c2 A8 c8 A11 c11 A14 c14 A17 c17 A18 c18 A20 c20 t) (some (t.pts)) 2147483647 := by
  have hmf : ∀ (fn : Fn) (first cap : Array Value) (w : World), (Instr.makeFunc fn first cap).run Try.prog w = .ok (.func fn first cap) w := fun _ _ _ _ => rfl
  have hz1 := hZ.random
  have hz2 := hZ.sid
  have hz8 := hZ.rn
  have hz10 := hZ.alpn
  have hz14 := hZ.sd
  have hz17 := hZ.pts
  have hz18 := hZ.ech
  have hz20 := hZ.cookie
  have hz11 := hZ.scts
  refine EmitsF.mk (ShE.stable hm hk) (by have hz8 := hZ.rn; have hz10 := hZ.alpn; have hz14 := hZ.sd; have hz17 := hZ.pts; have hz18 := hZ.ech; have hz20 := hZ.cookie; have hz2 := hZ.sid; have hz11 := hZ.scts; have : olen (some (t.pts)) = (t.pts).length := rfl; omega) (by intro args w; kernel_rfl) ?_
  intro w1 q v base off pl ic bs hem
  obtain ⟨hm1, hk1, hq1, hq2, hq8, hq11, hq14, hq17, hq18, hq20⟩ := hem.F
  have d0 := hk1.cell 0
  have cc18 := hm1.cell 18
  simp at d0 cc18
  have H := hid (hem.bytes (R' := 0) hq17 (by omega))
  clear hem hm1 hk1 hq1 hq2 hq8 hq11 hq14 hq17 hq18 hq20
  go_enter Try.func111, Try.ntmps111
  go_wp2_with fail
  refine H.out.mono ?_
  rintro e w2 ⟨rfl, hem⟩
  clear H
  have HM := hid hem
  clear hem
  go_wp2
  go_end0
  exact ⟨rfl, (HM.out.cast (by rfl)).less (by omega)⟩
set_option maxHeartbeats 2000000 in
theorem sh_pt (hm : m < B) (hk : k < B) (hZ : ShSz t) : EmitsF 110 #[.pointer (some ⟨k, 0, none⟩)] B (ShE B m k A1 c1 A2 c2 A8 c8 A11 c11 A14 c14 A17 c17 A18 c18 A20 c20 t) (lpOut 1 (some (t.pts))) 2147483651 := by
  have HE0 := hid (sh_pta (t := t) (A1 := A1) (c1 := c1) (A2 := A2) (c2 := c2) (A8 := A8) (c8 := c8) (A11 := A11) (c11 := c11) (A14 := A14) (c14 := c14) (A17 := A17) (c17 := c17) (A18 := A18) (c18 := c18) (A20 := A20) (c20 := c20) hm hk hZ)
  have hmf : ∀ (fn : Fn) (first cap : Array Value) (w : World), (Instr.makeFunc fn first cap).run Try.prog w = .ok (.func fn first cap) w := fun _ _ _ _ => rfl
  have hz1 := hZ.random
  have hz2 := hZ.sid
  have hz8 := hZ.rn
  have hz10 := hZ.alpn
  have hz14 := hZ.sd
  have hz17 := hZ.pts
  have hz18 := hZ.ech
  have hz20 := hZ.cookie
  have hz11 := hZ.scts
  refine EmitsF.mk (ShE.stable hm hk) (by have hz8 := hZ.rn; have hz10 := hZ.alpn; have hz14 := hZ.sd; have hz17 := hZ.pts; have hz18 := hZ.ech; have hz20 := hZ.cookie; have hz2 := hZ.sid; have hz11 := hZ.scts; have := olen_lp 1 (by omega) (some (t.pts)); have : olen (some (t.pts)) = (t.pts).length := rfl; omega) (by intro args w; kernel_rfl) ?_
  intro w1 q v base off pl ic bs hem
  obtain ⟨hm1, hk1, hq1, hq2, hq8, hq11, hq14, hq17, hq18, hq20⟩ := hem.F
  have H := hid (hem.lp8 (R' := 0) HE0.out (by omega))
  clear hem hm1 hk1 hq1 hq2 hq8 hq11 hq14 hq17 hq18 hq20
  go_enter Try.func110, Try.ntmps110
  go_wp2_with fail
  refine H.out.mono ?_
  rintro e w2 ⟨rfl, hem⟩
  clear H
  have HM := hid hem
  clear hem
  go_wp2
  go_end0
  exact ⟨rfl, (HM.out.cast (by rfl)).less (by omega)⟩
set_option maxHeartbeats 2000000 in
theorem sh_ec (hm : m < B) (hk : k < B) (hZ : ShSz t) : EmitsF 112 #[.pointer (some ⟨k, 0, none⟩)] B (ShE B m k A1 c1 A2 c2 A8 c8 A11 c11 A14 c14 A17 c17 A18 c18 A20 c20 t) (some (t.ech)) 2147483647 := by
  have hmf : ∀ (fn : Fn) (first cap : Array Value) (w : World), (Instr.makeFunc fn first cap).run Try.prog w = .ok (.func fn first cap) w := fun _ _ _ _ => rfl
  have hz1 := hZ.random
  have hz2 := hZ.sid
  have hz8 := hZ.rn
  have hz10 := hZ.alpn
  have hz14 := hZ.sd
  have hz17 := hZ.pts
  have hz18 := hZ.ech
  have hz20 := hZ.cookie
  have hz11 := hZ.scts
  refine EmitsF.mk (ShE.stable hm hk) (by have hz8 := hZ.rn; have hz10 := hZ.alpn; have hz14 := hZ.sd; have hz17 := hZ.pts; have hz18 := hZ.ech; have hz20 := hZ.cookie; have hz2 := hZ.sid; have hz11 := hZ.scts; have : olen (some (t.ech)) = (t.ech).length := rfl; omega) (by intro args w; kernel_rfl) ?_
  intro w1 q v base off pl ic bs hem
  obtain ⟨hm1, hk1, hq1, hq2, hq8, hq11, hq14, hq17, hq18, hq20⟩ := hem.F
  have d0 := hk1.cell 0
  have cc19 := hm1.cell 19
  simp at d0 cc19
  have H := hid (hem.bytes (R' := 0) hq18 (by omega))
  clear hem hm1 hk1 hq1 hq2 hq8 hq11 hq14 hq17 hq18 hq20
  go_enter Try.func112, Try.ntmps112
  go_wp2_with fail
  refine H.out.mono ?_
  rintro e w2 ⟨rfl, hem⟩
  clear H
  have HM := hid hem
  clear hem
  go_wp2
  go_end0
  exact ⟨rfl, (HM.out.cast (by rfl)).less (by omega)⟩
set_option maxHeartbeats 2000000 in
theorem sh_m1 (hm : m < B) (hk : k < B) (hxb : x < B) (hZ : ShSz t) (hxl : xs.length ≤ 34359738368) : EmitsF 118 #[.pointer (some ⟨k, 0, none⟩)] B (ShG B m k x Ax cx A1 c1 A2 c2 A8 c8 A11 c11 A14 c14 A17 c17 A18 c18 A20 c20 t xs) (some t.sid) 2147483647 := by
  have hmf : ∀ (fn : Fn) (first cap : Array Value) (w : World), (Instr.makeFunc fn first cap).run Try.prog w = .ok (.func fn first cap) w := fun _ _ _ _ => rfl
  have hz1 := hZ.random
  have hz2 := hZ.sid
  have hz8 := hZ.rn
  have hz10 := hZ.alpn
  have hz14 := hZ.sd
  have hz17 := hZ.pts
  have hz18 := hZ.ech
  have hz20 := hZ.cookie
  have hz11 := hZ.scts
  refine EmitsF.mk (ShG.stable hm hk hxb) (by have hz2 := hZ.sid; have hz1 := hZ.random; have : olen (some (t.sid)) = (t.sid).length := rfl; omega) (by intro args w; kernel_rfl) ?_
  intro w1 q v base off pl ic bs hem
  obtain ⟨⟨hm1, hk1, hq1, hq2, hq8, hq11, hq14, hq17, hq18, hq20⟩, hx1, hqx⟩ := hem.F
  have d0 := hk1.cell 0
  have cc3 := hm1.cell 3
  simp at d0 cc3
  have H := hid (hem.bytes (R' := 0) hq2 (by omega))
  clear hem hm1 hk1 hq1 hq2 hq8 hq11 hq14 hq17 hq18 hq20 hx1 hqx
  go_enter Try.func118, Try.ntmps118
  go_wp2_with fail
  refine H.out.mono ?_
  rintro e w2 ⟨rfl, hem⟩
  clear H
  have HM := hid hem
  clear hem
  go_wp2
  go_end0
  exact ⟨rfl, (HM.out.cast (by rfl)).less (by omega)⟩
set_option maxHeartbeats 2000000 in
theorem sh_m2 (hm : m < B) (hk : k < B) (hxb : x < B) (hZ : ShSz t) (hxl : xs.length ≤ 34359738368) : EmitsF 119 #[.pointer (some ⟨x, 0, none⟩)] B (ShG B m k x Ax cx A1 c1 A2 c2 A8 c8 A11 c11 A14 c14 A17 c17 A18 c18 A20 c20 t xs) (some xs) 34359738368 := by
  have hmf : ∀ (fn : Fn) (first cap : Array Value) (w : World), (Instr.makeFunc fn first cap).run Try.prog w = .ok (.func fn first cap) w := fun _ _ _ _ => rfl
  have hz1 := hZ.random
  have hz2 := hZ.sid
  have hz8 := hZ.rn
  have hz10 := hZ.alpn
  have hz14 := hZ.sd
  have hz17 := hZ.pts
  have hz18 := hZ.ech
  have hz20 := hZ.cookie
  have hz11 := hZ.scts
  refine EmitsF.mk (ShG.stable hm hk hxb) (by show xs.length ≤ _; omega) (by intro args w; kernel_rfl) ?_
  intro w1 q v base off pl ic bs hem
  obtain ⟨⟨hm1, hk1, hq1, hq2, hq8, hq11, hq14, hq17, hq18, hq20⟩, hx1, hqx⟩ := hem.F
  have d0 := hx1.cell 0
  simp at d0
  have H := hid (hem.bytes (R' := 0) hqx (by omega))
  clear hem hm1 hk1 hq1 hq2 hq8 hq11 hq14 hq17 hq18 hq20 hx1 hqx
  go_enter Try.func119, Try.ntmps119
  go_wp2_with fail
  refine H.out.mono ?_
  rintro e w2 ⟨rfl, hem⟩
  clear H
  have HM := hid hem
  clear hem
  go_wp2
  go_end0
  exact ⟨rfl, (HM.out.cast (by rfl)).less (by omega)⟩
set_option maxHeartbeats 2000000 in
theorem sh_1 (hm : m < B) (hk : k < B) (hxb : x < B) (hZ : ShSz t) (hxl : xs.length ≤ 34359738368) : EmitsF 116 #[.pointer (some ⟨k, 0, none⟩), .pointer (some ⟨x, 0, none⟩)] B (ShG B m k x Ax cx A1 c1 A2 c2 A8 c8 A11 c11 A14 c14 A17 c17 A18 c18 A20 c20 t xs) (shBodyA t xs) 38654705739 := by
  have HE0 := hid (sh_m1 (t := t) (xs := xs) (Ax := Ax) (cx := cx) (x := x) (A1 := A1) (c1 := c1) (A2 := A2) (c2 := c2) (A8 := A8) (c8 := c8) (A11 := A11) (c11 := c11) (A14 := A14) (c14 := c14) (A17 := A17) (c17 := c17) (A18 := A18) (c18 := c18) (A20 := A20) (c20 := c20) hm hk hxb hZ hxl)
  have HE1 := hid (sh_m2 (t := t) (xs := xs) (Ax := Ax) (cx := cx) (x := x) (A1 := A1) (c1 := c1) (A2 := A2) (c2 := c2) (A8 := A8) (c8 := c8) (A11 := A11) (c11 := c11) (A14 := A14) (c14 := c14) (A17 := A17) (c17 := c17) (A18 := A18) (c18 := c18) (A20 := A20) (c20 := c20) hm hk hxb hZ hxl)
  have hmf : ∀ (fn : Fn) (first cap : Array Value) (w : World), (Instr.makeFunc fn first cap).run Try.prog w = .ok (.func fn first cap) w := fun _ _ _ _ => rfl
  have hz1 := hZ.random
  have hz2 := hZ.sid
  have hz8 := hZ.rn
  have hz10 := hZ.alpn
  have hz14 := hZ.sd
  have hz17 := hZ.pts
  have hz18 := hZ.ech
  have hz20 := hZ.cookie
  have hz11 := hZ.scts
  refine EmitsF.mk (ShG.stable hm hk hxb) (Nat.le_trans (olen_shBodyA hZ hxl) (by omega)) (by intro args w; kernel_rfl) ?_
  intro w1 q v base off pl ic bs hem
  obtain ⟨⟨hm1, hk1, hq1, hq2, hq8, hq11, hq14, hq17, hq18, hq20⟩, hx1, hqx⟩ := hem.F
  have d0 := hk1.cell 0
  have cc1 := hm1.cell 1
  simp at d0 cc1
  have H := hid (hem.u16 (R' := 38654705737) t.vers.toNat t.vers.toNat_lt (by omega))
  clear hem hm1 hk1 hq1 hq2 hq8 hq11 hq14 hq17 hq18 hq20 hx1 hqx
  go_enter Try.func116, Try.ntmps116
  go_wp2_with fail
  refine H.out.mono ?_
  rintro e w2 ⟨rfl, hem⟩
  clear H
  obtain ⟨⟨hm1, hk1, hq1, hq2, hq8, hq11, hq14, hq17, hq18, hq20⟩, hx1, hqx⟩ := hem.F
  have d0 := hk1.cell 0
  have cc2 := hm1.cell 2
  simp at d0 cc2
  have H := hid (hem.abl (n := 32) (R' := 36507222090) hq1 (by omega))
  clear hem hm1 hk1 hq1 hq2 hq8 hq11 hq14 hq17 hq18 hq20 hx1 hqx
  go_wp2_with fail
  refine H.out.mono ?_
  rintro e w2 ⟨rfl, hem⟩
  clear H
  obtain ⟨⟨hm1, hk1, hq1, hq2, hq8, hq11, hq14, hq17, hq18, hq20⟩, hx1, hqx⟩ := hem.F
  have H := hid (hem.lp8 (R' := 34359738439) HE0.out (by omega))
  clear hem hm1 hk1 hq1 hq2 hq8 hq11 hq14 hq17 hq18 hq20 hx1 hqx
  go_wp2_with fail
  refine H.out.mono ?_
  rintro e w2 ⟨rfl, hem⟩
  clear H
  obtain ⟨⟨hm1, hk1, hq1, hq2, hq8, hq11, hq14, hq17, hq18, hq20⟩, hx1, hqx⟩ := hem.F
  have d0 := hk1.cell 0
  have cc4 := hm1.cell 4
  simp at d0 cc4
  have H := hid (hem.u16 (R' := 34359738437) t.suite.toNat t.suite.toNat_lt (by omega))
  clear hem hm1 hk1 hq1 hq2 hq8 hq11 hq14 hq17 hq18 hq20 hx1 hqx
  go_wp2_with fail
  refine H.out.mono ?_
  rintro e w2 ⟨rfl, hem⟩
  clear H
  obtain ⟨⟨hm1, hk1, hq1, hq2, hq8, hq11, hq14, hq17, hq18, hq20⟩, hx1, hqx⟩ := hem.F
  have d0 := hk1.cell 0
  have cc5 := hm1.cell 5
  simp at d0 cc5
  have H := hid (hem.u8 (R' := 34359738436) t.comp.toNat t.comp.toNat_lt (by omega))
  clear hem hm1 hk1 hq1 hq2 hq8 hq11 hq14 hq17 hq18 hq20 hx1 hqx
  go_wp2_with fail
  refine H.out.mono ?_
  rintro e w2 ⟨rfl, hem⟩
  clear H
  obtain ⟨⟨hm1, hk1, hq1, hq2, hq8, hq11, hq14, hq17, hq18, hq20⟩, hx1, hqx⟩ := hem.F
  have e0 := hx1.cell 0
  simp at e0
  have HM := hid hem
  clear hem hm1 hk1 hq1 hq2 hq8 hq11 hq14 hq17 hq18 hq20 hx1 hqx
  go_upto_if 33 with fail
  rcases bcase (decide (0 < xs.length)) with hz | hz
  · try rw [hz]
    have hem := HM.out
    clear HM
    obtain ⟨⟨hm1, hk1, hq1, hq2, hq8, hq11, hq14, hq17, hq18, hq20⟩, hx1, hqx⟩ := hem.F
    have H := hid (hem.lp16 (R' := 64) HE1.out (by omega))
    clear hem hm1 hk1 hq1 hq2 hq8 hq11 hq14 hq17 hq18 hq20 hx1 hqx
    go_wp2_with fail
    refine H.out.mono ?_
    rintro e w2 ⟨rfl, hem⟩
    clear H
    have HM := hid hem
    clear hem
    go_wp2
    go_end0
    exact ⟨rfl, (HM.out.cast (by unfold shBodyA; rw [hz]; simp only [condOut_true, extOut, lpOut_empty, app_assoc])).less (by omega)⟩
  · try rw [hz]
    go_wp2
    go_end0
    exact ⟨rfl, (HM.out.cast (by unfold shBodyA; rw [hz]; simp only [condOut_false, app_nil, app_assoc])).less (by omega)⟩
end
end Go.Proofs.Ytcikeghdlolkaaa

/- ClientHello as a value. -/
import Derived.Test.YtaajmfgplhfncaaGreatChS
import Derived.Test.YtaajmfgplhfncaaGreatGV
import Derived.Test.YtaajmfgplhfncaaGreatUGen
import Derived.Test.YtaajmfgplhfncaaGreatSpecW
namespace Go.Proofs.YtaajmfgplhfncaaGreat
open Go.RowKit
set_option maxRecDepth 100000

/-- what the cells hold -/
def chFd (t : Ch) : List Fd := [.val (wv t.vers), .byt t.random, .byt t.sid, .row (t.suites.map wv), .byt t.comps, .val (strv t.host), .val (.bool t.ocsp), .row (t.curves.map wv), .byt t.pts, .val (.bool t.ticket), .byt t.tick, .row (t.sig.map wv), .row (t.sigc.map wv), .val (.bool t.rns), .byt t.rn, .val (.bool t.ems),
  .row (t.alpn.map strv), .val (.bool t.scts), .row (t.sv.map wv), .byt t.cookie, .row (t.kg.map wv), .lst t.kd, .val (.bool t.early), .byt t.modes, .lst t.pl, .row (t.pa.map uv), .lst t.pb, .val (.bool t.quic), .byt t.qtp, .byt t.ech, .row (t.exs.map wv)]
abbrev ChV := GV chFd
theorem ChV.ok : VOk 29 ChV := GV.ok (n := 31) (fun _ => rfl) (by kernel_rfl) Tryz.underlying29 rfl
theorem ChV.okT : VOk 72 ChV := GV.ok (n := 31) (fun _ => rfl) (by kernel_rfl) Tryz.underlying72 rfl
section
variable {w : World} {B : Nat} {cs : Array Value} {t : Ch}
theorem ChV.size (h : ChV w B (.agg cs) t) : 31 = cs.size := (GV.size h).symm
end
end Go.Proofs.YtaajmfgplhfncaaGreat

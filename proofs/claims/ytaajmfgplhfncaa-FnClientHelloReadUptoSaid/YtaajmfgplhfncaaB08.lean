/- Texts joined: ChM2. -/
import Derived.Deep.RegionHeld3
import Derived.Test.YtaajmfgplhfncaaB07
namespace Go.Proofs.Ytaajmfgplhfncaa
open Go.RowKit
set_option maxRecDepth 100000
theorem TopS.box {w0 w : World} {p : Nat} {st : Option (List UInt8)} (h : TopS w0 w p st) (T : TypeId) (cs : Array Value) : TopS w0 (w.alloc (.cells cs T)) p st ∧ Blk (w.alloc (.cells cs T)) w.heap.size T cs := ⟨h.new_ ((Upd.refl [] _).alloc _), Blk.new _ _ _⟩
section
variable {w w' : World} {m : Nat} {cs : Array Value} {v : Value} {t : Ch}
end
end Go.Proofs.Ytaajmfgplhfncaa

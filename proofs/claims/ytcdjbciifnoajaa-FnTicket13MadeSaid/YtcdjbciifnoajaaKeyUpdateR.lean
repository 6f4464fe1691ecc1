/- The KeyUpdate message: read by the package, and by the reference. -/
import Derived.Test.YtcdjbciifnoajaaAlive
namespace Go.Proofs.Ytcdjbciifnoajaa
open Go.RowKit
set_option maxRecDepth 100000

section
variable {w w0 w' : World} {v v2 content : Value} {xs bs data : List UInt8} {st : Option (List UInt8)} {S : List Nat} {e : Ending} {m B : Nat}

/-- the world in which a String variable has been made of some bytes -/
def SvW (w : World) (v : Value) : World := w.alloc (.cells #[v] 115)
theorem SvW_eq (w : World) (v : Value) : w.alloc (.cells #[v] 115) = SvW w v := rfl
theorem SvW_size (w : World) (v : Value) : (SvW w v).heap.size = w.heap.size + 1 := by simp [SvW]
theorem SvW_upd (w : World) (v : Value) : Upd [] w (SvW w v) := (Upd.refl _ _).alloc _
theorem SvW_sv (h : Byt w B v bs) : Sv (SvW w v) w.heap.size w.heap.size bs False :=
  ⟨Nat.le_refl _, v, Blk.new _ _ _, (Row.shrink h).alloc _, fun x => x.elim⟩

end
end Go.Proofs.Ytcdjbciifnoajaa

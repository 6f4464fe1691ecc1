/-
  No cell of these rows narrows 'for every input' (looked for: loops, veiled, ifaces, maps, wideKeys, modest, calm, conditions, laid).
  DERIVED. THE GIVEN ROWS OF THIS SEAT. 3 by the template 'for every input the law returns true; each argument reads behind the call as it read before'; 0 by the template 'total and deterministic' (their statements: YtaajmfgplhfncaaGreatTotals.lean).
  GIVEN WITH THE SEED: the statements are not yours to turn. If you find one false, say at which input.
  Laid BY PROGRAM, IN A SANDBOX (cutbox-rows.mjs): the forced cells as the released guide's own fill.sh prints them over the translation cd5cc16cc84eeb56… (all of the seat's roots in one cut). By AI agents, Wed Nov 11 2026. No macro, syntax, notation, axiom, sorry.
-/
import Derived.Test.YtaajmfgplhfncaaGreatChecked
import GoSem.Claim
import GoSem.ClaimJoined
import GoSem.ClaimMapViews
import Derived.JoinedTies
import Derived.KernelRfl
namespace Go.Proofs.YtaajmfgplhfncaaGreat
/- THE CELL 'sum', in the pinned program and in every row, IS THE sha256 OF THE DUMP (.gsa) THAT YtaajmfgplhfncaaGreatProg.lean LOADS. Nothing in Lean hashes anything: it is a label: what it is worth is what the hold of that sum in a sandbox is worth. -/
noncomputable def Tryz.pinned : Pinned := { name := "ytaajmfgplhfncaagreat", sum := "cd5cc16cc84eeb56d0fa6555cb1c4fbc46be0249e9d2d8c021a3232b1874e52a", checked := Tryz.checked }
namespace Rows
def none {H : Type} : Left H := { results := [], args := [] }

/-- 'laws.FnClientHelloBack': WHATEVER THE INPUT: true; the input reads as it did. -/
def fnClientHelloBackSpec : ChangeSpec := { name := "fnClientHelloBack", fn := fun _ => fun
  | [d] => { results := [.lit (.bool true)], args := [d] }
  | _ => none }
def fnClientHelloBackRow : OpenClaim := { program := "ytaajmfgplhfncaagreat", sum := "cd5cc16cc84eeb56d0fa6555cb1c4fbc46be0249e9d2d8c021a3232b1874e52a", func := "pub-tlshandshakes/laws.FnClientHelloBack", spec := "fnClientHelloBack", unfollowed := true, recurses := true, apart := false }
def FnClientHelloBackSaid : Prop := fnClientHelloBackRow.holds Tryz.pinned (OpenSpec.ofChange fnClientHelloBackSpec)

/-- ITS FALSE NEIGHBOUR: 'it returns false'. Refute it at one input. -/
def fnClientHelloBackWrong : ChangeSpec := { name := "fnClientHelloBack", fn := fun _ => fun
  | [d] => { results := [.lit (.bool false)], args := [d] }
  | _ => none }
def FnClientHelloBackWrongFalsely : Prop := fnClientHelloBackRow.holds Tryz.pinned (OpenSpec.ofChange fnClientHelloBackWrong)

/-- 'laws.FnClientHelloMade': WHATEVER THE INPUT: true; the input reads as it did. -/
def fnClientHelloMadeSpec : ChangeSpec := { name := "fnClientHelloMade", fn := fun _ => fun
  | [d] => { results := [.lit (.bool true)], args := [d] }
  | _ => none }
def fnClientHelloMadeRow : OpenClaim := { program := "ytaajmfgplhfncaagreat", sum := "cd5cc16cc84eeb56d0fa6555cb1c4fbc46be0249e9d2d8c021a3232b1874e52a", func := "pub-tlshandshakes/laws.FnClientHelloMade", spec := "fnClientHelloMade", unfollowed := true, recurses := true, apart := false }
def FnClientHelloMadeSaid : Prop := fnClientHelloMadeRow.holds Tryz.pinned (OpenSpec.ofChange fnClientHelloMadeSpec)

/-- ITS FALSE NEIGHBOUR: 'it returns false'. Refute it at one input. -/
def fnClientHelloMadeWrong : ChangeSpec := { name := "fnClientHelloMade", fn := fun _ => fun
  | [d] => { results := [.lit (.bool false)], args := [d] }
  | _ => none }
def FnClientHelloMadeWrongFalsely : Prop := fnClientHelloMadeRow.holds Tryz.pinned (OpenSpec.ofChange fnClientHelloMadeWrong)

/-- 'laws.FnWithoutBinders': WHATEVER THE INPUT: true; the input reads as it did. -/
def fnWithoutBindersSpec : ChangeSpec := { name := "fnWithoutBinders", fn := fun _ => fun
  | [d] => { results := [.lit (.bool true)], args := [d] }
  | _ => none }
def fnWithoutBindersRow : OpenClaim := { program := "ytaajmfgplhfncaagreat", sum := "cd5cc16cc84eeb56d0fa6555cb1c4fbc46be0249e9d2d8c021a3232b1874e52a", func := "pub-tlshandshakes/laws.FnWithoutBinders", spec := "fnWithoutBinders", unfollowed := true, recurses := true, apart := false }
def FnWithoutBindersSaid : Prop := fnWithoutBindersRow.holds Tryz.pinned (OpenSpec.ofChange fnWithoutBindersSpec)

/-- ITS FALSE NEIGHBOUR: 'it returns false'. Refute it at one input. -/
def fnWithoutBindersWrong : ChangeSpec := { name := "fnWithoutBinders", fn := fun _ => fun
  | [d] => { results := [.lit (.bool false)], args := [d] }
  | _ => none }
def FnWithoutBindersWrongFalsely : Prop := fnWithoutBindersRow.holds Tryz.pinned (OpenSpec.ofChange fnWithoutBindersWrong)

/- THE SECOND FORM. 'bulk': how many values and letters a reading holds, each counted each time it is reached (what is shared counts as often as it is met; a slice's spare places count too). A statement '..UptoSaid' is the law's where the arguments, and the package variables that the reading takes, are together of bulk at most 1048576: NARROWER than '..Said'. Prove '..Said' where nothing that the law and all that it calls make is longer than what came in: it says more and counts as full. Else prove '..UptoSaid'. A law counts once. -/
mutual
def uptoBulk {H : Type} : DataW H → Nat
  | .lit (.string bytes) => bytes.length + 1
  | .lit _ => 1
  | .nil => 1
  | .ptr d => uptoBulk d + 1
  | .slice elems spare => uptoBulkAll elems + uptoBulkAll spare + 1
  | .agg parts => uptoBulkAll parts + 1
  | .iface _ d => uptoBulk d + 1
  | .map entries => uptoBulkEntries entries + 1
  | .held _ => 1
def uptoBulkAll {H : Type} : List (DataW H) → Nat
  | [] => 0
  | d :: r => uptoBulk d + uptoBulkAll r
def uptoBulkEntries {H : Type} : List (Lit × DataW H) → Nat
  | [] => 0
  | x :: r => uptoBulkEntry x + uptoBulkEntries r
def uptoBulkEntry {H : Type} : Lit × DataW H → Nat
  | (.string bytes, d) => bytes.length + uptoBulk d + 1
  | (_, d) => uptoBulk d + 1
 end
def uptoSmall : (H : Type) → List (DataW H) → Bool := fun _ ds => decide (uptoBulkAll ds ≤ 1048576)
def OpenSpec.upto (s : _root_.Go.ChangeSpec) : _root_.Go.OpenSpec := { _root_.Go.OpenSpec.ofChange s with cond := some uptoSmall }

/-- 'laws.FnClientHelloBack', WHERE WHAT IT READS IS OF BULK AT MOST 1048576: true; the input reads as it did. -/
def fnClientHelloBackUptoRow : OpenClaim := { program := "ytaajmfgplhfncaagreat", sum := "cd5cc16cc84eeb56d0fa6555cb1c4fbc46be0249e9d2d8c021a3232b1874e52a", func := "pub-tlshandshakes/laws.FnClientHelloBack", spec := "fnClientHelloBack", unfollowed := true, recurses := true, apart := false, narrowed := true }
def FnClientHelloBackUptoSaid : Prop := fnClientHelloBackUptoRow.holds Tryz.pinned (OpenSpec.upto fnClientHelloBackSpec)

/-- 'laws.FnClientHelloMade', WHERE WHAT IT READS IS OF BULK AT MOST 1048576: true; the input reads as it did. -/
def fnClientHelloMadeUptoRow : OpenClaim := { program := "ytaajmfgplhfncaagreat", sum := "cd5cc16cc84eeb56d0fa6555cb1c4fbc46be0249e9d2d8c021a3232b1874e52a", func := "pub-tlshandshakes/laws.FnClientHelloMade", spec := "fnClientHelloMade", unfollowed := true, recurses := true, apart := false, narrowed := true }
def FnClientHelloMadeUptoSaid : Prop := fnClientHelloMadeUptoRow.holds Tryz.pinned (OpenSpec.upto fnClientHelloMadeSpec)

/-- 'laws.FnWithoutBinders', WHERE WHAT IT READS IS OF BULK AT MOST 1048576: true; the input reads as it did. -/
def fnWithoutBindersUptoRow : OpenClaim := { program := "ytaajmfgplhfncaagreat", sum := "cd5cc16cc84eeb56d0fa6555cb1c4fbc46be0249e9d2d8c021a3232b1874e52a", func := "pub-tlshandshakes/laws.FnWithoutBinders", spec := "fnWithoutBinders", unfollowed := true, recurses := true, apart := false, narrowed := true }
def FnWithoutBindersUptoSaid : Prop := fnWithoutBindersUptoRow.holds Tryz.pinned (OpenSpec.upto fnWithoutBindersSpec)

end Rows
end Go.Proofs.YtaajmfgplhfncaaGreat

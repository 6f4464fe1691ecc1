/-
  No cell of these rows narrows 'for every input' (looked for: loops, veiled, ifaces, maps, wideKeys, modest, calm, conditions, laid).
  DERIVED. THE GIVEN ROWS OF THIS SEAT. 6 by the template 'for every input the law returns true; each argument reads behind the call as it read before'; 0 by the template 'total and deterministic' (their statements: YtcikeghdlolkaaaTotals.lean).
  GIVEN WITH THE SEED: the statements are not yours to turn. If you find one false, say at which input.
  Laid BY PROGRAM, IN A SANDBOX (cutbox-rows.mjs): the forced cells as the released guide's own fill.sh prints them over the translation 4aae64fefcaaa5fb… (all of the seat's roots in one cut). By AI agents, Wed Nov 11 2026. No macro, syntax, notation, axiom, sorry.
-/
import Derived.Test.YtcikeghdlolkaaaChecked
import GoSem.Claim
import GoSem.ClaimJoined
import GoSem.ClaimMapViews
import Derived.JoinedTies
import Derived.KernelRfl
namespace Go.Proofs.Ytcikeghdlolkaaa
/- THE CELL 'sum', in the pinned program and in every row, IS THE sha256 OF THE DUMP (.gsa) THAT YtcikeghdlolkaaaProg.lean LOADS. Nothing in Lean hashes anything: it is a label: what it is worth is what the hold of that sum in a sandbox is worth. -/
noncomputable def Try.pinned : Pinned := { name := "ytcikeghdlolkaaa", sum := "4aae64fefcaaa5fbd5ac47ea0157338c1ab4a84c9c8c5802a5e50ee74a4c37db", checked := Try.checked }
namespace Rows
def none {H : Type} : Left H := { results := [], args := [] }

/-- 'laws.FnServerHelloRead': WHATEVER THE INPUT: true; the input reads as it did. -/
def fnServerHelloReadSpec : ChangeSpec := { name := "fnServerHelloRead", fn := fun _ => fun
  | [d1, d2, d3] => { results := [.lit (.bool true)], args := [d1, d2, d3] }
  | _ => none }
def fnServerHelloReadRow : OpenClaim := { program := "ytcikeghdlolkaaa", sum := "4aae64fefcaaa5fbd5ac47ea0157338c1ab4a84c9c8c5802a5e50ee74a4c37db", func := "pub-tlshandshakes/laws.FnServerHelloRead", spec := "fnServerHelloRead", apart := false }
def FnServerHelloReadSaid : Prop := fnServerHelloReadRow.holds Try.pinned (OpenSpec.ofChange fnServerHelloReadSpec)

/-- ITS FALSE NEIGHBOUR: 'it returns false'. Refute it at one input. -/
def fnServerHelloReadWrong : ChangeSpec := { name := "fnServerHelloRead", fn := fun _ => fun
  | [d1, d2, d3] => { results := [.lit (.bool false)], args := [d1, d2, d3] }
  | _ => none }
def FnServerHelloReadWrongFalsely : Prop := fnServerHelloReadRow.holds Try.pinned (OpenSpec.ofChange fnServerHelloReadWrong)

/-- 'laws.FnServerHelloMade': WHATEVER THE INPUT: true; the input reads as it did. -/
def fnServerHelloMadeSpec : ChangeSpec := { name := "fnServerHelloMade", fn := fun _ => fun
  | [d] => { results := [.lit (.bool true)], args := [d] }
  | _ => none }
def fnServerHelloMadeRow : OpenClaim := { program := "ytcikeghdlolkaaa", sum := "4aae64fefcaaa5fbd5ac47ea0157338c1ab4a84c9c8c5802a5e50ee74a4c37db", func := "pub-tlshandshakes/laws.FnServerHelloMade", spec := "fnServerHelloMade", unfollowed := true, recurses := true, apart := false }
def FnServerHelloMadeSaid : Prop := fnServerHelloMadeRow.holds Try.pinned (OpenSpec.ofChange fnServerHelloMadeSpec)

/-- ITS FALSE NEIGHBOUR: 'it returns false'. Refute it at one input. -/
def fnServerHelloMadeWrong : ChangeSpec := { name := "fnServerHelloMade", fn := fun _ => fun
  | [d] => { results := [.lit (.bool false)], args := [d] }
  | _ => none }
def FnServerHelloMadeWrongFalsely : Prop := fnServerHelloMadeRow.holds Try.pinned (OpenSpec.ofChange fnServerHelloMadeWrong)

/-- 'laws.FnServerHelloBytes': WHATEVER THE INPUT: true; the input reads as it did. -/
def fnServerHelloBytesSpec : ChangeSpec := { name := "fnServerHelloBytes", fn := fun _ => fun
  | [d] => { results := [.lit (.bool true)], args := [d] }
  | _ => none }
def fnServerHelloBytesRow : OpenClaim := { program := "ytcikeghdlolkaaa", sum := "4aae64fefcaaa5fbd5ac47ea0157338c1ab4a84c9c8c5802a5e50ee74a4c37db", func := "pub-tlshandshakes/laws.FnServerHelloBytes", spec := "fnServerHelloBytes", unfollowed := true, recurses := true, apart := false }
def FnServerHelloBytesSaid : Prop := fnServerHelloBytesRow.holds Try.pinned (OpenSpec.ofChange fnServerHelloBytesSpec)

/-- ITS FALSE NEIGHBOUR: 'it returns false'. Refute it at one input. -/
def fnServerHelloBytesWrong : ChangeSpec := { name := "fnServerHelloBytes", fn := fun _ => fun
  | [d] => { results := [.lit (.bool false)], args := [d] }
  | _ => none }
def FnServerHelloBytesWrongFalsely : Prop := fnServerHelloBytesRow.holds Try.pinned (OpenSpec.ofChange fnServerHelloBytesWrong)

/-- 'laws.FnServerHelloBack': WHATEVER THE INPUT: true; the input reads as it did. -/
def fnServerHelloBackSpec : ChangeSpec := { name := "fnServerHelloBack", fn := fun _ => fun
  | [d] => { results := [.lit (.bool true)], args := [d] }
  | _ => none }
def fnServerHelloBackRow : OpenClaim := { program := "ytcikeghdlolkaaa", sum := "4aae64fefcaaa5fbd5ac47ea0157338c1ab4a84c9c8c5802a5e50ee74a4c37db", func := "pub-tlshandshakes/laws.FnServerHelloBack", spec := "fnServerHelloBack", unfollowed := true, recurses := true, apart := false }
def FnServerHelloBackSaid : Prop := fnServerHelloBackRow.holds Try.pinned (OpenSpec.ofChange fnServerHelloBackSpec)

/-- ITS FALSE NEIGHBOUR: 'it returns false'. Refute it at one input. -/
def fnServerHelloBackWrong : ChangeSpec := { name := "fnServerHelloBack", fn := fun _ => fun
  | [d] => { results := [.lit (.bool false)], args := [d] }
  | _ => none }
def FnServerHelloBackWrongFalsely : Prop := fnServerHelloBackRow.holds Try.pinned (OpenSpec.ofChange fnServerHelloBackWrong)

/-- 'laws.FnClientHelloRead': WHATEVER THE INPUT: true; the input reads as it did. -/
def fnClientHelloReadSpec : ChangeSpec := { name := "fnClientHelloRead", fn := fun _ => fun
  | [d1, d2, d3] => { results := [.lit (.bool true)], args := [d1, d2, d3] }
  | _ => none }
def fnClientHelloReadRow : OpenClaim := { program := "ytcikeghdlolkaaa", sum := "4aae64fefcaaa5fbd5ac47ea0157338c1ab4a84c9c8c5802a5e50ee74a4c37db", func := "pub-tlshandshakes/laws.FnClientHelloRead", spec := "fnClientHelloRead", apart := false }
def FnClientHelloReadSaid : Prop := fnClientHelloReadRow.holds Try.pinned (OpenSpec.ofChange fnClientHelloReadSpec)

/-- ITS FALSE NEIGHBOUR: 'it returns false'. Refute it at one input. -/
def fnClientHelloReadWrong : ChangeSpec := { name := "fnClientHelloRead", fn := fun _ => fun
  | [d1, d2, d3] => { results := [.lit (.bool false)], args := [d1, d2, d3] }
  | _ => none }
def FnClientHelloReadWrongFalsely : Prop := fnClientHelloReadRow.holds Try.pinned (OpenSpec.ofChange fnClientHelloReadWrong)

/-- 'laws.FnClientHelloRandom': WHATEVER THE INPUT: true; the input reads as it did. -/
def fnClientHelloRandomSpec : ChangeSpec := { name := "fnClientHelloRandom", fn := fun _ => fun
  | [d] => { results := [.lit (.bool true)], args := [d] }
  | _ => none }
def fnClientHelloRandomRow : OpenClaim := { program := "ytcikeghdlolkaaa", sum := "4aae64fefcaaa5fbd5ac47ea0157338c1ab4a84c9c8c5802a5e50ee74a4c37db", func := "pub-tlshandshakes/laws.FnClientHelloRandom", spec := "fnClientHelloRandom", unfollowed := true, recurses := true, apart := false }
def FnClientHelloRandomSaid : Prop := fnClientHelloRandomRow.holds Try.pinned (OpenSpec.ofChange fnClientHelloRandomSpec)

/-- ITS FALSE NEIGHBOUR: 'it returns false'. Refute it at one input. -/
def fnClientHelloRandomWrong : ChangeSpec := { name := "fnClientHelloRandom", fn := fun _ => fun
  | [d] => { results := [.lit (.bool false)], args := [d] }
  | _ => none }
def FnClientHelloRandomWrongFalsely : Prop := fnClientHelloRandomRow.holds Try.pinned (OpenSpec.ofChange fnClientHelloRandomWrong)

/- THE SECOND FORM. 'bulk': how many values and letters a reading holds, each counted each time it is reached (what is shared counts as often as it is met; a slice's spare places count too). A statement '..UptoSaid' is the law's where the arguments, and the package variables that the reading takes, are together of bulk at most 1048576: NARROWER than '..Said'. Prove '..Said' where nothing that the law and all that it calls make is longer than what came in: it says more and counts as full. Else prove '..UptoSaid'. A law counts once. -/
mutual
def uptoBulk {H : Type} : DataW H → Nat
  | .lit (.string bytes) => bytes.length + 1
  | .lit _ => 1
  | .nil => 1
  | .ptr d => uptoBulk d + 1
  | .slice elems spare => uptoBulkAll elems + uptoBulkAll spare + 1
  | .agg parts => uptoBulkAll parts + 1
  | .iface _ d => uptoBulk d + 1
  | .map entries => uptoBulkEntries entries + 1
  | .held _ => 1
def uptoBulkAll {H : Type} : List (DataW H) → Nat
  | [] => 0
  | d :: r => uptoBulk d + uptoBulkAll r
def uptoBulkEntries {H : Type} : List (Lit × DataW H) → Nat
  | [] => 0
  | x :: r => uptoBulkEntry x + uptoBulkEntries r
def uptoBulkEntry {H : Type} : Lit × DataW H → Nat
  | (.string bytes, d) => bytes.length + uptoBulk d + 1
  | (_, d) => uptoBulk d + 1
 end
def uptoSmall : (H : Type) → List (DataW H) → Bool := fun _ ds => decide (uptoBulkAll ds ≤ 1048576)
def OpenSpec.upto (s : _root_.Go.ChangeSpec) : _root_.Go.OpenSpec := { _root_.Go.OpenSpec.ofChange s with cond := some uptoSmall }

/-- 'laws.FnServerHelloRead', WHERE WHAT IT READS IS OF BULK AT MOST 1048576: true; the input reads as it did. -/
def fnServerHelloReadUptoRow : OpenClaim := { program := "ytcikeghdlolkaaa", sum := "4aae64fefcaaa5fbd5ac47ea0157338c1ab4a84c9c8c5802a5e50ee74a4c37db", func := "pub-tlshandshakes/laws.FnServerHelloRead", spec := "fnServerHelloRead", apart := false, narrowed := true }
def FnServerHelloReadUptoSaid : Prop := fnServerHelloReadUptoRow.holds Try.pinned (OpenSpec.upto fnServerHelloReadSpec)

/-- 'laws.FnServerHelloMade', WHERE WHAT IT READS IS OF BULK AT MOST 1048576: true; the input reads as it did. -/
def fnServerHelloMadeUptoRow : OpenClaim := { program := "ytcikeghdlolkaaa", sum := "4aae64fefcaaa5fbd5ac47ea0157338c1ab4a84c9c8c5802a5e50ee74a4c37db", func := "pub-tlshandshakes/laws.FnServerHelloMade", spec := "fnServerHelloMade", unfollowed := true, recurses := true, apart := false, narrowed := true }
def FnServerHelloMadeUptoSaid : Prop := fnServerHelloMadeUptoRow.holds Try.pinned (OpenSpec.upto fnServerHelloMadeSpec)

/-- 'laws.FnServerHelloBytes', WHERE WHAT IT READS IS OF BULK AT MOST 1048576: true; the input reads as it did. -/
def fnServerHelloBytesUptoRow : OpenClaim := { program := "ytcikeghdlolkaaa", sum := "4aae64fefcaaa5fbd5ac47ea0157338c1ab4a84c9c8c5802a5e50ee74a4c37db", func := "pub-tlshandshakes/laws.FnServerHelloBytes", spec := "fnServerHelloBytes", unfollowed := true, recurses := true, apart := false, narrowed := true }
def FnServerHelloBytesUptoSaid : Prop := fnServerHelloBytesUptoRow.holds Try.pinned (OpenSpec.upto fnServerHelloBytesSpec)

/-- 'laws.FnServerHelloBack', WHERE WHAT IT READS IS OF BULK AT MOST 1048576: true; the input reads as it did. -/
def fnServerHelloBackUptoRow : OpenClaim := { program := "ytcikeghdlolkaaa", sum := "4aae64fefcaaa5fbd5ac47ea0157338c1ab4a84c9c8c5802a5e50ee74a4c37db", func := "pub-tlshandshakes/laws.FnServerHelloBack", spec := "fnServerHelloBack", unfollowed := true, recurses := true, apart := false, narrowed := true }
def FnServerHelloBackUptoSaid : Prop := fnServerHelloBackUptoRow.holds Try.pinned (OpenSpec.upto fnServerHelloBackSpec)

/-- 'laws.FnClientHelloRead', WHERE WHAT IT READS IS OF BULK AT MOST 1048576: true; the input reads as it did. -/
def fnClientHelloReadUptoRow : OpenClaim := { program := "ytcikeghdlolkaaa", sum := "4aae64fefcaaa5fbd5ac47ea0157338c1ab4a84c9c8c5802a5e50ee74a4c37db", func := "pub-tlshandshakes/laws.FnClientHelloRead", spec := "fnClientHelloRead", apart := false, narrowed := true }
def FnClientHelloReadUptoSaid : Prop := fnClientHelloReadUptoRow.holds Try.pinned (OpenSpec.upto fnClientHelloReadSpec)

/-- 'laws.FnClientHelloRandom', WHERE WHAT IT READS IS OF BULK AT MOST 1048576: true; the input reads as it did. -/
def fnClientHelloRandomUptoRow : OpenClaim := { program := "ytcikeghdlolkaaa", sum := "4aae64fefcaaa5fbd5ac47ea0157338c1ab4a84c9c8c5802a5e50ee74a4c37db", func := "pub-tlshandshakes/laws.FnClientHelloRandom", spec := "fnClientHelloRandom", unfollowed := true, recurses := true, apart := false, narrowed := true }
def FnClientHelloRandomUptoSaid : Prop := fnClientHelloRandomUptoRow.holds Try.pinned (OpenSpec.upto fnClientHelloRandomSpec)

end Rows
end Go.Proofs.Ytcikeghdlolkaaa

/-
  No cell of these rows narrows 'for every input' (looked for: loops, veiled, ifaces, maps, wideKeys, modest, calm, conditions, laid).
  DERIVED. THE GIVEN ROWS OF THIS SEAT. 2 by the template 'for every input the law returns true; each argument reads behind the call as it read before'; 0 by the template 'total and deterministic' (their statements: YtaajmfgplhfncaaTotals.lean).
  GIVEN WITH THE SEED: the statements are not yours to turn. If you find one false, say at which input.
  Laid BY PROGRAM, IN A SANDBOX (cutbox-rows.mjs): the forced cells as the released guide's own fill.sh prints them over the translation d83bbfcf98f2d2b3… (all of the seat's roots in one cut). By AI agents, Wed Nov 11 2026. No macro, syntax, notation, axiom, sorry.
-/
import Derived.Test.YtaajmfgplhfncaaChecked
import GoSem.Claim
import GoSem.ClaimJoined
import GoSem.ClaimMapViews
import Derived.JoinedTies
import Derived.KernelRfl
namespace Go.Proofs.Ytaajmfgplhfncaa
/- THE CELL 'sum', in the pinned program and in every row, IS THE sha256 OF THE DUMP (.gsa) THAT YtaajmfgplhfncaaProg.lean LOADS. Nothing in Lean hashes anything: it is a label: what it is worth is what the hold of that sum in a sandbox is worth. -/
noncomputable def Try.pinned : Pinned := { name := "ytaajmfgplhfncaa", sum := "d83bbfcf98f2d2b31fe439c11e9c0f669df25c9a94b0f4c672caf9c80258211b", checked := Try.checked }
namespace Rows
def none {H : Type} : Left H := { results := [], args := [] }

/-- 'laws.FnClientHelloRead': WHATEVER THE INPUT: true; the input reads as it did. -/
def fnClientHelloReadSpec : ChangeSpec := { name := "fnClientHelloRead", fn := fun _ => fun
  | [d1, d2, d3] => { results := [.lit (.bool true)], args := [d1, d2, d3] }
  | _ => none }
def fnClientHelloReadRow : OpenClaim := { program := "ytaajmfgplhfncaa", sum := "d83bbfcf98f2d2b31fe439c11e9c0f669df25c9a94b0f4c672caf9c80258211b", func := "pub-tlshandshakes/laws.FnClientHelloRead", spec := "fnClientHelloRead", apart := false }
def FnClientHelloReadSaid : Prop := fnClientHelloReadRow.holds Try.pinned (OpenSpec.ofChange fnClientHelloReadSpec)

/-- ITS FALSE NEIGHBOUR: 'it returns false'. Refute it at one input. -/
def fnClientHelloReadWrong : ChangeSpec := { name := "fnClientHelloRead", fn := fun _ => fun
  | [d1, d2, d3] => { results := [.lit (.bool false)], args := [d1, d2, d3] }
  | _ => none }
def FnClientHelloReadWrongFalsely : Prop := fnClientHelloReadRow.holds Try.pinned (OpenSpec.ofChange fnClientHelloReadWrong)

/-- 'laws.FnClientHelloRandom': WHATEVER THE INPUT: true; the input reads as it did. -/
def fnClientHelloRandomSpec : ChangeSpec := { name := "fnClientHelloRandom", fn := fun _ => fun
  | [d] => { results := [.lit (.bool true)], args := [d] }
  | _ => none }
def fnClientHelloRandomRow : OpenClaim := { program := "ytaajmfgplhfncaa", sum := "d83bbfcf98f2d2b31fe439c11e9c0f669df25c9a94b0f4c672caf9c80258211b", func := "pub-tlshandshakes/laws.FnClientHelloRandom", spec := "fnClientHelloRandom", unfollowed := true, recurses := true, apart := false }
def FnClientHelloRandomSaid : Prop := fnClientHelloRandomRow.holds Try.pinned (OpenSpec.ofChange fnClientHelloRandomSpec)

/-- ITS FALSE NEIGHBOUR: 'it returns false'. Refute it at one input. -/
def fnClientHelloRandomWrong : ChangeSpec := { name := "fnClientHelloRandom", fn := fun _ => fun
  | [d] => { results := [.lit (.bool false)], args := [d] }
  | _ => none }
def FnClientHelloRandomWrongFalsely : Prop := fnClientHelloRandomRow.holds Try.pinned (OpenSpec.ofChange fnClientHelloRandomWrong)

/- THE SECOND FORM. 'bulk': how many values and letters a reading holds, each counted each time it is reached (what is shared counts as often as it is met; a slice's spare places count too). A statement '..UptoSaid' is the law's where the arguments, and the package variables that the reading takes, are together of bulk at most 1048576: NARROWER than '..Said'. Prove '..Said' where nothing that the law and all that it calls make is longer than what came in: it says more and counts as full. Else prove '..UptoSaid'. A law counts once. -/
mutual
def uptoBulk {H : Type} : DataW H → Nat
  | .lit (.string bytes) => bytes.length + 1
  | .lit _ => 1
  | .nil => 1
  | .ptr d => uptoBulk d + 1
  | .slice elems spare => uptoBulkAll elems + uptoBulkAll spare + 1
  | .agg parts => uptoBulkAll parts + 1
  | .iface _ d => uptoBulk d + 1
  | .map entries => uptoBulkEntries entries + 1
  | .held _ => 1
def uptoBulkAll {H : Type} : List (DataW H) → Nat
  | [] => 0
  | d :: r => uptoBulk d + uptoBulkAll r
def uptoBulkEntries {H : Type} : List (Lit × DataW H) → Nat
  | [] => 0
  | x :: r => uptoBulkEntry x + uptoBulkEntries r
def uptoBulkEntry {H : Type} : Lit × DataW H → Nat
  | (.string bytes, d) => bytes.length + uptoBulk d + 1
  | (_, d) => uptoBulk d + 1
 end
def uptoSmall : (H : Type) → List (DataW H) → Bool := fun _ ds => decide (uptoBulkAll ds ≤ 1048576)
def OpenSpec.upto (s : _root_.Go.ChangeSpec) : _root_.Go.OpenSpec := { _root_.Go.OpenSpec.ofChange s with cond := some uptoSmall }

/-- 'laws.FnClientHelloRead', WHERE WHAT IT READS IS OF BULK AT MOST 1048576: true; the input reads as it did. -/
def fnClientHelloReadUptoRow : OpenClaim := { program := "ytaajmfgplhfncaa", sum := "d83bbfcf98f2d2b31fe439c11e9c0f669df25c9a94b0f4c672caf9c80258211b", func := "pub-tlshandshakes/laws.FnClientHelloRead", spec := "fnClientHelloRead", apart := false, narrowed := true }
def FnClientHelloReadUptoSaid : Prop := fnClientHelloReadUptoRow.holds Try.pinned (OpenSpec.upto fnClientHelloReadSpec)

/-- 'laws.FnClientHelloRandom', WHERE WHAT IT READS IS OF BULK AT MOST 1048576: true; the input reads as it did. -/
def fnClientHelloRandomUptoRow : OpenClaim := { program := "ytaajmfgplhfncaa", sum := "d83bbfcf98f2d2b31fe439c11e9c0f669df25c9a94b0f4c672caf9c80258211b", func := "pub-tlshandshakes/laws.FnClientHelloRandom", spec := "fnClientHelloRandom", unfollowed := true, recurses := true, apart := false, narrowed := true }
def FnClientHelloRandomUptoSaid : Prop := fnClientHelloRandomUptoRow.holds Try.pinned (OpenSpec.upto fnClientHelloRandomSpec)

end Rows
end Go.Proofs.Ytaajmfgplhfncaa

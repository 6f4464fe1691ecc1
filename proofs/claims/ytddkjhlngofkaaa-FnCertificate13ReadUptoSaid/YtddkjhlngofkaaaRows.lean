/-
  No cell of these rows narrows 'for every input' (looked for: loops, veiled, ifaces, maps, wideKeys, modest, calm, conditions, laid).
  DERIVED. THE GIVEN ROWS OF THIS SEAT. 11 by the template 'for every input the law returns true; each argument reads behind the call as it read before'; 0 by the template 'total and deterministic' (their statements: YtddkjhlngofkaaaTotals.lean).
  GIVEN WITH THE SEED: the statements are not yours to turn. If you find one false, say at which input.
  Laid BY PROGRAM, IN A SANDBOX (cutbox-rows.mjs): the forced cells as the released guide's own fill.sh prints them over the translation 200c704be6e53721… (all of the seat's roots in one cut). By AI agents, Wed Nov 11 2026. No macro, syntax, notation, axiom, sorry.
-/
import Derived.Test.YtddkjhlngofkaaaChecked
import GoSem.Claim
import GoSem.ClaimJoined
import GoSem.ClaimMapViews
import Derived.JoinedTies
import Derived.KernelRfl
namespace Go.Proofs.Ytddkjhlngofkaaa
/- THE CELL 'sum', in the pinned program and in every row, IS THE sha256 OF THE DUMP (.gsa) THAT YtddkjhlngofkaaaProg.lean LOADS. Nothing in Lean hashes anything: it is a label: what it is worth is what the hold of that sum in a sandbox is worth. -/
noncomputable def Try.pinned : Pinned := { name := "ytddkjhlngofkaaa", sum := "200c704be6e537218bded3c1fb9a3c8e0d0af52d9f8bdd4985cd300e1bb6f38c", checked := Try.checked }
namespace Rows
def none {H : Type} : Left H := { results := [], args := [] }

/-- 'laws.FnRequestBytes': WHATEVER THE INPUT: true; the input reads as it did. -/
def fnRequestBytesSpec : ChangeSpec := { name := "fnRequestBytes", fn := fun _ => fun
  | [d1, d2] => { results := [.lit (.bool true)], args := [d1, d2] }
  | _ => none }
def fnRequestBytesRow : OpenClaim := { program := "ytddkjhlngofkaaa", sum := "200c704be6e537218bded3c1fb9a3c8e0d0af52d9f8bdd4985cd300e1bb6f38c", func := "pub-tlshandshakes/laws.FnRequestBytes", spec := "fnRequestBytes", unfollowed := true, recurses := true, apart := false }
def FnRequestBytesSaid : Prop := fnRequestBytesRow.holds Try.pinned (OpenSpec.ofChange fnRequestBytesSpec)

/-- ITS FALSE NEIGHBOUR: 'it returns false'. Refute it at one input. -/
def fnRequestBytesWrong : ChangeSpec := { name := "fnRequestBytes", fn := fun _ => fun
  | [d1, d2] => { results := [.lit (.bool false)], args := [d1, d2] }
  | _ => none }
def FnRequestBytesWrongFalsely : Prop := fnRequestBytesRow.holds Try.pinned (OpenSpec.ofChange fnRequestBytesWrong)

/-- 'laws.FnCertificateRequest13Read': WHATEVER THE INPUT: true; the input reads as it did. -/
def fnCertificateRequest13ReadSpec : ChangeSpec := { name := "fnCertificateRequest13Read", fn := fun _ => fun
  | [d1, d2, d3] => { results := [.lit (.bool true)], args := [d1, d2, d3] }
  | _ => none }
def fnCertificateRequest13ReadRow : OpenClaim := { program := "ytddkjhlngofkaaa", sum := "200c704be6e537218bded3c1fb9a3c8e0d0af52d9f8bdd4985cd300e1bb6f38c", func := "pub-tlshandshakes/laws.FnCertificateRequest13Read", spec := "fnCertificateRequest13Read", apart := false }
def FnCertificateRequest13ReadSaid : Prop := fnCertificateRequest13ReadRow.holds Try.pinned (OpenSpec.ofChange fnCertificateRequest13ReadSpec)

/-- ITS FALSE NEIGHBOUR: 'it returns false'. Refute it at one input. -/
def fnCertificateRequest13ReadWrong : ChangeSpec := { name := "fnCertificateRequest13Read", fn := fun _ => fun
  | [d1, d2, d3] => { results := [.lit (.bool false)], args := [d1, d2, d3] }
  | _ => none }
def FnCertificateRequest13ReadWrongFalsely : Prop := fnCertificateRequest13ReadRow.holds Try.pinned (OpenSpec.ofChange fnCertificateRequest13ReadWrong)

/-- 'laws.FnCertificateRequest13Made': WHATEVER THE INPUT: true; the input reads as it did. -/
def fnCertificateRequest13MadeSpec : ChangeSpec := { name := "fnCertificateRequest13Made", fn := fun _ => fun
  | [d] => { results := [.lit (.bool true)], args := [d] }
  | _ => none }
def fnCertificateRequest13MadeRow : OpenClaim := { program := "ytddkjhlngofkaaa", sum := "200c704be6e537218bded3c1fb9a3c8e0d0af52d9f8bdd4985cd300e1bb6f38c", func := "pub-tlshandshakes/laws.FnCertificateRequest13Made", spec := "fnCertificateRequest13Made", unfollowed := true, recurses := true, apart := false }
def FnCertificateRequest13MadeSaid : Prop := fnCertificateRequest13MadeRow.holds Try.pinned (OpenSpec.ofChange fnCertificateRequest13MadeSpec)

/-- ITS FALSE NEIGHBOUR: 'it returns false'. Refute it at one input. -/
def fnCertificateRequest13MadeWrong : ChangeSpec := { name := "fnCertificateRequest13Made", fn := fun _ => fun
  | [d] => { results := [.lit (.bool false)], args := [d] }
  | _ => none }
def FnCertificateRequest13MadeWrongFalsely : Prop := fnCertificateRequest13MadeRow.holds Try.pinned (OpenSpec.ofChange fnCertificateRequest13MadeWrong)

/-- 'laws.FnCertificateRequest13Bytes': WHATEVER THE INPUT: true; the input reads as it did. -/
def fnCertificateRequest13BytesSpec : ChangeSpec := { name := "fnCertificateRequest13Bytes", fn := fun _ => fun
  | [d] => { results := [.lit (.bool true)], args := [d] }
  | _ => none }
def fnCertificateRequest13BytesRow : OpenClaim := { program := "ytddkjhlngofkaaa", sum := "200c704be6e537218bded3c1fb9a3c8e0d0af52d9f8bdd4985cd300e1bb6f38c", func := "pub-tlshandshakes/laws.FnCertificateRequest13Bytes", spec := "fnCertificateRequest13Bytes", unfollowed := true, recurses := true, apart := false }
def FnCertificateRequest13BytesSaid : Prop := fnCertificateRequest13BytesRow.holds Try.pinned (OpenSpec.ofChange fnCertificateRequest13BytesSpec)

/-- ITS FALSE NEIGHBOUR: 'it returns false'. Refute it at one input. -/
def fnCertificateRequest13BytesWrong : ChangeSpec := { name := "fnCertificateRequest13Bytes", fn := fun _ => fun
  | [d] => { results := [.lit (.bool false)], args := [d] }
  | _ => none }
def FnCertificateRequest13BytesWrongFalsely : Prop := fnCertificateRequest13BytesRow.holds Try.pinned (OpenSpec.ofChange fnCertificateRequest13BytesWrong)

/-- 'laws.FnCertificateRequest13Range': WHATEVER THE INPUT: true; the input reads as it did. -/
def fnCertificateRequest13RangeSpec : ChangeSpec := { name := "fnCertificateRequest13Range", fn := fun _ => fun
  | [d] => { results := [.lit (.bool true)], args := [d] }
  | _ => none }
def fnCertificateRequest13RangeRow : OpenClaim := { program := "ytddkjhlngofkaaa", sum := "200c704be6e537218bded3c1fb9a3c8e0d0af52d9f8bdd4985cd300e1bb6f38c", func := "pub-tlshandshakes/laws.FnCertificateRequest13Range", spec := "fnCertificateRequest13Range", unfollowed := true, recurses := true, apart := false }
def FnCertificateRequest13RangeSaid : Prop := fnCertificateRequest13RangeRow.holds Try.pinned (OpenSpec.ofChange fnCertificateRequest13RangeSpec)

/-- ITS FALSE NEIGHBOUR: 'it returns false'. Refute it at one input. -/
def fnCertificateRequest13RangeWrong : ChangeSpec := { name := "fnCertificateRequest13Range", fn := fun _ => fun
  | [d] => { results := [.lit (.bool false)], args := [d] }
  | _ => none }
def FnCertificateRequest13RangeWrongFalsely : Prop := fnCertificateRequest13RangeRow.holds Try.pinned (OpenSpec.ofChange fnCertificateRequest13RangeWrong)

/-- 'laws.FnCertificateRequest13Back': WHATEVER THE INPUT: true; the input reads as it did. -/
def fnCertificateRequest13BackSpec : ChangeSpec := { name := "fnCertificateRequest13Back", fn := fun _ => fun
  | [d] => { results := [.lit (.bool true)], args := [d] }
  | _ => none }
def fnCertificateRequest13BackRow : OpenClaim := { program := "ytddkjhlngofkaaa", sum := "200c704be6e537218bded3c1fb9a3c8e0d0af52d9f8bdd4985cd300e1bb6f38c", func := "pub-tlshandshakes/laws.FnCertificateRequest13Back", spec := "fnCertificateRequest13Back", unfollowed := true, recurses := true, apart := false }
def FnCertificateRequest13BackSaid : Prop := fnCertificateRequest13BackRow.holds Try.pinned (OpenSpec.ofChange fnCertificateRequest13BackSpec)

/-- ITS FALSE NEIGHBOUR: 'it returns false'. Refute it at one input. -/
def fnCertificateRequest13BackWrong : ChangeSpec := { name := "fnCertificateRequest13Back", fn := fun _ => fun
  | [d] => { results := [.lit (.bool false)], args := [d] }
  | _ => none }
def FnCertificateRequest13BackWrongFalsely : Prop := fnCertificateRequest13BackRow.holds Try.pinned (OpenSpec.ofChange fnCertificateRequest13BackWrong)

/-- 'laws.FnCertificateRequest13Again': WHATEVER THE INPUT: true; the input reads as it did. -/
def fnCertificateRequest13AgainSpec : ChangeSpec := { name := "fnCertificateRequest13Again", fn := fun _ => fun
  | [d] => { results := [.lit (.bool true)], args := [d] }
  | _ => none }
def fnCertificateRequest13AgainRow : OpenClaim := { program := "ytddkjhlngofkaaa", sum := "200c704be6e537218bded3c1fb9a3c8e0d0af52d9f8bdd4985cd300e1bb6f38c", func := "pub-tlshandshakes/laws.FnCertificateRequest13Again", spec := "fnCertificateRequest13Again", unfollowed := true, recurses := true, apart := false }
def FnCertificateRequest13AgainSaid : Prop := fnCertificateRequest13AgainRow.holds Try.pinned (OpenSpec.ofChange fnCertificateRequest13AgainSpec)

/-- ITS FALSE NEIGHBOUR: 'it returns false'. Refute it at one input. -/
def fnCertificateRequest13AgainWrong : ChangeSpec := { name := "fnCertificateRequest13Again", fn := fun _ => fun
  | [d] => { results := [.lit (.bool false)], args := [d] }
  | _ => none }
def FnCertificateRequest13AgainWrongFalsely : Prop := fnCertificateRequest13AgainRow.holds Try.pinned (OpenSpec.ofChange fnCertificateRequest13AgainWrong)

/-- 'laws.FnCertificate13Read': WHATEVER THE INPUT: true; the input reads as it did. -/
def fnCertificate13ReadSpec : ChangeSpec := { name := "fnCertificate13Read", fn := fun _ => fun
  | [d1, d2] => { results := [.lit (.bool true)], args := [d1, d2] }
  | _ => none }
def fnCertificate13ReadRow : OpenClaim := { program := "ytddkjhlngofkaaa", sum := "200c704be6e537218bded3c1fb9a3c8e0d0af52d9f8bdd4985cd300e1bb6f38c", func := "pub-tlshandshakes/laws.FnCertificate13Read", spec := "fnCertificate13Read", apart := false }
def FnCertificate13ReadSaid : Prop := fnCertificate13ReadRow.holds Try.pinned (OpenSpec.ofChange fnCertificate13ReadSpec)

/-- ITS FALSE NEIGHBOUR: 'it returns false'. Refute it at one input. -/
def fnCertificate13ReadWrong : ChangeSpec := { name := "fnCertificate13Read", fn := fun _ => fun
  | [d1, d2] => { results := [.lit (.bool false)], args := [d1, d2] }
  | _ => none }
def FnCertificate13ReadWrongFalsely : Prop := fnCertificate13ReadRow.holds Try.pinned (OpenSpec.ofChange fnCertificate13ReadWrong)

/-- 'laws.FnCertificate13Bytes': WHATEVER THE INPUT: true; the input reads as it did. -/
def fnCertificate13BytesSpec : ChangeSpec := { name := "fnCertificate13Bytes", fn := fun _ => fun
  | [d] => { results := [.lit (.bool true)], args := [d] }
  | _ => none }
def fnCertificate13BytesRow : OpenClaim := { program := "ytddkjhlngofkaaa", sum := "200c704be6e537218bded3c1fb9a3c8e0d0af52d9f8bdd4985cd300e1bb6f38c", func := "pub-tlshandshakes/laws.FnCertificate13Bytes", spec := "fnCertificate13Bytes", unfollowed := true, recurses := true, apart := false }
def FnCertificate13BytesSaid : Prop := fnCertificate13BytesRow.holds Try.pinned (OpenSpec.ofChange fnCertificate13BytesSpec)

/-- ITS FALSE NEIGHBOUR: 'it returns false'. Refute it at one input. -/
def fnCertificate13BytesWrong : ChangeSpec := { name := "fnCertificate13Bytes", fn := fun _ => fun
  | [d] => { results := [.lit (.bool false)], args := [d] }
  | _ => none }
def FnCertificate13BytesWrongFalsely : Prop := fnCertificate13BytesRow.holds Try.pinned (OpenSpec.ofChange fnCertificate13BytesWrong)

/-- 'laws.FnCertificate13Made': WHATEVER THE INPUT: true; the input reads as it did. -/
def fnCertificate13MadeSpec : ChangeSpec := { name := "fnCertificate13Made", fn := fun _ => fun
  | [d] => { results := [.lit (.bool true)], args := [d] }
  | _ => none }
def fnCertificate13MadeRow : OpenClaim := { program := "ytddkjhlngofkaaa", sum := "200c704be6e537218bded3c1fb9a3c8e0d0af52d9f8bdd4985cd300e1bb6f38c", func := "pub-tlshandshakes/laws.FnCertificate13Made", spec := "fnCertificate13Made", unfollowed := true, recurses := true, apart := false }
def FnCertificate13MadeSaid : Prop := fnCertificate13MadeRow.holds Try.pinned (OpenSpec.ofChange fnCertificate13MadeSpec)

/-- ITS FALSE NEIGHBOUR: 'it returns false'. Refute it at one input. -/
def fnCertificate13MadeWrong : ChangeSpec := { name := "fnCertificate13Made", fn := fun _ => fun
  | [d] => { results := [.lit (.bool false)], args := [d] }
  | _ => none }
def FnCertificate13MadeWrongFalsely : Prop := fnCertificate13MadeRow.holds Try.pinned (OpenSpec.ofChange fnCertificate13MadeWrong)

/-- 'laws.FnRequestMade': WHATEVER THE INPUT: true; the input reads as it did. -/
def fnRequestMadeSpec : ChangeSpec := { name := "fnRequestMade", fn := fun _ => fun
  | [d] => { results := [.lit (.bool true)], args := [d] }
  | _ => none }
def fnRequestMadeRow : OpenClaim := { program := "ytddkjhlngofkaaa", sum := "200c704be6e537218bded3c1fb9a3c8e0d0af52d9f8bdd4985cd300e1bb6f38c", func := "pub-tlshandshakes/laws.FnRequestMade", spec := "fnRequestMade", unfollowed := true, recurses := true, apart := false }
def FnRequestMadeSaid : Prop := fnRequestMadeRow.holds Try.pinned (OpenSpec.ofChange fnRequestMadeSpec)

/-- ITS FALSE NEIGHBOUR: 'it returns false'. Refute it at one input. -/
def fnRequestMadeWrong : ChangeSpec := { name := "fnRequestMade", fn := fun _ => fun
  | [d] => { results := [.lit (.bool false)], args := [d] }
  | _ => none }
def FnRequestMadeWrongFalsely : Prop := fnRequestMadeRow.holds Try.pinned (OpenSpec.ofChange fnRequestMadeWrong)

/- THE SECOND FORM. 'bulk': how many values and letters a reading holds, each counted each time it is reached (what is shared counts as often as it is met; a slice's spare places count too). A statement '..UptoSaid' is the law's where the arguments, and the package variables that the reading takes, are together of bulk at most 1048576: NARROWER than '..Said'. Prove '..Said' where nothing that the law and all that it calls make is longer than what came in: it says more and counts as full. Else prove '..UptoSaid'. A law counts once. -/
mutual
def uptoBulk {H : Type} : DataW H → Nat
  | .lit (.string bytes) => bytes.length + 1
  | .lit _ => 1
  | .nil => 1
  | .ptr d => uptoBulk d + 1
  | .slice elems spare => uptoBulkAll elems + uptoBulkAll spare + 1
  | .agg parts => uptoBulkAll parts + 1
  | .iface _ d => uptoBulk d + 1
  | .map entries => uptoBulkEntries entries + 1
  | .held _ => 1
def uptoBulkAll {H : Type} : List (DataW H) → Nat
  | [] => 0
  | d :: r => uptoBulk d + uptoBulkAll r
def uptoBulkEntries {H : Type} : List (Lit × DataW H) → Nat
  | [] => 0
  | x :: r => uptoBulkEntry x + uptoBulkEntries r
def uptoBulkEntry {H : Type} : Lit × DataW H → Nat
  | (.string bytes, d) => bytes.length + uptoBulk d + 1
  | (_, d) => uptoBulk d + 1
 end
def uptoSmall : (H : Type) → List (DataW H) → Bool := fun _ ds => decide (uptoBulkAll ds ≤ 1048576)
def OpenSpec.upto (s : _root_.Go.ChangeSpec) : _root_.Go.OpenSpec := { _root_.Go.OpenSpec.ofChange s with cond := some uptoSmall }

/-- 'laws.FnRequestBytes', WHERE WHAT IT READS IS OF BULK AT MOST 1048576: true; the input reads as it did. -/
def fnRequestBytesUptoRow : OpenClaim := { program := "ytddkjhlngofkaaa", sum := "200c704be6e537218bded3c1fb9a3c8e0d0af52d9f8bdd4985cd300e1bb6f38c", func := "pub-tlshandshakes/laws.FnRequestBytes", spec := "fnRequestBytes", unfollowed := true, recurses := true, apart := false, narrowed := true }
def FnRequestBytesUptoSaid : Prop := fnRequestBytesUptoRow.holds Try.pinned (OpenSpec.upto fnRequestBytesSpec)

/-- 'laws.FnCertificateRequest13Read', WHERE WHAT IT READS IS OF BULK AT MOST 1048576: true; the input reads as it did. -/
def fnCertificateRequest13ReadUptoRow : OpenClaim := { program := "ytddkjhlngofkaaa", sum := "200c704be6e537218bded3c1fb9a3c8e0d0af52d9f8bdd4985cd300e1bb6f38c", func := "pub-tlshandshakes/laws.FnCertificateRequest13Read", spec := "fnCertificateRequest13Read", apart := false, narrowed := true }
def FnCertificateRequest13ReadUptoSaid : Prop := fnCertificateRequest13ReadUptoRow.holds Try.pinned (OpenSpec.upto fnCertificateRequest13ReadSpec)

/-- 'laws.FnCertificateRequest13Made', WHERE WHAT IT READS IS OF BULK AT MOST 1048576: true; the input reads as it did. -/
def fnCertificateRequest13MadeUptoRow : OpenClaim := { program := "ytddkjhlngofkaaa", sum := "200c704be6e537218bded3c1fb9a3c8e0d0af52d9f8bdd4985cd300e1bb6f38c", func := "pub-tlshandshakes/laws.FnCertificateRequest13Made", spec := "fnCertificateRequest13Made", unfollowed := true, recurses := true, apart := false, narrowed := true }
def FnCertificateRequest13MadeUptoSaid : Prop := fnCertificateRequest13MadeUptoRow.holds Try.pinned (OpenSpec.upto fnCertificateRequest13MadeSpec)

/-- 'laws.FnCertificateRequest13Bytes', WHERE WHAT IT READS IS OF BULK AT MOST 1048576: true; the input reads as it did. -/
def fnCertificateRequest13BytesUptoRow : OpenClaim := { program := "ytddkjhlngofkaaa", sum := "200c704be6e537218bded3c1fb9a3c8e0d0af52d9f8bdd4985cd300e1bb6f38c", func := "pub-tlshandshakes/laws.FnCertificateRequest13Bytes", spec := "fnCertificateRequest13Bytes", unfollowed := true, recurses := true, apart := false, narrowed := true }
def FnCertificateRequest13BytesUptoSaid : Prop := fnCertificateRequest13BytesUptoRow.holds Try.pinned (OpenSpec.upto fnCertificateRequest13BytesSpec)

/-- 'laws.FnCertificateRequest13Range', WHERE WHAT IT READS IS OF BULK AT MOST 1048576: true; the input reads as it did. -/
def fnCertificateRequest13RangeUptoRow : OpenClaim := { program := "ytddkjhlngofkaaa", sum := "200c704be6e537218bded3c1fb9a3c8e0d0af52d9f8bdd4985cd300e1bb6f38c", func := "pub-tlshandshakes/laws.FnCertificateRequest13Range", spec := "fnCertificateRequest13Range", unfollowed := true, recurses := true, apart := false, narrowed := true }
def FnCertificateRequest13RangeUptoSaid : Prop := fnCertificateRequest13RangeUptoRow.holds Try.pinned (OpenSpec.upto fnCertificateRequest13RangeSpec)

/-- 'laws.FnCertificateRequest13Back', WHERE WHAT IT READS IS OF BULK AT MOST 1048576: true; the input reads as it did. -/
def fnCertificateRequest13BackUptoRow : OpenClaim := { program := "ytddkjhlngofkaaa", sum := "200c704be6e537218bded3c1fb9a3c8e0d0af52d9f8bdd4985cd300e1bb6f38c", func := "pub-tlshandshakes/laws.FnCertificateRequest13Back", spec := "fnCertificateRequest13Back", unfollowed := true, recurses := true, apart := false, narrowed := true }
def FnCertificateRequest13BackUptoSaid : Prop := fnCertificateRequest13BackUptoRow.holds Try.pinned (OpenSpec.upto fnCertificateRequest13BackSpec)

/-- 'laws.FnCertificateRequest13Again', WHERE WHAT IT READS IS OF BULK AT MOST 1048576: true; the input reads as it did. -/
def fnCertificateRequest13AgainUptoRow : OpenClaim := { program := "ytddkjhlngofkaaa", sum := "200c704be6e537218bded3c1fb9a3c8e0d0af52d9f8bdd4985cd300e1bb6f38c", func := "pub-tlshandshakes/laws.FnCertificateRequest13Again", spec := "fnCertificateRequest13Again", unfollowed := true, recurses := true, apart := false, narrowed := true }
def FnCertificateRequest13AgainUptoSaid : Prop := fnCertificateRequest13AgainUptoRow.holds Try.pinned (OpenSpec.upto fnCertificateRequest13AgainSpec)

/-- 'laws.FnCertificate13Read', WHERE WHAT IT READS IS OF BULK AT MOST 1048576: true; the input reads as it did. -/
def fnCertificate13ReadUptoRow : OpenClaim := { program := "ytddkjhlngofkaaa", sum := "200c704be6e537218bded3c1fb9a3c8e0d0af52d9f8bdd4985cd300e1bb6f38c", func := "pub-tlshandshakes/laws.FnCertificate13Read", spec := "fnCertificate13Read", apart := false, narrowed := true }
def FnCertificate13ReadUptoSaid : Prop := fnCertificate13ReadUptoRow.holds Try.pinned (OpenSpec.upto fnCertificate13ReadSpec)

/-- 'laws.FnCertificate13Bytes', WHERE WHAT IT READS IS OF BULK AT MOST 1048576: true; the input reads as it did. -/
def fnCertificate13BytesUptoRow : OpenClaim := { program := "ytddkjhlngofkaaa", sum := "200c704be6e537218bded3c1fb9a3c8e0d0af52d9f8bdd4985cd300e1bb6f38c", func := "pub-tlshandshakes/laws.FnCertificate13Bytes", spec := "fnCertificate13Bytes", unfollowed := true, recurses := true, apart := false, narrowed := true }
def FnCertificate13BytesUptoSaid : Prop := fnCertificate13BytesUptoRow.holds Try.pinned (OpenSpec.upto fnCertificate13BytesSpec)

/-- 'laws.FnCertificate13Made', WHERE WHAT IT READS IS OF BULK AT MOST 1048576: true; the input reads as it did. -/
def fnCertificate13MadeUptoRow : OpenClaim := { program := "ytddkjhlngofkaaa", sum := "200c704be6e537218bded3c1fb9a3c8e0d0af52d9f8bdd4985cd300e1bb6f38c", func := "pub-tlshandshakes/laws.FnCertificate13Made", spec := "fnCertificate13Made", unfollowed := true, recurses := true, apart := false, narrowed := true }
def FnCertificate13MadeUptoSaid : Prop := fnCertificate13MadeUptoRow.holds Try.pinned (OpenSpec.upto fnCertificate13MadeSpec)

/-- 'laws.FnRequestMade', WHERE WHAT IT READS IS OF BULK AT MOST 1048576: true; the input reads as it did. -/
def fnRequestMadeUptoRow : OpenClaim := { program := "ytddkjhlngofkaaa", sum := "200c704be6e537218bded3c1fb9a3c8e0d0af52d9f8bdd4985cd300e1bb6f38c", func := "pub-tlshandshakes/laws.FnRequestMade", spec := "fnRequestMade", unfollowed := true, recurses := true, apart := false, narrowed := true }
def FnRequestMadeUptoSaid : Prop := fnRequestMadeUptoRow.holds Try.pinned (OpenSpec.upto fnRequestMadeSpec)

end Rows
end Go.Proofs.Ytddkjhlngofkaaa

/-
  No cell of these rows narrows 'for every input' (looked for: loops, veiled, ifaces, maps, wideKeys, modest, calm, conditions, laid).
  DERIVED. THE GIVEN ROWS OF THIS SEAT. 11 by the template 'for every input the law returns true; each argument reads behind the call as it read before'; 0 by the template 'total and deterministic' (their statements: YtcdjbciifnoajaaTotals.lean).
  GIVEN WITH THE SEED: the statements are not yours to turn. If you find one false, say at which input.
  Laid BY PROGRAM, IN A SANDBOX (cutbox-rows.mjs): the forced cells as the released guide's own fill.sh prints them over the translation ef0bc5c699eb2510… (all of the seat's roots in one cut). By AI agents, Wed Nov 11 2026. No macro, syntax, notation, axiom, sorry.
-/
import Derived.Test.YtcdjbciifnoajaaChecked
import GoSem.Claim
import GoSem.ClaimJoined
import GoSem.ClaimMapViews
import Derived.JoinedTies
import Derived.KernelRfl
namespace Go.Proofs.Ytcdjbciifnoajaa
/- THE CELL 'sum', in the pinned program and in every row, IS THE sha256 OF THE DUMP (.gsa) THAT YtcdjbciifnoajaaProg.lean LOADS. Nothing in Lean hashes anything: it is a label: what it is worth is what the hold of that sum in a sandbox is worth. -/
noncomputable def Try.pinned : Pinned := { name := "ytcdjbciifnoajaa", sum := "ef0bc5c699eb251056adca7a7f2ce507e5775d960a0f6afcc231b3e01b944366", checked := Try.checked }
namespace Rows
def none {H : Type} : Left H := { results := [], args := [] }

/-- 'laws.FnTicket13Read': WHATEVER THE INPUT: true; the input reads as it did. -/
def fnTicket13ReadSpec : ChangeSpec := { name := "fnTicket13Read", fn := fun _ => fun
  | [d1, d2, d3] => { results := [.lit (.bool true)], args := [d1, d2, d3] }
  | _ => none }
def fnTicket13ReadRow : OpenClaim := { program := "ytcdjbciifnoajaa", sum := "ef0bc5c699eb251056adca7a7f2ce507e5775d960a0f6afcc231b3e01b944366", func := "pub-tlshandshakes/laws.FnTicket13Read", spec := "fnTicket13Read", apart := false }
def FnTicket13ReadSaid : Prop := fnTicket13ReadRow.holds Try.pinned (OpenSpec.ofChange fnTicket13ReadSpec)

/-- ITS FALSE NEIGHBOUR: 'it returns false'. Refute it at one input. -/
def fnTicket13ReadWrong : ChangeSpec := { name := "fnTicket13Read", fn := fun _ => fun
  | [d1, d2, d3] => { results := [.lit (.bool false)], args := [d1, d2, d3] }
  | _ => none }
def FnTicket13ReadWrongFalsely : Prop := fnTicket13ReadRow.holds Try.pinned (OpenSpec.ofChange fnTicket13ReadWrong)

/-- 'laws.FnTicket13Made': WHATEVER THE INPUT: true; the input reads as it did. -/
def fnTicket13MadeSpec : ChangeSpec := { name := "fnTicket13Made", fn := fun _ => fun
  | [d] => { results := [.lit (.bool true)], args := [d] }
  | _ => none }
def fnTicket13MadeRow : OpenClaim := { program := "ytcdjbciifnoajaa", sum := "ef0bc5c699eb251056adca7a7f2ce507e5775d960a0f6afcc231b3e01b944366", func := "pub-tlshandshakes/laws.FnTicket13Made", spec := "fnTicket13Made", unfollowed := true, recurses := true, apart := false }
def FnTicket13MadeSaid : Prop := fnTicket13MadeRow.holds Try.pinned (OpenSpec.ofChange fnTicket13MadeSpec)

/-- ITS FALSE NEIGHBOUR: 'it returns false'. Refute it at one input. -/
def fnTicket13MadeWrong : ChangeSpec := { name := "fnTicket13Made", fn := fun _ => fun
  | [d] => { results := [.lit (.bool false)], args := [d] }
  | _ => none }
def FnTicket13MadeWrongFalsely : Prop := fnTicket13MadeRow.holds Try.pinned (OpenSpec.ofChange fnTicket13MadeWrong)

/-- 'laws.FnTicket13Bytes': WHATEVER THE INPUT: true; the input reads as it did. -/
def fnTicket13BytesSpec : ChangeSpec := { name := "fnTicket13Bytes", fn := fun _ => fun
  | [d] => { results := [.lit (.bool true)], args := [d] }
  | _ => none }
def fnTicket13BytesRow : OpenClaim := { program := "ytcdjbciifnoajaa", sum := "ef0bc5c699eb251056adca7a7f2ce507e5775d960a0f6afcc231b3e01b944366", func := "pub-tlshandshakes/laws.FnTicket13Bytes", spec := "fnTicket13Bytes", unfollowed := true, recurses := true, apart := false }
def FnTicket13BytesSaid : Prop := fnTicket13BytesRow.holds Try.pinned (OpenSpec.ofChange fnTicket13BytesSpec)

/-- ITS FALSE NEIGHBOUR: 'it returns false'. Refute it at one input. -/
def fnTicket13BytesWrong : ChangeSpec := { name := "fnTicket13Bytes", fn := fun _ => fun
  | [d] => { results := [.lit (.bool false)], args := [d] }
  | _ => none }
def FnTicket13BytesWrongFalsely : Prop := fnTicket13BytesRow.holds Try.pinned (OpenSpec.ofChange fnTicket13BytesWrong)

/-- 'laws.FnTicket13Back': WHATEVER THE INPUT: true; the input reads as it did. -/
def fnTicket13BackSpec : ChangeSpec := { name := "fnTicket13Back", fn := fun _ => fun
  | [d] => { results := [.lit (.bool true)], args := [d] }
  | _ => none }
def fnTicket13BackRow : OpenClaim := { program := "ytcdjbciifnoajaa", sum := "ef0bc5c699eb251056adca7a7f2ce507e5775d960a0f6afcc231b3e01b944366", func := "pub-tlshandshakes/laws.FnTicket13Back", spec := "fnTicket13Back", unfollowed := true, recurses := true, apart := false }
def FnTicket13BackSaid : Prop := fnTicket13BackRow.holds Try.pinned (OpenSpec.ofChange fnTicket13BackSpec)

/-- ITS FALSE NEIGHBOUR: 'it returns false'. Refute it at one input. -/
def fnTicket13BackWrong : ChangeSpec := { name := "fnTicket13Back", fn := fun _ => fun
  | [d] => { results := [.lit (.bool false)], args := [d] }
  | _ => none }
def FnTicket13BackWrongFalsely : Prop := fnTicket13BackRow.holds Try.pinned (OpenSpec.ofChange fnTicket13BackWrong)

/-- 'laws.FnTicket13Again': WHATEVER THE INPUT: true; the input reads as it did. -/
def fnTicket13AgainSpec : ChangeSpec := { name := "fnTicket13Again", fn := fun _ => fun
  | [d] => { results := [.lit (.bool true)], args := [d] }
  | _ => none }
def fnTicket13AgainRow : OpenClaim := { program := "ytcdjbciifnoajaa", sum := "ef0bc5c699eb251056adca7a7f2ce507e5775d960a0f6afcc231b3e01b944366", func := "pub-tlshandshakes/laws.FnTicket13Again", spec := "fnTicket13Again", unfollowed := true, recurses := true, apart := false }
def FnTicket13AgainSaid : Prop := fnTicket13AgainRow.holds Try.pinned (OpenSpec.ofChange fnTicket13AgainSpec)

/-- ITS FALSE NEIGHBOUR: 'it returns false'. Refute it at one input. -/
def fnTicket13AgainWrong : ChangeSpec := { name := "fnTicket13Again", fn := fun _ => fun
  | [d] => { results := [.lit (.bool false)], args := [d] }
  | _ => none }
def FnTicket13AgainWrongFalsely : Prop := fnTicket13AgainRow.holds Try.pinned (OpenSpec.ofChange fnTicket13AgainWrong)

/-- 'laws.FnEncryptedExtensionsRead': WHATEVER THE INPUT: true; the input reads as it did. -/
def fnEncryptedExtensionsReadSpec : ChangeSpec := { name := "fnEncryptedExtensionsRead", fn := fun _ => fun
  | [d1, d2, d3] => { results := [.lit (.bool true)], args := [d1, d2, d3] }
  | _ => none }
def fnEncryptedExtensionsReadRow : OpenClaim := { program := "ytcdjbciifnoajaa", sum := "ef0bc5c699eb251056adca7a7f2ce507e5775d960a0f6afcc231b3e01b944366", func := "pub-tlshandshakes/laws.FnEncryptedExtensionsRead", spec := "fnEncryptedExtensionsRead", apart := false }
def FnEncryptedExtensionsReadSaid : Prop := fnEncryptedExtensionsReadRow.holds Try.pinned (OpenSpec.ofChange fnEncryptedExtensionsReadSpec)

/-- ITS FALSE NEIGHBOUR: 'it returns false'. Refute it at one input. -/
def fnEncryptedExtensionsReadWrong : ChangeSpec := { name := "fnEncryptedExtensionsRead", fn := fun _ => fun
  | [d1, d2, d3] => { results := [.lit (.bool false)], args := [d1, d2, d3] }
  | _ => none }
def FnEncryptedExtensionsReadWrongFalsely : Prop := fnEncryptedExtensionsReadRow.holds Try.pinned (OpenSpec.ofChange fnEncryptedExtensionsReadWrong)

/-- 'laws.FnEncryptedExtensionsMade': WHATEVER THE INPUT: true; the input reads as it did. -/
def fnEncryptedExtensionsMadeSpec : ChangeSpec := { name := "fnEncryptedExtensionsMade", fn := fun _ => fun
  | [d] => { results := [.lit (.bool true)], args := [d] }
  | _ => none }
def fnEncryptedExtensionsMadeRow : OpenClaim := { program := "ytcdjbciifnoajaa", sum := "ef0bc5c699eb251056adca7a7f2ce507e5775d960a0f6afcc231b3e01b944366", func := "pub-tlshandshakes/laws.FnEncryptedExtensionsMade", spec := "fnEncryptedExtensionsMade", unfollowed := true, recurses := true, apart := false }
def FnEncryptedExtensionsMadeSaid : Prop := fnEncryptedExtensionsMadeRow.holds Try.pinned (OpenSpec.ofChange fnEncryptedExtensionsMadeSpec)

/-- ITS FALSE NEIGHBOUR: 'it returns false'. Refute it at one input. -/
def fnEncryptedExtensionsMadeWrong : ChangeSpec := { name := "fnEncryptedExtensionsMade", fn := fun _ => fun
  | [d] => { results := [.lit (.bool false)], args := [d] }
  | _ => none }
def FnEncryptedExtensionsMadeWrongFalsely : Prop := fnEncryptedExtensionsMadeRow.holds Try.pinned (OpenSpec.ofChange fnEncryptedExtensionsMadeWrong)

/-- 'laws.FnEncryptedExtensionsBytes': WHATEVER THE INPUT: true; the input reads as it did. -/
def fnEncryptedExtensionsBytesSpec : ChangeSpec := { name := "fnEncryptedExtensionsBytes", fn := fun _ => fun
  | [d] => { results := [.lit (.bool true)], args := [d] }
  | _ => none }
def fnEncryptedExtensionsBytesRow : OpenClaim := { program := "ytcdjbciifnoajaa", sum := "ef0bc5c699eb251056adca7a7f2ce507e5775d960a0f6afcc231b3e01b944366", func := "pub-tlshandshakes/laws.FnEncryptedExtensionsBytes", spec := "fnEncryptedExtensionsBytes", unfollowed := true, recurses := true, apart := false }
def FnEncryptedExtensionsBytesSaid : Prop := fnEncryptedExtensionsBytesRow.holds Try.pinned (OpenSpec.ofChange fnEncryptedExtensionsBytesSpec)

/-- ITS FALSE NEIGHBOUR: 'it returns false'. Refute it at one input. -/
def fnEncryptedExtensionsBytesWrong : ChangeSpec := { name := "fnEncryptedExtensionsBytes", fn := fun _ => fun
  | [d] => { results := [.lit (.bool false)], args := [d] }
  | _ => none }
def FnEncryptedExtensionsBytesWrongFalsely : Prop := fnEncryptedExtensionsBytesRow.holds Try.pinned (OpenSpec.ofChange fnEncryptedExtensionsBytesWrong)

/-- 'laws.FnEncryptedExtensionsRange': WHATEVER THE INPUT: true; the input reads as it did. -/
def fnEncryptedExtensionsRangeSpec : ChangeSpec := { name := "fnEncryptedExtensionsRange", fn := fun _ => fun
  | [d] => { results := [.lit (.bool true)], args := [d] }
  | _ => none }
def fnEncryptedExtensionsRangeRow : OpenClaim := { program := "ytcdjbciifnoajaa", sum := "ef0bc5c699eb251056adca7a7f2ce507e5775d960a0f6afcc231b3e01b944366", func := "pub-tlshandshakes/laws.FnEncryptedExtensionsRange", spec := "fnEncryptedExtensionsRange", unfollowed := true, recurses := true, apart := false }
def FnEncryptedExtensionsRangeSaid : Prop := fnEncryptedExtensionsRangeRow.holds Try.pinned (OpenSpec.ofChange fnEncryptedExtensionsRangeSpec)

/-- ITS FALSE NEIGHBOUR: 'it returns false'. Refute it at one input. -/
def fnEncryptedExtensionsRangeWrong : ChangeSpec := { name := "fnEncryptedExtensionsRange", fn := fun _ => fun
  | [d] => { results := [.lit (.bool false)], args := [d] }
  | _ => none }
def FnEncryptedExtensionsRangeWrongFalsely : Prop := fnEncryptedExtensionsRangeRow.holds Try.pinned (OpenSpec.ofChange fnEncryptedExtensionsRangeWrong)

/-- 'laws.FnEncryptedExtensionsBack': WHATEVER THE INPUT: true; the input reads as it did. -/
def fnEncryptedExtensionsBackSpec : ChangeSpec := { name := "fnEncryptedExtensionsBack", fn := fun _ => fun
  | [d] => { results := [.lit (.bool true)], args := [d] }
  | _ => none }
def fnEncryptedExtensionsBackRow : OpenClaim := { program := "ytcdjbciifnoajaa", sum := "ef0bc5c699eb251056adca7a7f2ce507e5775d960a0f6afcc231b3e01b944366", func := "pub-tlshandshakes/laws.FnEncryptedExtensionsBack", spec := "fnEncryptedExtensionsBack", unfollowed := true, recurses := true, apart := false }
def FnEncryptedExtensionsBackSaid : Prop := fnEncryptedExtensionsBackRow.holds Try.pinned (OpenSpec.ofChange fnEncryptedExtensionsBackSpec)

/-- ITS FALSE NEIGHBOUR: 'it returns false'. Refute it at one input. -/
def fnEncryptedExtensionsBackWrong : ChangeSpec := { name := "fnEncryptedExtensionsBack", fn := fun _ => fun
  | [d] => { results := [.lit (.bool false)], args := [d] }
  | _ => none }
def FnEncryptedExtensionsBackWrongFalsely : Prop := fnEncryptedExtensionsBackRow.holds Try.pinned (OpenSpec.ofChange fnEncryptedExtensionsBackWrong)

/-- 'laws.FnEncryptedExtensionsAgain': WHATEVER THE INPUT: true; the input reads as it did. -/
def fnEncryptedExtensionsAgainSpec : ChangeSpec := { name := "fnEncryptedExtensionsAgain", fn := fun _ => fun
  | [d] => { results := [.lit (.bool true)], args := [d] }
  | _ => none }
def fnEncryptedExtensionsAgainRow : OpenClaim := { program := "ytcdjbciifnoajaa", sum := "ef0bc5c699eb251056adca7a7f2ce507e5775d960a0f6afcc231b3e01b944366", func := "pub-tlshandshakes/laws.FnEncryptedExtensionsAgain", spec := "fnEncryptedExtensionsAgain", unfollowed := true, recurses := true, apart := false }
def FnEncryptedExtensionsAgainSaid : Prop := fnEncryptedExtensionsAgainRow.holds Try.pinned (OpenSpec.ofChange fnEncryptedExtensionsAgainSpec)

/-- ITS FALSE NEIGHBOUR: 'it returns false'. Refute it at one input. -/
def fnEncryptedExtensionsAgainWrong : ChangeSpec := { name := "fnEncryptedExtensionsAgain", fn := fun _ => fun
  | [d] => { results := [.lit (.bool false)], args := [d] }
  | _ => none }
def FnEncryptedExtensionsAgainWrongFalsely : Prop := fnEncryptedExtensionsAgainRow.holds Try.pinned (OpenSpec.ofChange fnEncryptedExtensionsAgainWrong)

/- THE SECOND FORM. 'bulk': how many values and letters a reading holds, each counted each time it is reached (what is shared counts as often as it is met; a slice's spare places count too). A statement '..UptoSaid' is the law's where the arguments, and the package variables that the reading takes, are together of bulk at most 1048576: NARROWER than '..Said'. Prove '..Said' where nothing that the law and all that it calls make is longer than what came in: it says more and counts as full. Else prove '..UptoSaid'. A law counts once. -/
mutual
def uptoBulk {H : Type} : DataW H → Nat
  | .lit (.string bytes) => bytes.length + 1
  | .lit _ => 1
  | .nil => 1
  | .ptr d => uptoBulk d + 1
  | .slice elems spare => uptoBulkAll elems + uptoBulkAll spare + 1
  | .agg parts => uptoBulkAll parts + 1
  | .iface _ d => uptoBulk d + 1
  | .map entries => uptoBulkEntries entries + 1
  | .held _ => 1
def uptoBulkAll {H : Type} : List (DataW H) → Nat
  | [] => 0
  | d :: r => uptoBulk d + uptoBulkAll r
def uptoBulkEntries {H : Type} : List (Lit × DataW H) → Nat
  | [] => 0
  | x :: r => uptoBulkEntry x + uptoBulkEntries r
def uptoBulkEntry {H : Type} : Lit × DataW H → Nat
  | (.string bytes, d) => bytes.length + uptoBulk d + 1
  | (_, d) => uptoBulk d + 1
 end
def uptoSmall : (H : Type) → List (DataW H) → Bool := fun _ ds => decide (uptoBulkAll ds ≤ 1048576)
def OpenSpec.upto (s : _root_.Go.ChangeSpec) : _root_.Go.OpenSpec := { _root_.Go.OpenSpec.ofChange s with cond := some uptoSmall }

/-- 'laws.FnTicket13Read', WHERE WHAT IT READS IS OF BULK AT MOST 1048576: true; the input reads as it did. -/
def fnTicket13ReadUptoRow : OpenClaim := { program := "ytcdjbciifnoajaa", sum := "ef0bc5c699eb251056adca7a7f2ce507e5775d960a0f6afcc231b3e01b944366", func := "pub-tlshandshakes/laws.FnTicket13Read", spec := "fnTicket13Read", apart := false, narrowed := true }
def FnTicket13ReadUptoSaid : Prop := fnTicket13ReadUptoRow.holds Try.pinned (OpenSpec.upto fnTicket13ReadSpec)

/-- 'laws.FnTicket13Made', WHERE WHAT IT READS IS OF BULK AT MOST 1048576: true; the input reads as it did. -/
def fnTicket13MadeUptoRow : OpenClaim := { program := "ytcdjbciifnoajaa", sum := "ef0bc5c699eb251056adca7a7f2ce507e5775d960a0f6afcc231b3e01b944366", func := "pub-tlshandshakes/laws.FnTicket13Made", spec := "fnTicket13Made", unfollowed := true, recurses := true, apart := false, narrowed := true }
def FnTicket13MadeUptoSaid : Prop := fnTicket13MadeUptoRow.holds Try.pinned (OpenSpec.upto fnTicket13MadeSpec)

/-- 'laws.FnTicket13Bytes', WHERE WHAT IT READS IS OF BULK AT MOST 1048576: true; the input reads as it did. -/
def fnTicket13BytesUptoRow : OpenClaim := { program := "ytcdjbciifnoajaa", sum := "ef0bc5c699eb251056adca7a7f2ce507e5775d960a0f6afcc231b3e01b944366", func := "pub-tlshandshakes/laws.FnTicket13Bytes", spec := "fnTicket13Bytes", unfollowed := true, recurses := true, apart := false, narrowed := true }
def FnTicket13BytesUptoSaid : Prop := fnTicket13BytesUptoRow.holds Try.pinned (OpenSpec.upto fnTicket13BytesSpec)

/-- 'laws.FnTicket13Back', WHERE WHAT IT READS IS OF BULK AT MOST 1048576: true; the input reads as it did. -/
def fnTicket13BackUptoRow : OpenClaim := { program := "ytcdjbciifnoajaa", sum := "ef0bc5c699eb251056adca7a7f2ce507e5775d960a0f6afcc231b3e01b944366", func := "pub-tlshandshakes/laws.FnTicket13Back", spec := "fnTicket13Back", unfollowed := true, recurses := true, apart := false, narrowed := true }
def FnTicket13BackUptoSaid : Prop := fnTicket13BackUptoRow.holds Try.pinned (OpenSpec.upto fnTicket13BackSpec)

/-- 'laws.FnTicket13Again', WHERE WHAT IT READS IS OF BULK AT MOST 1048576: true; the input reads as it did. -/
def fnTicket13AgainUptoRow : OpenClaim := { program := "ytcdjbciifnoajaa", sum := "ef0bc5c699eb251056adca7a7f2ce507e5775d960a0f6afcc231b3e01b944366", func := "pub-tlshandshakes/laws.FnTicket13Again", spec := "fnTicket13Again", unfollowed := true, recurses := true, apart := false, narrowed := true }
def FnTicket13AgainUptoSaid : Prop := fnTicket13AgainUptoRow.holds Try.pinned (OpenSpec.upto fnTicket13AgainSpec)

/-- 'laws.FnEncryptedExtensionsRead', WHERE WHAT IT READS IS OF BULK AT MOST 1048576: true; the input reads as it did. -/
def fnEncryptedExtensionsReadUptoRow : OpenClaim := { program := "ytcdjbciifnoajaa", sum := "ef0bc5c699eb251056adca7a7f2ce507e5775d960a0f6afcc231b3e01b944366", func := "pub-tlshandshakes/laws.FnEncryptedExtensionsRead", spec := "fnEncryptedExtensionsRead", apart := false, narrowed := true }
def FnEncryptedExtensionsReadUptoSaid : Prop := fnEncryptedExtensionsReadUptoRow.holds Try.pinned (OpenSpec.upto fnEncryptedExtensionsReadSpec)

/-- 'laws.FnEncryptedExtensionsMade', WHERE WHAT IT READS IS OF BULK AT MOST 1048576: true; the input reads as it did. -/
def fnEncryptedExtensionsMadeUptoRow : OpenClaim := { program := "ytcdjbciifnoajaa", sum := "ef0bc5c699eb251056adca7a7f2ce507e5775d960a0f6afcc231b3e01b944366", func := "pub-tlshandshakes/laws.FnEncryptedExtensionsMade", spec := "fnEncryptedExtensionsMade", unfollowed := true, recurses := true, apart := false, narrowed := true }
def FnEncryptedExtensionsMadeUptoSaid : Prop := fnEncryptedExtensionsMadeUptoRow.holds Try.pinned (OpenSpec.upto fnEncryptedExtensionsMadeSpec)

/-- 'laws.FnEncryptedExtensionsBytes', WHERE WHAT IT READS IS OF BULK AT MOST 1048576: true; the input reads as it did. -/
def fnEncryptedExtensionsBytesUptoRow : OpenClaim := { program := "ytcdjbciifnoajaa", sum := "ef0bc5c699eb251056adca7a7f2ce507e5775d960a0f6afcc231b3e01b944366", func := "pub-tlshandshakes/laws.FnEncryptedExtensionsBytes", spec := "fnEncryptedExtensionsBytes", unfollowed := true, recurses := true, apart := false, narrowed := true }
def FnEncryptedExtensionsBytesUptoSaid : Prop := fnEncryptedExtensionsBytesUptoRow.holds Try.pinned (OpenSpec.upto fnEncryptedExtensionsBytesSpec)

/-- 'laws.FnEncryptedExtensionsRange', WHERE WHAT IT READS IS OF BULK AT MOST 1048576: true; the input reads as it did. -/
def fnEncryptedExtensionsRangeUptoRow : OpenClaim := { program := "ytcdjbciifnoajaa", sum := "ef0bc5c699eb251056adca7a7f2ce507e5775d960a0f6afcc231b3e01b944366", func := "pub-tlshandshakes/laws.FnEncryptedExtensionsRange", spec := "fnEncryptedExtensionsRange", unfollowed := true, recurses := true, apart := false, narrowed := true }
def FnEncryptedExtensionsRangeUptoSaid : Prop := fnEncryptedExtensionsRangeUptoRow.holds Try.pinned (OpenSpec.upto fnEncryptedExtensionsRangeSpec)

/-- 'laws.FnEncryptedExtensionsBack', WHERE WHAT IT READS IS OF BULK AT MOST 1048576: true; the input reads as it did. -/
def fnEncryptedExtensionsBackUptoRow : OpenClaim := { program := "ytcdjbciifnoajaa", sum := "ef0bc5c699eb251056adca7a7f2ce507e5775d960a0f6afcc231b3e01b944366", func := "pub-tlshandshakes/laws.FnEncryptedExtensionsBack", spec := "fnEncryptedExtensionsBack", unfollowed := true, recurses := true, apart := false, narrowed := true }
def FnEncryptedExtensionsBackUptoSaid : Prop := fnEncryptedExtensionsBackUptoRow.holds Try.pinned (OpenSpec.upto fnEncryptedExtensionsBackSpec)

/-- 'laws.FnEncryptedExtensionsAgain', WHERE WHAT IT READS IS OF BULK AT MOST 1048576: true; the input reads as it did. -/
def fnEncryptedExtensionsAgainUptoRow : OpenClaim := { program := "ytcdjbciifnoajaa", sum := "ef0bc5c699eb251056adca7a7f2ce507e5775d960a0f6afcc231b3e01b944366", func := "pub-tlshandshakes/laws.FnEncryptedExtensionsAgain", spec := "fnEncryptedExtensionsAgain", unfollowed := true, recurses := true, apart := false, narrowed := true }
def FnEncryptedExtensionsAgainUptoSaid : Prop := fnEncryptedExtensionsAgainUptoRow.holds Try.pinned (OpenSpec.upto fnEncryptedExtensionsAgainSpec)

end Rows
end Go.Proofs.Ytcdjbciifnoajaa

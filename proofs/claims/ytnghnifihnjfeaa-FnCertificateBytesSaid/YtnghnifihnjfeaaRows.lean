/-
  No cell of these rows narrows 'for every input' (looked for: loops, veiled, ifaces, maps, wideKeys, modest, calm, conditions, laid).
  DERIVED. THE GIVEN ROWS OF THIS SEAT. 12 by the template 'for every input the law returns true; each argument reads behind the call as it read before'; 0 by the template 'total and deterministic' (their statements: YtnghnifihnjfeaaTotals.lean).
  GIVEN WITH THE SEED: the statements are not yours to turn. If you find one false, say at which input.
  Laid BY PROGRAM, IN A SANDBOX (cutbox-rows.mjs): the forced cells as the released guide's own fill.sh prints them over the translation dd409546a4a9cb0c… (all of the seat's roots in one cut). By AI agents, Wed Nov 11 2026. No macro, syntax, notation, axiom, sorry.
-/
import Derived.Test.YtnghnifihnjfeaaChecked
import GoSem.Claim
import GoSem.ClaimJoined
import GoSem.ClaimMapViews
import Derived.JoinedTies
import Derived.KernelRfl
namespace Go.Proofs.Ytnghnifihnjfeaa
/- THE CELL 'sum', in the pinned program and in every row, IS THE sha256 OF THE DUMP (.gsa) THAT YtnghnifihnjfeaaProg.lean LOADS. Nothing in Lean hashes anything: it is a label: what it is worth is what the hold of that sum in a sandbox is worth. -/
noncomputable def Try.pinned : Pinned := { name := "ytnghnifihnjfeaa", sum := "dd409546a4a9cb0cb5f7f058394325ea228e724bcd712c03c2175b6b865b0c65", checked := Try.checked }
namespace Rows
def none {H : Type} : Left H := { results := [], args := [] }

/-- 'laws.FnTicketBytes': WHATEVER THE INPUT: true; the input reads as it did. -/
def fnTicketBytesSpec : ChangeSpec := { name := "fnTicketBytes", fn := fun _ => fun
  | [d] => { results := [.lit (.bool true)], args := [d] }
  | _ => none }
def fnTicketBytesRow : OpenClaim := { program := "ytnghnifihnjfeaa", sum := "dd409546a4a9cb0cb5f7f058394325ea228e724bcd712c03c2175b6b865b0c65", func := "pub-tlshandshakes/laws.FnTicketBytes", spec := "fnTicketBytes", unfollowed := true, recurses := true, apart := false }
def FnTicketBytesSaid : Prop := fnTicketBytesRow.holds Try.pinned (OpenSpec.ofChange fnTicketBytesSpec)

/-- ITS FALSE NEIGHBOUR: 'it returns false'. Refute it at one input. -/
def fnTicketBytesWrong : ChangeSpec := { name := "fnTicketBytes", fn := fun _ => fun
  | [d] => { results := [.lit (.bool false)], args := [d] }
  | _ => none }
def FnTicketBytesWrongFalsely : Prop := fnTicketBytesRow.holds Try.pinned (OpenSpec.ofChange fnTicketBytesWrong)

/-- 'laws.FnTicketMade': WHATEVER THE INPUT: true; the input reads as it did. -/
def fnTicketMadeSpec : ChangeSpec := { name := "fnTicketMade", fn := fun _ => fun
  | [d] => { results := [.lit (.bool true)], args := [d] }
  | _ => none }
def fnTicketMadeRow : OpenClaim := { program := "ytnghnifihnjfeaa", sum := "dd409546a4a9cb0cb5f7f058394325ea228e724bcd712c03c2175b6b865b0c65", func := "pub-tlshandshakes/laws.FnTicketMade", spec := "fnTicketMade", unfollowed := true, recurses := true, apart := false }
def FnTicketMadeSaid : Prop := fnTicketMadeRow.holds Try.pinned (OpenSpec.ofChange fnTicketMadeSpec)

/-- ITS FALSE NEIGHBOUR: 'it returns false'. Refute it at one input. -/
def fnTicketMadeWrong : ChangeSpec := { name := "fnTicketMade", fn := fun _ => fun
  | [d] => { results := [.lit (.bool false)], args := [d] }
  | _ => none }
def FnTicketMadeWrongFalsely : Prop := fnTicketMadeRow.holds Try.pinned (OpenSpec.ofChange fnTicketMadeWrong)

/-- 'laws.FnEmptyMade': WHATEVER THE INPUT: true; the input reads as it did. -/
def fnEmptyMadeSpec : ChangeSpec := { name := "fnEmptyMade", fn := fun _ => fun
  | [d1, d2] => { results := [.lit (.bool true)], args := [d1, d2] }
  | _ => none }
def fnEmptyMadeRow : OpenClaim := { program := "ytnghnifihnjfeaa", sum := "dd409546a4a9cb0cb5f7f058394325ea228e724bcd712c03c2175b6b865b0c65", func := "pub-tlshandshakes/laws.FnEmptyMade", spec := "fnEmptyMade", unfollowed := true, recurses := true, apart := false }
def FnEmptyMadeSaid : Prop := fnEmptyMadeRow.holds Try.pinned (OpenSpec.ofChange fnEmptyMadeSpec)

/-- ITS FALSE NEIGHBOUR: 'it returns false'. Refute it at one input. -/
def fnEmptyMadeWrong : ChangeSpec := { name := "fnEmptyMade", fn := fun _ => fun
  | [d1, d2] => { results := [.lit (.bool false)], args := [d1, d2] }
  | _ => none }
def FnEmptyMadeWrongFalsely : Prop := fnEmptyMadeRow.holds Try.pinned (OpenSpec.ofChange fnEmptyMadeWrong)

/-- 'laws.FnUpdateBytes': WHATEVER THE INPUT: true; the input reads as it did. -/
def fnUpdateBytesSpec : ChangeSpec := { name := "fnUpdateBytes", fn := fun _ => fun
  | [d] => { results := [.lit (.bool true)], args := [d] }
  | _ => none }
def fnUpdateBytesRow : OpenClaim := { program := "ytnghnifihnjfeaa", sum := "dd409546a4a9cb0cb5f7f058394325ea228e724bcd712c03c2175b6b865b0c65", func := "pub-tlshandshakes/laws.FnUpdateBytes", spec := "fnUpdateBytes", unfollowed := true, recurses := true, apart := false }
def FnUpdateBytesSaid : Prop := fnUpdateBytesRow.holds Try.pinned (OpenSpec.ofChange fnUpdateBytesSpec)

/-- ITS FALSE NEIGHBOUR: 'it returns false'. Refute it at one input. -/
def fnUpdateBytesWrong : ChangeSpec := { name := "fnUpdateBytes", fn := fun _ => fun
  | [d] => { results := [.lit (.bool false)], args := [d] }
  | _ => none }
def FnUpdateBytesWrongFalsely : Prop := fnUpdateBytesRow.holds Try.pinned (OpenSpec.ofChange fnUpdateBytesWrong)

/-- 'laws.FnUpdateMade': WHATEVER THE INPUT: true; the input reads as it did. -/
def fnUpdateMadeSpec : ChangeSpec := { name := "fnUpdateMade", fn := fun _ => fun
  | [d] => { results := [.lit (.bool true)], args := [d] }
  | _ => none }
def fnUpdateMadeRow : OpenClaim := { program := "ytnghnifihnjfeaa", sum := "dd409546a4a9cb0cb5f7f058394325ea228e724bcd712c03c2175b6b865b0c65", func := "pub-tlshandshakes/laws.FnUpdateMade", spec := "fnUpdateMade", unfollowed := true, recurses := true, apart := false }
def FnUpdateMadeSaid : Prop := fnUpdateMadeRow.holds Try.pinned (OpenSpec.ofChange fnUpdateMadeSpec)

/-- ITS FALSE NEIGHBOUR: 'it returns false'. Refute it at one input. -/
def fnUpdateMadeWrong : ChangeSpec := { name := "fnUpdateMade", fn := fun _ => fun
  | [d] => { results := [.lit (.bool false)], args := [d] }
  | _ => none }
def FnUpdateMadeWrongFalsely : Prop := fnUpdateMadeRow.holds Try.pinned (OpenSpec.ofChange fnUpdateMadeWrong)

/-- 'laws.FnFinishedMade': WHATEVER THE INPUT: true; the input reads as it did. -/
def fnFinishedMadeSpec : ChangeSpec := { name := "fnFinishedMade", fn := fun _ => fun
  | [d] => { results := [.lit (.bool true)], args := [d] }
  | _ => none }
def fnFinishedMadeRow : OpenClaim := { program := "ytnghnifihnjfeaa", sum := "dd409546a4a9cb0cb5f7f058394325ea228e724bcd712c03c2175b6b865b0c65", func := "pub-tlshandshakes/laws.FnFinishedMade", spec := "fnFinishedMade", unfollowed := true, recurses := true, apart := false }
def FnFinishedMadeSaid : Prop := fnFinishedMadeRow.holds Try.pinned (OpenSpec.ofChange fnFinishedMadeSpec)

/-- ITS FALSE NEIGHBOUR: 'it returns false'. Refute it at one input. -/
def fnFinishedMadeWrong : ChangeSpec := { name := "fnFinishedMade", fn := fun _ => fun
  | [d] => { results := [.lit (.bool false)], args := [d] }
  | _ => none }
def FnFinishedMadeWrongFalsely : Prop := fnFinishedMadeRow.holds Try.pinned (OpenSpec.ofChange fnFinishedMadeWrong)

/-- 'laws.FnStatusBytes': WHATEVER THE INPUT: true; the input reads as it did. -/
def fnStatusBytesSpec : ChangeSpec := { name := "fnStatusBytes", fn := fun _ => fun
  | [d] => { results := [.lit (.bool true)], args := [d] }
  | _ => none }
def fnStatusBytesRow : OpenClaim := { program := "ytnghnifihnjfeaa", sum := "dd409546a4a9cb0cb5f7f058394325ea228e724bcd712c03c2175b6b865b0c65", func := "pub-tlshandshakes/laws.FnStatusBytes", spec := "fnStatusBytes", unfollowed := true, recurses := true, apart := false }
def FnStatusBytesSaid : Prop := fnStatusBytesRow.holds Try.pinned (OpenSpec.ofChange fnStatusBytesSpec)

/-- ITS FALSE NEIGHBOUR: 'it returns false'. Refute it at one input. -/
def fnStatusBytesWrong : ChangeSpec := { name := "fnStatusBytes", fn := fun _ => fun
  | [d] => { results := [.lit (.bool false)], args := [d] }
  | _ => none }
def FnStatusBytesWrongFalsely : Prop := fnStatusBytesRow.holds Try.pinned (OpenSpec.ofChange fnStatusBytesWrong)

/-- 'laws.FnStatusMade': WHATEVER THE INPUT: true; the input reads as it did. -/
def fnStatusMadeSpec : ChangeSpec := { name := "fnStatusMade", fn := fun _ => fun
  | [d] => { results := [.lit (.bool true)], args := [d] }
  | _ => none }
def fnStatusMadeRow : OpenClaim := { program := "ytnghnifihnjfeaa", sum := "dd409546a4a9cb0cb5f7f058394325ea228e724bcd712c03c2175b6b865b0c65", func := "pub-tlshandshakes/laws.FnStatusMade", spec := "fnStatusMade", unfollowed := true, recurses := true, apart := false }
def FnStatusMadeSaid : Prop := fnStatusMadeRow.holds Try.pinned (OpenSpec.ofChange fnStatusMadeSpec)

/-- ITS FALSE NEIGHBOUR: 'it returns false'. Refute it at one input. -/
def fnStatusMadeWrong : ChangeSpec := { name := "fnStatusMade", fn := fun _ => fun
  | [d] => { results := [.lit (.bool false)], args := [d] }
  | _ => none }
def FnStatusMadeWrongFalsely : Prop := fnStatusMadeRow.holds Try.pinned (OpenSpec.ofChange fnStatusMadeWrong)

/-- 'laws.FnVerifyBytes': WHATEVER THE INPUT: true; the input reads as it did. -/
def fnVerifyBytesSpec : ChangeSpec := { name := "fnVerifyBytes", fn := fun _ => fun
  | [d1, d2] => { results := [.lit (.bool true)], args := [d1, d2] }
  | _ => none }
def fnVerifyBytesRow : OpenClaim := { program := "ytnghnifihnjfeaa", sum := "dd409546a4a9cb0cb5f7f058394325ea228e724bcd712c03c2175b6b865b0c65", func := "pub-tlshandshakes/laws.FnVerifyBytes", spec := "fnVerifyBytes", unfollowed := true, recurses := true, apart := false }
def FnVerifyBytesSaid : Prop := fnVerifyBytesRow.holds Try.pinned (OpenSpec.ofChange fnVerifyBytesSpec)

/-- ITS FALSE NEIGHBOUR: 'it returns false'. Refute it at one input. -/
def fnVerifyBytesWrong : ChangeSpec := { name := "fnVerifyBytes", fn := fun _ => fun
  | [d1, d2] => { results := [.lit (.bool false)], args := [d1, d2] }
  | _ => none }
def FnVerifyBytesWrongFalsely : Prop := fnVerifyBytesRow.holds Try.pinned (OpenSpec.ofChange fnVerifyBytesWrong)

/-- 'laws.FnVerifyMade': WHATEVER THE INPUT: true; the input reads as it did. -/
def fnVerifyMadeSpec : ChangeSpec := { name := "fnVerifyMade", fn := fun _ => fun
  | [d1, d2, d3] => { results := [.lit (.bool true)], args := [d1, d2, d3] }
  | _ => none }
def fnVerifyMadeRow : OpenClaim := { program := "ytnghnifihnjfeaa", sum := "dd409546a4a9cb0cb5f7f058394325ea228e724bcd712c03c2175b6b865b0c65", func := "pub-tlshandshakes/laws.FnVerifyMade", spec := "fnVerifyMade", unfollowed := true, recurses := true, apart := false }
def FnVerifyMadeSaid : Prop := fnVerifyMadeRow.holds Try.pinned (OpenSpec.ofChange fnVerifyMadeSpec)

/-- ITS FALSE NEIGHBOUR: 'it returns false'. Refute it at one input. -/
def fnVerifyMadeWrong : ChangeSpec := { name := "fnVerifyMade", fn := fun _ => fun
  | [d1, d2, d3] => { results := [.lit (.bool false)], args := [d1, d2, d3] }
  | _ => none }
def FnVerifyMadeWrongFalsely : Prop := fnVerifyMadeRow.holds Try.pinned (OpenSpec.ofChange fnVerifyMadeWrong)

/-- 'laws.FnCertificateBytes': WHATEVER THE INPUT: true; the input reads as it did. -/
def fnCertificateBytesSpec : ChangeSpec := { name := "fnCertificateBytes", fn := fun _ => fun
  | [d] => { results := [.lit (.bool true)], args := [d] }
  | _ => none }
def fnCertificateBytesRow : OpenClaim := { program := "ytnghnifihnjfeaa", sum := "dd409546a4a9cb0cb5f7f058394325ea228e724bcd712c03c2175b6b865b0c65", func := "pub-tlshandshakes/laws.FnCertificateBytes", spec := "fnCertificateBytes", unfollowed := true, recurses := true, apart := false }
def FnCertificateBytesSaid : Prop := fnCertificateBytesRow.holds Try.pinned (OpenSpec.ofChange fnCertificateBytesSpec)

/-- ITS FALSE NEIGHBOUR: 'it returns false'. Refute it at one input. -/
def fnCertificateBytesWrong : ChangeSpec := { name := "fnCertificateBytes", fn := fun _ => fun
  | [d] => { results := [.lit (.bool false)], args := [d] }
  | _ => none }
def FnCertificateBytesWrongFalsely : Prop := fnCertificateBytesRow.holds Try.pinned (OpenSpec.ofChange fnCertificateBytesWrong)

/-- 'laws.FnRequestBytes': WHATEVER THE INPUT: true; the input reads as it did. -/
def fnRequestBytesSpec : ChangeSpec := { name := "fnRequestBytes", fn := fun _ => fun
  | [d1, d2] => { results := [.lit (.bool true)], args := [d1, d2] }
  | _ => none }
def fnRequestBytesRow : OpenClaim := { program := "ytnghnifihnjfeaa", sum := "dd409546a4a9cb0cb5f7f058394325ea228e724bcd712c03c2175b6b865b0c65", func := "pub-tlshandshakes/laws.FnRequestBytes", spec := "fnRequestBytes", unfollowed := true, recurses := true, apart := false }
def FnRequestBytesSaid : Prop := fnRequestBytesRow.holds Try.pinned (OpenSpec.ofChange fnRequestBytesSpec)

/-- ITS FALSE NEIGHBOUR: 'it returns false'. Refute it at one input. -/
def fnRequestBytesWrong : ChangeSpec := { name := "fnRequestBytes", fn := fun _ => fun
  | [d1, d2] => { results := [.lit (.bool false)], args := [d1, d2] }
  | _ => none }
def FnRequestBytesWrongFalsely : Prop := fnRequestBytesRow.holds Try.pinned (OpenSpec.ofChange fnRequestBytesWrong)

/- THE SECOND FORM. 'bulk': how many values and letters a reading holds, each counted each time it is reached (what is shared counts as often as it is met; a slice's spare places count too). A statement '..UptoSaid' is the law's where the arguments, and the package variables that the reading takes, are together of bulk at most 1048576: NARROWER than '..Said'. Prove '..Said' where nothing that the law and all that it calls make is longer than what came in: it says more and counts as full. Else prove '..UptoSaid'. A law counts once. -/
mutual
def uptoBulk {H : Type} : DataW H → Nat
  | .lit (.string bytes) => bytes.length + 1
  | .lit _ => 1
  | .nil => 1
  | .ptr d => uptoBulk d + 1
  | .slice elems spare => uptoBulkAll elems + uptoBulkAll spare + 1
  | .agg parts => uptoBulkAll parts + 1
  | .iface _ d => uptoBulk d + 1
  | .map entries => uptoBulkEntries entries + 1
  | .held _ => 1
def uptoBulkAll {H : Type} : List (DataW H) → Nat
  | [] => 0
  | d :: r => uptoBulk d + uptoBulkAll r
def uptoBulkEntries {H : Type} : List (Lit × DataW H) → Nat
  | [] => 0
  | x :: r => uptoBulkEntry x + uptoBulkEntries r
def uptoBulkEntry {H : Type} : Lit × DataW H → Nat
  | (.string bytes, d) => bytes.length + uptoBulk d + 1
  | (_, d) => uptoBulk d + 1
 end
def uptoSmall : (H : Type) → List (DataW H) → Bool := fun _ ds => decide (uptoBulkAll ds ≤ 1048576)
def OpenSpec.upto (s : _root_.Go.ChangeSpec) : _root_.Go.OpenSpec := { _root_.Go.OpenSpec.ofChange s with cond := some uptoSmall }

/-- 'laws.FnTicketBytes', WHERE WHAT IT READS IS OF BULK AT MOST 1048576: true; the input reads as it did. -/
def fnTicketBytesUptoRow : OpenClaim := { program := "ytnghnifihnjfeaa", sum := "dd409546a4a9cb0cb5f7f058394325ea228e724bcd712c03c2175b6b865b0c65", func := "pub-tlshandshakes/laws.FnTicketBytes", spec := "fnTicketBytes", unfollowed := true, recurses := true, apart := false, narrowed := true }
def FnTicketBytesUptoSaid : Prop := fnTicketBytesUptoRow.holds Try.pinned (OpenSpec.upto fnTicketBytesSpec)

/-- 'laws.FnTicketMade', WHERE WHAT IT READS IS OF BULK AT MOST 1048576: true; the input reads as it did. -/
def fnTicketMadeUptoRow : OpenClaim := { program := "ytnghnifihnjfeaa", sum := "dd409546a4a9cb0cb5f7f058394325ea228e724bcd712c03c2175b6b865b0c65", func := "pub-tlshandshakes/laws.FnTicketMade", spec := "fnTicketMade", unfollowed := true, recurses := true, apart := false, narrowed := true }
def FnTicketMadeUptoSaid : Prop := fnTicketMadeUptoRow.holds Try.pinned (OpenSpec.upto fnTicketMadeSpec)

/-- 'laws.FnEmptyMade', WHERE WHAT IT READS IS OF BULK AT MOST 1048576: true; the input reads as it did. -/
def fnEmptyMadeUptoRow : OpenClaim := { program := "ytnghnifihnjfeaa", sum := "dd409546a4a9cb0cb5f7f058394325ea228e724bcd712c03c2175b6b865b0c65", func := "pub-tlshandshakes/laws.FnEmptyMade", spec := "fnEmptyMade", unfollowed := true, recurses := true, apart := false, narrowed := true }
def FnEmptyMadeUptoSaid : Prop := fnEmptyMadeUptoRow.holds Try.pinned (OpenSpec.upto fnEmptyMadeSpec)

/-- 'laws.FnUpdateBytes', WHERE WHAT IT READS IS OF BULK AT MOST 1048576: true; the input reads as it did. -/
def fnUpdateBytesUptoRow : OpenClaim := { program := "ytnghnifihnjfeaa", sum := "dd409546a4a9cb0cb5f7f058394325ea228e724bcd712c03c2175b6b865b0c65", func := "pub-tlshandshakes/laws.FnUpdateBytes", spec := "fnUpdateBytes", unfollowed := true, recurses := true, apart := false, narrowed := true }
def FnUpdateBytesUptoSaid : Prop := fnUpdateBytesUptoRow.holds Try.pinned (OpenSpec.upto fnUpdateBytesSpec)

/-- 'laws.FnUpdateMade', WHERE WHAT IT READS IS OF BULK AT MOST 1048576: true; the input reads as it did. -/
def fnUpdateMadeUptoRow : OpenClaim := { program := "ytnghnifihnjfeaa", sum := "dd409546a4a9cb0cb5f7f058394325ea228e724bcd712c03c2175b6b865b0c65", func := "pub-tlshandshakes/laws.FnUpdateMade", spec := "fnUpdateMade", unfollowed := true, recurses := true, apart := false, narrowed := true }
def FnUpdateMadeUptoSaid : Prop := fnUpdateMadeUptoRow.holds Try.pinned (OpenSpec.upto fnUpdateMadeSpec)

/-- 'laws.FnFinishedMade', WHERE WHAT IT READS IS OF BULK AT MOST 1048576: true; the input reads as it did. -/
def fnFinishedMadeUptoRow : OpenClaim := { program := "ytnghnifihnjfeaa", sum := "dd409546a4a9cb0cb5f7f058394325ea228e724bcd712c03c2175b6b865b0c65", func := "pub-tlshandshakes/laws.FnFinishedMade", spec := "fnFinishedMade", unfollowed := true, recurses := true, apart := false, narrowed := true }
def FnFinishedMadeUptoSaid : Prop := fnFinishedMadeUptoRow.holds Try.pinned (OpenSpec.upto fnFinishedMadeSpec)

/-- 'laws.FnStatusBytes', WHERE WHAT IT READS IS OF BULK AT MOST 1048576: true; the input reads as it did. -/
def fnStatusBytesUptoRow : OpenClaim := { program := "ytnghnifihnjfeaa", sum := "dd409546a4a9cb0cb5f7f058394325ea228e724bcd712c03c2175b6b865b0c65", func := "pub-tlshandshakes/laws.FnStatusBytes", spec := "fnStatusBytes", unfollowed := true, recurses := true, apart := false, narrowed := true }
def FnStatusBytesUptoSaid : Prop := fnStatusBytesUptoRow.holds Try.pinned (OpenSpec.upto fnStatusBytesSpec)

/-- 'laws.FnStatusMade', WHERE WHAT IT READS IS OF BULK AT MOST 1048576: true; the input reads as it did. -/
def fnStatusMadeUptoRow : OpenClaim := { program := "ytnghnifihnjfeaa", sum := "dd409546a4a9cb0cb5f7f058394325ea228e724bcd712c03c2175b6b865b0c65", func := "pub-tlshandshakes/laws.FnStatusMade", spec := "fnStatusMade", unfollowed := true, recurses := true, apart := false, narrowed := true }
def FnStatusMadeUptoSaid : Prop := fnStatusMadeUptoRow.holds Try.pinned (OpenSpec.upto fnStatusMadeSpec)

/-- 'laws.FnVerifyBytes', WHERE WHAT IT READS IS OF BULK AT MOST 1048576: true; the input reads as it did. -/
def fnVerifyBytesUptoRow : OpenClaim := { program := "ytnghnifihnjfeaa", sum := "dd409546a4a9cb0cb5f7f058394325ea228e724bcd712c03c2175b6b865b0c65", func := "pub-tlshandshakes/laws.FnVerifyBytes", spec := "fnVerifyBytes", unfollowed := true, recurses := true, apart := false, narrowed := true }
def FnVerifyBytesUptoSaid : Prop := fnVerifyBytesUptoRow.holds Try.pinned (OpenSpec.upto fnVerifyBytesSpec)

/-- 'laws.FnVerifyMade', WHERE WHAT IT READS IS OF BULK AT MOST 1048576: true; the input reads as it did. -/
def fnVerifyMadeUptoRow : OpenClaim := { program := "ytnghnifihnjfeaa", sum := "dd409546a4a9cb0cb5f7f058394325ea228e724bcd712c03c2175b6b865b0c65", func := "pub-tlshandshakes/laws.FnVerifyMade", spec := "fnVerifyMade", unfollowed := true, recurses := true, apart := false, narrowed := true }
def FnVerifyMadeUptoSaid : Prop := fnVerifyMadeUptoRow.holds Try.pinned (OpenSpec.upto fnVerifyMadeSpec)

/-- 'laws.FnCertificateBytes', WHERE WHAT IT READS IS OF BULK AT MOST 1048576: true; the input reads as it did. -/
def fnCertificateBytesUptoRow : OpenClaim := { program := "ytnghnifihnjfeaa", sum := "dd409546a4a9cb0cb5f7f058394325ea228e724bcd712c03c2175b6b865b0c65", func := "pub-tlshandshakes/laws.FnCertificateBytes", spec := "fnCertificateBytes", unfollowed := true, recurses := true, apart := false, narrowed := true }
def FnCertificateBytesUptoSaid : Prop := fnCertificateBytesUptoRow.holds Try.pinned (OpenSpec.upto fnCertificateBytesSpec)

/-- 'laws.FnRequestBytes', WHERE WHAT IT READS IS OF BULK AT MOST 1048576: true; the input reads as it did. -/
def fnRequestBytesUptoRow : OpenClaim := { program := "ytnghnifihnjfeaa", sum := "dd409546a4a9cb0cb5f7f058394325ea228e724bcd712c03c2175b6b865b0c65", func := "pub-tlshandshakes/laws.FnRequestBytes", spec := "fnRequestBytes", unfollowed := true, recurses := true, apart := false, narrowed := true }
def FnRequestBytesUptoSaid : Prop := fnRequestBytesUptoRow.holds Try.pinned (OpenSpec.upto fnRequestBytesSpec)

end Rows
end Go.Proofs.Ytnghnifihnjfeaa

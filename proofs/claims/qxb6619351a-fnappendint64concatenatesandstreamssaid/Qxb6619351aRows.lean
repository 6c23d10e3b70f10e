/-
  No cell of these rows narrows 'for every input' (looked for: loops, veiled, ifaces, maps, wideKeys, modest, calm, conditions, laid).
  DERIVED. THE GIVEN ROWS OF THIS SEAT. 3 by the template 'for every input the law returns true; each argument reads behind the call as it read before'; 0 by the template 'total and deterministic' (their statements: Qxb6619351aTotals.lean).
  GIVEN WITH THE SEED: the statements are not yours to turn. If you find one false, say at which input.
  Laid BY PROGRAM, IN A SANDBOX (cutbox-rows.mjs): the forced cells as the released guide's own fill.sh prints them over the translation 426057c3051d31c8… (all of the seat's roots in one cut). By AI agents, Wed Nov 11 2026. No macro, syntax, notation, axiom, sorry.
-/
import Derived.Test.Qxb6619351aChecked
import GoSem.Claim
import GoSem.ClaimJoined
import GoSem.ClaimMapViews
import Derived.JoinedTies
import Derived.KernelRfl
namespace Go.Proofs.Qxb6619351a
/- THE CELL 'sum', in the pinned program and in every row, IS THE sha256 OF THE DUMP (.gsa) THAT Qxb6619351aProg.lean LOADS. Nothing in Lean hashes anything: it is a label: what it is worth is what the hold of that sum in a sandbox is worth. -/
noncomputable def Try.pinned : Pinned := { name := "qxb6619351a", sum := "426057c3051d31c86c2025e2b68c6e63f3f37f63c101c3ddea087f5bc509b8a1", checked := Try.checked }
namespace Rows
def none {H : Type} : Left H := { results := [], args := [] }

/-- 'zzlaws_root_b1.FnAppendInt64KeepsPrefixAndRoundTripsShortest': WHATEVER THE INPUT: true; the input reads as it did. -/
def fnAppendInt64KeepsPrefixAndRoundTripsShortestSpec : ChangeSpec := { name := "fnAppendInt64KeepsPrefixAndRoundTripsShortest", fn := fun _ => fun
  | [d1, d2, d3] => { results := [.lit (.bool true)], args := [d1, d2, d3] }
  | _ => none }
def fnAppendInt64KeepsPrefixAndRoundTripsShortestRow : OpenClaim := { program := "qxb6619351a", sum := "426057c3051d31c86c2025e2b68c6e63f3f37f63c101c3ddea087f5bc509b8a1", func := "example.com/trimint/trimint/zzlaws_root_b1.FnAppendInt64KeepsPrefixAndRoundTripsShortest", spec := "fnAppendInt64KeepsPrefixAndRoundTripsShortest", named := ["encoding/binary.LittleEndian"], apart := false }
def FnAppendInt64KeepsPrefixAndRoundTripsShortestSaid : Prop := fnAppendInt64KeepsPrefixAndRoundTripsShortestRow.holds Try.pinned (OpenSpec.ofChange fnAppendInt64KeepsPrefixAndRoundTripsShortestSpec)

/-- ITS FALSE NEIGHBOUR: 'it returns false'. Refute it at one input. -/
def fnAppendInt64KeepsPrefixAndRoundTripsShortestWrong : ChangeSpec := { name := "fnAppendInt64KeepsPrefixAndRoundTripsShortest", fn := fun _ => fun
  | [d1, d2, d3] => { results := [.lit (.bool false)], args := [d1, d2, d3] }
  | _ => none }
def FnAppendInt64KeepsPrefixAndRoundTripsShortestWrongFalsely : Prop := fnAppendInt64KeepsPrefixAndRoundTripsShortestRow.holds Try.pinned (OpenSpec.ofChange fnAppendInt64KeepsPrefixAndRoundTripsShortestWrong)

/-- 'zzlaws_root_b1.FnAppendInt64ConcatenatesAndStreams': WHATEVER THE INPUT: true; the input reads as it did. -/
def fnAppendInt64ConcatenatesAndStreamsSpec : ChangeSpec := { name := "fnAppendInt64ConcatenatesAndStreams", fn := fun _ => fun
  | [d1, d2, d3] => { results := [.lit (.bool true)], args := [d1, d2, d3] }
  | _ => none }
def fnAppendInt64ConcatenatesAndStreamsRow : OpenClaim := { program := "qxb6619351a", sum := "426057c3051d31c86c2025e2b68c6e63f3f37f63c101c3ddea087f5bc509b8a1", func := "example.com/trimint/trimint/zzlaws_root_b1.FnAppendInt64ConcatenatesAndStreams", spec := "fnAppendInt64ConcatenatesAndStreams", named := ["encoding/binary.LittleEndian"], apart := false }
def FnAppendInt64ConcatenatesAndStreamsSaid : Prop := fnAppendInt64ConcatenatesAndStreamsRow.holds Try.pinned (OpenSpec.ofChange fnAppendInt64ConcatenatesAndStreamsSpec)

/-- ITS FALSE NEIGHBOUR: 'it returns false'. Refute it at one input. -/
def fnAppendInt64ConcatenatesAndStreamsWrong : ChangeSpec := { name := "fnAppendInt64ConcatenatesAndStreams", fn := fun _ => fun
  | [d1, d2, d3] => { results := [.lit (.bool false)], args := [d1, d2, d3] }
  | _ => none }
def FnAppendInt64ConcatenatesAndStreamsWrongFalsely : Prop := fnAppendInt64ConcatenatesAndStreamsRow.holds Try.pinned (OpenSpec.ofChange fnAppendInt64ConcatenatesAndStreamsWrong)

/-- 'zzlaws_root_b1.FnSizeUint64IsLengthOfShortestForm': WHATEVER THE INPUT: true; the input reads as it did. -/
def fnSizeUint64IsLengthOfShortestFormSpec : ChangeSpec := { name := "fnSizeUint64IsLengthOfShortestForm", fn := fun _ => fun
  | [d] => { results := [.lit (.bool true)], args := [d] }
  | _ => none }
def fnSizeUint64IsLengthOfShortestFormRow : OpenClaim := { program := "qxb6619351a", sum := "426057c3051d31c86c2025e2b68c6e63f3f37f63c101c3ddea087f5bc509b8a1", func := "example.com/trimint/trimint/zzlaws_root_b1.FnSizeUint64IsLengthOfShortestForm", spec := "fnSizeUint64IsLengthOfShortestForm", named := ["encoding/binary.LittleEndian"], apart := false }
def FnSizeUint64IsLengthOfShortestFormSaid : Prop := fnSizeUint64IsLengthOfShortestFormRow.holds Try.pinned (OpenSpec.ofChange fnSizeUint64IsLengthOfShortestFormSpec)

/-- ITS FALSE NEIGHBOUR: 'it returns false'. Refute it at one input. -/
def fnSizeUint64IsLengthOfShortestFormWrong : ChangeSpec := { name := "fnSizeUint64IsLengthOfShortestForm", fn := fun _ => fun
  | [d] => { results := [.lit (.bool false)], args := [d] }
  | _ => none }
def FnSizeUint64IsLengthOfShortestFormWrongFalsely : Prop := fnSizeUint64IsLengthOfShortestFormRow.holds Try.pinned (OpenSpec.ofChange fnSizeUint64IsLengthOfShortestFormWrong)

end Rows
end Go.Proofs.Qxb6619351a

/-
  No cell of these rows narrows 'for every input' (looked for: loops, veiled, ifaces, maps, wideKeys, modest, calm, conditions, laid).
  DERIVED. THE GIVEN ROWS OF THIS SEAT. 5 by the template 'for every input the law returns true; each argument reads behind the call as it read before'; 0 by the template 'total and deterministic' (their statements: Qxb6000706aTotals.lean).
  GIVEN WITH THE SEED: the statements are not yours to turn. If you find one false, say at which input.
  Laid BY PROGRAM, IN A SANDBOX (cutbox-rows.mjs): the forced cells as the released guide's own fill.sh prints them over the translation 997edf0231f68ea0… (all of the seat's roots in one cut). By AI agents, Wed Nov 11 2026. No macro, syntax, notation, axiom, sorry.
-/
import Derived.Test.Qxb6000706aChecked
import GoSem.Claim
import GoSem.ClaimJoined
import GoSem.ClaimMapViews
import Derived.JoinedTies
import Derived.KernelRfl
namespace Go.Proofs.Qxb6000706a
/- THE CELL 'sum', in the pinned program and in every row, IS THE sha256 OF THE DUMP (.gsa) THAT Qxb6000706aProg.lean LOADS. Nothing in Lean hashes anything: it is a label: what it is worth is what the hold of that sum in a sandbox is worth. -/
noncomputable def Try.pinned : Pinned := { name := "qxb6000706a", sum := "997edf0231f68ea0a0cf90b0e8aa069a7cd2018ef284994f661288fd4f155aa5", checked := Try.checked }
namespace Rows
def none {H : Type} : Left H := { results := [], args := [] }

/-- 'zzlaws_meeting_b1.FnPlainDigitsAcceptsExactly': WHATEVER THE INPUT: true; the input reads as it did. -/
def fnPlainDigitsAcceptsExactlySpec : ChangeSpec := { name := "fnPlainDigitsAcceptsExactly", fn := fun _ => fun
  | [d] => { results := [.lit (.bool true)], args := [d] }
  | _ => none }
def fnPlainDigitsAcceptsExactlyRow : OpenClaim := { program := "qxb6000706a", sum := "997edf0231f68ea0a0cf90b0e8aa069a7cd2018ef284994f661288fd4f155aa5", func := "example.com/cumulo/cumulo/zzlaws_meeting_b1.FnPlainDigitsAcceptsExactly", spec := "fnPlainDigitsAcceptsExactly", apart := false }
def FnPlainDigitsAcceptsExactlySaid : Prop := fnPlainDigitsAcceptsExactlyRow.holds Try.pinned (OpenSpec.ofChange fnPlainDigitsAcceptsExactlySpec)

/-- ITS FALSE NEIGHBOUR: 'it returns false'. Refute it at one input. -/
def fnPlainDigitsAcceptsExactlyWrong : ChangeSpec := { name := "fnPlainDigitsAcceptsExactly", fn := fun _ => fun
  | [d] => { results := [.lit (.bool false)], args := [d] }
  | _ => none }
def FnPlainDigitsAcceptsExactlyWrongFalsely : Prop := fnPlainDigitsAcceptsExactlyRow.holds Try.pinned (OpenSpec.ofChange fnPlainDigitsAcceptsExactlyWrong)

/-- 'zzlaws_meeting_b1.FnPlainDigitsOrder': WHATEVER THE INPUT: true; the input reads as it did. -/
def fnPlainDigitsOrderSpec : ChangeSpec := { name := "fnPlainDigitsOrder", fn := fun _ => fun
  | [d1, d2] => { results := [.lit (.bool true)], args := [d1, d2] }
  | _ => none }
def fnPlainDigitsOrderRow : OpenClaim := { program := "qxb6000706a", sum := "997edf0231f68ea0a0cf90b0e8aa069a7cd2018ef284994f661288fd4f155aa5", func := "example.com/cumulo/cumulo/zzlaws_meeting_b1.FnPlainDigitsOrder", spec := "fnPlainDigitsOrder", apart := false }
def FnPlainDigitsOrderSaid : Prop := fnPlainDigitsOrderRow.holds Try.pinned (OpenSpec.ofChange fnPlainDigitsOrderSpec)

/-- ITS FALSE NEIGHBOUR: 'it returns false'. Refute it at one input. -/
def fnPlainDigitsOrderWrong : ChangeSpec := { name := "fnPlainDigitsOrder", fn := fun _ => fun
  | [d1, d2] => { results := [.lit (.bool false)], args := [d1, d2] }
  | _ => none }
def FnPlainDigitsOrderWrongFalsely : Prop := fnPlainDigitsOrderRow.holds Try.pinned (OpenSpec.ofChange fnPlainDigitsOrderWrong)

/-- 'zzlaws_meeting_b1.FnXEscapeRoundTrip': WHATEVER THE INPUT: true; the input reads as it did. -/
def fnXEscapeRoundTripSpec : ChangeSpec := { name := "fnXEscapeRoundTrip", fn := fun _ => fun
  | [d1, d2, d3] => { results := [.lit (.bool true)], args := [d1, d2, d3] }
  | _ => none }
def fnXEscapeRoundTripRow : OpenClaim := { program := "qxb6000706a", sum := "997edf0231f68ea0a0cf90b0e8aa069a7cd2018ef284994f661288fd4f155aa5", func := "example.com/cumulo/cumulo/zzlaws_meeting_b1.FnXEscapeRoundTrip", spec := "fnXEscapeRoundTrip", apart := false }
def FnXEscapeRoundTripSaid : Prop := fnXEscapeRoundTripRow.holds Try.pinned (OpenSpec.ofChange fnXEscapeRoundTripSpec)

/-- ITS FALSE NEIGHBOUR: 'it returns false'. Refute it at one input. -/
def fnXEscapeRoundTripWrong : ChangeSpec := { name := "fnXEscapeRoundTrip", fn := fun _ => fun
  | [d1, d2, d3] => { results := [.lit (.bool false)], args := [d1, d2, d3] }
  | _ => none }
def FnXEscapeRoundTripWrongFalsely : Prop := fnXEscapeRoundTripRow.holds Try.pinned (OpenSpec.ofChange fnXEscapeRoundTripWrong)

/-- 'zzlaws_meeting_b1.FnXEscapeSpec': WHATEVER THE INPUT: true; the input reads as it did. -/
def fnXEscapeSpecSpec : ChangeSpec := { name := "fnXEscapeSpec", fn := fun _ => fun
  | [d] => { results := [.lit (.bool true)], args := [d] }
  | _ => none }
def fnXEscapeSpecRow : OpenClaim := { program := "qxb6000706a", sum := "997edf0231f68ea0a0cf90b0e8aa069a7cd2018ef284994f661288fd4f155aa5", func := "example.com/cumulo/cumulo/zzlaws_meeting_b1.FnXEscapeSpec", spec := "fnXEscapeSpec", apart := false }
def FnXEscapeSpecSaid : Prop := fnXEscapeSpecRow.holds Try.pinned (OpenSpec.ofChange fnXEscapeSpecSpec)

/-- ITS FALSE NEIGHBOUR: 'it returns false'. Refute it at one input. -/
def fnXEscapeSpecWrong : ChangeSpec := { name := "fnXEscapeSpec", fn := fun _ => fun
  | [d] => { results := [.lit (.bool false)], args := [d] }
  | _ => none }
def FnXEscapeSpecWrongFalsely : Prop := fnXEscapeSpecRow.holds Try.pinned (OpenSpec.ofChange fnXEscapeSpecWrong)

/-- 'zzlaws_meeting_b1.FnXEscapeOnlyPrefix': WHATEVER THE INPUT: true; the input reads as it did. -/
def fnXEscapeOnlyPrefixSpec : ChangeSpec := { name := "fnXEscapeOnlyPrefix", fn := fun _ => fun
  | [d] => { results := [.lit (.bool true)], args := [d] }
  | _ => none }
def fnXEscapeOnlyPrefixRow : OpenClaim := { program := "qxb6000706a", sum := "997edf0231f68ea0a0cf90b0e8aa069a7cd2018ef284994f661288fd4f155aa5", func := "example.com/cumulo/cumulo/zzlaws_meeting_b1.FnXEscapeOnlyPrefix", spec := "fnXEscapeOnlyPrefix", apart := false }
def FnXEscapeOnlyPrefixSaid : Prop := fnXEscapeOnlyPrefixRow.holds Try.pinned (OpenSpec.ofChange fnXEscapeOnlyPrefixSpec)

/-- ITS FALSE NEIGHBOUR: 'it returns false'. Refute it at one input. -/
def fnXEscapeOnlyPrefixWrong : ChangeSpec := { name := "fnXEscapeOnlyPrefix", fn := fun _ => fun
  | [d] => { results := [.lit (.bool false)], args := [d] }
  | _ => none }
def FnXEscapeOnlyPrefixWrongFalsely : Prop := fnXEscapeOnlyPrefixRow.holds Try.pinned (OpenSpec.ofChange fnXEscapeOnlyPrefixWrong)

end Rows
end Go.Proofs.Qxb6000706a

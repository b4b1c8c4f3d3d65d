/-
  No cell of these rows narrows 'for every input' (looked for: loops, veiled, ifaces, maps, wideKeys, modest, calm, conditions, laid).
  DERIVED. THE GIVEN ROWS OF THIS SEAT. 4 by the template 'for every input the law returns true; each argument reads behind the call as it read before'; 0 by the template 'total and deterministic' (their statements: Qxb6600684aTotals.lean).
  GIVEN WITH THE SEED: the statements are not yours to turn. If you find one false, say at which input.
  Laid BY PROGRAM, IN A SANDBOX (cutbox-rows.mjs): the forced cells as the released guide's own fill.sh prints them over the translation df79b0970890d1ad… (all of the seat's roots in one cut). By AI agents, Wed Nov 11 2026. No macro, syntax, notation, axiom, sorry.
-/
import Derived.Test.Qxb6600684aChecked
import GoSem.Claim
import GoSem.ClaimJoined
import GoSem.ClaimMapViews
import Derived.JoinedTies
import Derived.KernelRfl
namespace Go.Proofs.Qxb6600684a
/- THE CELL 'sum', in the pinned program and in every row, IS THE sha256 OF THE DUMP (.gsa) THAT Qxb6600684aProg.lean LOADS. Nothing in Lean hashes anything: it is a label: what it is worth is what the hold of that sum in a sandbox is worth. -/
noncomputable def Try.pinned : Pinned := { name := "qxb6600684a", sum := "df79b0970890d1ad750e53e923d6b179e540ff7e5574ac1713041011577bb321", checked := Try.checked }
namespace Rows
def none {H : Type} : Left H := { results := [], args := [] }

/-- 'zzlaws_internal_commands_b1.FnIsWordIgnoresCaseOfArg': WHATEVER THE INPUT: true; the input reads as it did. -/
def fnIsWordIgnoresCaseOfArgSpec : ChangeSpec := { name := "fnIsWordIgnoresCaseOfArg", fn := fun _ => fun
  | [d1, d2] => { results := [.lit (.bool true)], args := [d1, d2] }
  | _ => none }
def fnIsWordIgnoresCaseOfArgRow : OpenClaim := { program := "qxb6600684a", sum := "df79b0970890d1ad750e53e923d6b179e540ff7e5574ac1713041011577bb321", func := "example.com/tidepool/tidepool/zzlaws_internal_commands_b1.FnIsWordIgnoresCaseOfArg", spec := "fnIsWordIgnoresCaseOfArg", apart := false }
def FnIsWordIgnoresCaseOfArgSaid : Prop := fnIsWordIgnoresCaseOfArgRow.holds Try.pinned (OpenSpec.ofChange fnIsWordIgnoresCaseOfArgSpec)

/-- ITS FALSE NEIGHBOUR: 'it returns false'. Refute it at one input. -/
def fnIsWordIgnoresCaseOfArgWrong : ChangeSpec := { name := "fnIsWordIgnoresCaseOfArg", fn := fun _ => fun
  | [d1, d2] => { results := [.lit (.bool false)], args := [d1, d2] }
  | _ => none }
def FnIsWordIgnoresCaseOfArgWrongFalsely : Prop := fnIsWordIgnoresCaseOfArgRow.holds Try.pinned (OpenSpec.ofChange fnIsWordIgnoresCaseOfArgWrong)

/-- 'zzlaws_internal_commands_b1.FnRefuseWritesMatchesByteModel': WHATEVER THE INPUT: true; the input reads as it did. -/
def fnRefuseWritesMatchesByteModelSpec : ChangeSpec := { name := "fnRefuseWritesMatchesByteModel", fn := fun _ => fun
  | [d1, d2, d3, d4, d5] => { results := [.lit (.bool true)], args := [d1, d2, d3, d4, d5] }
  | _ => none }
def fnRefuseWritesMatchesByteModelRow : OpenClaim := { program := "qxb6600684a", sum := "df79b0970890d1ad750e53e923d6b179e540ff7e5574ac1713041011577bb321", func := "example.com/tidepool/tidepool/zzlaws_internal_commands_b1.FnRefuseWritesMatchesByteModel", spec := "fnRefuseWritesMatchesByteModel", apart := false }
def FnRefuseWritesMatchesByteModelSaid : Prop := fnRefuseWritesMatchesByteModelRow.holds Try.pinned (OpenSpec.ofChange fnRefuseWritesMatchesByteModelSpec)

/-- ITS FALSE NEIGHBOUR: 'it returns false'. Refute it at one input. -/
def fnRefuseWritesMatchesByteModelWrong : ChangeSpec := { name := "fnRefuseWritesMatchesByteModel", fn := fun _ => fun
  | [d1, d2, d3, d4, d5] => { results := [.lit (.bool false)], args := [d1, d2, d3, d4, d5] }
  | _ => none }
def FnRefuseWritesMatchesByteModelWrongFalsely : Prop := fnRefuseWritesMatchesByteModelRow.holds Try.pinned (OpenSpec.ofChange fnRefuseWritesMatchesByteModelWrong)

/-- 'zzlaws_internal_commands_b1.FnRefuseWritesKeepsPrefixAndLength': WHATEVER THE INPUT: true; the input reads as it did. -/
def fnRefuseWritesKeepsPrefixAndLengthSpec : ChangeSpec := { name := "fnRefuseWritesKeepsPrefixAndLength", fn := fun _ => fun
  | [d1, d2, d3, d4, d5] => { results := [.lit (.bool true)], args := [d1, d2, d3, d4, d5] }
  | _ => none }
def fnRefuseWritesKeepsPrefixAndLengthRow : OpenClaim := { program := "qxb6600684a", sum := "df79b0970890d1ad750e53e923d6b179e540ff7e5574ac1713041011577bb321", func := "example.com/tidepool/tidepool/zzlaws_internal_commands_b1.FnRefuseWritesKeepsPrefixAndLength", spec := "fnRefuseWritesKeepsPrefixAndLength", apart := false }
def FnRefuseWritesKeepsPrefixAndLengthSaid : Prop := fnRefuseWritesKeepsPrefixAndLengthRow.holds Try.pinned (OpenSpec.ofChange fnRefuseWritesKeepsPrefixAndLengthSpec)

/-- ITS FALSE NEIGHBOUR: 'it returns false'. Refute it at one input. -/
def fnRefuseWritesKeepsPrefixAndLengthWrong : ChangeSpec := { name := "fnRefuseWritesKeepsPrefixAndLength", fn := fun _ => fun
  | [d1, d2, d3, d4, d5] => { results := [.lit (.bool false)], args := [d1, d2, d3, d4, d5] }
  | _ => none }
def FnRefuseWritesKeepsPrefixAndLengthWrongFalsely : Prop := fnRefuseWritesKeepsPrefixAndLengthRow.holds Try.pinned (OpenSpec.ofChange fnRefuseWritesKeepsPrefixAndLengthWrong)

/-- 'zzlaws_internal_commands_b1.FnAppendUnknownCommandIsOneShortLine': WHATEVER THE INPUT: true; the input reads as it did. -/
def fnAppendUnknownCommandIsOneShortLineSpec : ChangeSpec := { name := "fnAppendUnknownCommandIsOneShortLine", fn := fun _ => fun
  | [d1, d2] => { results := [.lit (.bool true)], args := [d1, d2] }
  | _ => none }
def fnAppendUnknownCommandIsOneShortLineRow : OpenClaim := { program := "qxb6600684a", sum := "df79b0970890d1ad750e53e923d6b179e540ff7e5574ac1713041011577bb321", func := "example.com/tidepool/tidepool/zzlaws_internal_commands_b1.FnAppendUnknownCommandIsOneShortLine", spec := "fnAppendUnknownCommandIsOneShortLine", apart := false }
def FnAppendUnknownCommandIsOneShortLineSaid : Prop := fnAppendUnknownCommandIsOneShortLineRow.holds Try.pinned (OpenSpec.ofChange fnAppendUnknownCommandIsOneShortLineSpec)

/-- ITS FALSE NEIGHBOUR: 'it returns false'. Refute it at one input. -/
def fnAppendUnknownCommandIsOneShortLineWrong : ChangeSpec := { name := "fnAppendUnknownCommandIsOneShortLine", fn := fun _ => fun
  | [d1, d2] => { results := [.lit (.bool false)], args := [d1, d2] }
  | _ => none }
def FnAppendUnknownCommandIsOneShortLineWrongFalsely : Prop := fnAppendUnknownCommandIsOneShortLineRow.holds Try.pinned (OpenSpec.ofChange fnAppendUnknownCommandIsOneShortLineWrong)

end Rows
end Go.Proofs.Qxb6600684a

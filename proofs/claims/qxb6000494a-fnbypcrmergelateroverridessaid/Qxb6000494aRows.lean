/-
  No cell of these rows narrows 'for every input' (looked for: loops, veiled, ifaces, maps, wideKeys, modest, calm, conditions, laid).
  DERIVED. THE GIVEN ROWS OF THIS SEAT. 5 by the template 'for every input the law returns true; each argument reads behind the call as it read before'; 0 by the template 'total and deterministic' (their statements: Qxb6000494aTotals.lean).
  GIVEN WITH THE SEED: the statements are not yours to turn. If you find one false, say at which input.
  Laid BY PROGRAM, IN A SANDBOX (cutbox-rows.mjs): the forced cells as the released guide's own fill.sh prints them over the translation f50f974fd951877f… (all of the seat's roots in one cut). By AI agents, Wed Nov 11 2026. No macro, syntax, notation, axiom, sorry.
-/
import Derived.Test.Qxb6000494aChecked
import GoSem.Claim
import GoSem.ClaimJoined
import GoSem.ClaimMapViews
import Derived.JoinedTies
import Derived.KernelRfl
namespace Go.Proofs.Qxb6000494a
/- THE CELL 'sum', in the pinned program and in every row, IS THE sha256 OF THE DUMP (.gsa) THAT Qxb6000494aProg.lean LOADS. Nothing in Lean hashes anything: it is a label: what it is worth is what the hold of that sum in a sandbox is worth. -/
noncomputable def Try.pinned : Pinned := { name := "qxb6000494a", sum := "f50f974fd951877fee9bf34d734144307ca379c2f76802a39a4a18da59eb36e4", checked := Try.checked }
namespace Rows
def none {H : Type} : Left H := { results := [], args := [] }

/-- 'zzlaws_internal_attest_b1.FnByPCRLastWins': WHATEVER THE INPUT: true; the input reads as it did. -/
def fnByPCRLastWinsSpec : ChangeSpec := { name := "fnByPCRLastWins", fn := fun _ => fun
  | [d1, d2, d3, d4, d5] => { results := [.lit (.bool true)], args := [d1, d2, d3, d4, d5] }
  | _ => none }
def fnByPCRLastWinsRow : OpenClaim := { program := "qxb6000494a", sum := "f50f974fd951877fee9bf34d734144307ca379c2f76802a39a4a18da59eb36e4", func := "example.com/enquote/enquote/zzlaws_internal_attest_b1.FnByPCRLastWins", spec := "fnByPCRLastWins", plainKeys := false, apart := false }
def FnByPCRLastWinsSaid : Prop := fnByPCRLastWinsRow.holds Try.pinned (OpenSpec.ofChange fnByPCRLastWinsSpec)

/-- ITS FALSE NEIGHBOUR: 'it returns false'. Refute it at one input. -/
def fnByPCRLastWinsWrong : ChangeSpec := { name := "fnByPCRLastWins", fn := fun _ => fun
  | [d1, d2, d3, d4, d5] => { results := [.lit (.bool false)], args := [d1, d2, d3, d4, d5] }
  | _ => none }
def FnByPCRLastWinsWrongFalsely : Prop := fnByPCRLastWinsRow.holds Try.pinned (OpenSpec.ofChange fnByPCRLastWinsWrong)

/-- 'zzlaws_internal_attest_b1.FnByPCRMergeLaterOverrides': WHATEVER THE INPUT: true; the input reads as it did. -/
def fnByPCRMergeLaterOverridesSpec : ChangeSpec := { name := "fnByPCRMergeLaterOverrides", fn := fun _ => fun
  | [d1, d2, d3, d4, d5, d6] => { results := [.lit (.bool true)], args := [d1, d2, d3, d4, d5, d6] }
  | _ => none }
def fnByPCRMergeLaterOverridesRow : OpenClaim := { program := "qxb6000494a", sum := "f50f974fd951877fee9bf34d734144307ca379c2f76802a39a4a18da59eb36e4", func := "example.com/enquote/enquote/zzlaws_internal_attest_b1.FnByPCRMergeLaterOverrides", spec := "fnByPCRMergeLaterOverrides", plainKeys := false, apart := false }
def FnByPCRMergeLaterOverridesSaid : Prop := fnByPCRMergeLaterOverridesRow.holds Try.pinned (OpenSpec.ofChange fnByPCRMergeLaterOverridesSpec)

/-- ITS FALSE NEIGHBOUR: 'it returns false'. Refute it at one input. -/
def fnByPCRMergeLaterOverridesWrong : ChangeSpec := { name := "fnByPCRMergeLaterOverrides", fn := fun _ => fun
  | [d1, d2, d3, d4, d5, d6] => { results := [.lit (.bool false)], args := [d1, d2, d3, d4, d5, d6] }
  | _ => none }
def FnByPCRMergeLaterOverridesWrongFalsely : Prop := fnByPCRMergeLaterOverridesRow.holds Try.pinned (OpenSpec.ofChange fnByPCRMergeLaterOverridesWrong)

/-- 'zzlaws_internal_attest_b1.FnBanksExactSpec': WHATEVER THE INPUT: true; the input reads as it did. -/
def fnBanksExactSpecSpec : ChangeSpec := { name := "fnBanksExactSpec", fn := fun _ => fun
  | [d] => { results := [.lit (.bool true)], args := [d] }
  | _ => none }
def fnBanksExactSpecRow : OpenClaim := { program := "qxb6000494a", sum := "f50f974fd951877fee9bf34d734144307ca379c2f76802a39a4a18da59eb36e4", func := "example.com/enquote/enquote/zzlaws_internal_attest_b1.FnBanksExactSpec", spec := "fnBanksExactSpec", plainKeys := false, apart := false }
def FnBanksExactSpecSaid : Prop := fnBanksExactSpecRow.holds Try.pinned (OpenSpec.ofChange fnBanksExactSpecSpec)

/-- ITS FALSE NEIGHBOUR: 'it returns false'. Refute it at one input. -/
def fnBanksExactSpecWrong : ChangeSpec := { name := "fnBanksExactSpec", fn := fun _ => fun
  | [d] => { results := [.lit (.bool false)], args := [d] }
  | _ => none }
def FnBanksExactSpecWrongFalsely : Prop := fnBanksExactSpecRow.holds Try.pinned (OpenSpec.ofChange fnBanksExactSpecWrong)

/-- 'zzlaws_internal_attest_b1.FnBanksConcatKeepsPrefix': WHATEVER THE INPUT: true; the input reads as it did. -/
def fnBanksConcatKeepsPrefixSpec : ChangeSpec := { name := "fnBanksConcatKeepsPrefix", fn := fun _ => fun
  | [d1, d2] => { results := [.lit (.bool true)], args := [d1, d2] }
  | _ => none }
def fnBanksConcatKeepsPrefixRow : OpenClaim := { program := "qxb6000494a", sum := "f50f974fd951877fee9bf34d734144307ca379c2f76802a39a4a18da59eb36e4", func := "example.com/enquote/enquote/zzlaws_internal_attest_b1.FnBanksConcatKeepsPrefix", spec := "fnBanksConcatKeepsPrefix", plainKeys := false, apart := false }
def FnBanksConcatKeepsPrefixSaid : Prop := fnBanksConcatKeepsPrefixRow.holds Try.pinned (OpenSpec.ofChange fnBanksConcatKeepsPrefixSpec)

/-- ITS FALSE NEIGHBOUR: 'it returns false'. Refute it at one input. -/
def fnBanksConcatKeepsPrefixWrong : ChangeSpec := { name := "fnBanksConcatKeepsPrefix", fn := fun _ => fun
  | [d1, d2] => { results := [.lit (.bool false)], args := [d1, d2] }
  | _ => none }
def FnBanksConcatKeepsPrefixWrongFalsely : Prop := fnBanksConcatKeepsPrefixRow.holds Try.pinned (OpenSpec.ofChange fnBanksConcatKeepsPrefixWrong)

/-- 'zzlaws_internal_attest_b1.FnBanksIdempotent': WHATEVER THE INPUT: true; the input reads as it did. -/
def fnBanksIdempotentSpec : ChangeSpec := { name := "fnBanksIdempotent", fn := fun _ => fun
  | [d] => { results := [.lit (.bool true)], args := [d] }
  | _ => none }
def fnBanksIdempotentRow : OpenClaim := { program := "qxb6000494a", sum := "f50f974fd951877fee9bf34d734144307ca379c2f76802a39a4a18da59eb36e4", func := "example.com/enquote/enquote/zzlaws_internal_attest_b1.FnBanksIdempotent", spec := "fnBanksIdempotent", plainKeys := false, apart := false }
def FnBanksIdempotentSaid : Prop := fnBanksIdempotentRow.holds Try.pinned (OpenSpec.ofChange fnBanksIdempotentSpec)

/-- ITS FALSE NEIGHBOUR: 'it returns false'. Refute it at one input. -/
def fnBanksIdempotentWrong : ChangeSpec := { name := "fnBanksIdempotent", fn := fun _ => fun
  | [d] => { results := [.lit (.bool false)], args := [d] }
  | _ => none }
def FnBanksIdempotentWrongFalsely : Prop := fnBanksIdempotentRow.holds Try.pinned (OpenSpec.ofChange fnBanksIdempotentWrong)

end Rows
end Go.Proofs.Qxb6000494a

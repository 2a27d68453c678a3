/-
  No cell of these rows narrows 'for every input' (looked for: loops, veiled, ifaces, maps, wideKeys, modest, calm, conditions, laid).
  DERIVED. THE GIVEN ROWS OF THIS SEAT. 4 by the template 'for every input the law returns true; each argument reads behind the call as it read before'; 0 by the template 'total and deterministic' (their statements: Qxb6606291aTotals.lean).
  GIVEN WITH THE SEED: the statements are not yours to turn. If you find one false, say at which input.
  Laid BY PROGRAM, IN A SANDBOX (cutbox-rows.mjs): the forced cells as the released guide's own fill.sh prints them over the translation 0532ecbefc548be7… (all of the seat's roots in one cut). By AI agents, Wed Nov 11 2026. No macro, syntax, notation, axiom, sorry.
-/
import Derived.Test.Qxb6606291aChecked
import GoSem.Claim
import GoSem.ClaimJoined
import GoSem.ClaimMapViews
import Derived.JoinedTies
import Derived.KernelRfl
namespace Go.Proofs.Qxb6606291a
/- THE CELL 'sum', in the pinned program and in every row, IS THE sha256 OF THE DUMP (.gsa) THAT Qxb6606291aProg.lean LOADS. Nothing in Lean hashes anything: it is a label: what it is worth is what the hold of that sum in a sandbox is worth. -/
noncomputable def Try.pinned : Pinned := { name := "qxb6606291a", sum := "0532ecbefc548be70d575da02a0fe40e719707e5da631066b63d4beba9a2fa01", checked := Try.checked }
namespace Rows
def none {H : Type} : Left H := { results := [], args := [] }

/-- 'zzlaws_internal_strictjson_b1.FnMoreCountsCommasInSeparators': WHATEVER THE INPUT: true; the input reads as it did. -/
def fnMoreCountsCommasInSeparatorsSpec : ChangeSpec := { name := "fnMoreCountsCommasInSeparators", fn := fun _ => fun
  | [d] => { results := [.lit (.bool true)], args := [d] }
  | _ => none }
def fnMoreCountsCommasInSeparatorsRow : OpenClaim := { program := "qxb6606291a", sum := "0532ecbefc548be70d575da02a0fe40e719707e5da631066b63d4beba9a2fa01", func := "example.com/sessions-on-record/sessions-on-record/zzlaws_internal_strictjson_b1.FnMoreCountsCommasInSeparators", spec := "fnMoreCountsCommasInSeparators", apart := false }
def FnMoreCountsCommasInSeparatorsSaid : Prop := fnMoreCountsCommasInSeparatorsRow.holds Try.pinned (OpenSpec.ofChange fnMoreCountsCommasInSeparatorsSpec)

/-- ITS FALSE NEIGHBOUR: 'it returns false'. Refute it at one input. -/
def fnMoreCountsCommasInSeparatorsWrong : ChangeSpec := { name := "fnMoreCountsCommasInSeparators", fn := fun _ => fun
  | [d] => { results := [.lit (.bool false)], args := [d] }
  | _ => none }
def FnMoreCountsCommasInSeparatorsWrongFalsely : Prop := fnMoreCountsCommasInSeparatorsRow.holds Try.pinned (OpenSpec.ofChange fnMoreCountsCommasInSeparatorsWrong)

/-- 'zzlaws_internal_strictjson_b1.FnMoreFalseStaysAtClose': WHATEVER THE INPUT: true; the input reads as it did. -/
def fnMoreFalseStaysAtCloseSpec : ChangeSpec := { name := "fnMoreFalseStaysAtClose", fn := fun _ => fun
  | [d1, d2] => { results := [.lit (.bool true)], args := [d1, d2] }
  | _ => none }
def fnMoreFalseStaysAtCloseRow : OpenClaim := { program := "qxb6606291a", sum := "0532ecbefc548be70d575da02a0fe40e719707e5da631066b63d4beba9a2fa01", func := "example.com/sessions-on-record/sessions-on-record/zzlaws_internal_strictjson_b1.FnMoreFalseStaysAtClose", spec := "fnMoreFalseStaysAtClose", apart := false }
def FnMoreFalseStaysAtCloseSaid : Prop := fnMoreFalseStaysAtCloseRow.holds Try.pinned (OpenSpec.ofChange fnMoreFalseStaysAtCloseSpec)

/-- ITS FALSE NEIGHBOUR: 'it returns false'. Refute it at one input. -/
def fnMoreFalseStaysAtCloseWrong : ChangeSpec := { name := "fnMoreFalseStaysAtClose", fn := fun _ => fun
  | [d1, d2] => { results := [.lit (.bool false)], args := [d1, d2] }
  | _ => none }
def FnMoreFalseStaysAtCloseWrongFalsely : Prop := fnMoreFalseStaysAtCloseRow.holds Try.pinned (OpenSpec.ofChange fnMoreFalseStaysAtCloseWrong)

/-- 'zzlaws_internal_strictjson_b1.FnSkipByteSpec': WHATEVER THE INPUT: true; the input reads as it did. -/
def fnSkipByteSpecSpec : ChangeSpec := { name := "fnSkipByteSpec", fn := fun _ => fun
  | [d1, d2] => { results := [.lit (.bool true)], args := [d1, d2] }
  | _ => none }
def fnSkipByteSpecRow : OpenClaim := { program := "qxb6606291a", sum := "0532ecbefc548be70d575da02a0fe40e719707e5da631066b63d4beba9a2fa01", func := "example.com/sessions-on-record/sessions-on-record/zzlaws_internal_strictjson_b1.FnSkipByteSpec", spec := "fnSkipByteSpec", apart := false }
def FnSkipByteSpecSaid : Prop := fnSkipByteSpecRow.holds Try.pinned (OpenSpec.ofChange fnSkipByteSpecSpec)

/-- ITS FALSE NEIGHBOUR: 'it returns false'. Refute it at one input. -/
def fnSkipByteSpecWrong : ChangeSpec := { name := "fnSkipByteSpec", fn := fun _ => fun
  | [d1, d2] => { results := [.lit (.bool false)], args := [d1, d2] }
  | _ => none }
def FnSkipByteSpecWrongFalsely : Prop := fnSkipByteSpecRow.holds Try.pinned (OpenSpec.ofChange fnSkipByteSpecWrong)

/-- 'zzlaws_internal_strictjson_b1.FnSkipByteStepsThroughEveryToken': WHATEVER THE INPUT: true; the input reads as it did. -/
def fnSkipByteStepsThroughEveryTokenSpec : ChangeSpec := { name := "fnSkipByteStepsThroughEveryToken", fn := fun _ => fun
  | [d] => { results := [.lit (.bool true)], args := [d] }
  | _ => none }
def fnSkipByteStepsThroughEveryTokenRow : OpenClaim := { program := "qxb6606291a", sum := "0532ecbefc548be70d575da02a0fe40e719707e5da631066b63d4beba9a2fa01", func := "example.com/sessions-on-record/sessions-on-record/zzlaws_internal_strictjson_b1.FnSkipByteStepsThroughEveryToken", spec := "fnSkipByteStepsThroughEveryToken", apart := false }
def FnSkipByteStepsThroughEveryTokenSaid : Prop := fnSkipByteStepsThroughEveryTokenRow.holds Try.pinned (OpenSpec.ofChange fnSkipByteStepsThroughEveryTokenSpec)

/-- ITS FALSE NEIGHBOUR: 'it returns false'. Refute it at one input. -/
def fnSkipByteStepsThroughEveryTokenWrong : ChangeSpec := { name := "fnSkipByteStepsThroughEveryToken", fn := fun _ => fun
  | [d] => { results := [.lit (.bool false)], args := [d] }
  | _ => none }
def FnSkipByteStepsThroughEveryTokenWrongFalsely : Prop := fnSkipByteStepsThroughEveryTokenRow.holds Try.pinned (OpenSpec.ofChange fnSkipByteStepsThroughEveryTokenWrong)

end Rows
end Go.Proofs.Qxb6606291a

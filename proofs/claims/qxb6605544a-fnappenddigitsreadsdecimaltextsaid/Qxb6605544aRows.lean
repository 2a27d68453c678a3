/-
  No cell of these rows narrows 'for every input' (looked for: loops, veiled, ifaces, maps, wideKeys, modest, calm, conditions, laid).
  DERIVED. THE GIVEN ROWS OF THIS SEAT. 4 by the template 'for every input the law returns true; each argument reads behind the call as it read before'; 0 by the template 'total and deterministic' (their statements: Qxb6605544aTotals.lean).
  GIVEN WITH THE SEED: the statements are not yours to turn. If you find one false, say at which input.
  Laid BY PROGRAM, IN A SANDBOX (cutbox-rows.mjs): the forced cells as the released guide's own fill.sh prints them over the translation dece0832f2b8a29c… (all of the seat's roots in one cut). By AI agents, Wed Nov 11 2026. No macro, syntax, notation, axiom, sorry.
-/
import Derived.Test.Qxb6605544aChecked
import GoSem.Claim
import GoSem.ClaimJoined
import GoSem.ClaimMapViews
import Derived.JoinedTies
import Derived.KernelRfl
namespace Go.Proofs.Qxb6605544a
/- THE CELL 'sum', in the pinned program and in every row, IS THE sha256 OF THE DUMP (.gsa) THAT Qxb6605544aProg.lean LOADS. Nothing in Lean hashes anything: it is a label: what it is worth is what the hold of that sum in a sandbox is worth. -/
noncomputable def Try.pinned : Pinned := { name := "qxb6605544a", sum := "dece0832f2b8a29c3079b5f7b2aaff5a4fd453a5c6772873044be920348bd5b7", checked := Try.checked }
namespace Rows
def none {H : Type} : Left H := { results := [], args := [] }

/-- 'zzlaws_pkg_decimal_b1.FnQuoRound64NearestTiesAway': WHATEVER THE INPUT: true; the input reads as it did. -/
def fnQuoRound64NearestTiesAwaySpec : ChangeSpec := { name := "fnQuoRound64NearestTiesAway", fn := fun _ => fun
  | [d1, d2] => { results := [.lit (.bool true)], args := [d1, d2] }
  | _ => none }
def fnQuoRound64NearestTiesAwayRow : OpenClaim := { program := "qxb6605544a", sum := "dece0832f2b8a29c3079b5f7b2aaff5a4fd453a5c6772873044be920348bd5b7", func := "example.com/tuoguan/tuoguan/zzlaws_pkg_decimal_b1.FnQuoRound64NearestTiesAway", spec := "fnQuoRound64NearestTiesAway", apart := false }
def FnQuoRound64NearestTiesAwaySaid : Prop := fnQuoRound64NearestTiesAwayRow.holds Try.pinned (OpenSpec.ofChange fnQuoRound64NearestTiesAwaySpec)

/-- ITS FALSE NEIGHBOUR: 'it returns false'. Refute it at one input. -/
def fnQuoRound64NearestTiesAwayWrong : ChangeSpec := { name := "fnQuoRound64NearestTiesAway", fn := fun _ => fun
  | [d1, d2] => { results := [.lit (.bool false)], args := [d1, d2] }
  | _ => none }
def FnQuoRound64NearestTiesAwayWrongFalsely : Prop := fnQuoRound64NearestTiesAwayRow.holds Try.pinned (OpenSpec.ofChange fnQuoRound64NearestTiesAwayWrong)

/-- 'zzlaws_pkg_decimal_b1.FnAllDigitsByTable': WHATEVER THE INPUT: true; the input reads as it did. -/
def fnAllDigitsByTableSpec : ChangeSpec := { name := "fnAllDigitsByTable", fn := fun _ => fun
  | [d] => { results := [.lit (.bool true)], args := [d] }
  | _ => none }
def fnAllDigitsByTableRow : OpenClaim := { program := "qxb6605544a", sum := "dece0832f2b8a29c3079b5f7b2aaff5a4fd453a5c6772873044be920348bd5b7", func := "example.com/tuoguan/tuoguan/zzlaws_pkg_decimal_b1.FnAllDigitsByTable", spec := "fnAllDigitsByTable", apart := false }
def FnAllDigitsByTableSaid : Prop := fnAllDigitsByTableRow.holds Try.pinned (OpenSpec.ofChange fnAllDigitsByTableSpec)

/-- ITS FALSE NEIGHBOUR: 'it returns false'. Refute it at one input. -/
def fnAllDigitsByTableWrong : ChangeSpec := { name := "fnAllDigitsByTable", fn := fun _ => fun
  | [d] => { results := [.lit (.bool false)], args := [d] }
  | _ => none }
def FnAllDigitsByTableWrongFalsely : Prop := fnAllDigitsByTableRow.holds Try.pinned (OpenSpec.ofChange fnAllDigitsByTableWrong)

/-- 'zzlaws_pkg_decimal_b1.FnAppendDigitsPositionalSum': WHATEVER THE INPUT: true; the input reads as it did. -/
def fnAppendDigitsPositionalSumSpec : ChangeSpec := { name := "fnAppendDigitsPositionalSum", fn := fun _ => fun
  | [d1, d2] => { results := [.lit (.bool true)], args := [d1, d2] }
  | _ => none }
def fnAppendDigitsPositionalSumRow : OpenClaim := { program := "qxb6605544a", sum := "dece0832f2b8a29c3079b5f7b2aaff5a4fd453a5c6772873044be920348bd5b7", func := "example.com/tuoguan/tuoguan/zzlaws_pkg_decimal_b1.FnAppendDigitsPositionalSum", spec := "fnAppendDigitsPositionalSum", apart := false }
def FnAppendDigitsPositionalSumSaid : Prop := fnAppendDigitsPositionalSumRow.holds Try.pinned (OpenSpec.ofChange fnAppendDigitsPositionalSumSpec)

/-- ITS FALSE NEIGHBOUR: 'it returns false'. Refute it at one input. -/
def fnAppendDigitsPositionalSumWrong : ChangeSpec := { name := "fnAppendDigitsPositionalSum", fn := fun _ => fun
  | [d1, d2] => { results := [.lit (.bool false)], args := [d1, d2] }
  | _ => none }
def FnAppendDigitsPositionalSumWrongFalsely : Prop := fnAppendDigitsPositionalSumRow.holds Try.pinned (OpenSpec.ofChange fnAppendDigitsPositionalSumWrong)

/-- 'zzlaws_pkg_decimal_b1.FnAppendDigitsReadsDecimalText': WHATEVER THE INPUT: true; the input reads as it did. -/
def fnAppendDigitsReadsDecimalTextSpec : ChangeSpec := { name := "fnAppendDigitsReadsDecimalText", fn := fun _ => fun
  | [d1, d2] => { results := [.lit (.bool true)], args := [d1, d2] }
  | _ => none }
def fnAppendDigitsReadsDecimalTextRow : OpenClaim := { program := "qxb6605544a", sum := "dece0832f2b8a29c3079b5f7b2aaff5a4fd453a5c6772873044be920348bd5b7", func := "example.com/tuoguan/tuoguan/zzlaws_pkg_decimal_b1.FnAppendDigitsReadsDecimalText", spec := "fnAppendDigitsReadsDecimalText", apart := false }
def FnAppendDigitsReadsDecimalTextSaid : Prop := fnAppendDigitsReadsDecimalTextRow.holds Try.pinned (OpenSpec.ofChange fnAppendDigitsReadsDecimalTextSpec)

/-- ITS FALSE NEIGHBOUR: 'it returns false'. Refute it at one input. -/
def fnAppendDigitsReadsDecimalTextWrong : ChangeSpec := { name := "fnAppendDigitsReadsDecimalText", fn := fun _ => fun
  | [d1, d2] => { results := [.lit (.bool false)], args := [d1, d2] }
  | _ => none }
def FnAppendDigitsReadsDecimalTextWrongFalsely : Prop := fnAppendDigitsReadsDecimalTextRow.holds Try.pinned (OpenSpec.ofChange fnAppendDigitsReadsDecimalTextWrong)

end Rows
end Go.Proofs.Qxb6605544a

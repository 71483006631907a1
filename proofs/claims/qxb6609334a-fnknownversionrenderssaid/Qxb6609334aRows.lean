/-
  No cell of these rows narrows 'for every input' (looked for: loops, veiled, ifaces, maps, wideKeys, modest, calm, conditions, laid).
  DERIVED. THE GIVEN ROWS OF THIS SEAT. 4 by the template 'for every input the law returns true; each argument reads behind the call as it read before'; 0 by the template 'total and deterministic' (their statements: Qxb6609334aTotals.lean).
  GIVEN WITH THE SEED: the statements are not yours to turn. If you find one false, say at which input.
  Laid BY PROGRAM, IN A SANDBOX (cutbox-rows.mjs): the forced cells as the released guide's own fill.sh prints them over the translation 5be85f2387725629… (all of the seat's roots in one cut). By AI agents, Wed Nov 11 2026. No macro, syntax, notation, axiom, sorry.
-/
import Derived.Test.Qxb6609334aChecked
import GoSem.Claim
import GoSem.ClaimJoined
import GoSem.ClaimMapViews
import Derived.JoinedTies
import Derived.KernelRfl
namespace Go.Proofs.Qxb6609334a
/- THE CELL 'sum', in the pinned program and in every row, IS THE sha256 OF THE DUMP (.gsa) THAT Qxb6609334aProg.lean LOADS. Nothing in Lean hashes anything: it is a label: what it is worth is what the hold of that sum in a sandbox is worth. -/
noncomputable def Try.pinned : Pinned := { name := "qxb6609334a", sum := "5be85f2387725629879672bc0001b9cdbcb20c43152d87e0e0e512e8460eb760", checked := Try.checked }
namespace Rows
def none {H : Type} : Left H := { results := [], args := [] }

/-- 'zzlaws_ska_b1.FnOnlyDigitsExact': WHATEVER THE INPUT: true; the input reads as it did. -/
def fnOnlyDigitsExactSpec : ChangeSpec := { name := "fnOnlyDigitsExact", fn := fun _ => fun
  | [d] => { results := [.lit (.bool true)], args := [d] }
  | _ => none }
def fnOnlyDigitsExactRow : OpenClaim := { program := "qxb6609334a", sum := "5be85f2387725629879672bc0001b9cdbcb20c43152d87e0e0e512e8460eb760", func := "example.com/ledgerline/ledgerline/zzlaws_ska_b1.FnOnlyDigitsExact", spec := "fnOnlyDigitsExact", unfollowed := true, recurses := true, apart := false }
def FnOnlyDigitsExactSaid : Prop := fnOnlyDigitsExactRow.holds Try.pinned (OpenSpec.ofChange fnOnlyDigitsExactSpec)

/-- ITS FALSE NEIGHBOUR: 'it returns false'. Refute it at one input. -/
def fnOnlyDigitsExactWrong : ChangeSpec := { name := "fnOnlyDigitsExact", fn := fun _ => fun
  | [d] => { results := [.lit (.bool false)], args := [d] }
  | _ => none }
def FnOnlyDigitsExactWrongFalsely : Prop := fnOnlyDigitsExactRow.holds Try.pinned (OpenSpec.ofChange fnOnlyDigitsExactWrong)

/-- 'zzlaws_ska_b1.FnOnlyDigitsConcat': WHATEVER THE INPUT: true; the input reads as it did. -/
def fnOnlyDigitsConcatSpec : ChangeSpec := { name := "fnOnlyDigitsConcat", fn := fun _ => fun
  | [d1, d2] => { results := [.lit (.bool true)], args := [d1, d2] }
  | _ => none }
def fnOnlyDigitsConcatRow : OpenClaim := { program := "qxb6609334a", sum := "5be85f2387725629879672bc0001b9cdbcb20c43152d87e0e0e512e8460eb760", func := "example.com/ledgerline/ledgerline/zzlaws_ska_b1.FnOnlyDigitsConcat", spec := "fnOnlyDigitsConcat", unfollowed := true, recurses := true, apart := false }
def FnOnlyDigitsConcatSaid : Prop := fnOnlyDigitsConcatRow.holds Try.pinned (OpenSpec.ofChange fnOnlyDigitsConcatSpec)

/-- ITS FALSE NEIGHBOUR: 'it returns false'. Refute it at one input. -/
def fnOnlyDigitsConcatWrong : ChangeSpec := { name := "fnOnlyDigitsConcat", fn := fun _ => fun
  | [d1, d2] => { results := [.lit (.bool false)], args := [d1, d2] }
  | _ => none }
def FnOnlyDigitsConcatWrongFalsely : Prop := fnOnlyDigitsConcatRow.holds Try.pinned (OpenSpec.ofChange fnOnlyDigitsConcatWrong)

/-- 'zzlaws_ska_b1.FnKnownVersionTable': WHATEVER THE INPUT: true; the input reads as it did. -/
def fnKnownVersionTableSpec : ChangeSpec := { name := "fnKnownVersionTable", fn := fun _ => fun
  | [d] => { results := [.lit (.bool true)], args := [d] }
  | _ => none }
def fnKnownVersionTableRow : OpenClaim := { program := "qxb6609334a", sum := "5be85f2387725629879672bc0001b9cdbcb20c43152d87e0e0e512e8460eb760", func := "example.com/ledgerline/ledgerline/zzlaws_ska_b1.FnKnownVersionTable", spec := "fnKnownVersionTable", apart := false }
def FnKnownVersionTableSaid : Prop := fnKnownVersionTableRow.holds Try.pinned (OpenSpec.ofChange fnKnownVersionTableSpec)

/-- ITS FALSE NEIGHBOUR: 'it returns false'. Refute it at one input. -/
def fnKnownVersionTableWrong : ChangeSpec := { name := "fnKnownVersionTable", fn := fun _ => fun
  | [d] => { results := [.lit (.bool false)], args := [d] }
  | _ => none }
def FnKnownVersionTableWrongFalsely : Prop := fnKnownVersionTableRow.holds Try.pinned (OpenSpec.ofChange fnKnownVersionTableWrong)

/-- 'zzlaws_ska_b1.FnKnownVersionRenders': WHATEVER THE INPUT: true; the input reads as it did. -/
def fnKnownVersionRendersSpec : ChangeSpec := { name := "fnKnownVersionRenders", fn := fun _ => fun
  | [d1, d2] => { results := [.lit (.bool true)], args := [d1, d2] }
  | _ => none }
def fnKnownVersionRendersRow : OpenClaim := { program := "qxb6609334a", sum := "5be85f2387725629879672bc0001b9cdbcb20c43152d87e0e0e512e8460eb760", func := "example.com/ledgerline/ledgerline/zzlaws_ska_b1.FnKnownVersionRenders", spec := "fnKnownVersionRenders", apart := false }
def FnKnownVersionRendersSaid : Prop := fnKnownVersionRendersRow.holds Try.pinned (OpenSpec.ofChange fnKnownVersionRendersSpec)

/-- ITS FALSE NEIGHBOUR: 'it returns false'. Refute it at one input. -/
def fnKnownVersionRendersWrong : ChangeSpec := { name := "fnKnownVersionRenders", fn := fun _ => fun
  | [d1, d2] => { results := [.lit (.bool false)], args := [d1, d2] }
  | _ => none }
def FnKnownVersionRendersWrongFalsely : Prop := fnKnownVersionRendersRow.holds Try.pinned (OpenSpec.ofChange fnKnownVersionRendersWrong)

end Rows
end Go.Proofs.Qxb6609334a

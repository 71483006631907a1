/-
  No cell of these rows narrows 'for every input' (looked for: loops, veiled, ifaces, maps, wideKeys, modest, calm, conditions, laid).
  DERIVED. THE GIVEN ROWS OF THIS SEAT. 1 by the template 'for every input the law returns true; each argument reads behind the call as it read before'; 0 by the template 'total and deterministic' (their statements: Qxb6609261aTotals.lean).
  GIVEN WITH THE SEED: the statements are not yours to turn. If you find one false, say at which input.
  Laid BY PROGRAM, IN A SANDBOX (cutbox-rows.mjs): the forced cells as the released guide's own fill.sh prints them over the translation 36d6da3d08c370bb… (all of the seat's roots in one cut). By AI agents, Wed Nov 11 2026. No macro, syntax, notation, axiom, sorry.
-/
import Derived.Test.Qxb6609261aChecked
import GoSem.Claim
import GoSem.ClaimJoined
import GoSem.ClaimMapViews
import Derived.JoinedTies
import Derived.KernelRfl
namespace Go.Proofs.Qxb6609261a
/- THE CELL 'sum', in the pinned program and in every row, IS THE sha256 OF THE DUMP (.gsa) THAT Qxb6609261aProg.lean LOADS. Nothing in Lean hashes anything: it is a label: what it is worth is what the hold of that sum in a sandbox is worth. -/
noncomputable def Try.pinned : Pinned := { name := "qxb6609261a", sum := "36d6da3d08c370bbf9e943142fcb0b1290213ab1e6a203e9c9c8d1585bf78ac0", checked := Try.checked }
namespace Rows
def none {H : Type} : Left H := { results := [], args := [] }

/-- 'zzlaws_root_b1.FnStartsWithLetterFirstByteAndCase': WHATEVER THE INPUT: true; the input reads as it did. -/
def fnStartsWithLetterFirstByteAndCaseSpec : ChangeSpec := { name := "fnStartsWithLetterFirstByteAndCase", fn := fun _ => fun
  | [d] => { results := [.lit (.bool true)], args := [d] }
  | _ => none }
def fnStartsWithLetterFirstByteAndCaseRow : OpenClaim := { program := "qxb6609261a", sum := "36d6da3d08c370bbf9e943142fcb0b1290213ab1e6a203e9c9c8d1585bf78ac0", func := "example.com/whereabouts/whereabouts/zzlaws_root_b1.FnStartsWithLetterFirstByteAndCase", spec := "fnStartsWithLetterFirstByteAndCase", apart := false }
def FnStartsWithLetterFirstByteAndCaseSaid : Prop := fnStartsWithLetterFirstByteAndCaseRow.holds Try.pinned (OpenSpec.ofChange fnStartsWithLetterFirstByteAndCaseSpec)

/-- ITS FALSE NEIGHBOUR: 'it returns false'. Refute it at one input. -/
def fnStartsWithLetterFirstByteAndCaseWrong : ChangeSpec := { name := "fnStartsWithLetterFirstByteAndCase", fn := fun _ => fun
  | [d] => { results := [.lit (.bool false)], args := [d] }
  | _ => none }
def FnStartsWithLetterFirstByteAndCaseWrongFalsely : Prop := fnStartsWithLetterFirstByteAndCaseRow.holds Try.pinned (OpenSpec.ofChange fnStartsWithLetterFirstByteAndCaseWrong)

end Rows
end Go.Proofs.Qxb6609261a

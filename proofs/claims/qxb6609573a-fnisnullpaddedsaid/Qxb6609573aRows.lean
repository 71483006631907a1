/-
  No cell of these rows narrows 'for every input' (looked for: loops, veiled, ifaces, maps, wideKeys, modest, calm, conditions, laid).
  DERIVED. THE GIVEN ROWS OF THIS SEAT. 1 by the template 'for every input the law returns true; each argument reads behind the call as it read before'; 0 by the template 'total and deterministic' (their statements: Qxb6609573aTotals.lean).
  GIVEN WITH THE SEED: the statements are not yours to turn. If you find one false, say at which input.
  Laid BY PROGRAM, IN A SANDBOX (cutbox-rows.mjs): the forced cells as the released guide's own fill.sh prints them over the translation 157c7932b89f3d0f… (all of the seat's roots in one cut). By AI agents, Wed Nov 11 2026. No macro, syntax, notation, axiom, sorry.
-/
import Derived.Test.Qxb6609573aChecked
import GoSem.Claim
import GoSem.ClaimJoined
import GoSem.ClaimMapViews
import Derived.JoinedTies
import Derived.KernelRfl
namespace Go.Proofs.Qxb6609573a
/- THE CELL 'sum', in the pinned program and in every row, IS THE sha256 OF THE DUMP (.gsa) THAT Qxb6609573aProg.lean LOADS. Nothing in Lean hashes anything: it is a label: what it is worth is what the hold of that sum in a sandbox is worth. -/
noncomputable def Try.pinned : Pinned := { name := "qxb6609573a", sum := "157c7932b89f3d0facc3f91fdc191f9dc4b48e6f17e2c2a5667f221f63c6a0d0", checked := Try.checked }
namespace Rows
def none {H : Type} : Left H := { results := [], args := [] }

/-- 'zzlaws_root_b1.FnIsNullPadded': WHATEVER THE INPUT: true; the input reads as it did. -/
def fnIsNullPaddedSpec : ChangeSpec := { name := "fnIsNullPadded", fn := fun _ => fun
  | [d1, d2, d3] => { results := [.lit (.bool true)], args := [d1, d2, d3] }
  | _ => none }
def fnIsNullPaddedRow : OpenClaim := { program := "qxb6609573a", sum := "157c7932b89f3d0facc3f91fdc191f9dc4b48e6f17e2c2a5667f221f63c6a0d0", func := "example.com/envelope/envelope/zzlaws_root_b1.FnIsNullPadded", spec := "fnIsNullPadded", apart := false }
def FnIsNullPaddedSaid : Prop := fnIsNullPaddedRow.holds Try.pinned (OpenSpec.ofChange fnIsNullPaddedSpec)

/-- ITS FALSE NEIGHBOUR: 'it returns false'. Refute it at one input. -/
def fnIsNullPaddedWrong : ChangeSpec := { name := "fnIsNullPadded", fn := fun _ => fun
  | [d1, d2, d3] => { results := [.lit (.bool false)], args := [d1, d2, d3] }
  | _ => none }
def FnIsNullPaddedWrongFalsely : Prop := fnIsNullPaddedRow.holds Try.pinned (OpenSpec.ofChange fnIsNullPaddedWrong)

end Rows
end Go.Proofs.Qxb6609573a

/-
  No cell of these rows narrows 'for every input' (looked for: loops, veiled, ifaces, maps, wideKeys, modest, calm, conditions, laid).
  DERIVED. THE GIVEN ROWS OF THIS SEAT. 2 by the template 'for every input the law returns true; each argument reads behind the call as it read before'; 0 by the template 'total and deterministic' (their statements: Qxb6609209aTotals.lean).
  GIVEN WITH THE SEED: the statements are not yours to turn. If you find one false, say at which input.
  Laid BY PROGRAM, IN A SANDBOX (cutbox-rows.mjs): the forced cells as the released guide's own fill.sh prints them over the translation 00e96aad2b1a1d55… (all of the seat's roots in one cut). By AI agents, Wed Nov 11 2026. No macro, syntax, notation, axiom, sorry.
-/
import Derived.Test.Qxb6609209aChecked
import GoSem.Claim
import GoSem.ClaimJoined
import GoSem.ClaimMapViews
import Derived.JoinedTies
import Derived.KernelRfl
namespace Go.Proofs.Qxb6609209a
/- THE CELL 'sum', in the pinned program and in every row, IS THE sha256 OF THE DUMP (.gsa) THAT Qxb6609209aProg.lean LOADS. Nothing in Lean hashes anything: it is a label: what it is worth is what the hold of that sum in a sandbox is worth. -/
noncomputable def Try.pinned : Pinned := { name := "qxb6609209a", sum := "00e96aad2b1a1d558659eeafc80f364cdb28f9673b095d49f4c7460dd4e6ee0d", checked := Try.checked }
namespace Rows
def none {H : Type} : Left H := { results := [], args := [] }

/-- 'zzlaws_root_b1.FnAfterValueMatchesScanner': WHATEVER THE INPUT: true; the input reads as it did. -/
def fnAfterValueMatchesScannerSpec : ChangeSpec := { name := "fnAfterValueMatchesScanner", fn := fun _ => fun
  | [d1, d2, d3, d4] => { results := [.lit (.bool true)], args := [d1, d2, d3, d4] }
  | _ => none }
def fnAfterValueMatchesScannerRow : OpenClaim := { program := "qxb6609209a", sum := "00e96aad2b1a1d558659eeafc80f364cdb28f9673b095d49f4c7460dd4e6ee0d", func := "example.com/recourse/recourse/zzlaws_root_b1.FnAfterValueMatchesScanner", spec := "fnAfterValueMatchesScanner", apart := false }
def FnAfterValueMatchesScannerSaid : Prop := fnAfterValueMatchesScannerRow.holds Try.pinned (OpenSpec.ofChange fnAfterValueMatchesScannerSpec)

/-- ITS FALSE NEIGHBOUR: 'it returns false'. Refute it at one input. -/
def fnAfterValueMatchesScannerWrong : ChangeSpec := { name := "fnAfterValueMatchesScanner", fn := fun _ => fun
  | [d1, d2, d3, d4] => { results := [.lit (.bool false)], args := [d1, d2, d3, d4] }
  | _ => none }
def FnAfterValueMatchesScannerWrongFalsely : Prop := fnAfterValueMatchesScannerRow.holds Try.pinned (OpenSpec.ofChange fnAfterValueMatchesScannerWrong)

/-- 'zzlaws_root_b1.FnAfterValueStepsOverOneMark': WHATEVER THE INPUT: true; the input reads as it did. -/
def fnAfterValueStepsOverOneMarkSpec : ChangeSpec := { name := "fnAfterValueStepsOverOneMark", fn := fun _ => fun
  | [d1, d2, d3, d4] => { results := [.lit (.bool true)], args := [d1, d2, d3, d4] }
  | _ => none }
def fnAfterValueStepsOverOneMarkRow : OpenClaim := { program := "qxb6609209a", sum := "00e96aad2b1a1d558659eeafc80f364cdb28f9673b095d49f4c7460dd4e6ee0d", func := "example.com/recourse/recourse/zzlaws_root_b1.FnAfterValueStepsOverOneMark", spec := "fnAfterValueStepsOverOneMark", apart := false }
def FnAfterValueStepsOverOneMarkSaid : Prop := fnAfterValueStepsOverOneMarkRow.holds Try.pinned (OpenSpec.ofChange fnAfterValueStepsOverOneMarkSpec)

/-- ITS FALSE NEIGHBOUR: 'it returns false'. Refute it at one input. -/
def fnAfterValueStepsOverOneMarkWrong : ChangeSpec := { name := "fnAfterValueStepsOverOneMark", fn := fun _ => fun
  | [d1, d2, d3, d4] => { results := [.lit (.bool false)], args := [d1, d2, d3, d4] }
  | _ => none }
def FnAfterValueStepsOverOneMarkWrongFalsely : Prop := fnAfterValueStepsOverOneMarkRow.holds Try.pinned (OpenSpec.ofChange fnAfterValueStepsOverOneMarkWrong)

end Rows
end Go.Proofs.Qxb6609209a

/-
  No cell of these rows narrows 'for every input' (looked for: loops, veiled, ifaces, maps, wideKeys, modest, calm, conditions, laid).
  DERIVED. THE GIVEN ROWS OF THIS SEAT. 2 by the template 'for every input the law returns true; each argument reads behind the call as it read before'; 0 by the template 'total and deterministic' (their statements: Qxb6609010aModsTotals.lean).
  GIVEN WITH THE SEED: the statements are not yours to turn. If you find one false, say at which input.
  Laid BY PROGRAM, IN A SANDBOX (cutbox-rows.mjs): the forced cells as the released guide's own fill.sh prints them over the translation 9fba57cfc7fc3568… (all of the seat's roots in one cut). By AI agents, Wed Nov 11 2026. No macro, syntax, notation, axiom, sorry.
-/
import Derived.Test.Qxb6609010aModsChecked
import GoSem.Claim
import GoSem.ClaimJoined
import GoSem.ClaimMapViews
import Derived.JoinedTies
import Derived.KernelRfl
namespace Go.Proofs.Qxb6609010aMods
/- THE CELL 'sum', in the pinned program and in every row, IS THE sha256 OF THE DUMP (.gsa) THAT Qxb6609010aModsProg.lean LOADS. Nothing in Lean hashes anything: it is a label: what it is worth is what the hold of that sum in a sandbox is worth. -/
noncomputable def Trym.pinned : Pinned := { name := "qxb6609010amods", sum := "9fba57cfc7fc3568c57e5732fc10bd1985d177804d97a19a3c74c654108cae01", checked := Trym.checked }
namespace Rows
def none {H : Type} : Left H := { results := [], args := [] }

/-- 'zzlaws_root_b1.FnAboveTrichotomy': WHATEVER THE INPUT: true; the input reads as it did. -/
def fnAboveTrichotomySpec : ChangeSpec := { name := "fnAboveTrichotomy", fn := fun _ => fun
  | [d1, d2] => { results := [.lit (.bool true)], args := [d1, d2] }
  | _ => none }
def fnAboveTrichotomyRow : OpenClaim := { program := "qxb6609010amods", sum := "9fba57cfc7fc3568c57e5732fc10bd1985d177804d97a19a3c74c654108cae01", func := "example.com/pledgewell/pledgewell/zzlaws_root_b1.FnAboveTrichotomy", spec := "fnAboveTrichotomy", make := .lifted ["publicsums"], apart := false }
def FnAboveTrichotomySaid : Prop := fnAboveTrichotomyRow.holds Trym.pinned (OpenSpec.ofChange fnAboveTrichotomySpec)

/-- ITS FALSE NEIGHBOUR: 'it returns false'. Refute it at one input. -/
def fnAboveTrichotomyWrong : ChangeSpec := { name := "fnAboveTrichotomy", fn := fun _ => fun
  | [d1, d2] => { results := [.lit (.bool false)], args := [d1, d2] }
  | _ => none }
def FnAboveTrichotomyWrongFalsely : Prop := fnAboveTrichotomyRow.holds Trym.pinned (OpenSpec.ofChange fnAboveTrichotomyWrong)

/-- 'zzlaws_root_b1.FnAboveAfterAdding': WHATEVER THE INPUT: true; the input reads as it did. -/
def fnAboveAfterAddingSpec : ChangeSpec := { name := "fnAboveAfterAdding", fn := fun _ => fun
  | [d1, d2, d3] => { results := [.lit (.bool true)], args := [d1, d2, d3] }
  | _ => none }
def fnAboveAfterAddingRow : OpenClaim := { program := "qxb6609010amods", sum := "9fba57cfc7fc3568c57e5732fc10bd1985d177804d97a19a3c74c654108cae01", func := "example.com/pledgewell/pledgewell/zzlaws_root_b1.FnAboveAfterAdding", spec := "fnAboveAfterAdding", make := .lifted ["publicsums"], apart := false }
def FnAboveAfterAddingSaid : Prop := fnAboveAfterAddingRow.holds Trym.pinned (OpenSpec.ofChange fnAboveAfterAddingSpec)

/-- ITS FALSE NEIGHBOUR: 'it returns false'. Refute it at one input. -/
def fnAboveAfterAddingWrong : ChangeSpec := { name := "fnAboveAfterAdding", fn := fun _ => fun
  | [d1, d2, d3] => { results := [.lit (.bool false)], args := [d1, d2, d3] }
  | _ => none }
def FnAboveAfterAddingWrongFalsely : Prop := fnAboveAfterAddingRow.holds Trym.pinned (OpenSpec.ofChange fnAboveAfterAddingWrong)

end Rows
end Go.Proofs.Qxb6609010aMods

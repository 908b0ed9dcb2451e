/-
  No cell of these rows narrows 'for every input' (looked for: loops, veiled, ifaces, maps, wideKeys, modest, calm, conditions, laid).
  DERIVED. THE GIVEN ROWS OF THIS SEAT. 2 by the template 'for every input the law returns true; each argument reads behind the call as it read before'; 0 by the template 'total and deterministic' (their statements: Qxb6614947aModsTotals.lean).
  GIVEN WITH THE SEED: the statements are not yours to turn. If you find one false, say at which input.
  Laid BY PROGRAM, IN A SANDBOX (cutbox-rows.mjs): the forced cells as the released guide's own fill.sh prints them over the translation b046cf7e7a820240… (all of the seat's roots in one cut). By AI agents, Wed Nov 11 2026. No macro, syntax, notation, axiom, sorry.
-/
import Derived.Test.Qxb6614947aModsChecked
import GoSem.Claim
import GoSem.ClaimJoined
import GoSem.ClaimMapViews
import Derived.JoinedTies
import Derived.KernelRfl
namespace Go.Proofs.Qxb6614947aMods
/- THE CELL 'sum', in the pinned program and in every row, IS THE sha256 OF THE DUMP (.gsa) THAT Qxb6614947aModsProg.lean LOADS. Nothing in Lean hashes anything: it is a label: what it is worth is what the hold of that sum in a sandbox is worth. -/
noncomputable def Trym.pinned : Pinned := { name := "qxb6614947amods", sum := "b046cf7e7a82024079b4b3e8c0357df9ba7c974a7433eeef1ada1a5703442626", checked := Trym.checked }
namespace Rows
def none {H : Type} : Left H := { results := [], args := [] }

/-- 'zzlaws_pkg_filter_b1.FnIsDigitAgreesWithOneDigitMinute': WHATEVER THE INPUT: true; the input reads as it did. -/
def fnIsDigitAgreesWithOneDigitMinuteSpec : ChangeSpec := { name := "fnIsDigitAgreesWithOneDigitMinute", fn := fun _ => fun
  | [d] => { results := [.lit (.bool true)], args := [d] }
  | _ => none }
def fnIsDigitAgreesWithOneDigitMinuteRow : OpenClaim := { program := "qxb6614947amods", sum := "b046cf7e7a82024079b4b3e8c0357df9ba7c974a7433eeef1ada1a5703442626", func := "example.com/tailrace/tailrace/zzlaws_pkg_filter_b1.FnIsDigitAgreesWithOneDigitMinute", spec := "fnIsDigitAgreesWithOneDigitMinute", make := .lifted ["publicsums"], apart := false }
def FnIsDigitAgreesWithOneDigitMinuteSaid : Prop := fnIsDigitAgreesWithOneDigitMinuteRow.holds Trym.pinned (OpenSpec.ofChange fnIsDigitAgreesWithOneDigitMinuteSpec)

/-- ITS FALSE NEIGHBOUR: 'it returns false'. Refute it at one input. -/
def fnIsDigitAgreesWithOneDigitMinuteWrong : ChangeSpec := { name := "fnIsDigitAgreesWithOneDigitMinute", fn := fun _ => fun
  | [d] => { results := [.lit (.bool false)], args := [d] }
  | _ => none }
def FnIsDigitAgreesWithOneDigitMinuteWrongFalsely : Prop := fnIsDigitAgreesWithOneDigitMinuteRow.holds Trym.pinned (OpenSpec.ofChange fnIsDigitAgreesWithOneDigitMinuteWrong)

/-- 'zzlaws_pkg_filter_b1.FnIsDigitAgreesWithYearDigit': WHATEVER THE INPUT: true; the input reads as it did. -/
def fnIsDigitAgreesWithYearDigitSpec : ChangeSpec := { name := "fnIsDigitAgreesWithYearDigit", fn := fun _ => fun
  | [d] => { results := [.lit (.bool true)], args := [d] }
  | _ => none }
def fnIsDigitAgreesWithYearDigitRow : OpenClaim := { program := "qxb6614947amods", sum := "b046cf7e7a82024079b4b3e8c0357df9ba7c974a7433eeef1ada1a5703442626", func := "example.com/tailrace/tailrace/zzlaws_pkg_filter_b1.FnIsDigitAgreesWithYearDigit", spec := "fnIsDigitAgreesWithYearDigit", make := .lifted ["publicsums"], apart := false }
def FnIsDigitAgreesWithYearDigitSaid : Prop := fnIsDigitAgreesWithYearDigitRow.holds Trym.pinned (OpenSpec.ofChange fnIsDigitAgreesWithYearDigitSpec)

/-- ITS FALSE NEIGHBOUR: 'it returns false'. Refute it at one input. -/
def fnIsDigitAgreesWithYearDigitWrong : ChangeSpec := { name := "fnIsDigitAgreesWithYearDigit", fn := fun _ => fun
  | [d] => { results := [.lit (.bool false)], args := [d] }
  | _ => none }
def FnIsDigitAgreesWithYearDigitWrongFalsely : Prop := fnIsDigitAgreesWithYearDigitRow.holds Trym.pinned (OpenSpec.ofChange fnIsDigitAgreesWithYearDigitWrong)

end Rows
end Go.Proofs.Qxb6614947aMods

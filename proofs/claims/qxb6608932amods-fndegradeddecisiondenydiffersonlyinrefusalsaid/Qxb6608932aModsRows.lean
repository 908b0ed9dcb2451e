/-
  No cell of these rows narrows 'for every input' (looked for: loops, veiled, ifaces, maps, wideKeys, modest, calm, conditions, laid).
  DERIVED. THE GIVEN ROWS OF THIS SEAT. 6 by the template 'for every input the law returns true; each argument reads behind the call as it read before'; 0 by the template 'total and deterministic' (their statements: Qxb6608932aModsTotals.lean).
  GIVEN WITH THE SEED: the statements are not yours to turn. If you find one false, say at which input.
  Laid BY PROGRAM, IN A SANDBOX (cutbox-rows.mjs): the forced cells as the released guide's own fill.sh prints them over the translation 55743b2fa23e7b5d… (all of the seat's roots in one cut). By AI agents, Wed Nov 11 2026. No macro, syntax, notation, axiom, sorry.
-/
import Derived.Test.Qxb6608932aModsChecked
import GoSem.Claim
import GoSem.ClaimJoined
import GoSem.ClaimMapViews
import Derived.JoinedTies
import Derived.KernelRfl
namespace Go.Proofs.Qxb6608932aMods
/- THE CELL 'sum', in the pinned program and in every row, IS THE sha256 OF THE DUMP (.gsa) THAT Qxb6608932aModsProg.lean LOADS. Nothing in Lean hashes anything: it is a label: what it is worth is what the hold of that sum in a sandbox is worth. -/
noncomputable def Trym.pinned : Pinned := { name := "qxb6608932amods", sum := "55743b2fa23e7b5de984034102a941e45d0d12d60d69d0406d66c2c09a0145fc", checked := Trym.checked }
namespace Rows
def none {H : Type} : Left H := { results := [], args := [] }

/-- 'zzlaws_root_b1.FnValidNameJoin': WHATEVER THE INPUT: true; the input reads as it did. -/
def fnValidNameJoinSpec : ChangeSpec := { name := "fnValidNameJoin", fn := fun _ => fun
  | [d1, d2] => { results := [.lit (.bool true)], args := [d1, d2] }
  | _ => none }
def fnValidNameJoinRow : OpenClaim := { program := "qxb6608932amods", sum := "55743b2fa23e7b5de984034102a941e45d0d12d60d69d0406d66c2c09a0145fc", func := "example.com/seshat/seshat/zzlaws_root_b1.FnValidNameJoin", spec := "fnValidNameJoin", make := .lifted ["publicsums"], apart := false }
def FnValidNameJoinSaid : Prop := fnValidNameJoinRow.holds Trym.pinned (OpenSpec.ofChange fnValidNameJoinSpec)

/-- ITS FALSE NEIGHBOUR: 'it returns false'. Refute it at one input. -/
def fnValidNameJoinWrong : ChangeSpec := { name := "fnValidNameJoin", fn := fun _ => fun
  | [d1, d2] => { results := [.lit (.bool false)], args := [d1, d2] }
  | _ => none }
def FnValidNameJoinWrongFalsely : Prop := fnValidNameJoinRow.holds Trym.pinned (OpenSpec.ofChange fnValidNameJoinWrong)

/-- 'zzlaws_root_b1.FnValidNameInsertOneByte': WHATEVER THE INPUT: true; the input reads as it did. -/
def fnValidNameInsertOneByteSpec : ChangeSpec := { name := "fnValidNameInsertOneByte", fn := fun _ => fun
  | [d1, d2, d3] => { results := [.lit (.bool true)], args := [d1, d2, d3] }
  | _ => none }
def fnValidNameInsertOneByteRow : OpenClaim := { program := "qxb6608932amods", sum := "55743b2fa23e7b5de984034102a941e45d0d12d60d69d0406d66c2c09a0145fc", func := "example.com/seshat/seshat/zzlaws_root_b1.FnValidNameInsertOneByte", spec := "fnValidNameInsertOneByte", make := .lifted ["publicsums"], apart := false }
def FnValidNameInsertOneByteSaid : Prop := fnValidNameInsertOneByteRow.holds Trym.pinned (OpenSpec.ofChange fnValidNameInsertOneByteSpec)

/-- ITS FALSE NEIGHBOUR: 'it returns false'. Refute it at one input. -/
def fnValidNameInsertOneByteWrong : ChangeSpec := { name := "fnValidNameInsertOneByte", fn := fun _ => fun
  | [d1, d2, d3] => { results := [.lit (.bool false)], args := [d1, d2, d3] }
  | _ => none }
def FnValidNameInsertOneByteWrongFalsely : Prop := fnValidNameInsertOneByteRow.holds Trym.pinned (OpenSpec.ofChange fnValidNameInsertOneByteWrong)

/-- 'zzlaws_root_b1.FnDegradedDecisionHangsOnLimitAndFallbackAlone': WHATEVER THE INPUT: true; the input reads as it did. -/
def fnDegradedDecisionHangsOnLimitAndFallbackAloneSpec : ChangeSpec := { name := "fnDegradedDecisionHangsOnLimitAndFallbackAlone", fn := fun _ => fun
  | [d1, d2, d3, d4, d5, d6, d7, d8, d9] => { results := [.lit (.bool true)], args := [d1, d2, d3, d4, d5, d6, d7, d8, d9] }
  | _ => none }
def fnDegradedDecisionHangsOnLimitAndFallbackAloneRow : OpenClaim := { program := "qxb6608932amods", sum := "55743b2fa23e7b5de984034102a941e45d0d12d60d69d0406d66c2c09a0145fc", func := "example.com/seshat/seshat/zzlaws_root_b1.FnDegradedDecisionHangsOnLimitAndFallbackAlone", spec := "fnDegradedDecisionHangsOnLimitAndFallbackAlone", make := .lifted ["publicsums"], apart := false }
def FnDegradedDecisionHangsOnLimitAndFallbackAloneSaid : Prop := fnDegradedDecisionHangsOnLimitAndFallbackAloneRow.holds Trym.pinned (OpenSpec.ofChange fnDegradedDecisionHangsOnLimitAndFallbackAloneSpec)

/-- ITS FALSE NEIGHBOUR: 'it returns false'. Refute it at one input. -/
def fnDegradedDecisionHangsOnLimitAndFallbackAloneWrong : ChangeSpec := { name := "fnDegradedDecisionHangsOnLimitAndFallbackAlone", fn := fun _ => fun
  | [d1, d2, d3, d4, d5, d6, d7, d8, d9] => { results := [.lit (.bool false)], args := [d1, d2, d3, d4, d5, d6, d7, d8, d9] }
  | _ => none }
def FnDegradedDecisionHangsOnLimitAndFallbackAloneWrongFalsely : Prop := fnDegradedDecisionHangsOnLimitAndFallbackAloneRow.holds Trym.pinned (OpenSpec.ofChange fnDegradedDecisionHangsOnLimitAndFallbackAloneWrong)

/-- 'zzlaws_root_b1.FnDegradedDecisionDenyDiffersOnlyInRefusal': WHATEVER THE INPUT: true; the input reads as it did. -/
def fnDegradedDecisionDenyDiffersOnlyInRefusalSpec : ChangeSpec := { name := "fnDegradedDecisionDenyDiffersOnlyInRefusal", fn := fun _ => fun
  | [d1, d2, d3, d4, d5, d6, d7, d8, d9] => { results := [.lit (.bool true)], args := [d1, d2, d3, d4, d5, d6, d7, d8, d9] }
  | _ => none }
def fnDegradedDecisionDenyDiffersOnlyInRefusalRow : OpenClaim := { program := "qxb6608932amods", sum := "55743b2fa23e7b5de984034102a941e45d0d12d60d69d0406d66c2c09a0145fc", func := "example.com/seshat/seshat/zzlaws_root_b1.FnDegradedDecisionDenyDiffersOnlyInRefusal", spec := "fnDegradedDecisionDenyDiffersOnlyInRefusal", make := .lifted ["publicsums"], apart := false }
def FnDegradedDecisionDenyDiffersOnlyInRefusalSaid : Prop := fnDegradedDecisionDenyDiffersOnlyInRefusalRow.holds Trym.pinned (OpenSpec.ofChange fnDegradedDecisionDenyDiffersOnlyInRefusalSpec)

/-- ITS FALSE NEIGHBOUR: 'it returns false'. Refute it at one input. -/
def fnDegradedDecisionDenyDiffersOnlyInRefusalWrong : ChangeSpec := { name := "fnDegradedDecisionDenyDiffersOnlyInRefusal", fn := fun _ => fun
  | [d1, d2, d3, d4, d5, d6, d7, d8, d9] => { results := [.lit (.bool false)], args := [d1, d2, d3, d4, d5, d6, d7, d8, d9] }
  | _ => none }
def FnDegradedDecisionDenyDiffersOnlyInRefusalWrongFalsely : Prop := fnDegradedDecisionDenyDiffersOnlyInRefusalRow.holds Trym.pinned (OpenSpec.ofChange fnDegradedDecisionDenyDiffersOnlyInRefusalWrong)

/-- 'zzlaws_root_b1.FnBreakerAllowScript': WHATEVER THE INPUT: true; the input reads as it did. -/
def fnBreakerAllowScriptSpec : ChangeSpec := { name := "fnBreakerAllowScript", fn := fun _ => fun
  | [d1, d2, d3, d4] => { results := [.lit (.bool true)], args := [d1, d2, d3, d4] }
  | _ => none }
def fnBreakerAllowScriptRow : OpenClaim := { program := "qxb6608932amods", sum := "55743b2fa23e7b5de984034102a941e45d0d12d60d69d0406d66c2c09a0145fc", func := "example.com/seshat/seshat/zzlaws_root_b1.FnBreakerAllowScript", spec := "fnBreakerAllowScript", inPlace := ["(*internal/sync.Mutex).Lock", "internal/race.Disable", "sync/atomic.CompareAndSwapInt32", "internal/race.Enable", "internal/race.Acquire", "(*internal/sync.Mutex).lockSlow", "internal/sync.runtime_canSpin", "internal/sync.runtime_doSpin", "internal/sync.throw", "internal/sync.runtime_nanotime", "internal/sync.runtime_SemacquireMutex", "sync/atomic.AddInt32", "(*internal/sync.Mutex).Unlock", "internal/race.ReleaseMerge", "(*internal/sync.Mutex).unlockSlow", "internal/sync.fatal", "internal/sync.runtime_Semrelease"], make := .lifted ["publicsums"], apart := false }
def FnBreakerAllowScriptSaid : Prop := fnBreakerAllowScriptRow.holds Trym.pinned (OpenSpec.ofChange fnBreakerAllowScriptSpec)

/-- ITS FALSE NEIGHBOUR: 'it returns false'. Refute it at one input. -/
def fnBreakerAllowScriptWrong : ChangeSpec := { name := "fnBreakerAllowScript", fn := fun _ => fun
  | [d1, d2, d3, d4] => { results := [.lit (.bool false)], args := [d1, d2, d3, d4] }
  | _ => none }
def FnBreakerAllowScriptWrongFalsely : Prop := fnBreakerAllowScriptRow.holds Trym.pinned (OpenSpec.ofChange fnBreakerAllowScriptWrong)

/-- 'zzlaws_root_b1.FnBreakerLaterCheckNoStricter': WHATEVER THE INPUT: true; the input reads as it did. -/
def fnBreakerLaterCheckNoStricterSpec : ChangeSpec := { name := "fnBreakerLaterCheckNoStricter", fn := fun _ => fun
  | [d1, d2, d3, d4, d5] => { results := [.lit (.bool true)], args := [d1, d2, d3, d4, d5] }
  | _ => none }
def fnBreakerLaterCheckNoStricterRow : OpenClaim := { program := "qxb6608932amods", sum := "55743b2fa23e7b5de984034102a941e45d0d12d60d69d0406d66c2c09a0145fc", func := "example.com/seshat/seshat/zzlaws_root_b1.FnBreakerLaterCheckNoStricter", spec := "fnBreakerLaterCheckNoStricter", inPlace := ["(*internal/sync.Mutex).Lock", "internal/race.Disable", "sync/atomic.CompareAndSwapInt32", "internal/race.Enable", "internal/race.Acquire", "(*internal/sync.Mutex).lockSlow", "internal/sync.runtime_canSpin", "internal/sync.runtime_doSpin", "internal/sync.throw", "internal/sync.runtime_nanotime", "internal/sync.runtime_SemacquireMutex", "sync/atomic.AddInt32", "(*internal/sync.Mutex).Unlock", "internal/race.ReleaseMerge", "(*internal/sync.Mutex).unlockSlow", "internal/sync.fatal", "internal/sync.runtime_Semrelease"], make := .lifted ["publicsums"], apart := false }
def FnBreakerLaterCheckNoStricterSaid : Prop := fnBreakerLaterCheckNoStricterRow.holds Trym.pinned (OpenSpec.ofChange fnBreakerLaterCheckNoStricterSpec)

/-- ITS FALSE NEIGHBOUR: 'it returns false'. Refute it at one input. -/
def fnBreakerLaterCheckNoStricterWrong : ChangeSpec := { name := "fnBreakerLaterCheckNoStricter", fn := fun _ => fun
  | [d1, d2, d3, d4, d5] => { results := [.lit (.bool false)], args := [d1, d2, d3, d4, d5] }
  | _ => none }
def FnBreakerLaterCheckNoStricterWrongFalsely : Prop := fnBreakerLaterCheckNoStricterRow.holds Trym.pinned (OpenSpec.ofChange fnBreakerLaterCheckNoStricterWrong)

end Rows
end Go.Proofs.Qxb6608932aMods

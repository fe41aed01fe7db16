/-
  No cell of these rows narrows 'for every input' (looked for: loops, veiled, ifaces, maps, wideKeys, modest, calm, conditions, laid).
  DERIVED. THE GIVEN ROWS OF THIS SEAT. 2 by the template 'for every input the law returns true; each argument reads behind the call as it read before'; 0 by the template 'total and deterministic' (their statements: Qxb6616399aTotals.lean).
  GIVEN WITH THE SEED: the statements are not yours to turn. If you find one false, say at which input.
  Laid BY PROGRAM, IN A SANDBOX (cutbox-rows.mjs): the forced cells as the released guide's own fill.sh prints them over the translation a1fd84f803211961… (all of the seat's roots in one cut). By AI agents, Wed Nov 11 2026. No macro, syntax, notation, axiom, sorry.
-/
import Derived.Test.Qxb6616399aChecked
import GoSem.Claim
import GoSem.ClaimJoined
import GoSem.ClaimMapViews
import Derived.JoinedTies
import Derived.KernelRfl
namespace Go.Proofs.Qxb6616399a
/- THE CELL 'sum', in the pinned program and in every row, IS THE sha256 OF THE DUMP (.gsa) THAT Qxb6616399aProg.lean LOADS. Nothing in Lean hashes anything: it is a label: what it is worth is what the hold of that sum in a sandbox is worth. -/
noncomputable def Try.pinned : Pinned := { name := "qxb6616399a", sum := "a1fd84f803211961efa9278090875663d337a2738bee71e6cb6cce60c6c85018", checked := Try.checked }
namespace Rows
def none {H : Type} : Left H := { results := [], args := [] }

/-- 'zzlaws_memnet_b1.FnAddressStringIsInjectiveAndKeepsLength': WHATEVER THE INPUT: true; the input reads as it did. -/
def fnAddressStringIsInjectiveAndKeepsLengthSpec : ChangeSpec := { name := "fnAddressStringIsInjectiveAndKeepsLength", fn := fun _ => fun
  | [d1, d2] => { results := [.lit (.bool true)], args := [d1, d2] }
  | _ => none }
def fnAddressStringIsInjectiveAndKeepsLengthRow : OpenClaim := { program := "qxb6616399a", sum := "a1fd84f803211961efa9278090875663d337a2738bee71e6cb6cce60c6c85018", func := "example.com/viewcast/viewcast/zzlaws_memnet_b1.FnAddressStringIsInjectiveAndKeepsLength", spec := "fnAddressStringIsInjectiveAndKeepsLength", plainKeys := false, apart := false }
def FnAddressStringIsInjectiveAndKeepsLengthSaid : Prop := fnAddressStringIsInjectiveAndKeepsLengthRow.holds Try.pinned (OpenSpec.ofChange fnAddressStringIsInjectiveAndKeepsLengthSpec)

/-- ITS FALSE NEIGHBOUR: 'it returns false'. Refute it at one input. -/
def fnAddressStringIsInjectiveAndKeepsLengthWrong : ChangeSpec := { name := "fnAddressStringIsInjectiveAndKeepsLength", fn := fun _ => fun
  | [d1, d2] => { results := [.lit (.bool false)], args := [d1, d2] }
  | _ => none }
def FnAddressStringIsInjectiveAndKeepsLengthWrongFalsely : Prop := fnAddressStringIsInjectiveAndKeepsLengthRow.holds Try.pinned (OpenSpec.ofChange fnAddressStringIsInjectiveAndKeepsLengthWrong)

/-- 'zzlaws_memnet_b1.FnBreakOffDropsEverythingOnceAndForAll': WHATEVER THE INPUT: true; the input reads as it did. -/
def fnBreakOffDropsEverythingOnceAndForAllSpec : ChangeSpec := { name := "fnBreakOffDropsEverythingOnceAndForAll", fn := fun _ => fun
  | [d1, d2, d3, d4, d5, d6, d7, d8, d9] => { results := [.lit (.bool true)], args := [d1, d2, d3, d4, d5, d6, d7, d8, d9] }
  | _ => none }
def fnBreakOffDropsEverythingOnceAndForAllRow : OpenClaim := { program := "qxb6616399a", sum := "a1fd84f803211961efa9278090875663d337a2738bee71e6cb6cce60c6c85018", func := "example.com/viewcast/viewcast/zzlaws_memnet_b1.FnBreakOffDropsEverythingOnceAndForAll", spec := "fnBreakOffDropsEverythingOnceAndForAll", inPlace := ["(*internal/sync.Mutex).Lock", "internal/race.Disable", "sync/atomic.CompareAndSwapInt32", "internal/race.Enable", "internal/race.Acquire", "(*internal/sync.Mutex).lockSlow", "internal/sync.runtime_canSpin", "internal/sync.runtime_doSpin", "internal/sync.throw", "internal/sync.runtime_nanotime", "internal/sync.runtime_SemacquireMutex", "sync/atomic.AddInt32", "(*internal/sync.Mutex).Unlock", "internal/race.ReleaseMerge", "(*internal/sync.Mutex).unlockSlow", "internal/sync.fatal", "internal/sync.runtime_Semrelease"], plainKeys := false, apart := false }
def FnBreakOffDropsEverythingOnceAndForAllSaid : Prop := fnBreakOffDropsEverythingOnceAndForAllRow.holds Try.pinned (OpenSpec.ofChange fnBreakOffDropsEverythingOnceAndForAllSpec)

/-- ITS FALSE NEIGHBOUR: 'it returns false'. Refute it at one input. -/
def fnBreakOffDropsEverythingOnceAndForAllWrong : ChangeSpec := { name := "fnBreakOffDropsEverythingOnceAndForAll", fn := fun _ => fun
  | [d1, d2, d3, d4, d5, d6, d7, d8, d9] => { results := [.lit (.bool false)], args := [d1, d2, d3, d4, d5, d6, d7, d8, d9] }
  | _ => none }
def FnBreakOffDropsEverythingOnceAndForAllWrongFalsely : Prop := fnBreakOffDropsEverythingOnceAndForAllRow.holds Try.pinned (OpenSpec.ofChange fnBreakOffDropsEverythingOnceAndForAllWrong)

end Rows
end Go.Proofs.Qxb6616399a

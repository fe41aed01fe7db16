/-
  No cell of these rows narrows 'for every input' (looked for: loops, veiled, ifaces, maps, wideKeys, modest, calm, conditions, laid).
  DERIVED. THE GIVEN ROWS OF THIS SEAT. 1 by the template 'for every input the law returns true; each argument reads behind the call as it read before'; 0 by the template 'total and deterministic' (their statements: Qxb6616757aTotals.lean).
  GIVEN WITH THE SEED: the statements are not yours to turn. If you find one false, say at which input.
  Laid BY PROGRAM, IN A SANDBOX (cutbox-rows.mjs): the forced cells as the released guide's own fill.sh prints them over the translation 2c1744b5a86146ad… (all of the seat's roots in one cut). By AI agents, Wed Nov 11 2026. No macro, syntax, notation, axiom, sorry.
-/
import Derived.Test.Qxb6616757aChecked
import GoSem.Claim
import GoSem.ClaimJoined
import GoSem.ClaimMapViews
import Derived.JoinedTies
import Derived.KernelRfl
namespace Go.Proofs.Qxb6616757a
/- THE CELL 'sum', in the pinned program and in every row, IS THE sha256 OF THE DUMP (.gsa) THAT Qxb6616757aProg.lean LOADS. Nothing in Lean hashes anything: it is a label: what it is worth is what the hold of that sum in a sandbox is worth. -/
noncomputable def Try.pinned : Pinned := { name := "qxb6616757a", sum := "2c1744b5a86146ada3c68e16fb24719563b62b729ed0818aa0729ad1cbbc0287", checked := Try.checked }
namespace Rows
def none {H : Type} : Left H := { results := [], args := [] }

/-- 'zzlaws_internal_scancache_b1.FnBelowPrefixShiftAndSuccessor': WHATEVER THE INPUT: true; the input reads as it did. -/
def fnBelowPrefixShiftAndSuccessorSpec : ChangeSpec := { name := "fnBelowPrefixShiftAndSuccessor", fn := fun _ => fun
  | [d1, d2, d3] => { results := [.lit (.bool true)], args := [d1, d2, d3] }
  | _ => none }
def fnBelowPrefixShiftAndSuccessorRow : OpenClaim := { program := "qxb6616757a", sum := "2c1744b5a86146ada3c68e16fb24719563b62b729ed0818aa0729ad1cbbc0287", func := "example.com/tidemark/tidemark/zzlaws_internal_scancache_b1.FnBelowPrefixShiftAndSuccessor", spec := "fnBelowPrefixShiftAndSuccessor", inPlace := ["internal/bytealg.Compare"], apart := false }
def FnBelowPrefixShiftAndSuccessorSaid : Prop := fnBelowPrefixShiftAndSuccessorRow.holds Try.pinned (OpenSpec.ofChange fnBelowPrefixShiftAndSuccessorSpec)

/-- ITS FALSE NEIGHBOUR: 'it returns false'. Refute it at one input. -/
def fnBelowPrefixShiftAndSuccessorWrong : ChangeSpec := { name := "fnBelowPrefixShiftAndSuccessor", fn := fun _ => fun
  | [d1, d2, d3] => { results := [.lit (.bool false)], args := [d1, d2, d3] }
  | _ => none }
def FnBelowPrefixShiftAndSuccessorWrongFalsely : Prop := fnBelowPrefixShiftAndSuccessorRow.holds Try.pinned (OpenSpec.ofChange fnBelowPrefixShiftAndSuccessorWrong)

end Rows
end Go.Proofs.Qxb6616757a

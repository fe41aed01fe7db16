/-
  No cell of these rows narrows 'for every input' (looked for: loops, veiled, ifaces, maps, wideKeys, modest, calm, conditions, laid).
  DERIVED. THE GIVEN ROWS OF THIS SEAT. 2 by the template 'for every input the law returns true; each argument reads behind the call as it read before'; 0 by the template 'total and deterministic' (their statements: Qxb6617165aTotals.lean).
  GIVEN WITH THE SEED: the statements are not yours to turn. If you find one false, say at which input.
  Laid BY PROGRAM, IN A SANDBOX (cutbox-rows.mjs): the forced cells as the released guide's own fill.sh prints them over the translation 0a5779634ea627e9… (all of the seat's roots in one cut). By AI agents, Wed Nov 11 2026. No macro, syntax, notation, axiom, sorry.
-/
import Derived.Test.Qxb6617165aChecked
import GoSem.Claim
import GoSem.ClaimJoined
import GoSem.ClaimMapViews
import Derived.JoinedTies
import Derived.KernelRfl
namespace Go.Proofs.Qxb6617165a
/- THE CELL 'sum', in the pinned program and in every row, IS THE sha256 OF THE DUMP (.gsa) THAT Qxb6617165aProg.lean LOADS. Nothing in Lean hashes anything: it is a label: what it is worth is what the hold of that sum in a sandbox is worth. -/
noncomputable def Try.pinned : Pinned := { name := "qxb6617165a", sum := "0a5779634ea627e9b987bf3c23ed3f76d915c95668da100055fb4418212d37df", checked := Try.checked }
namespace Rows
def none {H : Type} : Left H := { results := [], args := [] }

/-- 'zzlaws_pkg_address_b1.FnQuotedStringEndByEscapeParity': WHATEVER THE INPUT: true; the input reads as it did. -/
def fnQuotedStringEndByEscapeParitySpec : ChangeSpec := { name := "fnQuotedStringEndByEscapeParity", fn := fun _ => fun
  | [d] => { results := [.lit (.bool true)], args := [d] }
  | _ => none }
def fnQuotedStringEndByEscapeParityRow : OpenClaim := { program := "qxb6617165a", sum := "0a5779634ea627e9b987bf3c23ed3f76d915c95668da100055fb4418212d37df", func := "example.com/postern/postern/zzlaws_pkg_address_b1.FnQuotedStringEndByEscapeParity", spec := "fnQuotedStringEndByEscapeParity", apart := false }
def FnQuotedStringEndByEscapeParitySaid : Prop := fnQuotedStringEndByEscapeParityRow.holds Try.pinned (OpenSpec.ofChange fnQuotedStringEndByEscapeParitySpec)

/-- ITS FALSE NEIGHBOUR: 'it returns false'. Refute it at one input. -/
def fnQuotedStringEndByEscapeParityWrong : ChangeSpec := { name := "fnQuotedStringEndByEscapeParity", fn := fun _ => fun
  | [d] => { results := [.lit (.bool false)], args := [d] }
  | _ => none }
def FnQuotedStringEndByEscapeParityWrongFalsely : Prop := fnQuotedStringEndByEscapeParityRow.holds Try.pinned (OpenSpec.ofChange fnQuotedStringEndByEscapeParityWrong)

/-- 'zzlaws_pkg_address_b1.FnQuotedStringEndOfEscaped': WHATEVER THE INPUT: true; the input reads as it did. -/
def fnQuotedStringEndOfEscapedSpec : ChangeSpec := { name := "fnQuotedStringEndOfEscaped", fn := fun _ => fun
  | [d1, d2] => { results := [.lit (.bool true)], args := [d1, d2] }
  | _ => none }
def fnQuotedStringEndOfEscapedRow : OpenClaim := { program := "qxb6617165a", sum := "0a5779634ea627e9b987bf3c23ed3f76d915c95668da100055fb4418212d37df", func := "example.com/postern/postern/zzlaws_pkg_address_b1.FnQuotedStringEndOfEscaped", spec := "fnQuotedStringEndOfEscaped", apart := false }
def FnQuotedStringEndOfEscapedSaid : Prop := fnQuotedStringEndOfEscapedRow.holds Try.pinned (OpenSpec.ofChange fnQuotedStringEndOfEscapedSpec)

/-- ITS FALSE NEIGHBOUR: 'it returns false'. Refute it at one input. -/
def fnQuotedStringEndOfEscapedWrong : ChangeSpec := { name := "fnQuotedStringEndOfEscaped", fn := fun _ => fun
  | [d1, d2] => { results := [.lit (.bool false)], args := [d1, d2] }
  | _ => none }
def FnQuotedStringEndOfEscapedWrongFalsely : Prop := fnQuotedStringEndOfEscapedRow.holds Try.pinned (OpenSpec.ofChange fnQuotedStringEndOfEscapedWrong)

end Rows
end Go.Proofs.Qxb6617165a

/-
  DERIVED. GIVEN WITH THE SEED: THE CARDS: each row of Qxb6616758aFmtRows.lean that lists a variable, with what it lists TIED to the program's text (the seventh form; the later family's looks); each row that meets fmt, with fmt's text TOLD by the authors' own Lean function (tested against real Go, not proved from fmt's source: count such statements apart). THE CARD IS WHAT COUNTS. Prove the row's statement (the work); the ties are given (Qxb6616758aFmtTie.lean); close each card by the builder's one call (the guide's Derived/Test/ToyasCard.lean, 'card_holds'). Laid BY PROGRAM, IN A SANDBOX (cutbox-door.mjs). By AI agents, Wed Nov 11 2026. No macro, syntax, notation, axiom, sorry.
-/
import Derived.Test.Qxb6616758aFmtRows
import GoSem.ClaimSeven
namespace Go.Proofs.Qxb6616758aFmt
namespace Rows

/-- THE TOLD AND TIED CARD OF 'zzlaws_vecfile_b1.FnNpyHeaderDescrWindow'. -/
def fnNpyHeaderDescrWindowCard : Claim7 := { stood := { row := fnNpyHeaderDescrWindowRow, standIns := [], harness := (true, "cb1f70072419fd2f357929e8d07dd8afe22be5a92047d79574f4e8dbb7c79ff7"), looks := true }, told := true, laidByText := true, laidKinds := [.data, .data, .data], laidTests := true, laidLooks := .later, goes := false }
def FnNpyHeaderDescrWindowToldSaid : Prop := Claim7.holds Tryf.pinned (.plain (OpenSpec.ofChange fnNpyHeaderDescrWindowSpec)) fnNpyHeaderDescrWindowCard
/-- ITS FALSE NEIGHBOUR. Refute it at one input. -/
def FnNpyHeaderDescrWindowToldWrongFalsely : Prop := Claim7.holds Tryf.pinned (.plain (OpenSpec.ofChange fnNpyHeaderDescrWindowWrong)) fnNpyHeaderDescrWindowCard

/-- THE TOLD AND TIED CARD OF 'zzlaws_vecfile_b1.FnVectorsCutAndValues'. -/
def fnVectorsCutAndValuesCard : Claim7 := { stood := { row := fnVectorsCutAndValuesRow, standIns := [], harness := (true, "cb1f70072419fd2f357929e8d07dd8afe22be5a92047d79574f4e8dbb7c79ff7"), looks := true }, told := true, laidByText := true, laidKinds := [.data, .data, .data, .sentinel], laidTests := true, laidLooks := .later, goes := false }
def FnVectorsCutAndValuesToldSaid : Prop := Claim7.holds Tryf.pinned (.plain (OpenSpec.ofChange fnVectorsCutAndValuesSpec)) fnVectorsCutAndValuesCard
/-- ITS FALSE NEIGHBOUR. Refute it at one input. -/
def FnVectorsCutAndValuesToldWrongFalsely : Prop := Claim7.holds Tryf.pinned (.plain (OpenSpec.ofChange fnVectorsCutAndValuesWrong)) fnVectorsCutAndValuesCard

/-- THE TOLD AND TIED CARD OF 'zzlaws_vecfile_b1.FnVectorsHeaderIsNpyHeader'. -/
def fnVectorsHeaderIsNpyHeaderCard : Claim7 := { stood := { row := fnVectorsHeaderIsNpyHeaderRow, standIns := [], harness := (true, "cb1f70072419fd2f357929e8d07dd8afe22be5a92047d79574f4e8dbb7c79ff7"), looks := true }, told := true, laidByText := true, laidKinds := [.data, .data, .data, .sentinel], laidTests := true, laidLooks := .later, goes := false }
def FnVectorsHeaderIsNpyHeaderToldSaid : Prop := Claim7.holds Tryf.pinned (.plain (OpenSpec.ofChange fnVectorsHeaderIsNpyHeaderSpec)) fnVectorsHeaderIsNpyHeaderCard
/-- ITS FALSE NEIGHBOUR. Refute it at one input. -/
def FnVectorsHeaderIsNpyHeaderToldWrongFalsely : Prop := Claim7.holds Tryf.pinned (.plain (OpenSpec.ofChange fnVectorsHeaderIsNpyHeaderWrong)) fnVectorsHeaderIsNpyHeaderCard
end Rows
end Go.Proofs.Qxb6616758aFmt

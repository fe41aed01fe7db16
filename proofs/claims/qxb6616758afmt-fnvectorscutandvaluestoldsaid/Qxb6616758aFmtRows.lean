/-
  NARROWER THAN 'FOR EVERY INPUT', by the rows' own cells (each row's printed sentence says how): FnNpyHeaderDescrWindow: laid · FnVectorsCutAndValues: laid · FnVectorsHeaderIsNpyHeader: laid.
  DERIVED. THE GIVEN ROWS OF THIS SEAT. 3 by the template 'for every input the law returns true; each argument reads behind the call as it read before'; 0 by the template 'total and deterministic' (their statements: Qxb6616758aFmtTotals.lean).
  GIVEN WITH THE SEED: the statements are not yours to turn. If you find one false, say at which input.
  Laid BY PROGRAM, IN A SANDBOX (cutbox-rows.mjs): the forced cells as the released guide's own fill.sh prints them over the translation 1b2098d647f108c0… (all of the seat's roots in one cut). By AI agents, Wed Nov 11 2026. No macro, syntax, notation, axiom, sorry.
-/
import Derived.Test.Qxb6616758aFmtChecked
import GoSem.Claim
import GoSem.ClaimJoined
import GoSem.ClaimMapViews
import Derived.JoinedTies
import Derived.KernelRfl
namespace Go.Proofs.Qxb6616758aFmt
/- THE CELL 'sum', in the pinned program and in every row, IS THE sha256 OF THE DUMP (.gsa) THAT Qxb6616758aFmtProg.lean LOADS. Nothing in Lean hashes anything: it is a label: what it is worth is what the hold of that sum in a sandbox is worth. -/
noncomputable def Tryf.pinned : Pinned := { name := "qxb6616758afmt", sum := "1b2098d647f108c073150aeb3897ed58503ac35e9ddaf3f0d988aac3c6299925", checked := Tryf.checked }
namespace Rows
def none {H : Type} : Left H := { results := [], args := [] }

/- WHAT THE LISTED PACKAGE-LEVEL VARIABLES READ AS WHEN THE CALL BEGINS. Each datum BY PROGRAM (the guide's laid-datum.mjs) off the statement by which the dump's own 'gosem.cut.vars' lays the variable. In a bare row this is a premise. The card (Qxb6616758aFmtCards.lean) ties it to the program's text. -/
def laid_math_bits_deBruijn32tab {H : Type} : DataW H := .agg [.lit (.int .u8 0), .lit (.int .u8 1), .lit (.int .u8 28), .lit (.int .u8 2), .lit (.int .u8 29), .lit (.int .u8 14), .lit (.int .u8 24), .lit (.int .u8 3), .lit (.int .u8 30), .lit (.int .u8 22), .lit (.int .u8 20), .lit (.int .u8 15), .lit (.int .u8 25), .lit (.int .u8 17), .lit (.int .u8 4), .lit (.int .u8 8), .lit (.int .u8 31), .lit (.int .u8 27), .lit (.int .u8 13), .lit (.int .u8 23), .lit (.int .u8 21), .lit (.int .u8 19), .lit (.int .u8 16), .lit (.int .u8 7), .lit (.int .u8 26), .lit (.int .u8 12), .lit (.int .u8 18), .lit (.int .u8 6), .lit (.int .u8 11), .lit (.int .u8 5), .lit (.int .u8 10), .lit (.int .u8 9)]
def laid_math_bits_deBruijn64tab {H : Type} : DataW H := .agg [.lit (.int .u8 0), .lit (.int .u8 1), .lit (.int .u8 56), .lit (.int .u8 2), .lit (.int .u8 57), .lit (.int .u8 49), .lit (.int .u8 28), .lit (.int .u8 3), .lit (.int .u8 61), .lit (.int .u8 58), .lit (.int .u8 42), .lit (.int .u8 50), .lit (.int .u8 38), .lit (.int .u8 29), .lit (.int .u8 17), .lit (.int .u8 4), .lit (.int .u8 62), .lit (.int .u8 47), .lit (.int .u8 59), .lit (.int .u8 36), .lit (.int .u8 45), .lit (.int .u8 43), .lit (.int .u8 51), .lit (.int .u8 22), .lit (.int .u8 53), .lit (.int .u8 39), .lit (.int .u8 33), .lit (.int .u8 30), .lit (.int .u8 24), .lit (.int .u8 18), .lit (.int .u8 12), .lit (.int .u8 5), .lit (.int .u8 63), .lit (.int .u8 55), .lit (.int .u8 48), .lit (.int .u8 27), .lit (.int .u8 60), .lit (.int .u8 41), .lit (.int .u8 37), .lit (.int .u8 16), .lit (.int .u8 46), .lit (.int .u8 35), .lit (.int .u8 44), .lit (.int .u8 21), .lit (.int .u8 52), .lit (.int .u8 32), .lit (.int .u8 23), .lit (.int .u8 11), .lit (.int .u8 54), .lit (.int .u8 26), .lit (.int .u8 40), .lit (.int .u8 15), .lit (.int .u8 34), .lit (.int .u8 20), .lit (.int .u8 31), .lit (.int .u8 10), .lit (.int .u8 25), .lit (.int .u8 14), .lit (.int .u8 19), .lit (.int .u8 9), .lit (.int .u8 13), .lit (.int .u8 8), .lit (.int .u8 7), .lit (.int .u8 6)]
def laid_internal_strconv_uint64pow10 {H : Type} : DataW H := .agg [.lit (.int .u64 1), .lit (.int .u64 10), .lit (.int .u64 100), .lit (.int .u64 1000), .lit (.int .u64 10000), .lit (.int .u64 100000), .lit (.int .u64 1000000), .lit (.int .u64 10000000), .lit (.int .u64 100000000), .lit (.int .u64 1000000000), .lit (.int .u64 10000000000), .lit (.int .u64 100000000000), .lit (.int .u64 1000000000000), .lit (.int .u64 10000000000000), .lit (.int .u64 100000000000000), .lit (.int .u64 1000000000000000), .lit (.int .u64 10000000000000000), .lit (.int .u64 100000000000000000), .lit (.int .u64 1000000000000000000), .lit (.int .u64 10000000000000000000)]
def laid_io_ErrShortWrite {H : Type} : DataW H := .iface "*errors.errorString" (.ptr (.agg [.lit (.string [115, 104, 111, 114, 116, 32, 119, 114, 105, 116, 101])]))

/-- 'zzlaws_vecfile_b1.FnNpyHeaderDescrWindow': WHATEVER THE INPUT: true; the input reads as it did. -/
def fnNpyHeaderDescrWindowSpec : ChangeSpec := { name := "fnNpyHeaderDescrWindow", fn := fun _ => fun
  | [d1, d2, d3] => { results := [.lit (.bool true)], args := [d1, d2, d3] }
  | _ => none }
def fnNpyHeaderDescrWindowRow : OpenClaim := { program := "qxb6616758afmt", sum := "1b2098d647f108c073150aeb3897ed58503ac35e9ddaf3f0d988aac3c6299925", func := "example.com/spanworm/spanworm/zzlaws_vecfile_b1.FnNpyHeaderDescrWindow", spec := "fnNpyHeaderDescrWindow", stops := ["fmt.Sprintf"], inPlace := ["internal/abi.NoEscape", "internal/bytealg.MakeNoZero", "fmt.Sprintf"], unfollowed := true, recurses := true, named := ["encoding/binary.LittleEndian", "internal/strconv.uint64pow10", "math/bits.deBruijn32tab", "math/bits.deBruijn64tab"], apart := false, laid := [("math/bits.deBruijn32tab", laid_math_bits_deBruijn32tab), ("math/bits.deBruijn64tab", laid_math_bits_deBruijn64tab), ("internal/strconv.uint64pow10", laid_internal_strconv_uint64pow10)] }
/-- NO THEOREM (fmt's text is open here; it may be false): for the released tool's asking of the row's closed facts alone. THE STATEMENT IS 'FnNpyHeaderDescrWindowToldSaid' (Qxb6616758aFmtCards.lean). -/
def FnNpyHeaderDescrWindowFormAsk : Prop := fnNpyHeaderDescrWindowRow.holds Tryf.pinned (OpenSpec.ofChange fnNpyHeaderDescrWindowSpec)

/-- ITS FALSE NEIGHBOUR: 'it returns false'. Refute it at one input. -/
def fnNpyHeaderDescrWindowWrong : ChangeSpec := { name := "fnNpyHeaderDescrWindow", fn := fun _ => fun
  | [d1, d2, d3] => { results := [.lit (.bool false)], args := [d1, d2, d3] }
  | _ => none }
def FnNpyHeaderDescrWindowWrongFormAsk : Prop := fnNpyHeaderDescrWindowRow.holds Tryf.pinned (OpenSpec.ofChange fnNpyHeaderDescrWindowWrong)

/-- 'zzlaws_vecfile_b1.FnVectorsCutAndValues': WHATEVER THE INPUT: true; the input reads as it did. -/
def fnVectorsCutAndValuesSpec : ChangeSpec := { name := "fnVectorsCutAndValues", fn := fun _ => fun
  | [d1, d2, d3, d4, d5] => { results := [.lit (.bool true)], args := [d1, d2, d3, d4, d5] }
  | _ => none }
def fnVectorsCutAndValuesRow : OpenClaim := { program := "qxb6616758afmt", sum := "1b2098d647f108c073150aeb3897ed58503ac35e9ddaf3f0d988aac3c6299925", func := "example.com/spanworm/spanworm/zzlaws_vecfile_b1.FnVectorsCutAndValues", spec := "fnVectorsCutAndValues", stops := ["fmt.Sprintf"], inPlace := ["internal/abi.NoEscape", "internal/bytealg.MakeNoZero", "fmt.Sprintf", "math.Float32bits"], unfollowed := true, recurses := true, named := ["encoding/binary.LittleEndian", "internal/strconv.uint64pow10", "math/bits.deBruijn32tab", "math/bits.deBruijn64tab", "io.ErrShortWrite"], apart := false, laid := [("math/bits.deBruijn32tab", laid_math_bits_deBruijn32tab), ("math/bits.deBruijn64tab", laid_math_bits_deBruijn64tab), ("internal/strconv.uint64pow10", laid_internal_strconv_uint64pow10), ("io.ErrShortWrite", laid_io_ErrShortWrite)] }
/-- NO THEOREM (fmt's text is open here; it may be false): for the released tool's asking of the row's closed facts alone. THE STATEMENT IS 'FnVectorsCutAndValuesToldSaid' (Qxb6616758aFmtCards.lean). -/
def FnVectorsCutAndValuesFormAsk : Prop := fnVectorsCutAndValuesRow.holds Tryf.pinned (OpenSpec.ofChange fnVectorsCutAndValuesSpec)

/-- ITS FALSE NEIGHBOUR: 'it returns false'. Refute it at one input. -/
def fnVectorsCutAndValuesWrong : ChangeSpec := { name := "fnVectorsCutAndValues", fn := fun _ => fun
  | [d1, d2, d3, d4, d5] => { results := [.lit (.bool false)], args := [d1, d2, d3, d4, d5] }
  | _ => none }
def FnVectorsCutAndValuesWrongFormAsk : Prop := fnVectorsCutAndValuesRow.holds Tryf.pinned (OpenSpec.ofChange fnVectorsCutAndValuesWrong)

/-- 'zzlaws_vecfile_b1.FnVectorsHeaderIsNpyHeader': WHATEVER THE INPUT: true; the input reads as it did. -/
def fnVectorsHeaderIsNpyHeaderSpec : ChangeSpec := { name := "fnVectorsHeaderIsNpyHeader", fn := fun _ => fun
  | [d1, d2, d3, d4] => { results := [.lit (.bool true)], args := [d1, d2, d3, d4] }
  | _ => none }
def fnVectorsHeaderIsNpyHeaderRow : OpenClaim := { program := "qxb6616758afmt", sum := "1b2098d647f108c073150aeb3897ed58503ac35e9ddaf3f0d988aac3c6299925", func := "example.com/spanworm/spanworm/zzlaws_vecfile_b1.FnVectorsHeaderIsNpyHeader", spec := "fnVectorsHeaderIsNpyHeader", stops := ["fmt.Sprintf"], inPlace := ["internal/abi.NoEscape", "internal/bytealg.MakeNoZero", "fmt.Sprintf", "math.Float32bits"], unfollowed := true, recurses := true, named := ["encoding/binary.LittleEndian", "internal/strconv.uint64pow10", "math/bits.deBruijn32tab", "math/bits.deBruijn64tab", "io.ErrShortWrite"], apart := false, laid := [("math/bits.deBruijn32tab", laid_math_bits_deBruijn32tab), ("math/bits.deBruijn64tab", laid_math_bits_deBruijn64tab), ("internal/strconv.uint64pow10", laid_internal_strconv_uint64pow10), ("io.ErrShortWrite", laid_io_ErrShortWrite)] }
/-- NO THEOREM (fmt's text is open here; it may be false): for the released tool's asking of the row's closed facts alone. THE STATEMENT IS 'FnVectorsHeaderIsNpyHeaderToldSaid' (Qxb6616758aFmtCards.lean). -/
def FnVectorsHeaderIsNpyHeaderFormAsk : Prop := fnVectorsHeaderIsNpyHeaderRow.holds Tryf.pinned (OpenSpec.ofChange fnVectorsHeaderIsNpyHeaderSpec)

/-- ITS FALSE NEIGHBOUR: 'it returns false'. Refute it at one input. -/
def fnVectorsHeaderIsNpyHeaderWrong : ChangeSpec := { name := "fnVectorsHeaderIsNpyHeader", fn := fun _ => fun
  | [d1, d2, d3, d4] => { results := [.lit (.bool false)], args := [d1, d2, d3, d4] }
  | _ => none }
def FnVectorsHeaderIsNpyHeaderWrongFormAsk : Prop := fnVectorsHeaderIsNpyHeaderRow.holds Tryf.pinned (OpenSpec.ofChange fnVectorsHeaderIsNpyHeaderWrong)

end Rows
end Go.Proofs.Qxb6616758aFmt

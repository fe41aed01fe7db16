import Derived.Test.Qxb6616758aFmtLaw1w
import Derived.Test.Qxb6616758aFmtTie
import Derived.Test.Qxb6616758aFmtCards
import Derived.ProofKit
import Derived.OpenShut
import Derived.ShutString
import Derived.ChangeOld
import Derived.Stop.JoinedAt
import Derived.Stop.JoinedTold
import Derived.Lib.LaidTab
import Derived.Lib.LaidIn
import Derived.SevenTiedAt
namespace Go.Proofs.Qxb6616758aFmt
open Go.ChangeShapes Go.WideShapes Go.ChangeAt Go.RowKit Go.Kit Go.Stop
open Go.ChangeMaps (open_string shut_string)

theorem own : ownKnob Tryf.prog.godebug = none := by kernel_rfl
theorem laidOut : laidOutB Tryf.prog = true := by kernel_rfl

/-- A listed table's cells. -/
def tabCells : DataW Unit → Array Value
  | .agg l => (l.map fun | .lit (.int k z) => Value.int k z | _ => .nilIface).toArray
  | _ => #[]

/-- A block's cells laid anew. -/
def relay (cs : Array Value) : Obj → Obj
  | .cells _ t frozen => .cells cs t frozen
  | o => o

/-- A heap with the three tables laid. -/
def laidHeap (h : Array Obj) : Array Obj :=
  ((h.modify 3 (relay (tabCells Rows.laid_internal_strconv_uint64pow10))).modify 5 (relay (tabCells Rows.laid_math_bits_deBruijn32tab))).modify 6 (relay (tabCells Rows.laid_math_bits_deBruijn64tab))

theorem laid_met1 (os : Os) (args : Array Value) : laidMet Tryf.prog Rows.fnNpyHeaderDescrWindowRow.laid (({ World.holding Tryf.prog os ⟨#[], #[], []⟩ with heap := laidHeap (World.holding Tryf.prog os ⟨#[], #[], []⟩).heap } : World).forCall (fun _ _ => 0) ⟨#[], args, []⟩).memory :=
  (LaidIn.of_run [5, 6, 3] 8 (by kernel_rfl) (by kernel_rfl) (by kernel_rfl) (by kernel_rfl)).met

end Go.Proofs.Qxb6616758aFmt

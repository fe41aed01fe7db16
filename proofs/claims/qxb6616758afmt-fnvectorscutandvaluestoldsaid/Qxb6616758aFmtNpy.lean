import Derived.Test.Qxb6616758aFmtText
import Derived.Test.Qxb6616758aFmtShelf
import Derived.WalkLawsBesides
import Derived.WalkSmall
import Derived.Deep.QuietTactic
import Derived.BigQuiet
import Derived.Stop.Asserts
namespace Go.Proofs.Qxb6616758aFmt
open Go.RowKit Go.Stop

theorem Tryf.info9 : (Tryf.prog.info? 9).map (fun i => (i.zero, i.size, i.bytes)) = some (some (.string ⟨#[]⟩), 1, 16) := by kernel_rfl

theorem isSW43 (v : Value) (xT : TypeId) (w : World) : (Instr.typeAssert (.iface 43 v) xT 85 true).run Tryf.prog w = .ok (.tuple #[.iface 43 v, .bool true]) w :=
  run_typeAssert_hasB Tryf.underlying85 (by kernel_rfl) v xT w

theorem meth43s (v : Value) (w : World) : (method 242 43 v "WriteString").run Tryf.prog w = .ok (75, v) w := by kernel_rfl
theorem nil43w (a : Addr) (w : World) : (nilAhead 242 43 (.pointer (some a)) "Write").run Tryf.prog w = .ok (some false) w := by kernel_rfl
theorem meth43w (v : Value) (w : World) : (method 242 43 v "Write").run Tryf.prog w = .ok (74, v) w := by kernel_rfl

set_option maxHeartbeats 400000 in
set_option maxRecDepth 100000 in
theorem wrs_any (B b : Nat) (bs : List Value) (s : ByteArray) (w : World) (h : Lib.IsBuffer 41 5 B b bs w) (hBw : B ≤ w.heap.size) (h1 : ∀ v ∈ bs, v.oneCell' = true) (hlim : bs.length + s.size ≤ 140737488355328) :
    Calls Tryf.prog 23 #[.iface 43 (.pointer (some ⟨b, 0, none⟩)), .string s] w fun e w' => e = .returned (.tuple #[.int .i64 s.size, .nilIface]) ∧ Lib.IsBuffer 41 5 B b (bs ++ Lib.byteCells s.data.toList) w' ∧ Below B w w' ∧ Lib.OthersKept 5 (some b) w w' := by
  have has := isSW43
  have hm := meth43s
  go_enter Tryf.func23, Tryf.ntmps23
  go_wp2_with (go_at_call 75; refine (Tryf.Buffer_WriteString_k B b bs s _ h hBw h1 hlim).mono ?_; rintro e w' ⟨rfl, h2, b2, k2⟩)
  go_ret2
  exact ⟨rfl, ‹_›, ‹_›, ‹_›⟩

end Go.Proofs.Qxb6616758aFmt

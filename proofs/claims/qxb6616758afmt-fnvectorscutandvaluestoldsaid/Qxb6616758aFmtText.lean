import Derived.Test.Qxb6616758aFmtRows
import Derived.Test.Qxb6616758aFmtPlain
import Derived.WalkKit
import Derived.WalkSpells
import Derived.Stop.CallBack
import Derived.Stop.IfaceNil
import Derived.Stop.Texts
import Derived.Stop.JoinedTold
import Derived.Stop.FmtTextKit
import Derived.Stop.FmtTextVerbs
namespace Go.Proofs.Qxb6616758aFmt
open Go.RowKit Go.Kit
open Go.Extern.Stop Go.Stop Go.Extern

/-- The format. -/
def fmtB : List UInt8 := [123, 39, 100, 101, 115, 99, 114, 39, 58, 32, 39, 37, 115, 39, 44, 32, 39, 102, 111, 114, 116, 114, 97, 110, 95, 111, 114, 100, 101, 114, 39, 58, 32, 70, 97, 108, 115, 101, 44, 32, 39, 115, 104, 97, 112, 101, 39, 58, 32, 40, 37, 115, 41, 44, 32, 125]
def shape9 : List UInt8 := [12, 6, 0, 0, 0, 0, 0, 0, 0, 115, 116, 114, 105, 110, 103]

theorem call20 (args : Array Value) (w : World) : (callFunc 20 args).run Tryf.prog w = ((FmtStop.sprintf #[9, 132] #[9] args).run Tryf.prog w).andThen fun v w' => .ok (.value v) w' :=
  run_callFunc_extern Tryf.func20 (by kernel_rfl) (by kernel_rfl) (by kernel_rfl) (by kernel_rfl) args w
theorem guardF (name : String) (w : World) : (FmtStop.guard name).run Tryf.prog w = .ok () w := by kernel_rfl
theorem fmt2 : FmtStop.printed? ⟨#[123, 39, 100, 101, 115, 99, 114, 39, 58, 32, 39, 37, 115, 39, 44, 32, 39, 102, 111, 114, 116, 114, 97, 110, 95, 111, 114, 100, 101, 114, 39, 58, 32, 70, 97, 108, 115, 101, 44, 32, 39, 115, 104, 97, 112, 101, 39, 58, 32, 40, 37, 115, 41, 44, 32, 125]⟩ 2 = some [(0, 115, false), (1, 115, false)] := by kernel_rfl
theorem op9 (name : String) (x : ByteArray) (w : World) : (FmtStop.operand name false 115 false (.iface 9 (.string x))).run Tryf.prog w = .ok (shape9, FmtStop.pack x.data.toList) w := by kernel_rfl

/-- What fmt is asked. -/
def reading (d t : List UInt8) : List (List UInt8) := [fmtB, shape9, FmtStop.pack d, shape9, FmtStop.pack t]

theorem fmt_parse : (FmtText.parse fmtB).map FmtText.glue = some [.lit dHead, .verb {} 115, .lit dMid, .verb {} 115, .lit dTail] := by rfl

theorem fmt_text (d t : List UInt8) (hd : d.length < 2 ^ 64) (ht : t.length < 2 ^ 64) : FmtText.text "fmt.Sprintf" (reading d t) = some (dict d t) := by
  have h1 := FmtText.operand_str_at (sh := shape9) rfl rfl d hd
  have h2 := FmtText.operand_str_at (sh := shape9) rfl rfl t ht
  rw [reading, FmtText.text_sprintf_glued fmt_parse (FmtText.operands_cons h1 (FmtText.operands_cons h2 FmtText.operands_nil))]
  simp [FmtText.render, FmtText.printArg_s_str, dict]

theorem text_eq (F : Interp) (d t : List UInt8) (hd : d.length < 2 ^ 40) (ht : t.length < 2 ^ 40) : FmtStop.textOf (F.told "fmt.Sprintf" (reading d t) 0) = ⟨(dict d t).toArray⟩ := by
  have h := told_string F (fmt_text d t (by omega) (by omega)) (by rw [dict_length]; omega)
  rw [← textOf_list] at h
  apply ByteArray.ext
  rw [← h]

theorem sprintf_run (F : Interp) (d t : ByteArray) (g : Nat) (w : World) (hF : F.told.answers w.tape) (hd : d.size < 2 ^ 40) (ht : t.size < 2 ^ 40)
    (c0 : w.cell? ⟨g, 0, none⟩ = some (.iface 9 (.string d))) (c1 : w.cell? ⟨g, 1, none⟩ = some (.iface 9 (.string t))) :
    (callFunc 20 #[.string ⟨#[123, 39, 100, 101, 115, 99, 114, 39, 58, 32, 39, 37, 115, 39, 44, 32, 39, 102, 111, 114, 116, 114, 97, 110, 95, 111, 114, 100, 101, 114, 39, 58, 32, 70, 97, 108, 115, 101, 44, 32, 39, 115, 104, 97, 112, 101, 39, 58, 32, 40, 37, 115, 41, 44, 32, 125]⟩, .slice (some ⟨g, 0, none⟩) 2 2]).run Tryf.prog w = .ok (.value (.string ⟨(dict d.data.toList t.data.toList).toArray⟩)) w.drew := by
  have hF' := answers_open hF
  have ht := text_eq F d.data.toList t.data.toList hd ht
  rw [call20]
  have hg := guardF
  have hf := fmt2
  have ho := op9
  simp [go_sem, hg, hf, ho, c0, c1]
  rw [hF']
  exact ht

end Go.Proofs.Qxb6616758aFmt
